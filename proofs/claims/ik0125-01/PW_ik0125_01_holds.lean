import PyProof.Rows.All
import Wide.All
import OpenK.AllK
import Wide.FinOn
import PySem.Challenge.RW_ik0125_01
set_option Elab.async false
set_option compiler.extract_closed false
local macro_rules | `(tactic| walk_at $s:str) => `(tactic| k_extra $s)
section
open PySem PySem.W PyProof.Rows PySem.Calls
namespace Mine
set_option maxRecDepth 100000
set_option maxHeartbeats 4000000

/-- no exception leaves -/
abbrev NoE : Value → Shared → Prop := fun _ _ => False

section
variable {prog : Program} {w : World} {A : Around} {s : Shared} {env : Env} {R : Result → Shared → Prop} {target test iter : PySem.Expr} {body orelse : List Stmt} {pos : Pos} {it : Value}

theorem noE {α : Type} {M : Model} {t : Sem α} {Q : α → Shared → Prop} {E : Value → Shared → Prop} (h : wpAny M A t Q NoE s) : wpAny M A t Q E s :=
  wpAny_mono h (fun _ _ x => x) fun _ _ x => x.elim

theorem while_turn
    (h : wpAny (model prog w) A (isTrue test env (eval test env)) (fun b s₂ =>
      if b then wpAny (model prog w) A (execs body env) (fun f s₃ => match f with
          | .next | .cont => codeAny (model prog w) A (.whileLoop test body orelse env) R s₃
          | .brk => R (.ok .next) s₃
          | .ret v => R (.ok (.ret v)) s₃) NoE s₂
      else wpAny (model prog w) A (execs orelse env) (fun f s₃ => R (.ok f) s₃) NoE s₂) NoE s) :
    codeAny (model prog w) A (.whileLoop test body orelse env) R s := by
  refine codeAny_of_tree ?_
  show wpAny _ A ((whileTurn test body orelse env).onRaise (fun x => do noteFrame x env; theTreesLotGoes x)) _ _ s
  refine wpAny_noted (noE ?_)
  simp only [whileTurn]
  refine wpAny_bind (wpAny_mono h (fun b s₂ h₂ => ?_) fun _ _ h' => h')
  cases b with
  | false =>
    simp only [Bool.false_eq_true, if_false] at h₂ ⊢
    exact wpAny_bind (wpAny_mono h₂ (fun f s₃ h₃ => wpAny_pure h₃) fun _ _ h' => h')
  | true =>
    simp only [if_true] at h₂ ⊢
    refine wpAny_bind (wpAny_mono h₂ (fun f s₃ h₃ => ?_) fun _ _ h' => h')
    cases f with
    | next => exact wpAny_pure ⟨rfl, h₃⟩
    | cont => exact wpAny_pure ⟨rfl, h₃⟩
    | brk => exact wpAny_pure h₃
    | ret v => exact wpAny_pure h₃

theorem for_turn
    (h : wpAny (model prog w) A (pyNext it) (fun r s₁ => match r with
      | none => wpAny (model prog w) A (execs orelse env) (fun f s₃ => R (.ok f) s₃) NoE s₁
      | some v => wpAny (model prog w) A (letOwnedTupleGo target it v) (fun _ s₂ => wpAny (model prog w) A (assign target env v) (fun _ s₂ => wpAny (model prog w) A (execs body env) (fun f s₃ => match f with
          | .next | .cont => codeAny (model prog w) A (.forLoop target it body orelse env) R s₃
          | .brk => R (.ok .next) s₃
          | .ret v => R (.ok (.ret v)) s₃) NoE s₂) NoE s₂) NoE s₁) NoE s) :
    codeAny (model prog w) A (.forLoop target it body orelse env) R s := by
  refine codeAny_of_tree ?_
  show wpAny _ A ((forTurn target it body orelse env).onRaise (fun x => do noteFrame x env; theTreesLotGoes x)) _ _ s
  refine wpAny_noted (noE ?_)
  simp only [forTurn]
  refine wpAny_bind (wpAny_standAt (wpAny_bind (wpAny_onRaise (wpAny_mono h (fun r s₁ h₁ => ?_) fun _ _ h' => h'.elim))))
  cases r with
  | none => exact wpAny_pure ⟨rfl, codeAny_block (noE h₁)⟩
  | some v =>
    refine wpAny_bind (wpAny_mono h₁ (fun _ s₂ h₂ => ?_) fun _ _ h' => h')
    refine wpAny_bind (wpAny_mono h₂ (fun _ s₂ h₂ => wpAny_bind (wpAny_mono h₂ (fun f s₃ h₃ => ?_) fun _ _ h' => h')) fun _ _ h' => h')
    cases f with
    | next => exact wpAny_pure ⟨rfl, h₃⟩
    | cont => exact wpAny_pure ⟨rfl, h₃⟩
    | brk => exact wpAny_pure h₃
    | ret v => exact wpAny_pure h₃

/-- what a loop's end hands on -/
abbrev Out (Q : Flow → Shared → Prop) : Result → Shared → Prop := fun r s' => match r with | .ok f => Q f s' | .error _ => False

theorem exec_while {M : Model} {Q : Flow → Shared → Prop} (h : codeAny M A (.whileLoop test body orelse env) (Out Q) s) :
    wpAny M A (exec (.While test body orelse pos) env) Q NoE s :=
  wpAny_While (codeAny_mono h fun r s' x => by cases r with | ok f => exact x | error e => exact x.elim)

theorem exec_for {M : Model} {Q : Flow → Shared → Prop}
    (h : wpAny M A (eval iter env) (fun x s₁ => wpAny M A (pyIter x) (fun it s₂ => codeAny M A (.forLoop target it body orelse env) (Out Q) s₂) NoE s₁) NoE s)
    (hs : ∀ x, foldedSetIterable iter env x = pure x := by intro _; rfl) :
    wpAny M A (exec (.For target iter body orelse pos) env) Q NoE s :=
  wpAny_For (wpAny_mono h (fun x s₁ h₁ => wpAny_mono h₁ (fun it s₂ h₂ => codeAny_mono h₂ fun r s' x => by cases r with | ok f => exact x | error e => exact x.elim) fun _ _ x => x) fun _ _ x => x) hs
end

/-- the three code tables of the text, and the code objects that they name -/
def GoodT (codes : List (Addr × Obj)) (q : Nat → Str) (t : Array Value) : Prop :=
  TriplesOk t.toList ∧ ∀ pos v, codeAmong pos t.toList = some v → ∃ c oc vs tk, v = .ref c ∧ (c, oc) ∈ codes ∧ oc.data = .fields vs ∧ vs[1]? = some (.str (q pos.line) tk)

structure TabL (P₁ P₂ P₃ : Addr) (q₁ q₂ q₃ : Nat → Str) (tabs : List (Addr × Obj)) : Prop where
  of : ∃ t₁ t₂ t₃ codes, tabs = (P₁, tabObj t₁) :: (P₂, tabObj t₂) :: (P₃, tabObj t₃) :: codes ∧ GoodT codes q₁ t₁ ∧ GoodT codes q₂ t₂ ∧ GoodT codes q₃ t₃ ∧
    ∀ p ∈ codes, p.1 ≠ P₁ ∧ p.1 ≠ P₂ ∧ p.1 ≠ P₃

def StayT (tabs : List (Addr × Obj)) (h h' : Heap) : Prop := ∀ b o, b ∉ tabs.map (·.1) → h.get? b = some o → h'.get? b = some o
/-- tables behind a call: each entry is at its place, old or new -/
def NewT (tabs tabs' : List (Addr × Obj)) (h h' : Heap) : Prop := ∀ p ∈ tabs', h'.get? p.1 = some p.2 ∧ (p.1 ∈ tabs.map (·.1) ∨ h.objs.size ≤ p.1)

/-- news = own ++ tabs, own's objects are no tables and no code objects -/
inductive TailOf (tabs : List (Addr × Obj)) : List (Addr × Obj) → (List (Addr × Obj) → List (Addr × Obj)) → Prop
  | base : TailOf tabs tabs fun t => t
  | cons {p : Addr × Obj} {l : List (Addr × Obj)} {f : List (Addr × Obj) → List (Addr × Obj)} : (∀ r ∈ tabs, r.1 ≠ p.1) → TailOf tabs l f → TailOf tabs (p :: l) fun t => p :: f t

theorem TailOf.tabs {tabs news : List (Addr × Obj)} {f : List (Addr × Obj) → List (Addr × Obj)} (h : TailOf tabs news f) : ∀ p ∈ tabs, p ∈ news := by
  induction h with
  | base => exact fun _ h => h
  | cons _ _ ih => exact fun p hp => .tail _ (ih p hp)

theorem TailOf.news {tabs news : List (Addr × Obj)} {f : List (Addr × Obj) → List (Addr × Obj)} (h : TailOf tabs news f) {h₀ hp hp' : Heap} {L : Addr} (N : News h₀ L hp news) (st : StayT tabs hp hp')
    {tabs' : List (Addr × Obj)} (N' : News h₀ L hp' tabs') : News h₀ L hp' (f tabs') := by
  induction h with
  | base => exact N'
  | @cons p l f hn _ ih =>
    intro q hq
    rcases List.mem_cons.mp hq with rfl | hq
    · have := N q (.head _)
      refine ⟨st _ _ (fun hm => ?_) this.1, this.2⟩
      obtain ⟨r, hr, e⟩ := List.mem_map.mp hm
      exact hn r hr e
    · exact ih (fun r hr => N r (.tail _ hr)) q hq

theorem TailOf.next {tabs tabs' news : List (Addr × Obj)} {f : List (Addr × Obj) → List (Addr × Obj)} {n : Nat} (h : TailOf tabs news f) (hn : ∀ q ∈ news, q.1 < n) (ht : ∀ q ∈ tabs', q.1 ∈ tabs.map (·.1) ∨ n ≤ q.1) : TailOf tabs' (f tabs') f := by
  induction h with
  | base => exact .base
  | @cons p l f hp _ ih =>
    refine .cons (fun r hr => ?_) (ih fun q hq => hn q (.tail _ hq))
    rcases ht r hr with e | e
    · obtain ⟨q, hq, e'⟩ := List.mem_map.mp e
      exact e' ▸ hp q hq
    · exact Nat.ne_of_gt (Nat.lt_of_lt_of_le (hn p (.head _)) e)

theorem newT_news {h₀ h h' : Heap} {L : Addr} {m : Str → Option Value} {tabs tabs' : List (Addr × Obj)} (F : Fr h₀ L h m) (N : News h₀ L h tabs) (n : NewT tabs tabs' h h') : News h₀ L h' tabs' := fun p hp => by
  obtain ⟨e, o⟩ := n p hp
  refine ⟨e, ?_⟩
  rcases o with o | o
  · obtain ⟨r, hr, e'⟩ := List.mem_map.mp o
    exact e' ▸ (N r hr).2
  · refine ⟨Nat.ne_of_gt (Nat.lt_of_lt_of_le F.ns.lt o), Heap.get?_none_of_le (Nat.le_trans ?_ o)⟩
    exact Nat.le_trans F.above (Nat.le_of_lt F.ns.lt)

theorem stay_fr {h₀ h h' : Heap} {L : Addr} {m : Str → Option Value} {tabs : List (Addr × Obj)} (F : Fr h₀ L h m) (N : News h₀ L h tabs) (st : StayT tabs h h') : Fr h₀ L h' m := by
  obtain ⟨oL, es, ep, hL, r⟩ := F.ns
  refine ⟨⟨oL, es, ep, st _ _ (fun q => ?_) hL, r⟩, fun b o e => st _ _ (fun q => ?_) (F.keep b o e), F.above⟩
  · obtain ⟨p, hp, e⟩ := List.mem_map.mp q
    exact (N p hp).2.1 e
  · obtain ⟨p, hp, e'⟩ := List.mem_map.mp q
    have := (N p hp).2.2
    rw [e', e] at this; cases this

section
variable {prog : Program} {w : World} {A₀ A : Around} {s : Shared} {base h₀ : Heap} {outer : List Env} {L : Addr} {m : Str → Option Value} {env : Env} {tabs : List (Addr × Obj)} {K : Frag}
  {R : Result → Shared → Prop} {name qual : Str} {params : Arguments} {body : List Stmt} {scope : Scope} {cl : List (Str × Addr)} {dV kV doc pm cdv ct oc : Value} {an od : Option Addr} {osl : Array (Option Value)} {f : Addr} {args : Args} {binds : List (Str × Value)}
  {p : Program} {loose : List Str} {mean : ExcName → Option Value} {mg mb : Str → Option Value}

/-- a call of a def of the top: the tables alone are laid aside, all else is the ground -/
theorem call_ground (B : Below A₀ base outer h₀) (F : Fr h₀ L s.heap m) (X₀ : K.In h₀) (N : News h₀ L s.heap tabs) (T : Top p loose mean mg mb h₀) (hA : A.frames = some (env :: outer)) (hf : env.frame = some L) (hke : env.scope.kind = .function)
    (ho : K.lookup f = some ⟨oc, od, .func (fnOf name qual params body scope dV kV doc pm an cdv ct), osl⟩) (hcd : codeIn K cdv qual = true) (hroom : A.depth < recursionLimit)
    (hbind : BindsTo s (fnOf name qual params body scope dV kV doc pm an cdv ct) args binds) (hloc : ∀ y ∈ binds, scope.names.lookup y.1 = some .local)
    (h : ∀ g L' h₁, g = hideAll s.heap (tabs.map (·.1)) → StayT tabs s.heap g → L' = s.heap.objs.size → g.objs.size ≤ L' → Fr g L' h₁ (fun y => binds.reverse.lookup y) → News g L' h₁ tabs → Below A base (env :: outer) g → K.In g → Top p loose mean mg mb g →
      wpAny (model prog w) (A.deeper (envOf qual scope L' f cdv)) (execs body (envOf qual scope L' f cdv))
        (fun fl s' => R (.ok (.ret (match fl with | .ret v => v | _ => .none))) s') NoE
        { s with heap := h₁, toks := s.toks + binds.length })
    (hco : scope.isCoroutine = false) (hgen : scope.isGenerator = false) (hk : scope.kind = .function)
    (hcell : ∀ x ∈ scope.names, x.2 ≠ .cell) : codeAny (model prog w) A (.call (.ref f) args) R s := by
  have X := X₀.keeps F.keep
  obtain ⟨FG, BG, st, lv⟩ := groundX (R := R) B F N hA hf hke
  refine codeAny_call_def (fd := fnOf name qual params body scope dV kV doc pm an cdv ct) (body := body) (binds := binds) hroom (X _ _ ho) rfl (T.nolimit.keeps F.keep) (codeRec_of X hcd) rfl hbind hcell hloc (fun h₁ hns hk₁ => ?_) hco hgen hk
  exact noE (h (hideAll s.heap (tabs.map (·.1))) s.heap.objs.size h₁ rfl (fun b o hb e => hideAll_get _ e hb) rfl (Nat.le_of_eq (hideAll_size _ _)) ⟨hns, fun b o e => hk₁ b o (of_hideAll _ e), Nat.le_of_eq (hideAll_size _ _)⟩
    (fun p hp => ⟨hk₁ _ _ (N p hp).1, Nat.ne_of_lt (Heap.lt_size (N p hp).1), hideAll_none _ (List.mem_map_of_mem hp)⟩) BG (X₀.keeps fun b o e => st b o e) (T.keeps fun b o e => st b o e))
end

section
variable {prog : Program} {w : World} {A₀ A : Around} {s : Shared} {base h₀ : Heap} {outer : List Env} {L : Addr} {m : Str → Option Value} {env : Env} {tabs : List (Addr × Obj)} {K : Frag}
  {R : Result → Shared → Prop} {name qual : Str} {params : Arguments} {body : List Stmt} {scope : Scope} {dV kV doc pm cdv ct oc : Value} {an od : Option Addr} {osl : Array (Option Value)} {f : Addr} {args : Args} {binds : List (Str × Value)}
  {p : Program} {loose : List Str} {mean : ExcName → Option Value} {mg mb : Str → Option Value}
/-- the same of a def with captured locals -/
theorem call_groundC (B : Below A₀ base outer h₀) (F : Fr h₀ L s.heap m) (X₀ : K.In h₀) (N : News h₀ L s.heap tabs) (T : Top p loose mean mg mb h₀) (hA : A.frames = some (env :: outer)) (hf : env.frame = some L) (hke : env.scope.kind = .function)
    (ho : K.lookup f = some ⟨oc, od, .func (fnOf name qual params body scope dV kV doc pm an cdv ct), osl⟩) (hcd : codeIn K cdv qual = true) (hroom : A.depth < recursionLimit)
    (hbind : BindsTo s (fnOf name qual params body scope dV kV doc pm an cdv ct) args binds) (hkind : (binds.all fun y => scope.names.lookup y.1 == some .local || scope.names.lookup y.1 == some .cell) = true)
    (hnd : ((cellsFrom 0 scope.names []).map (·.1)).Nodup)
    (h : ∀ g L' h₁ tk cells, g = hideAll s.heap (tabs.map (·.1)) → StayT tabs s.heap g → L' = s.heap.objs.size → Fr g L' h₁ (bindL (envOfC qual scope L' f cdv).kindOf binds fun _ => none) → News g L' h₁ (cells ++ tabs) → (∀ q ∈ tabs, q.1 < L') →
      CellsAre (bindC (envOfC qual scope L' f cdv).kindOf binds fun _ => none) (cellsFrom (L' + 1) scope.names []) cells → Below A base (env :: outer) g → K.In g → Top p loose mean mg mb g →
      wpAny (model prog w) (A.deeper (envOfC qual scope L' f cdv)) (execs body (envOfC qual scope L' f cdv))
        (fun fl s' => R (.ok (.ret (match fl with | .ret v => v | _ => .none))) s') NoE
        { s with heap := h₁, toks := tk })
    (hco : scope.isCoroutine = false) (hgen : scope.isGenerator = false) (hk : scope.kind = .function) : codeAny (model prog w) A (.call (.ref f) args) R s := by
  have X := X₀.keeps F.keep
  obtain ⟨FG, BG, st, lv⟩ := groundX (R := R) B F N hA hf hke
  refine codeAny_call_function hroom (X _ _ ho) rfl hco hgen rfl (codeRec_of X hcd) (hbind _ _ _ _ ?_)
  refine wpAny_newFunctionEnv_cells hk (kindsX hkind _) fun env' he s' x => ?_
  subst he
  refine ⟨(T.nolimit.keeps F.keep).keeps x.toInCall.keep, codeAny_func ?_⟩
  obtain ⟨h₁, tk, rfl, _⟩ := x.done
  have hk₁ := x.toInCall.keep
  have habove := x.above
  obtain ⟨cells, NC, Y⟩ := Cl.news (h₀ := s.heap) (Nat.le_refl _) fun n c hm => ⟨x.cell n c (lookup_of_mem_nodup (cellsFrom_names scope.names 0 (s.heap.objs.size + 1) [] [] rfl ▸ hnd) hm), x.above n c hm⟩
  refine noE (h (hideAll s.heap (tabs.map (·.1))) s.heap.objs.size h₁ tk cells rfl (fun b o hb e => hideAll_get _ e hb) rfl ⟨x.toInCall.ns, fun b o e => hk₁ b o (of_hideAll _ e), Nat.le_of_eq (hideAll_size _ _)⟩ (fun p hp => ?_) (fun q hq => ?_) Y BG (X₀.keeps fun b o e => st b o e) (T.keeps fun b o e => st b o e))
  · rcases List.mem_append.mp hp with hp | hp
    · refine ⟨(NC p hp).1, (NC p hp).2.1, ?_⟩
      cases q : (hideAll s.heap (tabs.map (·.1))).get? p.1 with
      | none => rfl
      | some o => have := of_hideAll _ q; rw [(NC p hp).2.2] at this; cases this
    · exact ⟨hk₁ _ _ (N p hp).1, Nat.ne_of_lt (Heap.lt_size (N p hp).1), hideAll_none _ (List.mem_map_of_mem hp)⟩
  · exact Heap.lt_size (N q hq).1
end

/-- the end of a def's own walk: what the caller is told -/
theorem ends_stay {g h : Heap} {L' : Addr} {m' : Str → Option Value} {h₁ : Heap} {tabs : List (Addr × Obj)} (st : StayT tabs h₁ g) (F : Fr g L' h m') : StayT tabs h₁ h := fun b o hb e => F.keep b o (st b o hb e)
theorem ends_same {g h h₁ : Heap} {L' : Addr} {tabs : List (Addr × Obj)} (N : News g L' h tabs) : NewT tabs tabs h₁ h := fun p hp => ⟨(N p hp).1, .inl (List.mem_map_of_mem hp)⟩
end Mine
end
section
open PySem PySem.W PyProof.Rows PySem.Calls
namespace Mine
set_option maxRecDepth 100000
set_option maxHeartbeats 1000000
/-- what a recursion on two halves asks of its numbers -/
structure HalfOk (k Lo n dp un r c : Nat) : Prop where
  lt1 : k / 2 < k
  lt2 : k - k / 2 < k
  p1 : 1 ≤ k / 2
  p2 : 1 ≤ k - k / 2
  le1 : Lo + k / 2 ≤ n
  le2 : Lo + k / 2 + (k - k / 2) ≤ n
  d1 : dp + 1 + k / 2 < r
  d2 : dp + 1 + (k - k / 2) < r
  u1 : un + 3 + 8 * (k / 2) + 16 < c
  u2 : un + 3 + 8 * (k - k / 2) + 16 < c
theorem half_ok {k Lo n dp un r c : Nat} (h1 : 1 ≤ k) (hk : ¬ k = 1) (hl : Lo + k ≤ n) (hd : dp + k < r) (hu : un + 8 * k + 16 < c) : HalfOk k Lo n dp un r c := by
  obtain ⟨a, b, rfl, e, ha, hb⟩ : ∃ a b, k = a + b ∧ k / 2 = a ∧ 1 ≤ a ∧ 1 ≤ b := ⟨k / 2, k - k / 2, by omega, rfl, by omega, by omega⟩
  refine ⟨?_, ?_, ?_, ?_, ?_, ?_, ?_, ?_, ?_, ?_⟩ <;> rw [e] <;> omega
theorem xor_low (X S : Nat) : X ^^^ (X / 2 ^ S * 2 ^ S) = X % 2 ^ S := by
  apply Nat.eq_of_testBit_eq
  intro i
  rw [Nat.testBit_xor, Nat.testBit_mod_two_pow, Nat.testBit_mul_two_pow, Nat.testBit_div_two_pow]
  by_cases h : S ≤ i
  · have h2 : ¬ i < S := by omega
    simp [h, h2]
  · have h2 : i < S := by omega
    simp [h, h2]
theorem xor_and_add : ∀ a b : Nat, (a ^^^ b) + 2 * (a &&& b) = a + b := by
  intro a
  induction a using Nat.strongRecOn with
  | ind a ih =>
    intro b
    by_cases h0 : a = 0
    · subst h0; simp
    · have h := ih (a / 2) (by omega) (b / 2)
      have e1 : (a ^^^ b) / 2 = a / 2 ^^^ b / 2 := Nat.xor_div_two
      have e2 : (a &&& b) / 2 = a / 2 &&& b / 2 := Nat.and_div_two
      have e3 := Nat.xor_mod_two_pow (a := a) (b := b) (n := 1)
      have e4 := Nat.and_mod_two_pow (a := a) (b := b) (n := 1)
      rw [← e1, ← e2] at h
      rw [Nat.pow_one] at e3 e4
      rcases Nat.mod_two_eq_zero_or_one a with x | x <;> rcases Nat.mod_two_eq_zero_or_one b with y | y <;> rw [x, y] at e3 e4 <;> simp only [Nat.xor_self, Nat.zero_xor, Nat.xor_zero, Nat.and_self, Nat.zero_and, Nat.and_zero] at e3 e4 <;> omega
theorem bitXor_nat (a b : Nat) : Builtin.bitXor (a : Int) (b : Int) = ((a ^^^ b : Nat) : Int) := by
  rw [bitXor_and, bitAnd_pp (by omega) (by omega), Int.toNat_natCast, Int.toNat_natCast]
  have := xor_and_add a b
  omega
theorem fdiv_pow (X S : Nat) : (X : Int).fdiv (2 ^ S) = ((X / 2 ^ S : Nat) : Int) := by
  rw [Int.fdiv_eq_ediv_of_nonneg _ (by exact_mod_cast Nat.zero_le (2 ^ S))]
  push_cast
  rfl
section
variable {prog : Program} {w : World} {A : Around} {E : Value → Shared → Prop} {s : Shared} {Q : Value → Shared → Prop} {t u : Tok}
theorem rshift_mid {Lo k : Nat} {i j : Int} (hi : i = (Lo : Int)) (hj : j = (Lo : Int) + k) (h : Q (.int ((Lo : Int) + ((k / 2 : Nat) : Int)) s.toks) { s with toks := s.toks + 1 }) : wpAny (model prog w) A (binaryOp .RShift (.int (i + j) t) (.int 1 u)) Q E s := by
  subst hi hj
  refine rshift_int (by decide) ?_
  have e : ((Lo : Int) + ((Lo : Int) + k)).fdiv (2 ^ Int.toNat 1) = (Lo : Int) + ((k / 2 : Nat) : Int) := by
    show ((Lo : Int) + ((Lo : Int) + k)).fdiv 2 = _
    rw [Int.fdiv_eq_ediv_of_nonneg _ (by decide)]
    omega
  rw [e]; exact h
theorem mul_sh {Lo k N : Nat} {i j : Int} (hi : i = (Lo : Int)) (hj : j = (Lo : Int) + ((k / 2 : Nat) : Int)) (hN : N ≤ 1000000) (hk : k ≤ 1000000) (h : Q (.int ((k / 2 * N : Nat) : Int) s.toks) { s with toks := s.toks + 1 }) : wpAny (model prog w) A (binaryOp .Mult (.int (j - i) t) (.int (N : Int) u)) Q E s := by
  subst hi hj
  have e : ((Lo : Int) + ((k / 2 : Nat) : Int) - (Lo : Int)) = ((k / 2 : Nat) : Int) := by omega
  rw [e]
  have e2 : ((k / 2 : Nat) : Int) * (N : Int) = ((k / 2 * N : Nat) : Int) := by push_cast; rfl
  refine mul_int (by rw [e2]; exact h) (IntMulOk.of_left (intBits_le_64 (by omega) (by omega)))
theorem rshift_nat {X S : Nat} (h : Q (.int ((X / 2 ^ S : Nat) : Int) s.toks) { s with toks := s.toks + 1 }) : wpAny (model prog w) A (binaryOp .RShift (.int (X : Int) t) (.int (S : Int) u)) Q E s := by
  refine rshift_int (by omega) ?_
  rw [Int.toNat_natCast, fdiv_pow]; exact h
theorem lshift_nat {X S : Nat} (hX : X < 18446744073709551616) (hS : S ≤ 1000000) (h : Q (.int ((X * 2 ^ S : Nat) : Int) s.toks) { s with toks := s.toks + 1 }) : wpAny (model prog w) A (binaryOp .LShift (.int (X : Int) t) (.int (S : Int) u)) Q E s := by
  refine lshift_int_small (by omega) (by omega) (by simpa using hX) ?_
  rw [Int.toNat_natCast]
  have e : ((X : Int) * 2 ^ S) = ((X * 2 ^ S : Nat) : Int) := by push_cast; rfl
  rw [e]; exact h
theorem xor_nat {X S : Nat} (h : Q (.int ((X % 2 ^ S : Nat) : Int) s.toks) { s with toks := s.toks + 1 }) : wpAny (model prog w) A (binaryOp .BitXor (.int (X : Int) t) (.int ((X / 2 ^ S * 2 ^ S : Nat) : Int) u)) Q E s := by
  refine xor_int ?_
  rw [bitXor_nat, xor_low]; exact h
end
end Mine
end
section
open PySem PySem.W PyProof.Rows PySem.Calls
namespace Mine
set_option maxRecDepth 100000
set_option maxHeartbeats 1000000
section
variable {prog : Program} {w : World} {A : Around} {E : Value → Shared → Prop} {s : Shared}
theorem str_sub_at {value slice : PySem.Expr} {P : Str} {t u : Tok} {i : Int} {k c : Nat} {Q : Value → Shared → Prop} (hi : i = (k : Int)) (hl : P.length ≤ 10000) (hc : P.cps[k]? = some c) (h : Q (.str ⟨#[c]⟩ s.toks) { s with toks := s.toks + 1 })
    (hs : subscripted slice false (.str P t) (.int i u) = operate [.str P t, .int i u] (getItem (.str P t) (.int i u)) := by with_unfolding_all rfl) :
    wpAny (model prog w) A (subscriptTail value slice (.str P t) (.int i u)) Q E s := by
  have hk : k < P.length := (Array.getElem?_eq_some_iff.mp hc).1
  subst hi
  refine tail_any (typeIs_str s P t) F.slot_str_getitem.lookup (PySem.P.getItem_str ?_ ?_ h) hs
  · simp; omega
  · have e : seqIndex? (k : Int) P.length = some k := by
      unfold seqIndex?
      have h0 : ¬ ((k : Int) < 0) := by omega
      have h1 : (k : Int) < (P.length : Int) := by omega
      simp [h0, h1]
    rw [e]; exact hc
/-- the signs of a piece stand at i -/
structure TokAt (P : Str) (i : Nat) (tok : List Nat) : Prop where
  «at» : ∀ d c, tok[d]? = some c → P.cps[i + d]? = some c
theorem str_tok {value slice : PySem.Expr} {P : Str} {t u : Tok} {j : Int} {i d c : Nat} {tok : List Nat} {Q : Value → Shared → Prop} (hT : TokAt P i tok) (hj : j = (i : Int) + (d : Int)) (hc : tok[d]? = some c) (hl : P.length ≤ 10000) (h : Q (.str ⟨#[c]⟩ s.toks) { s with toks := s.toks + 1 })
    (hs : subscripted slice false (.str P t) (.int j u) = operate [.str P t, .int j u] (getItem (.str P t) (.int j u)) := by with_unfolding_all rfl) :
    wpAny (model prog w) A (subscriptTail value slice (.str P t) (.int j u)) Q E s := str_sub_at (k := i + d) (by omega) hl (hT.at d c hc) h hs
end
end Mine
end
section
open PySem PySem.W PyProof.Rows PySem.Calls
namespace Mine
set_option maxRecDepth 100000
set_option maxHeartbeats 1000000
section
variable {prog : Program} {w : World} {A : Around} {E : Value → Shared → Prop} {s : Shared} {d : Addr} {f : Int → Option Value}
theorem gm_translate {x : Str} {t : Tok} {pl : Sem Bool} {Q : Value × List Value → Shared → Prop} (h : Q (.builtin "str.translate", [.str x t]) s) : wpAny (model prog w) A (getMethod (.str x t) "translate" pl) Q E s := by
  with_reducible exact GM.of (.str x t) (typeIs_str _ _ _) F.slot_str_translate F.type_str_translate GM.noRef h
theorem sub_KeyError : isSubtype (.type "KeyError") (.type "LookupError") = pure true := by rw [isSubtype_type]; kernel_rfl
theorem look_none {c : Nat} {Q : Builtin.Str.Mapped → Shared → Prop} (hm : s.heap.MapOf (intKind prog w) d f) (hf : f (c : Int) = none) (hd : (d == sysModules) = false) (hh : A.handled = none)
    (h : ∀ h' tk, (∀ b o, s.heap.get? b = some o → h'.get? b = some o) → Q .keep { s with heap := h', toks := tk }) : wpAny (model prog w) A (Builtin.Str.tableLookup (.ref d) c) Q E s := by
  unfold Builtin.Str.tableLookup
  refine wpAny_bind (wpAny_attempt (wpAny_bind (wpAny_mkInt ?_)))
  refine wpAny_getItem_missing_of (knd := intKind prog w) (k := (c : Int)) (key := .int c s.toks) (by simp [intKind, Value.isInt]) hd hh hm hf fun h' e he => ?_
  obtain ⟨ob, t, e1, e2, e3⟩ := he.there
  refine wpAny_bind (wpAny_isInstance (T := "KeyError") (b := true) ⟨ob, e1, e2⟩ sub_KeyError ?_)
  exact wpAny_bind (wpAny_rule (wpAny_pure (h _ _ he.keeps)))
theorem look_text {c : Nat} {x : Str} {u : Tok} {Q : Builtin.Str.Mapped → Shared → Prop} (hm : s.heap.MapOf (intKind prog w) d f) (hf : f (c : Int) = some (.str x u))
    (h : ∀ tk, Q (.text x) { s with toks := tk }) : wpAny (model prog w) A (Builtin.Str.tableLookup (.ref d) c) Q E s := by
  unfold Builtin.Str.tableLookup
  refine wpAny_bind (wpAny_attempt (wpAny_bind (wpAny_mkInt ?_)))
  refine wpAny_getItem_of (knd := intKind prog w) (k := (c : Int)) (key := .int c s.toks) (by simp [intKind, Value.isInt]) hm hf ?_
  refine wpAny_bind (wpAny_of_eq (a := none) rfl ?_)
  refine wpAny_bind (wpAny_of_eq (a := some x) rfl ?_)
  exact wpAny_pure (h _)
/-- the pieces of a text of one sign -/
def IP (c : Nat) (s : Shared) (out : Str) : List Nat → (List Str × Nat × Bool × List (Nat × Option Nat) × Bool) → Shared → Prop
  | [x], b, s' => x = c ∧ b = ([], 0, true, [], false) ∧ s' = s
  | [], b, s' => b.1 = [out] ∧ b.2.1 = out.length ∧ ∃ h' tk, s' = { s with heap := h', toks := tk } ∧ ∀ b o, s.heap.get? b = some o → h'.get? b = some o
  | _, _, _ => False
theorem ret_one {x : Str} {Q : Value → Shared → Prop} (hx : x.length ≤ sizeLine) (h : Q (.str x s.toks) { s with toks := s.toks + 1 }) :
    wpAny (model prog w) A (retStr ⟨List.foldl (fun acc (p : Str) => acc ++ p.cps) #[] [x].reverse⟩) (fun fin s' => ∃ v, fin = Fin.done (Flow.ret v) ∧ Q v s') E s := by
  have e : (⟨List.foldl (fun acc (p : Str) => acc ++ p.cps) #[] [x].reverse⟩ : Str) = x := by simp
  rw [e]
  unfold retStr
  exact wpAny_bind (wpAny_mkStr (wpAny_pure ⟨_, rfl, h⟩) hx)
theorem translate_keep {c : Nat} {t : Tok} {Q : Value → Shared → Prop} (hc : c < 128) (hm : s.heap.MapOf (intKind prog w) d f) (hf : f (c : Int) = none) (hd : (d == sysModules) = false) (hh : A.handled = none)
    (h : ∀ h' tk t', (∀ b o, s.heap.get? b = some o → h'.get? b = some o) → Q (.str ⟨#[c]⟩ t') { s with heap := h', toks := tk }) : wpAny (model prog w) A (call (.builtin "str.translate") [.str ⟨#[c]⟩ t, .ref d]) Q E s := by
  refine wpAny_call_entry F.slot_str_translate (typeIs_str _ _ _) F.entry_str_translate ?_ (F.args_str_translate_2 _ _)
  unfold Builtin.«str.translate»
  refine wpAny_bind (wpAny_of_eq (a := (Value.str ⟨#[c]⟩ t, (⟨#[c]⟩ : Str), Value.ref d)) rfl ?_)
  dsimp only
  rw [if_neg (show ¬ (((⟨#[c]⟩ : Str).length == 0) = true) from Bool.false_ne_true)]
  have e : (#[c].all fun x => decide (x < 128)) = true := by simp [hc]
  rw [e]
  refine wpAny_bind (forIn_array_ _ (IP c s ⟨#[c]⟩) _ ?turn ?fin #[c] _ ⟨rfl, rfl, rfl⟩)
  case turn =>
    intro x rest b s' hI
    match rest, hI with
    | [], hI =>
      obtain ⟨rfl, rfl, rfl⟩ := hI
      dsimp only
      rw [if_neg (by decide), if_pos rfl]
      refine wpAny_bind (look_none hm hf hd hh fun h' tk hk => ?_)
      dsimp only
      refine wpAny_bind (wpAny_pure ?_)
      dsimp only
      exact wpAny_pure ⟨rfl, rfl, h', tk, rfl, hk⟩
  case fin =>
    rintro b s' ⟨e1, e2, h', tk, rfl, hk⟩
    rw [e1, e2, if_neg (show ¬ (Builtin.Str.tooLong (⟨#[c]⟩ : Str).length = true) from by rw [show (⟨#[c]⟩ : Str).length = 1 from rfl]; decide)]
    exact ret_one (by show 1 ≤ _; rw [sizeLine_eq]; decide) (h h' _ _ hk)
theorem translate_text {c : Nat} {t u : Tok} {x : Str} {Q : Value → Shared → Prop} (hc : c < 128) (hm : s.heap.MapOf (intKind prog w) d f) (hf : f (c : Int) = some (.str x u)) (hx : x.length = 2)
    (h : ∀ h' tk t', (∀ b o, s.heap.get? b = some o → h'.get? b = some o) → Q (.str x t') { s with heap := h', toks := tk }) : wpAny (model prog w) A (call (.builtin "str.translate") [.str ⟨#[c]⟩ t, .ref d]) Q E s := by
  refine wpAny_call_entry F.slot_str_translate (typeIs_str _ _ _) F.entry_str_translate ?_ (F.args_str_translate_2 _ _)
  unfold Builtin.«str.translate»
  refine wpAny_bind (wpAny_of_eq (a := (Value.str ⟨#[c]⟩ t, (⟨#[c]⟩ : Str), Value.ref d)) rfl ?_)
  dsimp only
  rw [if_neg (show ¬ (((⟨#[c]⟩ : Str).length == 0) = true) from Bool.false_ne_true)]
  have e : (#[c].all fun x => decide (x < 128)) = true := by simp [hc]
  rw [e]
  refine wpAny_bind (forIn_array_ _ (IP c s x) _ ?turn ?fin #[c] _ ⟨rfl, rfl, rfl⟩)
  case turn =>
    intro y rest b s' hI
    match rest, hI with
    | [], hI =>
      obtain ⟨rfl, rfl, rfl⟩ := hI
      dsimp only
      rw [if_neg (by decide), if_pos rfl]
      refine wpAny_bind (look_text hm hf fun tk => ?_)
      dsimp only
      rw [if_neg (by rw [hx]; exact Bool.false_ne_true)]
      dsimp only
      refine wpAny_bind (wpAny_pure ?_)
      dsimp only
      refine wpAny_bind (wpAny_rule ?_)
      rw [if_neg (by decide)]
      refine wpAny_bind (look_text (s := { s' with toks := tk }) hm hf fun tk => ?_)
      dsimp only
      exact wpAny_pure ⟨rfl, by simp, _, _, rfl, fun _ _ x => x⟩
  case fin =>
    rintro b s' ⟨e1, e2, h', tk, rfl, hk⟩
    rw [e1, e2, hx, if_neg (by decide)]
    exact ret_one (by rw [hx, sizeLine_eq]; decide) (h h' _ _ hk)
end
end Mine
end
section
open PySem PySem.W PyProof.Rows PySem.Calls Builtin Builtin.ObjectAttr
namespace Mine
set_option maxRecDepth 100000
set_option maxHeartbeats 1000000
theorem kind_append : builtinKind "list.append" = some .method := by decide +kernel
theorem md_get : typeLookup (.type "method_descriptor") "__get__" = pure (some (.builtin "method_descriptor.__get__")) := by rw [typeLookup_type, builtinLookup_eq_fast]; kernel_rfl
theorem md_set : typeLookup (.type "method_descriptor") "__set__" = pure none := by rw [typeLookup_type, builtinLookup_eq_fast]; kernel_rfl
theorem md_del : typeLookup (.type "method_descriptor") "__delete__" = pure none := by rw [typeLookup_type, builtinLookup_eq_fast]; kernel_rfl
def boundApp (a : Addr) : Obj := { cls := .type "builtin_function_or_method", data := .fields #[.builtin "list.append", .ref a] }
theorem slot_mdget : Slot "method_descriptor" "__get__" "method_descriptor.__get__" :=
  .of (owner := "method_descriptor") (n := "__get__") (by rw [typeLookup_type, builtinLookup_eq_fast]; kernel_rfl) (by decide +kernel) (by decide +kernel) (by decide +kernel)
    (by first | exact .inl (by decide +kernel) | exact .inr (by decide +kernel)) (by rw [isSubtype_type]; kernel_rfl)
theorem entry_mdget : entryFor table "method_descriptor.__get__" = some Builtin.«method_descriptor.__get__» := entryFor_of_tree (by kernel_rfl)
theorem args_mdget (a b c : Value) : argsOk "method_descriptor.__get__" ⟨[a, b, c], []⟩ := by unfold argsOk; kernel_rfl
theorem owner_app : (kfb_private% "ownerAndName") "list.append" = ("list", "append") := by first | decide +kernel | kernel_rfl
theorem nameClass_app : (kfb_private% "nameAndClass") (.builtin "list.append") = pure (Str.ofString "append", .type "list") := by
  show pure (Str.ofString ((kfb_private% "ownerAndName") "list.append").2, Value.type ((kfb_private% "ownerAndName") "list.append").1) = _
  rw [owner_app]
theorem run_get {M : Model} {A : Around} {E : Value → Shared → Prop} {s : Shared} {a : Addr} {P : Fin → Shared → Prop} (hT : s.TypeIs (.ref a) "list") (h : P (.done (.ret (.ref s.heap.objs.size))) { s with heap := s.heap.push (boundApp a) }) :
    wpAny M A (Builtin.«method_descriptor.__get__» ⟨[.builtin "list.append", .ref a, .type "list"], []⟩) P E s := by
  unfold Builtin.«method_descriptor.__get__»
  refine wpAny_bind (wpAny_of_eq (a := (.builtin "list.append", some (.ref a), some (.type "list"))) (by first | rfl | kernel_rfl) ?_)
  dsimp only
  rw [if_neg (by decide +kernel)]
  show wpAny M A ((kfb_private% "checkInstance") (.builtin "list.append") (.ref a) >>= fun _ => newFields "builtin_function_or_method" [.builtin "list.append", .ref a] >>= ret) P E s
  refine wpAny_bind ?_
  show wpAny M A ((kfb_private% "nameAndClass") (.builtin "list.append") >>= _) _ E s
  rw [nameClass_app]
  refine wpAny_bind (wpAny_pure ?_)
  refine wpAny_bind (wpAny_isInstance (T := "list") (b := true) hT (by rw [isSubtype_type]; kernel_rfl) ?_)
  exact wpAny_pure (wpAny_bind (wpAny_newObj_type (wpAny_pure h)))
theorem type_app : typeOf (.builtin "list.append") = pure (.type "method_descriptor") := F.type_list_append
theorem getAttr_append {prog : Program} {w : World} {A : Around} {E : Value → Shared → Prop} {s : Shared} {a : Addr} {xs : Array Value} {k : Nat} {Q : Value → Shared → Prop}
    (hx : s.heap.get? a = some (PySem.W.listOf xs k)) 
    (h : Q (.ref s.heap.objs.size) { s with heap := s.heap.push (boundApp a), toks := s.toks + 1 }) :
    wpAny (model prog w) A (getAttr (.ref a) "append" true) Q E s := by
  obtain ⟨hp, g, d, tk, os⟩ := s
  have hT : ∀ tk', (⟨hp, g, d, tk', os⟩ : Shared).TypeIs (.ref a) "list" := fun _ => ⟨_, hx, rfl⟩
  have f3 := F.slot_list_getattribute.lookup
  have f4 := F.slot_list_getattribute.bind (.ref a)
  have f5 := am_list_getattr_none
  have f6 := F.slot_list_append.lookup
  have f7 := md_get
  have f8 := md_set
  have f9 := md_del
  unfold getAttr getAttrBy
  repeat (any_goals (first | assumption | exact hT _ | ((with_reducible show wpAny _ _ (call (Value.builtin "list.__getattribute__") _) _ _ _); refine wpAny_call_entry F.slot_list_getattribute (hT _) am_entry_list_getattribute ?_ (F.args_list_getattribute_2 _ _)) | wp_step))
  repeat (any_goals (first | assumption | exact hT _ | (rw [kind_append]; dsimp only) | ((with_reducible show wpAny _ _ (call (Value.builtin "method_descriptor.__get__") _) _ _ _); refine wpAny_call_entry slot_mdget type_app entry_mdget (run_get (hT _) ?_) (args_mdget _ _ _)) | wp_step))
  refine ⟨_, rfl, wpAny_pure ⟨_, rfl, ?_⟩⟩
  exact handed_on rfl h
def sigApp (full : String) : Manifest.Signature := ⟨.oneArg, full, "append", .self, [⟨"object", .posOnly, true⟩]⟩
theorem sig_app : Manifest.signature? "list.append" = some (sigApp "list.append") := by
  rw [signature?_of (id := "list.append") (n := ['d', 'n', 'e', 'p', 'p', 'a']) (o := ['t', 's', 'i', 'l']) (by kernel_rfl) F.owner_list]; kernel_rfl
theorem args_app {a : Addr} {x : Value} : Bind.checkArgs "list.append" (sigApp "list.append") ⟨[.ref a, x], []⟩ = pure () := by kernel_rfl
theorem last_app : Bind.lastOf "list.append" = "append" := by decide +kernel
theorem last_list : Bind.lastOf "list" = "list" := by decide +kernel
theorem sub_list_module : isSubtype (.type "list") (.type "module") = pure false := by rw [isSubtype_type]; kernel_rfl
theorem sub_list_type : isSubtype (.type "list") (.type "type") = pure false := by rw [isSubtype_type]; kernel_rfl
theorem check_app {M : Model} {A : Around} {E : Value → Shared → Prop} {s : Shared} {a : Addr} {x : Value} {xs : Array Value} {k : Nat} {Q : Unit → Shared → Prop} (hx : s.heap.get? a = some (PySem.W.listOf xs k)) (h : Q () s) : wpAny M A (checkBoundCall "list.append" ⟨[.ref a, x], []⟩) Q E s := by
  have hT : s.TypeIs (.ref a) "list" := ⟨_, hx, rfl⟩
  unfold checkBoundCall
  rw [sig_app, kind_append]
  dsimp only
  rw [if_neg (by decide)]
  refine wpAny_bind (wpAny_isInstance (T := "list") (b := false) hT sub_list_module ?_)
  rw [if_neg (by decide +kernel)]
  unfold isType
  refine wpAny_bind ?_
  dsimp only
  refine wpAny_bind (AutoSeq1.wpAny_loadPart' hx ?_)
  refine wpAny_pure ?_
  refine KFB.if_not rfl ?_
  refine wpAny_bind (wpAny_typeOf hT ?_)
  dsimp only
  rw [last_list, last_app]
  refine wpAny_of_eq (a := ()) ?_ h
  exact args_app
theorem quiet_app {as : Args} : (Code.builtin "list.append" as).quiet = true := Code.quiet_builtin _ (by decide +kernel)
theorem push_seq (its : Array Value) (n : Nat) (x : Value) : Obj.mapSeq (·.push x) (PySem.W.listOf its n) = PySem.W.listOf (its.push x) (n + 1) := by simp [Obj.mapSeq, PySem.W.listOf]
section
variable {prog : Program} {w : World} {A : Around} {E : Value → Shared → Prop} {s : Shared} {h₀ : Heap} {L : Addr} {m : PySem.Str → Option Value} {news news' : List (Addr × Obj)} {a q : Addr} {its : Array Value} {n : Nat} {x : Value} {Q : Value → Shared → Prop}
theorem call_boundApp (F : Fr h₀ L s.heap m) (N : News h₀ L s.heap news) (hq : s.heap.get? q = some (boundApp a)) (U : Upd a (PySem.W.listOf its n) (PySem.W.listOf (its.push x) (n + 1)) news news') (hz : its.size ≤ sizeLine)
    (h : ∀ h', Fr h₀ L h' m → News h₀ L h' news' → Q .none { s with heap := h' }) : wpAny (model prog w) A (call (.ref q) [x]) Q E s := by
  obtain ⟨pre, post, rfl, rfl, u1, u2⟩ := U.split
  have z := N (a, PySem.W.listOf its n) (List.mem_append.mpr (.inr (.head _)))
  refine wpAny_call (codeAny_of_tree ?_)
  show wpAny _ A.in1 (callAny (.ref q) ⟨[x], []⟩) _ _ s
  simp only [callAny]
  refine wpAny_bind (wpAny_load hq ?_)
  simp only [boundApp, show (Value.type "builtin_function_or_method" == Value.type "method" || Value.type "builtin_function_or_method" == Value.type "builtin_function_or_method" || Value.type "builtin_function_or_method" == Value.type "method-wrapper") = true by decide, if_true]
  refine KFB.if_so (by decide) ?_
  refine wpAny_bind (check_app z.1 ?_)
  refine wpAny_bind (wpAny_pure (wpAny_pure ?_))
  refine ⟨quiet_app, codeAny_builtin PySem.F.entry_list_append ?_⟩
  show wpAny _ _ (updateSeq a (·.push x) >>= fun _ => ret .none) _ _ s
  refine wpAny_bind (wpAny_updateSeq z.1 rfl (wpAny_pure ?_))
  refine h _ (F.change (Heap.SameBut.update ..) z.2.1 z.2.2) (N.setIn u1 u2 (Heap.SameBut.update ..) ?_)
  rw [Heap.get?_update_self _ z.1 (by rw [push_seq]; rfl), push_seq]
theorem getAttr_app_L (F : Fr h₀ L s.heap m) (N : News h₀ L s.heap news) (hm : (a, PySem.W.listOf its n) ∈ news)
    (h : ∀ q h', Fr h₀ L h' m → News h₀ L h' ((q, boundApp a) :: news) → (∀ p ∈ news, p.1 < q) → Q (.ref q) { s with heap := h', toks := s.toks + 1 }) : wpAny (model prog w) A (getAttr (.ref a) "append" true) Q E s :=
  getAttr_append (N _ hm).1 (h _ _ (F.push _) (News.push F N _) fun p hp => Heap.lt_size (N p hp).1)
def AppAt (u a : Addr) (h : Heap) : Prop := h.get? u = some (boundApp a)
theorem appAt_of (N : News h₀ L s.heap news) (hm : (q, boundApp a) ∈ news) : AppAt q a s.heap := (N _ hm).1
theorem callWith_appF {pos : Pos} {u : Addr} {args : List (Bool × Sem Value)} (hplain : args.any (·.1) = false)
    (h : wpAny (model prog w) A (evalArgs (.ref u) true args []) (fun x s₁ => AppAt u a s₁.heap ∧ wpAny (model prog w) A (call (.ref u) ([] ++ x.pos) x.kw) Q E s₁) E s) : wpAny (model prog w) A (callWith pos (.ref u) [] args []) Q E s := by
  unfold callWith
  refine wpAny_bind (wpAny_holding (wpAny_mono h (fun x s₁ h₁ => wpAny_bind (wpAny_standAt ?_)) fun _ _ x => x))
  obtain ⟨ho, hcall⟩ := h₁
  simp only [hplain, List.any_nil, Bool.or_false]
  refine wpAny_bind (m := keeperOf (.ref u)) ?_
  unfold keeperOf
  refine wpAny_bind (wpAny_load ho ?_)
  simp only [boundApp, show (Value.type "builtin_function_or_method" != Value.type "method") = true by decide, show (Value.type "builtin_function_or_method" == Value.type "builtin_function_or_method" || Value.type "builtin_function_or_method" == Value.type "method-wrapper") = true by decide, if_true]
  refine wpAny_pure ?_
  exact wpAny_bind (wpAny_mono hcall (fun r s₂ hr => wpAny_bind (wpAny_holding (wpAny_point (wpAny_pure hr)))) fun _ _ x => x)
theorem callWith_app {pos : Pos} {u : Addr} {env : Env} {e : PySem.Expr} {rest : List PySem.Expr} (_N : News h₀ L s.heap news) (_hm : (u, boundApp a) ∈ news)
    (h : wpAny (model prog w) A (spliced (backTo pos (starEach (e :: rest) env))) (fun vs s₁ => AppAt u a s₁.heap ∧ wpAny (model prog w) A (call (.ref u) ([] ++ vs)) Q E s₁) E s)
    (he : starEach (e :: rest) env = (false, PySem.eval e env) :: starEach rest env := by rfl) (hplain : (backTo pos (starEach rest env)).any (·.1) = false := by rfl) :
    wpAny (model prog w) A (callWith pos (.ref u) [] (backTo pos (starEach (e :: rest) env)) []) Q E s := by
  rw [he] at h ⊢
  refine callWith_appF (a := a) (by show (false || (backTo pos (starEach rest env)).any (·.1)) = false; rw [hplain]; rfl) ?_
  exact evalArgs_plain h
end
end Mine
end
section
open PySem PySem.W PyProof.Rows PySem.Calls
open AutoSeq1 (wpAny_loadPart')
namespace Mine
set_option maxRecDepth 100000
set_option maxHeartbeats 1000000

theorem allLt_ne {d : Addr} : ∀ {l : List (Addr × Obj)}, AllLt d l → ∀ p ∈ l, p.1 ≠ d
  | [], _, _, hq => by cases hq
  | p :: r, h, q, hq => by
    rcases List.mem_cons.mp hq with rfl | hq
    · exact Nat.ne_of_lt h.1
    · exact allLt_ne h.2 q hq

section
variable {h₀ h h' : Heap} {L : Addr} {m : Str → Option Value} {news : List (Addr × Obj)}
/-- one object of the ledger turns, more may be made -/
theorem led_set {d : Addr} {o o' : Obj} {r : List (Addr × Obj)} (F : Fr h₀ L h m) (N : News h₀ L h ((d, o) :: r)) (hr : ∀ p ∈ r, p.1 ≠ d) (hs : Heap.ExtBut d h h') (ho : h'.get? d = some o') :
    Fr h₀ L h' m ∧ News h₀ L h' ((d, o') :: r) := by
  have hd := N _ (.head _)
  refine ⟨⟨F.ns.extBut hs (Ne.symm hd.2.1), fun b ob e => hs b ob (fun q => ?_) (F.keep b ob e), F.above⟩, fun p hp => ?_⟩
  · rw [q, hd.2.2] at e; cases e
  · rcases List.mem_cons.mp hp with rfl | hp
    · exact ⟨ho, hd.2⟩
    · have := N p (.tail _ hp)
      exact ⟨hs _ _ (hr p hp) this.1, this.2⟩
theorem led_ext (F : Fr h₀ L h m) (N : News h₀ L h news) (hs : ∀ b o, h.get? b = some o → h'.get? b = some o) : Fr h₀ L h' m ∧ News h₀ L h' news :=
  ⟨⟨F.ns.keeps hs, fun b o e => hs _ _ (F.keep b o e), F.above⟩, fun p hp => ⟨hs _ _ (N p hp).1, (N p hp).2⟩⟩
theorem led_new {d : Addr} {o : Obj} (F : Fr h₀ L h m) (N : News h₀ L h' news) (hd : h.objs.size ≤ d) (ho : h'.get? d = some o) : News h₀ L h' ((d, o) :: news) := fun p hp => by
  rcases List.mem_cons.mp hp with rfl | hp
  · exact ⟨ho, Nat.ne_of_gt (Nat.lt_of_lt_of_le F.ns.lt hd), Heap.get?_none_of_le (Nat.le_trans F.above (Nat.le_trans (Nat.le_of_lt F.ns.lt) hd))⟩
  · exact N p hp
theorem led_lt (N : News h₀ L h news) {d : Addr} (hd : h.objs.size ≤ d) : ∀ p ∈ news, p.1 < d := fun p hp => Nat.lt_of_lt_of_le (Heap.lt_size (N p hp).1) hd
end

/-- a tuple iterator at its place -/
def TI (o : Obj) (t : Addr) (i : Nat) : Prop := o.cls = .type "tuple_iterator" ∧ o.data = .fields #[.ref t, .int i 0]
def tupIt (t : Addr) (i : Nat) : Obj := { cls := .type "tuple_iterator", data := .fields #[.ref t, .int i 0] }
def enumObj (it : Addr) (i : Int) (old : Value) : Obj := { cls := .type "enumerate", dict := none, data := .fields #[.none, .bool false, .ref it, rawInt i, .none, old], slots := #[] }

theorem meets_enum_tup (l : Addr) (items : Array Value) (n : Nat) (dct : Option Addr) (sl : Array (Option Value)) :
    Meets (Builtin.«enumerate.__new__» ⟨[.type "enumerate", .ref l], []⟩) (fun _ R s => s.heap.get? l = some { cls := .type "tuple", dict := dct, data := .seq items n, slots := sl } ∧
      R (.ok (.ret (.ref (s.heap.push (tupIt l 0)).objs.size)))
        { s with heap := (s.heap.push (tupIt l 0)).push (enumObj s.heap.objs.size 0 .none) }) :=
  .of_wp fun prog w A R s h => by
    obtain ⟨hp, g, d, tk, os⟩ := s; obtain ⟨hl, h⟩ := h
    have hsub := sub_enumerate
    have hL : Heap.IsTuple (Shared.heap ⟨hp, g, d, tk, os⟩) l items := ⟨_, hl, rfl, n, rfl⟩
    wp_walk using wpAny_loadPart' hl
    refine wpAny_stack_any fun st => wpAny_pure ?_
    split
    · rename_i c _ _ _ _ _
      cases (c == Value.type "enumerate")
      · wp_walk using wpAny_loadPart' hl, wpAny_pyIter_tuple hL
        exact ⟨_, rfl, h⟩
      · wp_walk using wpAny_loadPart' hl, wpAny_pyIter_tuple hL
        exact ⟨_, rfl, h⟩
    · wp_walk using wpAny_loadPart' hl, wpAny_pyIter_tuple hL
      exact ⟨_, rfl, h⟩

section
variable {prog : Program} {w : World} {A : Around} {E : Value → Shared → Prop} {s : Shared}
theorem call_enum_tup {h₀ : Heap} {L : Addr} {m : Str → Option Value} {news : List (Addr × Obj)} {l : Addr} {items : Array Value} {Q : Value → Shared → Prop} (Fm : Fr h₀ L s.heap m) (N : News h₀ L s.heap news) (hL : h₀.IsTuple l items)
    (h : ∀ h' it e, Fr h₀ L h' m → News h₀ L h' ((e, enumObj it 0 .none) :: (it, tupIt l 0) :: news) → (∀ p ∈ news, p.1 < it) → it < e → Q (.ref e) { s with heap := h' }) :
    wpAny (model prog w) A (call (.type "enumerate") [.ref l]) Q E s := by
  obtain ⟨⟨c, dct, dt, sl⟩, hl, hc, n, hd⟩ := hL
  replace hl := Fm.keep _ _ hl
  replace hc : c = .type "tuple" := hc
  replace hd : dt = .seq items n := hd
  subst hc hd
  refine callType_new F.called_enumerate (by decide) (F.typeCall_enumerate_1 _) (F.newCall_enumerate_1 _) (fun obj => F.args_object_init_2 obj _) F.entry_enumerate_new
    (meets_enum_tup l items n dct sl) ⟨hl, ?_⟩
  have hz : (s.heap.push (tupIt l 0)).objs.size = s.heap.objs.size + 1 := Heap.size_push ..
  show _ ∧ _
  rw [hz]
  have he : ((s.heap.push (tupIt l 0)).push (enumObj s.heap.objs.size 0 .none)).get? (s.heap.objs.size + 1) = some (enumObj s.heap.objs.size 0 .none) := by
    have := Heap.get?_push_size (s.heap.push (tupIt l 0)) (o := enumObj s.heap.objs.size 0 .none) rfl
    rw [hz] at this; exact this
  refine ⟨⟨_, he, rfl⟩, ?_⟩
  have K : ∀ b o, s.heap.get? b = some o → ((s.heap.push (tupIt l 0)).push (enumObj s.heap.objs.size 0 .none)).get? b = some o := fun b o x => Heap.get?_push_of_some _ (Heap.get?_push_of_some _ x)
  obtain ⟨Fm', N'⟩ := led_ext Fm N K
  exact h _ s.heap.objs.size (s.heap.objs.size + 1) Fm' (led_new Fm (led_new Fm N' (Nat.le_refl _) (Heap.get?_push_of_some _ (Heap.get?_push_size _ rfl))) (Nat.le_succ _) he) (led_lt N (Nat.le_refl _)) (Nat.lt_succ_self _)

theorem nextOf_tup {it t : Addr} {i : Nat} {items} {x : Value} {Q : Value → Shared → Prop} (hit : s.heap.IsTupleIter it t i)
    (ht : s.heap.IsTuple t items) (hx : items[i]? = some x)
    (hQ : ∀ h', h'.IsTupleIter it t (i + 1) → Heap.SameBut it s.heap h' → Q x { s with heap := h' }) :
    wpAny (model prog w) A (Builtin.SmallTypes.nextOf (.ref it)) Q E s := by
  obtain ⟨o, ho, hc, hd⟩ := id hit
  obtain ⟨ol, hol, _, nl, hdl⟩ := ht
  unfold Builtin.SmallTypes.nextOf
  refine wpAny_bind (wpAny_callSpecial?_slot (name := Str.ofString "__next__") hit.typeIs F.slot_tuple_iterator_next
    (wpAny_call_entry F.slot_tuple_iterator_next hit.typeIs F.entry_tuple_iterator_next ?_ (F.args_tuple_iterator_next_1 _)))
  show wpAny _ _ (field (.ref it) 0 >>= _) _ _ s
  refine wpAny_bind (wpAny_field ho hd (x := .ref t) rfl ?_)
  show wpAny _ _ (if (Value.ref t == Value.none) = true then _ else _) _ _ s
  rw [if_neg (show ¬ ((Value.ref t == Value.none) = true) from Bool.false_ne_true)]
  show wpAny _ _ (field (.ref it) 1 >>= _) _ _ s
  refine wpAny_bind (wpAny_field ho hd (x := .int i 0) rfl ?_)
  show wpAny _ _ (seqItems? (.ref t) >>= _) _ _ s
  refine wpAny_bind (wpAny_seqItems hol hdl ?_)
  simp only [Int.toNat_natCast, hx]
  refine wpAny_bind (wpAny_setField ho hd (by simp) (wpAny_pure ⟨x, rfl, wpAny_pure (hQ _ ?_ (Heap.SameBut.update ..))⟩))
  exact ⟨_, Heap.get?_update_self _ ho (Obj.isFreed_of_fields (Obj.data_mapFields hd _)), (Obj.cls_mapFields ..).trans hc, by
    rw [Obj.data_mapFields hd]; simp [rawInt]⟩

abbrev enumOut (it : Addr) (i : Int) (item : Value) (a : Addr) : Obj := { cls := .type "enumerate", dict := none, data := .fields #[rawInt a, .bool false, .ref it, rawInt i, .none, item], slots := #[] }

theorem next_enum {e it l : Addr} {i : Nat} {items : Array Value} {x old : Value} {Q : Option Value → Shared → Prop}
    (he : s.heap.get? e = some (enumObj it i old)) (hit : s.heap.IsTupleIter it l i) (hl : s.heap.IsTuple l items) (hx : items[i]? = some x) (hne : e ≠ it)
    (hQ : ∀ h', h'.get? e = some (enumOut it ((i : Int) + 1) x s.heap.objs.size) → h'.IsTupleIter it l (i + 1) →
      h'.get? s.heap.objs.size = some { cls := .type "tuple", data := .seq #[.int i s.toks, x] } →
      (∀ b o, b ≠ e → b ≠ it → s.heap.get? b = some o → h'.get? b = some o) → Q (some (.ref s.heap.objs.size)) { s with heap := h', toks := s.toks + 1 }) :
    wpAny (model prog w) A (pyNext (.ref e)) Q E s := by
  have hT : s.TypeIs (.ref e) "enumerate" := ⟨_, he, rfl⟩
  unfold pyNext
  refine wpAny_bind (wpAny_attempt (wpAny_callSpecial?_slot (name := Str.ofString "__next__") hT F.slot_enumerate_next
    (wpAny_call_entry F.slot_enumerate_next hT F.entry_enumerate_next ?_ (F.args_enumerate_next_1 _))))
  obtain ⟨hp, g, d, tk, os⟩ := s
  show wpAny _ _ (field (.ref e) 2 >>= _) _ _ _
  refine wpAny_bind (wpAny_field he rfl (x := .ref it) rfl ?_)
  refine wpAny_bind (nextOf_tup hit hl hx fun h₁ hit₁ hs₁ => ?_)
  replace hs₁ : Heap.SameBut it hp h₁ := hs₁
  have he₁ : h₁.get? e = some (enumObj it i old) := (hs₁.2 e hne).trans he
  show wpAny _ _ (field (.ref e) 3 >>= _) _ _ ⟨h₁, g, d, tk, os⟩
  refine wpAny_bind (wpAny_field he₁ rfl (x := rawInt i) rfl ?_)
  show wpAny _ _ (field (.ref e) 4 >>= _) _ _ ⟨h₁, g, d, tk, os⟩
  refine wpAny_bind (wpAny_field he₁ rfl (x := .none) rfl ?_)
  show wpAny _ _ (mkInt i >>= _) _ _ ⟨h₁, g, d, tk, os⟩
  refine wpAny_bind (wpAny_mkInt ?_)
  show wpAny _ _ (setField (.ref e) 3 (rawInt ((i : Int) + 1)) >>= _) _ _ ⟨h₁, g, d, tk + 1, os⟩
  refine wpAny_bind (wpAny_setField_rec he₁ (by simp) fun h₂ he₂ hs₂ => ?_)
  replace hs₂ : Heap.SameBut e h₁ h₂ := hs₂
  replace he₂ : h₂.get? e = some (enumObj it ((i : Int) + 1) old) := he₂
  show wpAny _ _ (setField (.ref e) 4 .none >>= _) _ _ ⟨h₂, g, d, tk + 1, os⟩
  refine wpAny_bind (wpAny_setField_rec he₂ (by simp) fun h₃ he₃ hs₃ => ?_)
  replace hs₃ : Heap.SameBut e h₂ h₃ := hs₃
  replace he₃ : h₃.get? e = some (enumObj it ((i : Int) + 1) old) := he₃
  show wpAny _ _ (newTuple [.int i tk, x] >>= _) _ _ ⟨h₃, g, d, tk + 1, os⟩
  refine wpAny_bind (wpAny_newTuple ?_)
  have he₄ : (h₃.push { cls := .type "tuple", data := .seq #[.int i tk, x] }).get? e = some (enumObj it ((i : Int) + 1) old) := Heap.get?_push_of_some _ he₃
  generalize hh₄ : h₃.push { cls := .type "tuple", data := .seq #[.int i tk, x] } = h₄ at he₄
  have hsz : h₃.objs.size = hp.objs.size := by rw [hs₃.1, hs₂.1, hs₁.1]
  have hel : e < hp.objs.size := Heap.lt_size he
  have ht₄ : h₄.get? hp.objs.size = some { cls := .type "tuple", data := .seq #[.int i tk, x] } := by rw [← hh₄, ← hsz]; exact Heap.get?_push_size _ rfl
  have hk₄ : ∀ b o, b ≠ e → b ≠ it → hp.get? b = some o → h₄.get? b = some o := fun b o hbe hbi hb => by
    rw [← hh₄]; exact Heap.get?_push_of_some _ (hs₃.extBut b o hbe (hs₂.extBut b o hbe (hs₁.extBut b o hbi hb)))
  have hit₄ : h₄.IsTupleIter it l (i + 1) := by
    rw [← hh₄]; obtain ⟨o, ho, r⟩ := (hit₁.extBut hs₂.extBut (Ne.symm hne)).extBut hs₃.extBut (Ne.symm hne); exact ⟨o, Heap.get?_push_of_some _ ho, r⟩
  show wpAny _ _ (Builtin.SmallTypes.ownedTupleIsFree (.ref e) >>= _) _ _ ⟨h₄, g, d, tk + 1, os⟩
  rw [hsz]
  refine wpAny_bind ?_
  unfold Builtin.SmallTypes.ownedTupleIsFree
  refine wpAny_bind (wpAny_field he₄ rfl (x := .none) rfl (wpAny_pure ?_))
  simp only [if_true]
  refine wpAny_bind (wpAny_rule ?_)
  refine wpAny_bind (wpAny_field he₄ rfl (x := old) rfl ?_)
  refine wpAny_bind (wpAny_setField_rec he₄ (by simp) fun h₅ he₅ hs₅ => ?_)
  replace hs₅ : Heap.SameBut e h₄ h₅ := hs₅
  replace he₅ : h₅.get? e = some (enumObj it ((i : Int) + 1) x) := he₅
  show wpAny _ _ (Builtin.SmallTypes.ownedTupleHandOut (.ref e) (.ref hp.objs.size) >>= _) _ _ ⟨h₅, g, d, tk + 1, os⟩
  refine wpAny_bind ?_
  unfold Builtin.SmallTypes.ownedTupleHandOut
  refine wpAny_bind (wpAny_setField_rec he₅ (by simp) fun h₆ he₆ hs₆ => ?_)
  replace hs₆ : Heap.SameBut e h₅ h₆ := hs₆
  replace he₆ : h₆.get? e = some (enumOut it ((i : Int) + 1) x hp.objs.size) := he₆
  refine wpAny_setField_rec he₆ (by simp) fun h₇ he₇ hs₇ => ?_
  replace hs₇ : Heap.SameBut e h₆ h₇ := hs₇
  replace he₇ : h₇.get? e = some (enumOut it ((i : Int) + 1) x hp.objs.size) := he₇
  refine wpAny_bind (wpAny_letGo (wpAny_pure ⟨_, rfl, wpAny_pure (hQ h₇ he₇ ?_ ?_ ?_)⟩))
  · exact ((hit₄.extBut hs₅.extBut (Ne.symm hne)).extBut hs₆.extBut (Ne.symm hne)).extBut hs₇.extBut (Ne.symm hne)
  · exact hs₇.extBut _ _ (Nat.ne_of_gt hel) (hs₆.extBut _ _ (Nat.ne_of_gt hel) (hs₅.extBut _ _ (Nat.ne_of_gt hel) ht₄))
  · exact fun b o hbe hbi hb => hs₇.extBut b o hbe (hs₆.extBut b o hbe (hs₅.extBut b o hbe (hk₄ b o hbe hbi hb)))

theorem nextOf_tup_end {it t : Addr} {i : Nat} {items} {Q : Value → Shared → Prop} (hh : A.handled = none)
    (hit : s.heap.IsTupleIter it t i) (ht : s.heap.IsTuple t items) (hx : items[i]? = none)
    (hE : ∀ h' e, Heap.ExtBut it s.heap h' → (∃ o, h'.get? e = some o ∧ o.cls = .type "StopIteration") → E (.ref e) { s with heap := h' }) :
    wpAny (model prog w) A (Builtin.SmallTypes.nextOf (.ref it)) Q E s := by
  obtain ⟨o, ho, hc, hd⟩ := id hit
  obtain ⟨ol, hol, _, nl, hdl⟩ := ht
  unfold Builtin.SmallTypes.nextOf
  refine wpAny_bind (wpAny_callSpecial?_slot (name := Str.ofString "__next__") hit.typeIs F.slot_tuple_iterator_next
    (wpAny_call_entry F.slot_tuple_iterator_next hit.typeIs F.entry_tuple_iterator_next ?_ (F.args_tuple_iterator_next_1 _)))
  show wpAny _ _ (field (.ref it) 0 >>= _) _ _ s
  refine wpAny_bind (wpAny_field ho hd (x := .ref t) rfl ?_)
  show wpAny _ _ (if (Value.ref t == Value.none) = true then _ else _) _ _ s
  rw [if_neg (show ¬ ((Value.ref t == Value.none) = true) from Bool.false_ne_true)]
  show wpAny _ _ (field (.ref it) 1 >>= _) _ _ s
  refine wpAny_bind (wpAny_field ho hd (x := .int i 0) rfl ?_)
  show wpAny _ _ (seqItems? (.ref t) >>= _) _ _ s
  refine wpAny_bind (wpAny_seqItems hol hdl ?_)
  simp only [Int.toNat_natCast, hx]
  refine wpAny_bind (wpAny_rule (wpAny_bind (wpAny_setField ho hd (by simp) ?_)))
  show wpAny _ _ (newExc (.type "StopIteration") [] >>= _) _ _ _
  refine wpAny_bind ?_
  simp only [newExc, newTuple]
  refine wpAny_bind (wpAny_newObj_type ?_ (by size_fits))
  refine wpAny_bind (m := firstArgMember _ _) (wpAny_of_eq (a := Value.none) (by first | rfl | (simp only [firstArgMember]; rfl)) ?_)
  refine wpAny_newObj_type ?_ (by size_fits)
  simp only [raiseNew]
  refine wpAny_bind (wpAny_handled ?_)
  rw [show A.in1.handled = none from hh]
  refine wpAny_bind (wpAny_pure (wpAny_throw ?_))
  exact hE _ _ (((Heap.SameBut.update ..).extBut.push _).push _) ⟨_, Heap.get?_push_size _ rfl, rfl⟩

theorem next_enum_end {e it l : Addr} {i : Nat} {items : Array Value} {old : Value} {Q : Option Value → Shared → Prop} (hh : A.handled = none)
    (he : s.heap.get? e = some (enumObj it i old)) (hit : s.heap.IsTupleIter it l i) (hl : s.heap.IsTuple l items) (hx : items[i]? = none)
    (hQ : ∀ h', Heap.ExtBut it s.heap h' → Q none { s with heap := h' }) : wpAny (model prog w) A (pyNext (.ref e)) Q E s := by
  have hT : s.TypeIs (.ref e) "enumerate" := ⟨_, he, rfl⟩
  unfold pyNext
  refine wpAny_bind (wpAny_attempt (wpAny_callSpecial?_slot (name := Str.ofString "__next__") hT F.slot_enumerate_next
    (wpAny_call_entry F.slot_enumerate_next hT F.entry_enumerate_next ?_ (F.args_enumerate_next_1 _))))
  show wpAny _ _ (field (.ref e) 2 >>= _) _ _ _
  refine wpAny_bind (wpAny_field he rfl (x := .ref it) rfl ?_)
  refine wpAny_bind (nextOf_tup_end hh hit hl hx fun h' x he' hx' => ?_)
  obtain ⟨o, ho, hc⟩ := hx'
  refine wpAny_bind (wpAny_isInstance (T := "StopIteration") (b := true) ⟨o, ho, hc⟩ isSubtype_stop ?_)
  exact wpAny_pure (hQ _ he')
end

section
variable {prog : Program} {w : World} {A : Around} {s : Shared} {env : Env} {h₀ : Heap} {m : Str → Option Value} {rest : List (Addr × Obj)}

/-- two names from a tuple -/
theorem assign_two {E : Value → Shared → Prop} {x y : Str} {p₁ p₂ p₃ : Pos} {k : Nat} {t : Addr} {v₁ v₂ : Value} {news : List (Addr × Obj)} {Q : Unit → Shared → Prop} (hh : A.handled = none)
    (hkx : env.kindOf x = some .local) (hky : env.kindOf y = some .local) (hp : (env.scope.kind == .class || (env.scope.kind == .module && env.locals != env.globals)) = false)
    (Fm : Fr h₀ env.locals s.heap m) (N : News h₀ env.locals s.heap news) (ht : s.heap.IsTuple t #[v₁, v₂])
    (h : ∀ h', Fr h₀ env.locals h' (fun z => if z = y then some v₂ else if z = x then some v₁ else m z) → News h₀ env.locals h' news → Q () { s with heap := h', toks := s.toks + 2 }) :
    wpAny (model prog w) A (assign (.Tuple [.Name x p₁, .Name y p₂] k p₃) env (.ref t)) Q E s := by
  refine wpAny_assign_Tuple hh ht rfl rfl fun h₃ hx₃ => ?_
  have K : ∀ b o, s.heap.get? b = some o → h₃.get? b = some o := fun b o e => hx₃ b o (Nat.ne_of_lt (Heap.lt_size e)) e
  obtain ⟨F₃, N₃⟩ := led_ext Fm N K
  show wpAny _ A (do holding [v₂] (assign (.Name x p₁) env v₁); do holding [] (assign (.Name y p₂) env v₂); pure ()) _ _ _
  refine wpAny_bind (wpAny_holding (wpAny_assign_Name (wpAny_storeName_local hkx F₃.ns (fun h₄ hn₄ hs₄ => ?_) hp)))
  refine wpAny_bind (wpAny_holding (wpAny_assign_Name (wpAny_storeName_local hky hn₄ (fun h₅ hn₅ hs₅ => wpAny_pure ?_) hp)))
  exact h h₅ ((F₃.set hn₄ hs₄).set hn₅ hs₅) ((N₃.set hs₄).set hs₅)

theorem forEnum_turn {R : Result → Shared → Prop} {xi xv : Str} {pi pv pt : Pos} {x1 : Nat} {body orelse : List Stmt} {e it l : Addr} {items : Array Value} {i : Nat} {old : Value} {o : Obj}
    (hh : A.handled = none) (hxi : env.kindOf xi = some .local) (hxv : env.kindOf xv = some .local)
    (hp : (env.scope.kind == .class || (env.scope.kind == .module && env.locals != env.globals)) = false)
    (Fm : Fr h₀ env.locals s.heap m) (N : News h₀ env.locals s.heap ((e, enumObj it i old) :: (it, o) :: rest)) (hei : e ≠ it) (hr : ∀ p ∈ rest, p.1 ≠ e ∧ p.1 ≠ it) (hT : TI o l i) (hl : h₀.IsTuple l items)
    (item : ∀ x, items[i]? = some x → ∀ h' tk tki o', TI o' l (i + 1) → Fr h₀ env.locals h' (fun z => if z = xv then some x else if z = xi then some (.int i tki) else m z) →
      News h₀ env.locals h' ((e, enumObj it ((i + 1 : Nat) : Int) x) :: (it, o') :: rest) →
      wpAny (model prog w) A (execs body env) (fun f s₃ => match f with
          | .next | .cont => codeAny (model prog w) A (.forLoop (.Tuple [.Name xi pi, .Name xv pv] x1 pt) (.ref e) body orelse env) R s₃
          | .brk => R (.ok .next) s₃
          | .ret v => R (.ok (.ret v)) s₃) NoE { s with heap := h', toks := tk })
    (fin : items[i]? = none → ∀ h' tk, Fr h₀ env.locals h' m → News h₀ env.locals h' rest → wpAny (model prog w) A (execs orelse env) (fun f s₃ => R (.ok f) s₃) NoE { s with heap := h', toks := tk }) :
    codeAny (model prog w) A (.forLoop (.Tuple [.Name xi pi, .Name xv pv] x1 pt) (.ref e) body orelse env) R s := by
  have he := N _ (.head _)
  have hi := N _ (.tail _ (.head _))
  have hit : s.heap.IsTupleIter it l i := ⟨o, hi.1, hT⟩
  have hl' : s.heap.IsTuple l items := let ⟨o, a, r⟩ := hl; ⟨o, Fm.keep _ _ a, r⟩
  have hsz := Heap.lt_size he.1
  refine for_turn ?_
  cases hx : items[i]? with
  | none =>
    refine next_enum_end hh he.1 hit hl' hx fun h' hs => ?_
    have := led_set Fm (fun p hp => N p (.tail _ hp) : News h₀ env.locals s.heap ((it, o) :: rest)) (fun p hp => (hr p hp).2) (h' := h') (o' := o) hs
    refine fin hx h' _ ⟨Fm.ns.extBut hs (Ne.symm hi.2.1), fun b ob eb => hs b ob (fun q => ?_) (Fm.keep b ob eb), Fm.above⟩ fun p hp => ?_
    · rw [q, hi.2.2] at eb; cases eb
    · have := N p (.tail _ (.tail _ hp))
      exact ⟨hs _ _ (hr p hp).2 this.1, this.2⟩
  | some x =>
    refine next_enum he.1 hit hl' hx hei fun h₁ he₁ hit₁ ht₁ hk₁ => ?_
    have hlt : e < s.heap.objs.size := hsz
    refine wpAny_letOwnedTupleGo_enum (item := x) (i := (i : Int) + 1) he₁ fun h₂ he₂ hs₂ => ?_
    replace hs₂ : Heap.SameBut e h₁ h₂ := hs₂
    have ht₂ : h₂.IsTuple s.heap.objs.size #[.int i s.toks, x] := ⟨_, (hs₂.2 _ (Nat.ne_of_gt hlt)).trans ht₁, rfl, _, rfl⟩
    obtain ⟨o', ho', hT'⟩ := hit₁
    have ho₂ : h₂.get? it = some o' := (hs₂.2 it (Ne.symm hei)).trans ho'
    have K : ∀ b ob, b ≠ e → b ≠ it → s.heap.get? b = some ob → h₂.get? b = some ob := fun b ob h1 h2 eb => hs₂.extBut b ob h1 (hk₁ b ob h1 h2 eb)
    have F₂ : Fr h₀ env.locals h₂ m := by
      obtain ⟨oL, es, ep, hL, r⟩ := Fm.ns
      refine ⟨⟨oL, es, ep, K _ _ (Ne.symm he.2.1) (Ne.symm hi.2.1) hL, r⟩, fun b ob eb => K b ob (fun q => ?_) (fun q => ?_) (Fm.keep b ob eb), Fm.above⟩
      · rw [q, he.2.2] at eb; cases eb
      · rw [q, hi.2.2] at eb; cases eb
    have N₂ : News h₀ env.locals h₂ ((e, enumObj it ((i + 1 : Nat) : Int) x) :: (it, o') :: rest) := fun p hp => by
      rcases List.mem_cons.mp hp with rfl | hp
      · refine ⟨?_, he.2⟩
        have : ((i + 1 : Nat) : Int) = (i : Int) + 1 := by push_cast; rfl
        rw [this]; exact he₂
      · rcases List.mem_cons.mp hp with rfl | hp
        · exact ⟨ho₂, hi.2⟩
        · have q := N p (.tail _ (.tail _ hp))
          have l1 := hr p hp
          exact ⟨K _ _ l1.1 l1.2 q.1, q.2⟩
    refine assign_two hh hxi hxv hp F₂ N₂ ht₂ fun h₃ F₃ N₃ => ?_
    exact item x hx h₃ _ s.toks o' hT' F₃ N₃

theorem letOwned_tup {elts : List Expr} {x1 : Nat} {pos : Pos} {it a l : Addr} {i : Nat} {o : Obj} {Q : Unit → Shared → Prop} (ho : s.heap.get? it = some o) (hT : TI o l i) (h : Q () s) :
    wpAny (model prog w) A (letOwnedTupleGo (.Tuple elts x1 pos) (.ref it) (.ref a)) Q NoE s := by
  obtain ⟨c, d, dt, sl⟩ := o
  obtain ⟨hc, hd⟩ := hT
  replace hc : c = .type "tuple_iterator" := hc
  replace hd : dt = .fields #[.ref l, .int i 0] := hd
  subst hc hd
  unfold letOwnedTupleGo
  refine wpAny_bind (wpAny_load ho ?_)
  show wpAny _ A (if (["enumerate", "zip", "dict_itemiterator", "dict_reverseitemiterator", "odict_iterator", "itertools.zip_longest", "itertools.pairwise"].contains "tuple_iterator" && _) = true then _ else _) Q NoE s
  rw [if_neg (by simp)]
  exact wpAny_pure h

theorem forTup2_turn {R : Result → Shared → Prop} {xi xv : Str} {pi pv pt : Pos} {x1 : Nat} {body orelse : List Stmt} {it l : Addr} {items : Array Value} {i : Nat} {o : Obj}
    (hh : A.handled = none) (hxi : env.kindOf xi = some .local) (hxv : env.kindOf xv = some .local)
    (hp : (env.scope.kind == .class || (env.scope.kind == .module && env.locals != env.globals)) = false)
    (Fm : Fr h₀ env.locals s.heap m) (N : News h₀ env.locals s.heap ((it, o) :: rest)) (hr : ∀ p ∈ rest, p.1 ≠ it) (hT : TI o l i) (hl : h₀.IsTuple l items)
    (item : ∀ x, items[i]? = some x → ∃ a v₁ v₂, x = .ref a ∧ h₀.IsTuple a #[v₁, v₂] ∧ ∀ h' tk o', TI o' l (i + 1) → Fr h₀ env.locals h' (fun z => if z = xv then some v₂ else if z = xi then some v₁ else m z) →
      News h₀ env.locals h' ((it, o') :: rest) →
      wpAny (model prog w) A (execs body env) (fun f s₃ => match f with
          | .next | .cont => codeAny (model prog w) A (.forLoop (.Tuple [.Name xi pi, .Name xv pv] x1 pt) (.ref it) body orelse env) R s₃
          | .brk => R (.ok .next) s₃
          | .ret v => R (.ok (.ret v)) s₃) NoE { s with heap := h', toks := tk })
    (fin : items[i]? = none → ∀ h' tk, Fr h₀ env.locals h' m → News h₀ env.locals h' rest → wpAny (model prog w) A (execs orelse env) (fun f s₃ => R (.ok f) s₃) NoE { s with heap := h', toks := tk }) :
    codeAny (model prog w) A (.forLoop (.Tuple [.Name xi pi, .Name xv pv] x1 pt) (.ref it) body orelse env) R s := by
  have hi := N _ (.head _)
  have hit : s.heap.IsTupleIter it l i := ⟨o, hi.1, hT⟩
  have hl' : s.heap.IsTuple l items := let ⟨o, a, r⟩ := hl; ⟨o, Fm.keep _ _ a, r⟩
  refine for_turn ?_
  cases hx : items[i]? with
  | none =>
    refine wpAny_pyNext_tuple_end hh hit hl' hx fun h' hs => ?_
    refine fin hx h' _ ⟨Fm.ns.extBut hs (Ne.symm hi.2.1), fun b ob eb => hs b ob (fun q => ?_) (Fm.keep b ob eb), Fm.above⟩ fun p hp => ?_
    · rw [q, hi.2.2] at eb; cases eb
    · have := N p (.tail _ hp)
      exact ⟨hs _ _ (hr p hp) this.1, this.2⟩
  | some x =>
    refine wpAny_pyNext_tuple_item hit hl' hx fun h₁ hit₁ hs₁ => ?_
    obtain ⟨a, v₁, v₂, rfl, ha, go⟩ := item x hx
    obtain ⟨o', ho', hT'⟩ := hit₁
    obtain ⟨F₁, N₁⟩ := led_set Fm N hr (Heap.SameBut.extBut hs₁) ho'
    refine letOwned_tup (N₁ _ (.head _)).1 hT' ?_
    refine assign_two hh hxi hxv hp F₁ N₁ (let ⟨o, b, r⟩ := ha; ⟨o, F₁.keep _ _ b, r⟩) fun h₃ F₃ N₃ => ?_
    exact go h₃ _ o' hT' F₃ N₃

theorem iter_tup {E : Value → Shared → Prop} {M : Str → Option Value} {L t : Addr} {items : Array Value} {news : List (Addr × Obj)} {Q : Value → Shared → Prop} (Fm : Fr h₀ L s.heap M) (N : News h₀ L s.heap news) (hl : h₀.IsTuple t items)
    (h : ∀ h' it, Fr h₀ L h' M → News h₀ L h' ((it, tupIt t 0) :: news) → (∀ p ∈ news, p.1 < it) → Q (.ref it) { s with heap := h' }) : wpAny (model prog w) A (pyIter (.ref t)) Q E s := by
  refine wpAny_pyIter_tuple (let ⟨o, a, r⟩ := hl; ⟨o, Fm.keep _ _ a, r⟩ : s.heap.IsTuple t items) ?_
  have K : ∀ b o, s.heap.get? b = some o → (s.heap.push (tupIt t 0)).get? b = some o := fun b o e => Heap.get?_push_of_some _ e
  obtain ⟨F', N'⟩ := led_ext Fm N K
  exact h _ _ F' (led_new Fm N' (Nat.le_refl _) (Heap.get?_push_size _ rfl)) (led_lt N (Nat.le_refl _))

/-- what a turn of a loop by an invariant hands on -/
def LP (h₀ : Heap) (L : Addr) (s : Shared) (its : List (Addr × Obj)) (off : List Addr) (R : Result → Shared → Prop) (Jn : (Str → Option Value) → List (Addr × Obj) → Prop) (f : Flow) (s₃ : Shared) : Prop :=
  match f with
  | .next | .cont => ∃ h' tk m' rest', s₃ = { s with heap := h', toks := tk } ∧ Fr h₀ L h' m' ∧ News h₀ L h' (its ++ rest') ∧ (∀ p ∈ rest', p.1 ∉ off) ∧ Jn m' rest'
  | .brk => R (.ok .next) s₃
  | .ret v => R (.ok (.ret v)) s₃

theorem forEnum_ind {R : Result → Shared → Prop} {xi xv : Str} {pi pv pt : Pos} {x1 : Nat} {body orelse : List Stmt} {e it l : Addr} {items : Array Value}
    (J : Nat → (Str → Option Value) → List (Addr × Obj) → Prop)
    (hh : A.handled = none) (hxi : env.kindOf xi = some .local) (hxv : env.kindOf xv = some .local)
    (hp : (env.scope.kind == .class || (env.scope.kind == .module && env.locals != env.globals)) = false) (hei : e ≠ it) (hl : h₀.IsTuple l items)
    (step : ∀ i x m rest h' tk tki o', items[i]? = some x → J i m rest → (∀ p ∈ rest, p.1 ∉ [e, it]) → Fr h₀ env.locals h' (fun z => if z = xv then some x else if z = xi then some (.int i tki) else m z) →
      News h₀ env.locals h' ((e, enumObj it ((i + 1 : Nat) : Int) x) :: (it, o') :: rest) →
      wpAny (model prog w) A (execs body env) (LP h₀ env.locals s [(e, enumObj it ((i + 1 : Nat) : Int) x), (it, o')] [e, it] R (J (i + 1))) NoE { s with heap := h', toks := tk })
    (fin : ∀ m rest h' tk, J items.size m rest → (∀ p ∈ rest, p.1 ∉ [e, it]) → Fr h₀ env.locals h' m → News h₀ env.locals h' rest → wpAny (model prog w) A (execs orelse env) (fun f s₃ => R (.ok f) s₃) NoE { s with heap := h', toks := tk }) :
    ∀ (n i : Nat) (h' : Heap) (tk : Nat) (m : Str → Option Value) (rest : List (Addr × Obj)) (old : Value) (o : Obj), items.size - i = n → i ≤ items.size → J i m rest → (∀ p ∈ rest, p.1 ∉ [e, it]) → TI o l i → Fr h₀ env.locals h' m →
      News h₀ env.locals h' ((e, enumObj it i old) :: (it, o) :: rest) →
      codeAny (model prog w) A (.forLoop (.Tuple [.Name xi pi, .Name xv pv] x1 pt) (.ref e) body orelse env) R { s with heap := h', toks := tk } := by
  intro n
  induction n with
  | zero =>
    intro i h' tk m rest old o hn hi hJ hr hT Fm N
    have hi' : i = items.size := by omega
    subst hi'
    refine forEnum_turn hh hxi hxv hp Fm N hei (fun p hp => by simpa using hr p hp) hT hl (fun x hx => ?_) fun _ h₁ tk₁ F₁ N₁ => fin m rest h₁ tk₁ hJ hr F₁ N₁
    simp at hx
  | succ n ih =>
    intro i h' tk m rest old o hn hi hJ hr hT Fm N
    refine forEnum_turn hh hxi hxv hp Fm N hei (fun p hp => by simpa using hr p hp) hT hl (fun x hx h₁ tk₁ tki o' hT' F₁ N₁ => ?_) fun hx => ?_
    · refine wpAny_mono (step i x m rest h₁ tk₁ tki o' hx hJ hr F₁ N₁) (fun f s₃ y => ?_) fun _ _ y => y
      have fin' : ∀ s₃, LP h₀ env.locals s [(e, enumObj it ((i + 1 : Nat) : Int) x), (it, o')] [e, it] R (J (i + 1)) .next s₃ → codeAny (model prog w) A (.forLoop (.Tuple [.Name xi pi, .Name xv pv] x1 pt) (.ref e) body orelse env) R s₃ := by
        rintro s₃ ⟨h₂, tk₂, m₂, rest₂, rfl, F₂, N₂, hr₂, hJ₂⟩
        exact ih (i + 1) h₂ tk₂ m₂ rest₂ x o' (by omega) (by omega) hJ₂ hr₂ hT' F₂ N₂
      cases f with
      | next => exact fin' _ y
      | cont => exact fin' _ y
      | brk => exact y
      | ret v => exact y
    · exfalso
      have : items.size ≤ i := by simpa using hx
      omega

theorem forTup2_ind {R : Result → Shared → Prop} {xi xv : Str} {pi pv pt : Pos} {x1 : Nat} {body orelse : List Stmt} {it l : Addr} {items : Array Value}
    (J : Nat → (Str → Option Value) → List (Addr × Obj) → Prop) (P : Nat → Value → Value → Prop)
    (hh : A.handled = none) (hxi : env.kindOf xi = some .local) (hxv : env.kindOf xv = some .local)
    (hp : (env.scope.kind == .class || (env.scope.kind == .module && env.locals != env.globals)) = false) (hl : h₀.IsTuple l items)
    (hrow : ∀ (i : Nat) (x : Value), items[i]? = some x → ∃ a v₁ v₂, x = .ref a ∧ h₀.IsTuple a #[v₁, v₂] ∧ P i v₁ v₂)
    (step : ∀ (i : Nat) (v₁ v₂ : Value) m rest h' tk o', i < items.size → P i v₁ v₂ → J i m rest → (∀ p ∈ rest, p.1 ∉ [it]) → Fr h₀ env.locals h' (fun z => if z = xv then some v₂ else if z = xi then some v₁ else m z) →
      News h₀ env.locals h' ((it, o') :: rest) →
      wpAny (model prog w) A (execs body env) (LP h₀ env.locals s [(it, o')] [it] R (J (i + 1))) NoE { s with heap := h', toks := tk })
    (fin : ∀ m rest h' tk, J items.size m rest → (∀ p ∈ rest, p.1 ∉ [it]) → Fr h₀ env.locals h' m → News h₀ env.locals h' rest → wpAny (model prog w) A (execs orelse env) (fun f s₃ => R (.ok f) s₃) NoE { s with heap := h', toks := tk }) :
    ∀ (n i : Nat) (h' : Heap) (tk : Nat) (m : Str → Option Value) (rest : List (Addr × Obj)) (o : Obj), items.size - i = n → i ≤ items.size → J i m rest → (∀ p ∈ rest, p.1 ∉ [it]) → TI o l i → Fr h₀ env.locals h' m →
      News h₀ env.locals h' ((it, o) :: rest) →
      codeAny (model prog w) A (.forLoop (.Tuple [.Name xi pi, .Name xv pv] x1 pt) (.ref it) body orelse env) R { s with heap := h', toks := tk } := by
  intro n
  induction n with
  | zero =>
    intro i h' tk m rest o hn hi hJ hr hT Fm N
    have hi' : i = items.size := by omega
    subst hi'
    refine forTup2_turn hh hxi hxv hp Fm N (fun p hp => by simpa using hr p hp) hT hl (fun x hx => ?_) fun _ h₁ tk₁ F₁ N₁ => fin m rest h₁ tk₁ hJ hr F₁ N₁
    simp at hx
  | succ n ih =>
    intro i h' tk m rest o hn hi hJ hr hT Fm N
    refine forTup2_turn hh hxi hxv hp Fm N (fun p hp => by simpa using hr p hp) hT hl (fun x hx => ?_) fun hx => ?_
    · obtain ⟨a, v₁, v₂, rfl, ha, hP⟩ := hrow i x hx
      refine ⟨a, v₁, v₂, rfl, ha, fun h₁ tk₁ o' hT' F₁ N₁ => ?_⟩
      refine wpAny_mono (step i v₁ v₂ m rest h₁ tk₁ o' (by omega) hP hJ hr F₁ N₁) (fun f s₃ y => ?_) fun _ _ y => y
      have fin' : ∀ s₃, LP h₀ env.locals s [(it, o')] [it] R (J (i + 1)) .next s₃ → codeAny (model prog w) A (.forLoop (.Tuple [.Name xi pi, .Name xv pv] x1 pt) (.ref it) body orelse env) R s₃ := by
        rintro s₃ ⟨h₂, tk₂, m₂, rest₂, rfl, F₂, N₂, hr₂, hJ₂⟩
        exact ih (i + 1) h₂ tk₂ m₂ rest₂ o' (by omega) (by omega) hJ₂ hr₂ hT' F₂ N₂
      cases f with
      | next => exact fin' _ y
      | cont => exact fin' _ y
      | brk => exact y
      | ret v => exact y
    · exfalso
      have : items.size ≤ i := by simpa using hx
      omega
end
end Mine
end
section
open PySem PySem.W PyProof.Rows PySem.Calls
namespace Mine
set_option maxRecDepth 100000
set_option maxHeartbeats 1000000

theorem among_snoc {pos : Pos} {line col : Nat} {c : Value} (l : List Value) (h : TriplesOk l) :
    codeAmong pos (l ++ [rawInt line, rawInt col, c]) = (codeAmong pos l).or (if (line : Int) == pos.line && (col : Int) == pos.col then some c else none) := by
  fun_induction TriplesOk l with
  | case1 => simp [codeAmong, rawInt]
  | case2 a b c d e rest ih =>
    simp only [List.cons_append, codeAmong]
    split
    · rfl
    · exact ih h
  | case3 l h1 h2 => exact h.elim
theorem triples_snoc {line col : Nat} {c : Value} (l : List Value) (h : TriplesOk l) : TriplesOk (l ++ [rawInt line, rawInt col, c]) := by
  fun_induction TriplesOk l with
  | case1 => simp [TriplesOk, rawInt]
  | case2 a b c d e rest ih =>
    simp only [List.cons_append, TriplesOk]
    exact ih h
  | case3 l h1 h2 => exact h.elim
theorem GoodT.mono {codes codes' : List (Addr × Obj)} {q : Nat → Str} {t : Array Value} (G : GoodT codes q t) (hs : ∀ p ∈ codes, p ∈ codes') : GoodT codes' q t :=
  ⟨G.1, fun pos v e => let ⟨c, oc, vs, tk, a, b, r⟩ := G.2 pos v e; ⟨c, oc, vs, tk, a, hs _ b, r⟩⟩
theorem updF_same {d : Addr} {o : Obj} {l : List (Addr × Obj)} {g : Obj → List (Addr × Obj)} (U : UpdF d o l g) : g o = l := by
  obtain ⟨pre, post, e1, e2, _, _⟩ := U.split
  rw [e2, e1]
theorem updF_mem {d : Addr} {o : Obj} {l : List (Addr × Obj)} {g : Obj → List (Addr × Obj)} (U : UpdF d o l g) : (d, o) ∈ l := by
  obtain ⟨pre, post, e1, e2, _, _⟩ := U.split
  rw [e1]; exact List.mem_append_right _ (.head _)

section
variable {M : Model} {A : Around} {E : Value → Shared → Prop} {s : Shared} {h₀ : Heap} {L a c P : Addr} {m mg mb : Str → Option Value} {cn : Str} {cs : Scope} {ccd : Value} {cl : List (Str × Addr)} {news : List (Addr × Obj)} {g : Obj → List (Addr × Obj)}
  {p : Program} {loose : List Str} {mean : ExcName → Option Value} {name qual : Str} {params : Arguments} {body : List Stmt} {scope : Scope} {ps : Array Value} {pos : Pos} {firstLine : Nat} {clos : List (Str × Addr)} {codes : List (Addr × Obj)} {q : Nat → Str}

theorem nest_any {Q : Value → Shared → Prop} (F : Fr h₀ L s.heap m) (N : News h₀ L s.heap news) (T : Top p loose mean mg mb h₀) (C : CodeHd h₀ c P) (hcd : ccd = .ref c) (U : UpdF P (tabObj ps) news g)
    (G : GoodT codes q ps) (hcod : ∀ p ∈ codes, p ∈ news) (hcodP : ∀ p ∈ codes, p.1 ≠ P) (hq : qual = q pos.line) (hcl : closureFor scope (envX cn cs L a ccd cl) = pure clos)
    (h : ∀ f c' oc vs t ctv doc h' tk ps' codes', Fr h₀ L h' m → News h₀ L h' ((f, fnMade name qual params body scope clos doc ((mg "__name__").getD .none) c' ctv) :: g (tabObj ps')) → News h₀ L h' codes' → GoodT codes' q ps' →
      (c', oc) ∈ codes' → oc.data = .fields vs → vs[1]? = some (.str qual t) → (∀ p ∈ codes, p ∈ codes') → (∀ p ∈ codes', p ∈ codes ∨ ∀ r ∈ news, r.1 < p.1) → (∀ r ∈ news, r.1 < f) → (∀ r ∈ codes', r.1 < f) → Q (.ref f) { s with heap := h', toks := tk }) :
    wpAny M A (makeFunction name qual params (.stmts body) scope (envX cn cs L a ccd cl) [] [] [] pos firstLine) Q E s := by
  cases hf : codeAmong pos ps.toList with
  | none =>
    refine nest_K F N T C hcd U G.1 hf hcl fun f c' oc vs t ctv doc h' tk F' N' hd hv hlt hlf => ?_
    have Nc : News h₀ L h' codes := fun r hr => by
      have h1 := hcod r hr
      obtain ⟨pre, post, e1, e2, _, _⟩ := U.split
      refine N' r (.tail _ (.tail _ ?_))
      rw [e2]
      rw [e1] at h1
      rcases List.mem_append.mp h1 with h1 | h1
      · exact List.mem_append_left _ h1
      · rcases List.mem_cons.mp h1 with rfl | h1
        · exact absurd rfl (hcodP _ hr)
        · exact List.mem_append_right _ (.tail _ h1)
    refine h f c' oc vs t ctv doc h' tk (ps ++ #[rawInt pos.line, rawInt pos.col, .ref c']) ((c', oc) :: codes) F' (fun r hr => ?_) (fun r hr => ?_) ⟨?_, fun pos' v e => ?_⟩ (.head _) hd hv (fun r hr => .tail _ hr) (fun r hr => ?_) (fun r hr => Nat.lt_trans (hlt r hr) hlf) (fun r hr => ?_)
    · rcases List.mem_cons.mp hr with rfl | hr
      · exact N' _ (.head _)
      · exact N' _ (.tail _ (.tail _ hr))
    · rcases List.mem_cons.mp hr with rfl | hr
      · exact N' _ (.tail _ (.head _))
      · exact Nc r hr
    · rw [Array.toList_append]; exact triples_snoc _ G.1
    · rw [Array.toList_append] at e
      have e' := (among_snoc (pos := pos') (line := pos.line) (col := pos.col) (c := .ref c') ps.toList G.1).symm.trans e
      cases hp : codeAmong pos' ps.toList with
      | some v' =>
        rw [hp] at e'
        have e2 : v' = v := Option.some.inj e'
        subst e2
        obtain ⟨c₂, oc₂, vs₂, tk₂, a1, a2, a3⟩ := G.2 pos' v' hp
        exact ⟨c₂, oc₂, vs₂, tk₂, a1, .tail _ a2, a3⟩
      | none =>
        rw [hp, Option.none_or] at e'
        split at e'
        · rename_i hl
          obtain rfl := Option.some.inj e'
          simp only [Bool.and_eq_true, beq_iff_eq] at hl
          have hline : pos.line = pos'.line := by exact_mod_cast hl.1
          exact ⟨c', oc, vs, t, rfl, .head _, hd, by rw [← hline, ← hq]; exact hv⟩
        · cases e'
    · rcases List.mem_cons.mp hr with rfl | hr
      · exact .inr hlt
      · exact .inl hr
    · rcases List.mem_cons.mp hr with rfl | hr
      · exact hlf
      · exact Nat.lt_trans (hlt r (hcod r hr)) hlf
  | some v =>
    obtain ⟨c', oc, vs, tk₀, rfl, hm, hd, hv⟩ := G.2 pos v hf
    refine nestHit_K F N T C hcd (updF_mem U) G.1 hf hcl fun f ctv doc h' tk F' N' hlt => ?_
    refine h f c' oc vs tk₀ ctv doc h' tk ps codes F' (by rw [updF_same U]; exact N') (fun r hr => N' r (.tail _ (hcod r hr))) G hm hd (by rw [hq]; exact hv) (fun _ x => x) (fun _ x => .inl x) hlt fun r hr => hlt r (hcod r hr)
end
end Mine
namespace Mine
theorem named_of {h₀ h : Heap} {L f : Addr} {o : Obj} {news : List (Addr × Obj)} (N : News h₀ L h ((f, o) :: news)) : ∃ fo, fo = o ∧ News h₀ L h ((f, fo) :: news) := ⟨o, rfl, N⟩
theorem rep_fold (v : Value) : ∀ (k : Nat) (acc : Array Value), List.foldl (fun x1 x2 => x1 ++ x2) acc (List.replicate k #[v]) = acc ++ (List.replicate k v).toArray
  | 0, acc => by simp
  | k + 1, acc => by
    rw [List.replicate_succ, List.foldl_cons, rep_fold v k, List.replicate_succ]
    apply Array.ext'
    simp
section
variable {prog : Program} {w : World} {A₀ A : Around} {s : Shared} {base h₀ : Heap} {outer : List Env} {L : Addr} {m : Str → Option Value} {env : Env} {tabs : List (Addr × Obj)} {K : Frag}
  {R : Result → Shared → Prop} {name qual : Str} {params : Arguments} {body : List Stmt} {scope : Scope} {cl : List (Str × Addr)} {dV kV doc pm cdv ct : Value} {fo : Obj} {an : Option Addr} {f : Addr} {args : Args} {binds : List (Str × Value)}
  {p : Program} {loose : List Str} {mean : ExcName → Option Value} {mg mb : Str → Option Value}
/-- a call of a def made in the call: its object lies in the heap at hand -/
theorem call_groundF (B : Below A₀ base outer h₀) (F : Fr h₀ L s.heap m) (X₀ : K.In h₀) (N : News h₀ L s.heap tabs) (T : Top p loose mean mg mb h₀) (hA : A.frames = some (env :: outer)) (hf : env.frame = some L) (hke : env.scope.kind = .function)
    (ho : s.heap.get? f = some fo) (hd : fo.data = .func (fnX name qual params body scope cl dV kV doc pm an cdv ct)) (hcd : s.heap.CodeRec cdv qual) (hroom : A.depth < recursionLimit)
    (hbind : BindsTo s (fnX name qual params body scope cl dV kV doc pm an cdv ct) args binds) (hloc : ∀ y ∈ binds, scope.names.lookup y.1 = some .local)
    (h : ∀ g L' h₁, StayT tabs s.heap g → L' = s.heap.objs.size → Fr g L' h₁ (fun y => binds.reverse.lookup y) → News g L' h₁ tabs → Below A base (env :: outer) g → K.In g → Top p loose mean mg mb g →
      wpAny (model prog w) (A.deeper (envX qual scope L' f cdv cl)) (execs body (envX qual scope L' f cdv cl))
        (fun fl s' => R (.ok (.ret (match fl with | .ret v => v | _ => .none))) s') NoE
        { s with heap := h₁, toks := s.toks + binds.length })
    (hco : scope.isCoroutine = false) (hgen : scope.isGenerator = false) (hk : scope.kind = .function)
    (hcell : ∀ x ∈ scope.names, x.2 ≠ .cell) : codeAny (model prog w) A (.call (.ref f) args) R s := by
  obtain ⟨FG, BG, st, lv⟩ := groundX (R := R) B F N hA hf hke
  refine codeAny_call_def (fd := fnX name qual params body scope cl dV kV doc pm an cdv ct) (body := body) (binds := binds) hroom ho hd (T.nolimit.keeps F.keep) hcd rfl hbind hcell hloc (fun h₁ hns hk₁ => ?_) hco hgen hk
  exact noE (h (hideAll s.heap (tabs.map (·.1))) s.heap.objs.size h₁ (fun b o hb e => hideAll_get _ e hb) rfl ⟨hns, fun b o e => hk₁ b o (of_hideAll _ e), Nat.le_of_eq (hideAll_size _ _)⟩
    (fun p hp => ⟨hk₁ _ _ (N p hp).1, Nat.ne_of_lt (Heap.lt_size (N p hp).1), hideAll_none _ (List.mem_map_of_mem hp)⟩) BG (X₀.keeps fun b o e => st b o e) (T.keeps fun b o e => st b o e))
end
section
variable {M : Model} {A : Around} {E : Value → Shared → Prop} {s : Shared} {h₀ : Heap} {L a : Addr} {m : Str → Option Value} {cn : Str} {cs : Scope} {ccd : Value} {cl : List (Str × Addr)}
  {x : Str} {pos : Pos} {v : Value} {Q : Value → Shared → Prop} {c : Addr} {o : Obj}
theorem nameX_G (F : Fr h₀ L s.heap m) (hc : cl.lookup x = some c) (ho : h₀.get? c = some o) (hd : o.data = .cell (some v)) (h : Q v s)
    (hk : cs.kind = .function := by rfl) (hx : (envX cn cs L a ccd cl).kindOf x = some .free := by rfl) (hb : (x == ("__debug__" : Str)) = false := by decide) (hn : (x == ("__classdict__" : Str)) = false := by decide) :
    wpAny M A (eval (.Name x pos) (envX cn cs L a ccd cl)) Q E s := wpAny_Name (wpAny_loadName_free hk hx hc ⟨o, F.keep _ _ ho, hd⟩ h hn) hb
end
end Mine
namespace Mine
section
variable {prog : Program} {w : World} {A : Around} {E : Value → Shared → Prop} {s : Shared} {h₀ : Heap} {L : Addr} {m : Str → Option Value} {news : List (Addr × Obj)}
theorem mul_one {l : Addr} {v : Value} {k : Nat} {x : Int} {u : Tok} {Q : Value → Shared → Prop}
    (Fm : Fr h₀ L s.heap m) (N : News h₀ L s.heap news) (hm : (l, PySem.W.listOf #[v] k) ∈ news) (hlo : 0 ≤ x) (hhi : x ≤ 1000)
    (h : ∀ l' h', Fr h₀ L h' m → News h₀ L h' ((l', PySem.W.listOf (List.replicate x.toNat v).toArray 0) :: news) → (∀ p ∈ news, p.1 < l') → Q (.ref l') { s with heap := h' }) :
    wpAny (model prog w) A (binaryOp .Mult (.ref l) (.int x u)) Q E s := by
  refine mul_list Fm N (N _ hm).1 (by omega) (by omega) (by simp; omega) fun h₁ F₁ N₁ => ?_
  rw [show (#[v] : Array Value).isEmpty = false from rfl, rep_fold] at N₁
  simp only [Bool.false_eq_true, if_false, Array.empty_append] at N₁
  exact h _ h₁ F₁ N₁ (led_lt N (Nat.le_refl _))
end
end Mine
namespace Mine
inductive SufOf (t : List (Addr × Obj)) : List (Addr × Obj) → (List (Addr × Obj) → List (Addr × Obj)) → Prop
  | base : SufOf t t fun x => x
  | cons {p : Addr × Obj} {l : List (Addr × Obj)} {f : List (Addr × Obj) → List (Addr × Obj)} : SufOf t l f → SufOf t (p :: l) fun x => p :: f x
theorem SufOf.swap {t t' news : List (Addr × Obj)} {f : List (Addr × Obj) → List (Addr × Obj)} (S : SufOf t news f) {h₀ h : Heap} {L : Addr} (N : News h₀ L h news) (Nt : News h₀ L h t') : News h₀ L h (f t') := by
  induction S with
  | base => exact Nt
  | cons _ ih =>
    intro q hq
    rcases List.mem_cons.mp hq with rfl | hq
    · exact N _ (.head _)
    · exact ih (fun r hr => N r (.tail _ hr)) q hq
theorem SufOf.mem {t news : List (Addr × Obj)} {f : List (Addr × Obj) → List (Addr × Obj)} (S : SufOf t news f) : ∀ p ∈ t, p ∈ news := by
  induction S with
  | base => exact fun _ h => h
  | cons _ ih => exact fun p hp => .tail _ (ih p hp)
end Mine
namespace Mine
section
variable {prog : Program} {w : World} {A₀ : Around} {s : Shared} {base h₀ : Heap} {outer : List Env} {L a₀ : Addr} {m : Str → Option Value} {tabs : List (Addr × Obj)} {K : Frag} {dp un : Nat} {gd : Option (List Code)} {cn : Str} {cs : Scope} {ccd : Value} {cl₀ : List (Str × Addr)}
  {Q E : Value → Shared → Prop} {name qual : Str} {params : Arguments} {body : List Stmt} {scope : Scope} {cl : List (Str × Addr)} {dV kV doc pm cdv ct : Value} {fo : Obj} {an : Option Addr} {f : Addr} {vs : List Value} {binds : List (Str × Value)}
  {p : Program} {loose : List Str} {mean : ExcName → Option Value} {mg mb : Str → Option Value}
theorem call_inner (B : Below A₀ base outer h₀) (F : Fr h₀ L s.heap m) (X₀ : K.In h₀) (N : News h₀ L s.heap tabs) (T : Top p loose mean mg mb h₀) (hke : cs.kind = .function)
    (ho : s.heap.get? f = some fo) (hd : fo.data = .func (fnX name qual params body scope cl dV kV doc pm an cdv ct)) (hcd : s.heap.CodeRec cdv qual) (hroom : dp < recursionLimit)
    (hbind : BindsTo s (fnX name qual params body scope cl dV kV doc pm an cdv ct) ⟨vs, []⟩ binds) (hloc : ∀ y ∈ binds, scope.names.lookup y.1 = some .local)
    (h : ∀ (A₁ : Around) (outer₁ : List Env) g L' h₁ tk, StayT tabs s.heap g → L' = s.heap.objs.size → Fr g L' h₁ (fun y => binds.reverse.lookup y) → News g L' h₁ tabs → Below A₁ base outer₁ g → K.In g → Top p loose mean mg mb g →
      wpAny (model prog w) (ktrTop (dp + 1) (un + 3) gd qual scope L' f cdv cl outer₁) (execs body (envX qual scope L' f cdv cl))
        (fun fl s' => Q (match fl with | .ret v => v | _ => .none) s') NoE
        { s with heap := h₁, toks := tk })
    (hco : scope.isCoroutine = false) (hgen : scope.isGenerator = false) (hk : scope.kind = .function)
    (hcell : ∀ x ∈ scope.names, x.2 ≠ .cell) : wpAny (model prog w) (ktrTop dp un gd cn cs L a₀ ccd cl₀ outer) (call (.ref f) vs) Q E s :=
  wpAny_call (call_groundF B F X₀ N T rfl rfl hke ho hd hcd hroom hbind hloc (fun g L' h₁ st e F' N' B' X' T' => h _ _ g L' h₁ _ st e F' N' B' X' T') hco hgen hk hcell)
end
end Mine
end
section
open PySem PySem.W PyProof.Rows PySem.Calls
namespace Mine
set_option maxRecDepth 100000
set_option maxHeartbeats 1000000
section
variable {prog : Program} {w : World} {A : Around} {s : Shared} {env : Env} {h₀ : Heap}
/-- a for loop over any iterator, one name, by an invariant -/
theorem forW_ind {R : Result → Shared → Prop} {xv : Str} {pv : Pos} {body orelse : List Stmt} {I : Addr} {fp : List Addr} {n : Nat} {P : Nat → Value → Prop} {St : Nat → Heap → Prop}
    (W : Walks prog w A I fp [I] n P St) (OK : Nat → Obj → Prop) (D : Heap → Prop) (J : Nat → (Str → Option Value) → List (Addr × Obj) → Prop)
    (hfold : ∀ i h o, i ≤ n → h.get? I = some o → OK i o → D h → St i h) (hun : ∀ i h, St i h → ∃ o, h.get? I = some o ∧ OK i o)
    (hD : ∀ i m rest h, J i m rest → Fr h₀ env.locals h m → News h₀ env.locals h rest → D h)
    (hxv : env.kindOf xv = some .local)
    (hp : (env.scope.kind == .class || (env.scope.kind == .module && env.locals != env.globals)) = false)
    (step : ∀ i v m rest h' tk o', i < n → P i v → J i m rest → (∀ p ∈ rest, p.1 ∉ [I]) → Fr h₀ env.locals h' (fun z => if z = xv then some v else m z) →
      News h₀ env.locals h' ((I, o') :: rest) →
      wpAny (model prog w) A (execs body env) (LP h₀ env.locals s [(I, o')] [I] R (J (i + 1))) NoE { s with heap := h', toks := tk })
    (fin : ∀ m rest h' tk, J n m rest → (∀ p ∈ rest, p.1 ∉ [I]) → Fr h₀ env.locals h' m → News h₀ env.locals h' rest → wpAny (model prog w) A (execs orelse env) (fun f s₃ => R (.ok f) s₃) NoE { s with heap := h', toks := tk }) :
    ∀ (k i : Nat) (h' : Heap) (tk : Nat) (m : Str → Option Value) (rest : List (Addr × Obj)) (o : Obj), n - i = k → i ≤ n → J i m rest → (∀ p ∈ rest, p.1 ∉ [I]) → OK i o → Fr h₀ env.locals h' m →
      News h₀ env.locals h' ((I, o) :: rest) →
      codeAny (model prog w) A (.forLoop (.Name xv pv) (.ref I) body orelse env) R { s with heap := h', toks := tk } := by
  intro k
  induction k with
  | zero =>
    intro i h' tk m rest o hn hi hJ hr hO Fm N
    have hi' : i = n := by omega
    subst hi'
    have hI := N _ (.head _)
    have N' : News h₀ env.locals h' rest := fun p hp => N p (.tail _ hp)
    refine for_turn (W.done _ _ _ (hfold _ _ o hi hI.1 hO (hD _ _ _ _ hJ Fm N')) fun h₁ tk₁ hk₁ => ?_)
    refine fin m rest h₁ _ hJ hr ⟨?_, fun b ob eb => hk₁ b ob (fun q => ?_) (Fm.keep b ob eb), Fm.above⟩ fun p hp => ?_
    · obtain ⟨oL, es, ep, hL, r⟩ := Fm.ns
      exact ⟨oL, es, ep, hk₁ _ _ (by simpa using Ne.symm hI.2.1) hL, r⟩
    · simp at q; rw [q, hI.2.2] at eb; cases eb
    · have := N' p hp
      exact ⟨hk₁ _ _ (hr p hp) this.1, this.2⟩
  | succ k ih =>
    intro i h' tk m rest o hn hi hJ hr hO Fm N
    have hI := N _ (.head _)
    have N' : News h₀ env.locals h' rest := fun p hp => N p (.tail _ hp)
    have hin : i < n := by omega
    refine for_turn (W.item i _ _ _ hin (hfold _ _ o hi hI.1 hO (hD _ _ _ _ hJ Fm N')) fun v h₁ tk₁ hP hst hk₁ => ?_)
    refine wpAny_pure ?_
    obtain ⟨o', ho', hO'⟩ := hun _ _ hst
    have F₁ : Fr h₀ env.locals h₁ m := by
      refine ⟨?_, fun b ob eb => hk₁ b ob (fun q => ?_) (Fm.keep b ob eb), Fm.above⟩
      · obtain ⟨oL, es, ep, hL, r⟩ := Fm.ns
        exact ⟨oL, es, ep, hk₁ _ _ (by simpa using Ne.symm hI.2.1) hL, r⟩
      · simp at q; rw [q, hI.2.2] at eb; cases eb
    have N₁ : News h₀ env.locals h₁ ((I, o') :: rest) := fun p hp => by
      rcases List.mem_cons.mp hp with rfl | hp
      · exact ⟨ho', hI.2⟩
      · have := N' p hp
        exact ⟨hk₁ _ _ (hr p hp) this.1, this.2⟩
    refine wpAny_assign_Name (wpAny_storeName_local hxv F₁.ns (fun h₂ hn₂ hs₂ => ?_) hp)
    refine wpAny_mono (step i v m rest h₂ _ o' hin hP hJ hr (F₁.set hn₂ hs₂) (N₁.set hs₂)) (fun f s₃ y => ?_) fun _ _ y => y
    have fin' : ∀ s₃, LP h₀ env.locals s [(I, o')] [I] R (J (i + 1)) .next s₃ → codeAny (model prog w) A (.forLoop (.Name xv pv) (.ref I) body orelse env) R s₃ := by
      rintro s₃ ⟨h₃, tk₃, m₃, rest₃, rfl, F₃, N₃, hr₃, hJ₃⟩
      exact ih (i + 1) h₃ tk₃ m₃ rest₃ o' (by omega) (by omega) hJ₃ hr₃ hO' F₃ N₃
    cases f with
    | next => exact fin' _ y
    | cont => exact fin' _ y
    | brk => exact y
    | ret v => exact y
def lstIt (t : Addr) (i : Nat) : Obj := { cls := .type "list_iterator", data := .fields #[.ref t, .int i 0] }
theorem iter_list {E : Value → Shared → Prop} {M : Str → Option Value} {L t : Addr} {items : Array Value} {news : List (Addr × Obj)} {Q : Value → Shared → Prop} (Fm : Fr h₀ L s.heap M) (N : News h₀ L s.heap news) (hl : s.heap.IsList t items)
    (h : ∀ h' it, Fr h₀ L h' M → News h₀ L h' ((it, lstIt t 0) :: news) → (∀ p ∈ news, p.1 < it) → Q (.ref it) { s with heap := h' }) : wpAny (model prog w) A (pyIter (.ref t)) Q E s := by
  refine wpAny_pyIter_list hl ?_
  have K : ∀ b o, s.heap.get? b = some o → (s.heap.push (lstIt t 0)).get? b = some o := fun b o e => Heap.get?_push_of_some _ e
  obtain ⟨F', N'⟩ := led_ext Fm N K
  exact h _ _ F' (led_new Fm N' (Nat.le_refl _) (Heap.get?_push_size _ rfl)) (led_lt N (Nat.le_refl _))
/-- a for loop over a list that stays -/
theorem forList_ind {R : Result → Shared → Prop} {xv : Str} {pv : Pos} {body orelse : List Stmt} {I l : Addr} {items : Array Value}
    (J : Nat → (Str → Option Value) → List (Addr × Obj) → Prop) (hh : A.handled = none) (hne : l ≠ I)
    (hD : ∀ i m rest h, J i m rest → Fr h₀ env.locals h m → News h₀ env.locals h rest → h.IsList l items)
    (hxv : env.kindOf xv = some .local)
    (hp : (env.scope.kind == .class || (env.scope.kind == .module && env.locals != env.globals)) = false)
    (step : ∀ i v m rest h' tk o', i < items.size → items[i]? = some v → J i m rest → (∀ p ∈ rest, p.1 ∉ [I]) → Fr h₀ env.locals h' (fun z => if z = xv then some v else m z) →
      News h₀ env.locals h' ((I, o') :: rest) →
      wpAny (model prog w) A (execs body env) (LP h₀ env.locals s [(I, o')] [I] R (J (i + 1))) NoE { s with heap := h', toks := tk })
    (fin : ∀ m rest h' tk, J items.size m rest → (∀ p ∈ rest, p.1 ∉ [I]) → Fr h₀ env.locals h' m → News h₀ env.locals h' rest → wpAny (model prog w) A (execs orelse env) (fun f s₃ => R (.ok f) s₃) NoE { s with heap := h', toks := tk })
    (h' : Heap) (tk : Nat) (m : Str → Option Value) (rest : List (Addr × Obj)) (hJ : J 0 m rest) (hr : ∀ p ∈ rest, p.1 ∉ [I]) (Fm : Fr h₀ env.locals h' m) (N : News h₀ env.locals h' ((I, lstIt l 0) :: rest)) :
      codeAny (model prog w) A (.forLoop (.Name xv pv) (.ref I) body orelse env) R { s with heap := h', toks := tk } :=
  forW_ind (Walks.list hh I l hne items) (fun i o => o.cls = .type "list_iterator" ∧ o.data = .fields #[.ref l, .int (i : Int) 0]) (fun h => h.IsList l items) J
    (fun i h o _ e1 e2 e3 => ⟨⟨o, e1, e2⟩, e3⟩) (fun i h x => let ⟨⟨o, a, b⟩, _⟩ := x; ⟨o, a, b⟩) hD hxv hp step fin items.size 0 h' tk m rest _ rfl (Nat.zero_le _) hJ hr ⟨rfl, rfl⟩ Fm N
/-- a while loop by an invariant over its turns -/
theorem while_ind {R : Result → Shared → Prop} {test : PySem.Expr} {body orelse : List Stmt} (n : Nat) (J : Nat → (Str → Option Value) → List (Addr × Obj) → Prop)
    (step : ∀ k m rest h' tk, k < n → J k m rest → Fr h₀ env.locals h' m → News h₀ env.locals h' rest →
      wpAny (model prog w) A (isTrue test env (eval test env)) (fun b s₂ => b = true ∧ wpAny (model prog w) A (execs body env) (LP h₀ env.locals s [] [] R (J (k + 1))) NoE s₂) NoE { s with heap := h', toks := tk })
    (fin : ∀ m rest h' tk, J n m rest → Fr h₀ env.locals h' m → News h₀ env.locals h' rest →
      wpAny (model prog w) A (isTrue test env (eval test env)) (fun b s₂ => b = false ∧ wpAny (model prog w) A (execs orelse env) (fun f s₃ => R (.ok f) s₃) NoE s₂) NoE { s with heap := h', toks := tk }) :
    ∀ (j k : Nat) (h' : Heap) (tk : Nat) (m : Str → Option Value) (rest : List (Addr × Obj)), n - k = j → k ≤ n → J k m rest → Fr h₀ env.locals h' m → News h₀ env.locals h' rest →
      codeAny (model prog w) A (.whileLoop test body orelse env) R { s with heap := h', toks := tk } := by
  intro j
  induction j with
  | zero =>
    intro k h' tk m rest hj hk hJ Fm N
    have : k = n := by omega
    subst this
    refine while_turn (wpAny_mono (fin m rest h' tk hJ Fm N) (fun b s₂ hb => ?_) fun _ _ y => y)
    obtain ⟨rfl, hb⟩ := hb
    exact hb
  | succ j ih =>
    intro k h' tk m rest hj hk hJ Fm N
    refine while_turn (wpAny_mono (step k m rest h' tk (by omega) hJ Fm N) (fun b s₂ hb => ?_) fun _ _ y => y)
    obtain ⟨rfl, hb⟩ := hb
    refine wpAny_mono hb (fun f s₃ y => ?_) fun _ _ y => y
    have fin' : ∀ s₃, LP h₀ env.locals s [] [] R (J (k + 1)) .next s₃ → codeAny (model prog w) A (.whileLoop test body orelse env) R s₃ := by
      rintro s₃ ⟨h₃, tk₃, m₃, rest₃, rfl, F₃, N₃, _, hJ₃⟩
      exact ih (k + 1) h₃ tk₃ m₃ rest₃ (by omega) (by omega) hJ₃ F₃ N₃
    cases f with
    | next => exact fin' _ y
    | cont => exact fin' _ y
    | brk => exact y
    | ret v => exact y
/-- an empty list, with its place above the frame -/
theorem newList_D {E : Value → Shared → Prop} {M : Str → Option Value} {L : Addr} {news : List (Addr × Obj)} {Q : Value → Shared → Prop} (Fm : Fr h₀ L s.heap M) (N : News h₀ L s.heap news)
    (h : ∀ D h', Fr h₀ L h' M → News h₀ L h' ((D, PySem.W.listOf #[] 0) :: news) → (∀ p ∈ news, p.1 < D) → L < D → Q (.ref D) { s with heap := h' }) : wpAny (model prog w) A (newList []) Q E s :=
  wpAny_newList (h _ _ (Fm.push _) (News.push Fm N _) (fun p hp => Heap.lt_size (N p hp).1) Fm.ns.lt)
end
end Mine
end
section
open PySem PySem.W PyProof.Rows PySem.Calls
namespace Mine
set_option maxRecDepth 100000
set_option maxHeartbeats 1000000
theorem lk_obj_new : typeLookup (.type "object") "__new__" = pure (some (.builtin "object.__new__")) := by rw [typeLookup_type, builtinLookup_eq_fast]; kernel_rfl
theorem mro_obj : mroOf (.type "object") = pure [.type "object"] := by kernel_rfl
theorem made_obj : Bind.madeBy (.type "object") = pure (some "object.__new__") := madeBy_type mro_obj lk_obj_new (by decide +kernel)
theorem called_object : TypeCalled "object" "object.__new__" "object.__init__" :=
  ⟨by decide +kernel, by decide +kernel, ⟨_, _, mro_obj⟩, made_obj, by decide +kernel, by rw [isSubtype_type]; kernel_rfl, F.slot_object_init⟩
theorem typeCall_obj : checkTypeCall "object" ⟨[], []⟩ = pure () := by kernel_rfl
theorem newCall_obj : checkBuiltinCall "object.__new__" ⟨[.type "object"], []⟩ = pure () := by kernel_rfl
theorem madeHere_obj : Bind.madeHere "object.__new__" (.type "object") = pure () := by
  unfold Bind.madeHere
  have e : Bind.staticBase (.type "object") = pure (.type "object") := by first | rfl | kernel_rfl
  rw [e]
  simp only [pure_bind, made_obj]
  first | rfl | kernel_rfl | (simp; rfl)
theorem ltAll_ne {d : Addr} {l : List (Addr × Obj)} (h : ∀ p ∈ l, p.1 < d) : ∀ p ∈ l, p.1 ≠ d := fun p hp => Nat.ne_of_lt (h p hp)
def plainObj : Obj := { cls := .type "object", data := .plain }
theorem meets_obj_new : Meets (Builtin.«object.__new__» ⟨[.type "object"], []⟩) (fun _ R s => R (.ok (.ret (.ref s.heap.objs.size))) { s with heap := s.heap.push plainObj }) :=
  .of_wp fun prog w A R s h => by
    unfold Builtin.«object.__new__»
    have hm := madeHere_obj
    wp_walk
    exact ⟨_, rfl, h⟩
section
variable {prog : Program} {w : World} {A : Around} {E : Value → Shared → Prop} {s : Shared}
theorem call_object {h₀ : Heap} {L : Addr} {m : Str → Option Value} {news : List (Addr × Obj)} {Q : Value → Shared → Prop} (Fm : Fr h₀ L s.heap m) (N : News h₀ L s.heap news)
    (h : ∀ S h', Fr h₀ L h' m → News h₀ L h' ((S, plainObj) :: news) → (∀ p ∈ news, p.1 < S) → Q (.ref S) { s with heap := h' }) :
    wpAny (model prog w) A (call (.type "object") []) Q E s := by
  refine callType_meets (Q₁ := fun obj s₁ => s₁.TypeIs obj "object" ∧ Q obj s₁) called_object typeCall_obj newCall_obj F.objNew.entry F.entry_object_init meets_obj_new ?_ fun obj s₁ hq => ?_
  · refine ⟨⟨_, Heap.get?_push_size _ rfl, rfl⟩, ?_⟩
    exact h _ _ (Fm.push _) (News.push Fm N _) fun p hp => Heap.lt_size (N p hp).1
  · refine ⟨hq.1, F.args_object_init_1 obj, fun _ R s => s.TypeIs obj "object" ∧ R (.ok (.ret .none)) s, ?_, hq.1, rfl, hq.2⟩
    exact Meets.of_wp fun prog w A R s hs => wpAny_pure ⟨_, rfl, hs.2⟩
end
end Mine
end
section
open PySem PySem.W PyProof.Rows PySem.Calls
namespace Mine
set_option maxRecDepth 100000
set_option maxHeartbeats 1000000
theorem off1_mem {D : Addr} : ∀ {l : List (Addr × Obj)}, LCg.Off1 D l → ∀ p ∈ l, p.1 ≠ D
  | [], _, _, h => nomatch h
  | _ :: _, x, p, h => by
    rcases List.mem_cons.mp h with rfl | h
    · exact x.1
    · exact off1_mem x.2 p h
theorem tailOf_off {tabs l : List (Addr × Obj)} {g : List (Addr × Obj) → List (Addr × Obj)} (h : TailOf tabs l g) : ∀ own, l = own ++ tabs → (∀ t, g t = own ++ t) → ∀ p ∈ own, ∀ r ∈ tabs, r.1 ≠ p.1 := by
  induction h with
  | base =>
    intro own e _
    have : own = [] := by
      have := congrArg List.length e
      rw [List.length_append] at this
      exact List.length_eq_zero_iff.mp (by omega)
    subst this
    intro p hp; cases hp
  | @cons q l f hq _ ih =>
    intro own e hg
    cases own with
    | nil => have := hg []; cases this
    | cons q' own =>
      obtain ⟨rfl, e'⟩ := List.cons.inj e
      intro p hp
      rcases List.mem_cons.mp hp with rfl | hp
      · exact hq
      · exact ih own e' (fun t => (List.cons.inj (hg t)).2) p hp
theorem tailOf_app {tabs : List (Addr × Obj)} : ∀ {own : List (Addr × Obj)}, (∀ p ∈ own, ∀ r ∈ tabs, r.1 ≠ p.1) → TailOf tabs (own ++ tabs) fun t => own ++ t
  | [], _ => .base
  | p :: l, h => .cons (h p (.head _)) (tailOf_app fun q hq => h q (.tail _ hq))
section
variable {prog : Program} {w : World} {A : Around} {h₀ : Heap} {L : Addr} {m : Str → Option Value} {env : Env} {elt : Expr} {x : Str} {scope : Scope} {cl : List (Str × Addr)} {s : Shared} {S : List (Addr × Obj) → Prop} {P : Nat → Value → Prop} {Fin : List Value → List (Addr × Obj) → Prop}
theorem comp_tabs {n : Nat} {ks : List Int} (g : Int → Int) (own : List (Addr × Obj)) (TL : List (Addr × Obj) → Prop) (hS : ∀ l, S l) (hks : ks.length = n) (hP : ∀ i v, i < n → P i v → ∃ k t, ks[i]? = some k ∧ v = .int k t)
    (turn : ∀ k t I oI C oC D m₂ ys h tk (E' : Value → Shared → Prop) tb, k ∈ ks → LCg.NsObj oC m₂ → m₂ x = some (.int k t) → Fr h₀ L h m → News h₀ L h ((I, oI) :: (C, oC) :: (D, LCg.lst ys) :: (own ++ tb)) → TL tb →
      (∀ r ∈ tb, r.1 ≠ I ∧ r.1 ≠ C ∧ r.1 ≠ D) → (∀ p ∈ own, ∀ r ∈ tb, r.1 ≠ p.1) → LCg.Off3 I C D own → ((@Ne Nat I C) ∧ (@Ne Nat I D) ∧ (@Ne Nat C D)) →
      wpAny (model prog w) A (eval elt (compEnvC scope cl C env)) (fun y s₂ => ∃ h' tk' tb' t', s₂ = { s with heap := h', toks := tk' } ∧ y = .int (g k) t' ∧ Fr h₀ L h' m ∧ News h₀ L h' ((I, oI) :: (C, oC) :: (D, LCg.lst ys) :: (own ++ tb')) ∧ TL tb' ∧
        (∀ q ∈ tb', q.1 ∈ tb.map (·.1) ∨ h.objs.size ≤ q.1)) E' { s with heap := h, toks := tk })
    (fin : ∀ ys tb, IntsAre ys (ks.map g) → TL tb → (∀ p ∈ own, ∀ r ∈ tb, r.1 ≠ p.1) → Fin ys (own ++ tb)) : ∀ tb, TL tb → (∀ p ∈ own, ∀ r ∈ tb, r.1 ≠ p.1) → LCg.CompRest prog w A h₀ L m env elt x scope cl s S P Fin n 0 [] (own ++ tb) := by
  have key : ∀ (j i : Nat) (ys : List Value) tb, i + j = n → IntsAre ys ((ks.take i).map g) → TL tb → (∀ p ∈ own, ∀ r ∈ tb, r.1 ≠ p.1) → LCg.CompRest prog w A h₀ L m env elt x scope cl s S P Fin j i ys (own ++ tb) := by
    intro j
    induction j with
    | zero =>
      intro i ys tb hi hy hTL hot
      have e : i = ks.length := by omega
      subst e
      rw [List.take_length] at hy
      exact LCg.CompRest.zero (fin ys tb hy hTL hot)
    | succ j ih =>
      intro i ys tb hi hy hTL hot
      refine LCg.CompRest.succ ?_
      intro v I oI C oC D m₂ h tk E' hv hC hx F N off ne
      obtain ⟨k, t, hk, hv'⟩ := hP i v (by omega) hv
      rw [hv'] at hx
      have offm := off.mem
      refine wpAny_mono (turn k t I oI C oC D m₂ ys h tk E' tb (List.mem_of_getElem? hk) hC hx F N hTL (fun r hr => offm r (List.mem_append_right _ hr)) hot (.of fun p hp => offm p (List.mem_append_left _ hp)) ne) (fun y s₂ hq => ?_) fun _ _ e => e
      obtain ⟨h', tk', tb', t', rfl, rfl, F', N', hTL', htb⟩ := hq
      have zI := Heap.lt_size (N _ (.head _)).1
      have zC := Heap.lt_size (N _ (.tail _ (.head _))).1
      have zD := Heap.lt_size (N _ (.tail _ (.tail _ (.head _)))).1
      have hot' : ∀ p ∈ own, ∀ r ∈ tb', r.1 ≠ p.1 := by
        intro p hp r hr
        rcases htb r hr with e | e
        · obtain ⟨q, hq, e⟩ := List.mem_map.mp e
          exact e ▸ hot p hp q hq
        · exact Nat.ne_of_gt (Nat.lt_of_lt_of_le (Heap.lt_size (N p (.tail _ (.tail _ (.tail _ (List.mem_append_left _ hp))))).1) e)
      refine ⟨h', tk', own ++ tb', rfl, F', N', .of fun p hp => ?_, hS _, ?_⟩
      · rcases List.mem_append.mp hp with hp | hp
        · exact offm p (List.mem_append_left _ hp)
        · rcases htb p hp with e | e
          · obtain ⟨q, hq, e⟩ := List.mem_map.mp e
            exact e ▸ offm q (List.mem_append_right _ hq)
          · exact ⟨Nat.ne_of_gt (Nat.lt_of_lt_of_le zI e), Nat.ne_of_gt (Nat.lt_of_lt_of_le zC e), Nat.ne_of_gt (Nat.lt_of_lt_of_le zD e)⟩
      · refine ih (i + 1) _ tb' (by omega) ?_ hTL' hot'
        rw [List.take_add_one, hk]
        simpa using IntsAre.append hy (.cons (g k) t' .nil)
  exact fun tb => key n 0 [] tb (by omega) (by simp only [List.take_zero, List.map_nil]; exact .nil)
end
end Mine
end
section
open PySem PySem.W PyProof.Rows PySem.Calls
namespace Mine
theorem str_ext {a b : Str} (h : a.cps.toList = b.cps.toList) : a = b := by
  cases a; cases b; congr 1; exact Array.ext' h
theorem app_cps (a b : Str) : (a ++ b).cps.toList = a.cps.toList ++ b.cps.toList := by
  show (a.cps ++ b.cps).toList = _
  simp
theorem join_cps (ys : List Str) : (Txt.join (Str.ofString "") ys).cps.toList = (ys.map fun y => y.cps.toList).flatten := by
  show (Builtin.Str.glued (Str.ofString "") ys).cps.toList = _
  rw [StrLaws.glued_eq_join]
  induction ys with
  | nil => rfl
  | cons x r ih =>
    cases r with
    | nil => simp [Str.join]
    | cons y r =>
      rw [Str.join, app_cps, app_cps, ih]
      · have : (Str.ofString "").cps.toList = [] := by decide +kernel
        rw [this]; simp
      · simp
theorem len_cps (a : Str) : a.length = a.cps.toList.length := by simp [Str.length]
theorem flat_len {B : Nat} : ∀ {ys : List Str}, (∀ y ∈ ys, y.length ≤ B) → ((ys.map fun y => y.cps.toList).flatten).length ≤ B * ys.length
  | [], _ => by simp
  | y :: ys, h => by
    have h1 := h y (.head _)
    have h2 := flat_len (ys := ys) fun y hy => h y (.tail _ hy)
    rw [len_cps] at h1
    simp only [List.map_cons, List.flatten_cons, List.length_append, List.length_cons]
    rw [Nat.mul_add, Nat.mul_one]; omega
theorem join_len {B : Nat} {ys : List Str} (h : ∀ y ∈ ys, y.length ≤ B) : (Txt.join (Str.ofString "") ys).length ≤ B * ys.length := by
  rw [len_cps, join_cps]; exact flat_len h
theorem sum_len {B : Nat} : ∀ {ys : List Str}, (∀ y ∈ ys, y.length ≤ B) → (ys.map (·.length)).sum ≤ B * ys.length
  | [], _ => by simp
  | y :: ys, h => by
    have h1 := h y (.head _)
    have h2 := sum_len (ys := ys) fun y hy => h y (.tail _ hy)
    simp only [List.map_cons, List.sum_cons, List.length_cons]
    rw [Nat.mul_add, Nat.mul_one]; omega
theorem emp_len : (Str.ofString "").length = 0 := by decide +kernel
abbrev mkS (l : List Nat) : Str := ⟨l.toArray⟩
theorem mkS_app (a b : List Nat) : mkS a ++ mkS b = mkS (a ++ b) := by apply str_ext; rw [app_cps]
theorem mkS_len (a : List Nat) : (mkS a).length = a.length := by simp [Str.length]
theorem of_mkS (x : Str) : x = mkS x.cps.toList := by apply str_ext; simp
theorem mkS_inj {a b : List Nat} (h : mkS a = mkS b) : a = b := by
  have := congrArg (fun s : Str => s.cps.toList) h; simpa using this
theorem sl_ss {l : List Nat} {i j : Int} (h : 0 ≤ i ∧ i ≤ j ∧ j ≤ l.length) : Txt.slice (mkS l) (some i) (some j) = mkS ((l.drop i.toNat).take (j - i).toNat) := by
  have := slice_closes (x := mkS l) (i := i) (j := j) (by simpa using h)
  simpa using this
theorem sl_ns {l : List Nat} {j : Int} (h : 0 ≤ j ∧ j ≤ l.length) : Txt.slice (mkS l) none (some j) = mkS (l.take j.toNat) := by
  have := slice_closes_to (x := mkS l) (j := j) (by simpa using h)
  simpa using this
theorem sl_sn {l : List Nat} {i : Int} (h : 0 ≤ i ∧ i ≤ l.length) : Txt.slice (mkS l) (some i) none = mkS (l.drop i.toNat) := by
  have := slice_from_eq (x := mkS l) (i := i) (b := l.length) h.1 (by rw [mkS_len]; exact h.2) (by rw [mkS_len])
  rw [this]
  simp only [mkS]
  rw [List.take_of_length_le]
  simp; omega
theorem sl_neg {l : List Nat} {i : Int} (h : i < 0 ∧ -(l.length : Int) ≤ i) : Txt.slice (mkS l) (some i) none = mkS (l.drop (i + l.length).toNat) := by
  have := slice_closes_from_neg (x := mkS l) (i := i) (a := i + l.length) (b := l.length) h.1 (by rw [mkS_len]; exact h.2) (by rw [mkS_len]) (by rw [mkS_len])
  have := eq_of_beq this
  rw [this]
  simp only [mkS]
  rw [List.take_of_length_le]
  simp; omega
section
variable {prog : Program} {w : World} {A : Around} {E : Value → Shared → Prop} {s : Shared} {value slice : Expr} {x z : Str} {t : Tok} {h₀ : Heap} {L : Addr} {m : Str → Option Value} {news : List (Addr × Obj)} {Q : Value → Shared → Prop}
theorem slz_ns {j : Int} {uj : Tok} (hF : Fr h₀ L s.heap m) (hN : News h₀ L s.heap news) (hz : Txt.slice x none (some j) = z) (hsz : x.length ≤ 10000) (h : ∀ h' t' k, Fr h₀ L h' m → News h₀ L h' news → Q (.str z t') { s with heap := h', toks := k })
    (hs : subscripted slice false (.str x t) (.ref s.heap.objs.size) = operate [.ref s.heap.objs.size, .str x t] (getItem (.str x t) (.ref s.heap.objs.size)) := by with_unfolding_all rfl)
    (ht : ∀ r, letTemporaryGo value (.str x t) r = pure () := by intro _; with_unfolding_all rfl) :
    wpAny (model prog w) A (subscriptTail value slice (.str x t) (.ref s.heap.objs.size)) Q E { s with heap := s.heap.push { cls := .type "slice", data := .fields #[.none, .int j uj, .none] } } := by
  subst hz; exact slice_strN_ns hF hN h hs ht (by rw [sizeLine_eq]; omega)
theorem slz_sn {i : Int} {ui : Tok} (hF : Fr h₀ L s.heap m) (hN : News h₀ L s.heap news) (hz : Txt.slice x (some i) none = z) (hsz : x.length ≤ 10000) (h : ∀ h' t' k, Fr h₀ L h' m → News h₀ L h' news → Q (.str z t') { s with heap := h', toks := k })
    (hs : subscripted slice false (.str x t) (.ref s.heap.objs.size) = operate [.ref s.heap.objs.size, .str x t] (getItem (.str x t) (.ref s.heap.objs.size)) := by with_unfolding_all rfl)
    (ht : ∀ r, letTemporaryGo value (.str x t) r = pure () := by intro _; with_unfolding_all rfl) :
    wpAny (model prog w) A (subscriptTail value slice (.str x t) (.ref s.heap.objs.size)) Q E { s with heap := s.heap.push { cls := .type "slice", data := .fields #[.int i ui, .none, .none] } } := by
  subst hz; exact slice_strN_sn hF hN h hs ht (by rw [sizeLine_eq]; omega)
theorem slz_ss {i j : Int} {ui uj : Tok} (hF : Fr h₀ L s.heap m) (hN : News h₀ L s.heap news) (hz : Txt.slice x (some i) (some j) = z) (hsz : x.length ≤ 10000) (h : ∀ h' t' k, Fr h₀ L h' m → News h₀ L h' news → Q (.str z t') { s with heap := h', toks := k })
    (hs : subscripted slice false (.str x t) (.ref s.heap.objs.size) = operate [.ref s.heap.objs.size, .str x t] (getItem (.str x t) (.ref s.heap.objs.size)) := by with_unfolding_all rfl)
    (ht : ∀ r, letTemporaryGo value (.str x t) r = pure () := by intro _; with_unfolding_all rfl) :
    wpAny (model prog w) A (subscriptTail value slice (.str x t) (.ref s.heap.objs.size)) Q E { s with heap := s.heap.push { cls := .type "slice", data := .fields #[.int i ui, .int j uj, .none] } } := by
  subst hz; exact slice_strN_ss hF hN h hs ht (by rw [sizeLine_eq]; omega)
end
end Mine
end
section
open PySem PySem.W PyProof.Rows PySem.Calls
namespace Mine
set_option maxRecDepth 100000
set_option maxHeartbeats 1000000
theorem show_me0 {P : Prop} (h : P ∨ False) : P := h.elim id False.elim
theorem sg1 (c d : Nat) : ((mkS [c] : Str) == mkS [d]) = (c == d) := by
  rw [Bool.eq_iff_iff, beq_iff_eq, beq_iff_eq]
  constructor
  · intro h; have := mkS_inj h; simpa using this
  · rintro rfl; rfl
theorem q_33 : Str.ofString "[" = mkS [91] := by decide +kernel
theorem q_34 : Str.ofString "]" = mkS [93] := by decide +kernel
theorem q_35 : Str.ofString "-" = mkS [45] := by decide +kernel
theorem q_36 : Str.ofString "rw" = mkS [114, 119] := by decide +kernel
theorem q_37 : Str.ofString "-xTt" = mkS [45, 120, 84, 116] := by decide +kernel
theorem q_38 : Str.ofString "-xSs" = mkS [45, 120, 83, 115] := by decide +kernel
theorem q_39 : Str.ofString "\\" = mkS [92] := by decide +kernel
theorem q_em : Str.ofString "" = mkS [] := by decide +kernel
def EqB (a b : Bool) : Prop := a = b
def EqS (a b : Str) : Prop := a = b
theorem eqS_of {a b : Str} (h : EqS a b) : a = b := h
def EqI (a b : Int) : Prop := a = b
structure RowAt (row : List Nat) (z : Int) (c : Nat) : Prop where
  of : ∃ k : Nat, z = (k : Int) ∧ row[k]? = some c
section
variable {prog : Program} {w : World} {A : Around} {E : Value → Shared → Prop} {s : Shared}
theorem sub_row {value slice : PySem.Expr} {row : List Nat} {x : Str} {t u : Tok} {z : Int} {c : Nat} {Q : Value → Shared → Prop} (hx : x = mkS row) (h : RowAt row z c) (hl : row.length ≤ 1000) (hq : Q (.str (mkS [c]) s.toks) { s with toks := s.toks + 1 })
    (hs : subscripted slice false (.str x t) (.int z u) = operate [.str x t, .int z u] (getItem (.str x t) (.int z u)) := by with_unfolding_all rfl) :
    wpAny (model prog w) A (subscriptTail value slice (.str x t) (.int z u)) Q E s := by
  subst hx
  obtain ⟨k, rfl, hk⟩ := h.of
  exact str_sub_at (k := k) rfl (by rw [mkS_len]; omega) (by simpa using hk) hq hs
theorem nin_z {x y : Str} {t u : Tok} {bz : Bool} {Q : Value → Shared → Prop} (hz : EqB (!(!(Builtin.Str.occurrences x y 0 x.length 1).isEmpty)) bz) (h : Q (.bool bz) s) : wpAny (model prog w) A (compareOp .NotIn (.str y u) (.str x t)) Q E s := by
  have hz : _ = bz := hz
  subst hz; exact PyProof.Rows.notIn_str h
theorem add_mk {x y : Str} {a b : List Nat} {t u : Tok} {Q : Value → Shared → Prop} (hx : x = mkS a) (hy : y = mkS b) (hl : a.length ≤ 1000 ∧ b.length ≤ 1000) (h : ∀ t' k, Q (.str (mkS (a ++ b)) t') { s with toks := k }) :
    wpAny (model prog w) A (binaryOp .Add (.str x t) (.str y u)) Q E s := by
  subst hx hy
  refine PyProof.Rows.add_str (fun t' k => ?_) (by rw [mkS_len, mkS_len, sizeLine_eq]; omega)
  rw [mkS_app]; exact h t' k
theorem in_z {x y : Str} {t u : Tok} {bz : Bool} {Q : Value → Shared → Prop} (hz : EqB (!(Builtin.Str.occurrences x y 0 x.length 1).isEmpty) bz) (h : Q (.bool bz) s) : wpAny (model prog w) A (compareOp .In (.str y u) (.str x t)) Q E s := by
  have hz : _ = bz := hz
  subst hz; exact PyProof.Rows.in_str h
theorem ne_z {x y : Str} {t u : Tok} {b : Bool} {Q : Value → Shared → Prop} (hz : EqB (x != y) b) (h : Q (.bool b) s) : wpAny (model prog w) A (compareOp .NotEq (.str x t) (.str y u)) Q E s := by
  have hz : _ = b := hz
  subst hz; exact PyProof.Rows.ne_str h
end
section
variable {prog : Program} {w : World} {A : Around} {E : Value → Shared → Prop} {s : Shared} {c d : Nat} {x : Str} {t u : Tok} {Q : Value → Shared → Prop}
theorem eqo_f (hx : x = mkS [d]) (hcd : c ≠ d) (h : Q (.bool false) s) : wpAny (model prog w) A (compareOp .Eq (.str (mkS [c]) t) (.str x u)) Q E s :=
  PyProof.Rows.eq_str (by subst hx; rw [sg1, beq_false_of_ne hcd]; exact h)
theorem eqo_t (hx : x = mkS [d]) (hcd : c = d) (h : Q (.bool true) s) : wpAny (model prog w) A (compareOp .Eq (.str (mkS [c]) t) (.str x u)) Q E s :=
  PyProof.Rows.eq_str (by subst hx; rw [sg1, hcd, beq_self_eq_true]; exact h)
theorem neo_f (hx : x = mkS [d]) (hcd : c ≠ d) (h : Q (.bool true) s) : wpAny (model prog w) A (compareOp .NotEq (.str (mkS [c]) t) (.str x u)) Q E s :=
  PyProof.Rows.ne_str (by subst hx; rw [bne, sg1, beq_false_of_ne hcd]; exact h)
theorem neo_t (hx : x = mkS [d]) (hcd : c = d) (h : Q (.bool false) s) : wpAny (model prog w) A (compareOp .NotEq (.str (mkS [c]) t) (.str x u)) Q E s :=
  PyProof.Rows.ne_str (by subst hx; rw [bne, sg1, hcd, beq_self_eq_true]; exact h)
end
end Mine
end
section
open PySem PySem.W PyProof.Rows
namespace Mine
-- the top's run by the library's own quick twins, chosen by name
def gEnds (imp : (String → Option Builtin) → Program → World → Nat → Shared → Thread → Option Shared) (fen : Program → Shared → Option Shared)
    (run : (String → Option Builtin) → Program → World → Nat → Option Value → Nat → Shared → Thread → Option Shared) (tb : String → Option Builtin) (nsm : Heap → Addr → Str → Option Value)
    (st : Program → Shared × Thread) (p : Program) (w : World) (N : Nat) : Option Shared :=
  ((imp tb (opening p) w N (st (opening p)).1 (st (opening p)).2).bind (fen p)).bind fun s₀ =>
    match s₀.heap.isNs mainGlobals && s₀.gens.size == 0 with
    | true => (run tb p w s₀.heap.objs.size (nsm s₀.heap mainGlobals "__annotations__") N s₀ (topStub p)).bind fun s₁ => match staticsOk (importedModules p.main.body) s₀.heap s₁.heap && namesBound p s₁.heap && gensDone s₁ && laidKept s₀.heap s₁.heap with
      | true => some s₁
      | false => none
    | false => none
theorem g_ends (p : Program) (w : World) (N : Nat) : openEnds treeTable p w N = gEnds importEnds fenceModules? topRun treeTable (fun h v x => h.nsMap v x) start p w N := by
  unfold openEnds fencedOpening gEnds
  congr 1
theorem q_ends (p : Program) (w : World) (N : Nat) : openEnds treeTable p w N =
    gEnds Fast.tw10274390034422433532 Fast.tw14289696077712309145 Fast.tw14082659384304107361 Fast.tw14364793385576792824 (fun h v x => h.nsMap v x) Fast.tw1435165496053646825 p w N := by
  rw [g_ends, ← Fast.te10274390034422433532, ← Fast.te14289696077712309145, ← Fast.te14082659384304107361, ← Fast.te14364793385576792824, ← Fast.te1435165496053646825]
theorem q_top {p q : Program} {loose : List Str} {Xt : Shared → Bool} {α : Type} {Yf : Shared → α} {N : Nat} {g0 : Bool} {w : World} {r}
    (h : (gEnds Fast.tw10274390034422433532 Fast.tw14289696077712309145 Fast.tw14082659384304107361 Fast.tw14364793385576792824 (fun h v x => h.nsMap v x) Fast.tw1435165496053646825 p w N).map
      (fun s => (Fast.tw4187177175401517315 q loose (importedModules p.main.body) Xt g0 s, Yf s)) = some r) :
    (openEnds treeTable p w N).map (fun s => (openSeen q loose (importedModules p.main.body) Xt g0 s, Yf s)) = some r := by
  rw [q_ends, ← h, ← Fast.te4187177175401517315]
end Mine
end
section
open PySem PySem.W PyProof.Rows
namespace Mine
set_option maxRecDepth 100000
set_option maxHeartbeats 8000000
-- what the law says of itself, by the library's quick twin chosen by name (made here anew, the twin of the program's text weighs 4 MB)
theorem said_law : PySem.Challenge.rw_ik0125_01.wellSaid = true := by rw [Fast.te9446332074065402090]; kernel_rfl
-- the head without pieces: the equation of the top is left as a part of the walk's goal, and is shown below by the kernel, a pair of the world's rows at a time
section
local macro_rules | `(tactic| o_law) => `(tactic| refine holds_law said_law fun said => ?_)
local macro_rules
  | `(tactic| refine $e:term) => do
    match e with
    | `($_:ident $args*) =>
      if args.size > 15 then `(tactic| (refine ($e); (case' hl => refine And.left (b := ?both_b) ?both); (case' hc => exact And.right ?both)))
      else Lean.Macro.throwUnsupported
    | _ => Lean.Macro.throwUnsupported
open_top hd for PySem.Challenge.rw_ik0125_01
end
abbrev TopEq {Q : World → Prop} {b c : Prop} (_ : (∀ w, Q w) ∧ b → c) (w : World) : Prop := Q w
theorem top_ff (w : World) : TopEq hd ((w.withFollow "comprehension-iter-twice" false).withFollow "special-get-raises" false) := q_top (by kernel_rfl)
theorem top_ft (w : World) : TopEq hd ((w.withFollow "comprehension-iter-twice" false).withFollow "special-get-raises" true) := q_top (by kernel_rfl)
theorem top_tf (w : World) : TopEq hd ((w.withFollow "comprehension-iter-twice" true).withFollow "special-get-raises" false) := q_top (by kernel_rfl)
theorem top_tt (w : World) : TopEq hd ((w.withFollow "comprehension-iter-twice" true).withFollow "special-get-raises" true) := q_top (by kernel_rfl)
theorem top_all (w : World) : TopEq hd w :=
  byRow2 "special-get-raises" (P := fun w => TopEq hd w)
    (byRow2 "comprehension-iter-twice" (P := fun w => TopEq hd (w.withFollow "special-get-raises" false)) top_ff top_tf)
    (byRow2 "comprehension-iter-twice" (P := fun w => TopEq hd (w.withFollow "special-get-raises" true)) top_ft top_tt) w
end Mine
end
section
open PySem PySem.W PyProof.Rows PySem.Calls PySem.Builtin PySem.Builtin.Re
namespace Mine
set_option maxRecDepth 100000
set_option maxHeartbeats 1000000
def twCode : Array Value := #[.int 14 0, .int 14 0, .int 4 0, .int 1 0, .int 1 0, .int 9 0, .int 0 0, .int 64 0, .int 0 0, .int 1342177280 0, .int 0 0, .int 0 0, .int 0 0, .int 0 0, .int 0 0, .int 17 0, .int 0 0, .int 13 0, .int 11 0, .int 9 0, .int 0 0, .int 64 0, .int 0 0, .int 1342177280 0, .int 0 0, .int 0 0, .int 0 0, .int 0 0, .int 0 0, .int 17 0, .int 1 0, .int 1 0]
def twNat : Array Nat := #[14, 14, 4, 1, 1, 9, 0, 64, 0, 1342177280, 0, 0, 0, 0, 0, 17, 0, 13, 11, 9, 0, 64, 0, 1342177280, 0, 0, 0, 0, 0, 17, 1, 1]
def isFailed : Option Sre.Outcome → Bool
  | some .failed => true
  | _ => false
theorem isFailed_eq {o : Option Sre.Outcome} (h : isFailed o = true) : o = some .failed := by
  match o, h with
  | some .failed, _ => rfl
def NoTwin (l : List Nat) : Prop := isFailed ((Sre.forSearch twNat l.toArray 1 0 l.length false).runFor reTurnSteps).outcome = true
theorem noTwin_ok : ∀ l ∈ [[63], [112], [99], [100], [98], [108], [115], [92, 45], [114, 92, 45], [119, 92, 45], [120, 92, 45], [83, 92, 45], [84, 92, 45], [92, 45, 114], [92, 45, 119], [92, 45, 120], [92, 45, 83], [92, 45, 84], [84, 116], [116, 84], [83, 115], [115, 83], [120, 116], [116, 120], [120, 115], [115, 120]], NoTwin l := by
  unfold NoTwin; decide +kernel
section
variable {prog : Program} {w : World} {A : Around} {E : Value → Shared → Prop} {s : Shared}
theorem rules_go {M : Model} {p : Nat → Bool} {f : Nat → String} {Q : PUnit → Shared → Prop} (h : Q ⟨⟩ s) : ∀ l : List Nat, wpAny M A (forIn l PUnit.unit fun i __s => if p i = true then do rule (f i); pure (ForInStep.yield PUnit.unit) else pure (ForInStep.yield PUnit.unit) : Sem PUnit) Q E s
  | [] => by rw [List.forIn_nil]; exact wpAny_pure h
  | a :: l => by
    rw [List.forIn_cons]
    refine wpAny_bind ?_
    split
    · exact wpAny_bind (wpAny_rule (wpAny_pure (rules_go h l)))
    · exact wpAny_pure (rules_go h l)
theorem drive_failed {M : Model} {m : Sre.M} {Q : Option Sre.M → Shared → Prop} (hm : (m.runFor reTurnSteps).outcome = some .failed) (h : Q none s) : wpAny M A (reRunToEnd m) Q E s := by
  unfold reRunToEnd
  refine wpAny_bind ?_
  have e : reDrive (2 ^ 64) m = pure (m.runFor reTurnSteps) := by
    rw [show (2 ^ 64 : Nat) = 18446744073709551615 + 1 by decide, reDrive]
    simp only [hm, Option.isSome_some, if_true]
  rw [e]
  refine wpAny_pure (wpAny_bind (rules_go ?_ _))
  rw [hm]
  exact wpAny_pure h
theorem next_failed {M : Model} {T : ReTarget} {a : Nat} {b : Bool} {Q : Option Sre.M → Shared → Prop} (hm : ((Sre.forSearch T.code T.text T.groups a T.lim b).runFor reTurnSteps).outcome = some .failed) (h : Q none s) : wpAny M A (reNextFound T a b) Q E s := drive_failed hm h
theorem slot_sub : Slot "re.Pattern" "sub" "re.Pattern.sub" :=
  .of (owner := "re.Pattern") (n := "sub") (by rw [typeLookup_type, builtinLookup_eq_fast]; kernel_rfl) (by decide +kernel) (by decide +kernel) (by decide +kernel)
    (by first | exact .inl (by decide +kernel) | exact .inr (by decide +kernel)) (by rw [isSubtype_type]; kernel_rfl)
theorem type_sub : typeOf (.builtin "re.Pattern.sub") = pure (.type "method_descriptor") := by show builtinType _ = _; rw [builtinType_eq_fast]; kernel_rfl
theorem entry_sub : entryFor table "re.Pattern.sub" = some Builtin.«re.Pattern.sub» := entryFor_of_tree (by kernel_rfl)
theorem entry_loop : entryFor table "re.Pattern.sub.loop" = some Builtin.«re.Pattern.sub.loop» := entryFor_of_tree (by kernel_rfl)
theorem args_sub (a b c : Value) : argsOk "re.Pattern.sub" ⟨[a, b, c], []⟩ := by unfold argsOk; kernel_rfl
def twPat (C : Addr) (t1 t2 : Tok) : Obj := { cls := .type "re.Pattern", data := .fields #[.str ⟨#[40, 91, 38, 126, 124, 93, 41]⟩ t1, .int 32 t2, .int 1 0, .none, .none, .ref C, .int 0 0] }
theorem call_sub {P C f : Addr} {t1 t2 t : Tok} {l : List Nat} {dd : Option Addr} {sl : Array (Option Value)} {of : Obj} {Q : Value → Shared → Prop}
    (hP : s.heap.get? P = some (twPat C t1 t2)) (hC : s.heap.get? C = some { cls := .type "tuple", dict := dd, data := .seq twCode, slots := sl }) (hf : s.heap.get? f = some of) (hfc : of.cls = .type "function") (hl : NoTwin l) (hne : l ≠ []) (hlen : l.length ≤ 1000)
    (h : ∀ h' t' k, (∀ b o, s.heap.get? b = some o → h'.get? b = some o) → Q (.str (mkS l) t') { s with heap := h', toks := k }) :
    wpAny (model prog w) A (call (.builtin "re.Pattern.sub") [.ref P, .ref f, .str (mkS l) t]) Q E s := by
  have hT : s.TypeIs (.ref P) "re.Pattern" := ⟨_, hP, rfl⟩
  refine wpAny_call (codeAny_call_builtin slot_sub.plain entry_sub (slot_sub.check _ _ _ _ _ _ _ _ hT (args_sub _ _ _) ?_))
  unfold Builtin.«re.Pattern.sub» reSubstitute
  have hTf : ∀ s' : Shared, s'.heap = s.heap → s'.TypeIs (.ref f) "function" := fun s' e => ⟨of, by rw [e]; exact hf, hfc⟩
  have lkc : typeLookup (.type "function") "__call__" = pure (some (.builtin "function.__call__")) := by rw [typeLookup_type, builtinLookup_eq_fast]; kernel_rfl
  have hsb : isSubtype (.type "str") (.type "bytearray") = pure false := by rw [isSubtype_type]; kernel_rfl
  wp_walk using wpAny_specialOf (hTf _ rfl) lkc
  refine ⟨Code.quiet_builtin _ (by decide +kernel), codeAny_builtin entry_loop ?_⟩
  have hP' : (s.heap.push { cls := Value.type "list", data := Data.seq #[] }).get? P = some (twPat C t1 t2) := Heap.get?_push_of_some _ hP
  have hC' : (s.heap.push { cls := Value.type "list", data := Data.seq #[] }).get? C = some { cls := .type "tuple", dict := dd, data := .seq twCode, slots := sl } := Heap.get?_push_of_some _ hC
  have hl2 : ((Sre.forSearch (Array.map (fun x => x.toNat) (Array.map reRawOf ((some twCode).getD #[]))) (mkS l).cps 1 0 (mkS l).cps.size false).runFor reTurnSteps).outcome = some .failed := by
    have e : Array.map (fun x => x.toNat) (Array.map reRawOf ((some twCode).getD #[])) = twNat := by decide +kernel
    rw [e]
    have := isFailed_eq hl
    simpa using this
  unfold Builtin.«re.Pattern.sub.loop»
  wp_walk using next_failed hl2
  have hlp : Int.toNat 0 < (mkS l).cps.size := by
    cases l with
    | nil => exact absurd rfl hne
    | cons a r => simp
  rw [if_pos (show Int.toNat 0 < _ from hlp)]
  dsimp only
  unfold reSlice
  rw [if_pos (show ((0 : Nat) == 0) = true from rfl), if_pos (show ((0 : Nat) == 0) = true from rfl)]
  wp_walk
  have hex : l.toArray.extract (Int.toNat 0) = l.toArray := by simp
  rw [hex, if_neg (by rw [mkS_len, sizeLine_eq]; omega)]
  have hLo : (s.heap.push { cls := Value.type "list", data := Data.seq #[] }).get? s.heap.objs.size = some { cls := Value.type "list", data := Data.seq #[] } := Heap.get?_push_size _ rfl
  wp_walk
  have hex2 : l.toArray.extract 0 0 = #[] := by simp
  rw [hex2, if_neg (by rw [sizeLine_eq]; decide)]
  simp only [beq_self_eq_true, if_true, Bool.false_eq_true, if_false]
  have hL2 : ((s.heap.push { cls := Value.type "list", data := Data.seq #[] }).update s.heap.objs.size (Obj.mapSeq fun x => x.push (Value.str { cps := l.toArray } s.toks))).get? s.heap.objs.size = some { cls := Value.type "list", data := Data.seq #[.str (mkS l) s.toks] 1 } := Heap.get?_update_self _ hLo rfl
  have hIs : ((s.heap.push { cls := Value.type "list", data := Data.seq #[] }).update s.heap.objs.size (Obj.mapSeq fun x => x.push (Value.str { cps := l.toArray } s.toks))).IsList s.heap.objs.size #[.str (mkS l) s.toks] := ⟨_, hL2, rfl, _, rfl⟩
  wp_walk using join_list hIs (.cons (mkS l) s.toks .nil) (by simp [mkS_len]; omega)
  intro t' k
  refine wpAny_pure ?_
  dsimp only
  rw [show Txt.join { cps := #[] } [mkS l] = mkS l from rfl]
  refine h _ t' k fun b o hb => ?_
  have hlt := Heap.lt_size hb
  exact (Heap.get?_update_other _ _ (by intro e; rw [← e] at hlt; exact Nat.lt_irrefl _ hlt)).trans (Heap.get?_push_of_some _ hb)
end
end Mine
end
section
open PySem PySem.W PyProof.Rows PySem.Calls
namespace Mine
set_option maxRecDepth 100000
set_option maxHeartbeats 1000000
section
variable {M : Model} {A : Around} {E : Value → Shared → Prop} {s : Shared} {h₀ : Heap} {L a c P : Addr} {m mg mb : Str → Option Value} {cn : Str} {cs : Scope} {ccd : Value} {cl : List (Str × Addr)} {news : List (Addr × Obj)} {g : Obj → List (Addr × Obj)}
  {p : Program} {loose : List Str} {mean : ExcName → Option Value} {name qual : Str} {params : Arguments} {body : Expr} {scope : Scope} {ps : Array Value} {pos : Pos} {firstLine : Nat} {codes : List (Addr × Obj)} {q : Nat → Str}
/-- a lambda that captures nothing: its object, beside the code object that stands in the def's table after it -/
theorem lam_any {Q : Value → Shared → Prop} (F : Fr h₀ L s.heap m) (N : News h₀ L s.heap news) (T : Top p loose mean mg mb h₀) (C : CodeHd h₀ c P) (hcd : ccd = .ref c) (U : UpdF P (tabObj ps) news g)
    (G : GoodT codes q ps) (hcod : ∀ p ∈ codes, p ∈ news) (hcodP : ∀ p ∈ codes, p.1 ≠ P) (hq : qual = q pos.line) (hcl : closureFor scope (envX cn cs L a ccd cl) = pure [])
    (h : ∀ f fo h' tk ps' codes', fo.cls = .type "function" → Fr h₀ L h' m → News h₀ L h' ((f, fo) :: g (tabObj ps')) → News h₀ L h' codes' → GoodT codes' q ps' →
      (∀ p ∈ codes, p ∈ codes') → (∀ p ∈ codes', p ∈ codes ∨ ∀ r ∈ news, r.1 < p.1) → (∀ r ∈ news, r.1 < f) → (∀ r ∈ codes', r.1 < f) → Q (.ref f) { s with heap := h', toks := tk }) :
    wpAny M A (makeFunction name qual params (.expr body) scope (envX cn cs L a ccd cl) [] [] [] pos firstLine) Q E s := by
  obtain ⟨own, rest, rfl, hgr, h1, h2⟩ := U.split
  have hm := N (P, tabObj ps) (List.mem_append_right _ (.head _))
  have hgs := T.g.keeps F.keep
  obtain ⟨bm, ob, b1, b2, b3, b4, b5, b6⟩ := T.bmain
  have hbo := F.keep _ _ b3
  have hgP : mainGlobals ≠ P := fun e0 => by
    obtain ⟨o, es, ep, e, hd, _⟩ := hgs
    rw [e0, hm.1] at e; cases e; cases hd
  have hbP : bm ≠ P := fun e0 => by
    have e := hbo
    rw [e0, hm.1] at e; cases e; cases b4
  have hCs := C.keeps F.keep
  have hLs : L < s.heap.objs.size := F.ns.lt
  have fresh : ∀ b, L < b → h₀.get? b = none := fun b hb => Heap.get?_none_of_le (Nat.le_trans F.above (Nat.le_of_lt hb))
  rw [makeFunction_eq]
  simp only [List.zip_nil_right, List.filterMap_nil, List.isEmpty_nil, if_true, pure_bind]
  unfold makeTail
  rw [hcl]
  refine wpAny_bind (wpAny_pure ?_)
  simp only [List.isEmpty_nil, if_true]
  refine wpAny_bind (wpAny_pure ?_)
  cases hf : codeAmong pos ps.toList with
  | none =>
    refine wpAny_bind (wpAny_functionCodeX hcd (hCs.code hm.1 G.1) (hCs.tab hm.1) hf fun c' h' tk hx hge hlt _ hrec htb _ => ?_)
    refine wpAny_bind (wpAny_builtinsFor (hgs.extBut hx hgP) b1 b2 (hx _ _ hbP hbo) b4 b5 b6 ?_)
    refine wpAny_bind (wpAny_nsGet (hgs.extBut hx hgP) ?_)
    suffices key : ∀ fo : Obj, fo.cls = .type "function" → fo.isFreed = false → Q (.ref h'.objs.size) { s with heap := h'.push fo, toks := tk } from wpAny_bind (wpAny_pure (wpAny_newObj_type (key _ rfl rfl) (by size_fits)))
    intro fo hfo hfr
    obtain ⟨c₂, oc, vs, t, e2, hoc, hd, hv⟩ := hrec
    cases e2
    have hLc : L < c' := Nat.lt_of_lt_of_le hLs hge
    have old : ∀ b o, h₀.get? b = some o → h'.get? b = some o := fun b o e => hx b o (fun e0 => by rw [e0, hm.2.2] at e; cases e) (F.keep b o e)
    have keepN : ∀ r ∈ own ++ rest, h'.get? r.1 = some r.2 := fun r hr => by
      rcases List.mem_append.mp hr with hr | hr
      · exact hx _ _ (h1 r hr) (N r (List.mem_append_left _ hr)).1
      · exact hx _ _ (h2 r hr) (N r (List.mem_append_right _ (.tail _ hr))).1
    have hlow : ∀ r ∈ own ++ (P, tabObj ps) :: rest, r.1 < c' := fun r hr => Nat.lt_of_lt_of_le (Heap.lt_size (N r hr).1) hge
    have hcods : ∀ r ∈ codes, r ∈ own ++ rest := fun r hr => by
      rcases List.mem_append.mp (hcod r hr) with k | k
      · exact List.mem_append_left _ k
      · rcases List.mem_cons.mp k with rfl | k
        · exact absurd rfl (hcodP _ hr)
        · exact List.mem_append_right _ k
    refine h h'.objs.size fo (h'.push fo) tk (ps ++ #[rawInt pos.line, rawInt pos.col, .ref c']) ((c', oc) :: codes) hfo ?F ?N ?Nc ?G (fun r hr => .tail _ hr) ?k1 (fun r hr => Nat.lt_trans (hlow r hr) hlt) ?k2
    case F => exact ⟨(F.ns.extBut hx hm.2.1.symm).push _, fun b o e => Heap.get?_push_of_some _ (old b o e), F.above⟩
    case N =>
      intro r hr
      rcases List.mem_cons.mp hr with rfl | hr
      · exact ⟨Heap.get?_push_size _ hfr, Nat.ne_of_gt (Nat.lt_trans hLc hlt), fresh _ (Nat.lt_trans hLc hlt)⟩
      · rw [hgr] at hr
        rcases List.mem_append.mp hr with hr | hr
        · exact ⟨Heap.get?_push_of_some _ (keepN r (List.mem_append_left _ hr)), (N r (List.mem_append_left _ hr)).2⟩
        · rcases List.mem_cons.mp hr with rfl | hr
          · exact ⟨Heap.get?_push_of_some _ htb.2, hm.2⟩
          · exact ⟨Heap.get?_push_of_some _ (keepN r (List.mem_append_right _ hr)), (N r (List.mem_append_right _ (.tail _ hr))).2⟩
    case Nc =>
      intro r hr
      rcases List.mem_cons.mp hr with rfl | hr
      · exact ⟨Heap.get?_push_of_some _ hoc, Nat.ne_of_gt hLc, fresh _ hLc⟩
      · exact ⟨Heap.get?_push_of_some _ (keepN r (hcods r hr)), (N r (hcod r hr)).2⟩
    case G =>
      refine ⟨?_, fun pos' v e => ?_⟩
      · rw [Array.toList_append]; exact triples_snoc _ G.1
      · rw [Array.toList_append] at e
        have e' := (among_snoc (pos := pos') (line := pos.line) (col := pos.col) (c := .ref c') ps.toList G.1).symm.trans e
        cases hp : codeAmong pos' ps.toList with
        | some v' =>
          rw [hp] at e'
          have e2 : v' = v := Option.some.inj e'
          subst e2
          obtain ⟨c₂, oc₂, vs₂, tk₂, a1, a2, a3⟩ := G.2 pos' v' hp
          exact ⟨c₂, oc₂, vs₂, tk₂, a1, .tail _ a2, a3⟩
        | none =>
          rw [hp, Option.none_or] at e'
          split at e'
          · rename_i hl
            obtain rfl := Option.some.inj e'
            simp only [Bool.and_eq_true, beq_iff_eq] at hl
            have hline : pos.line = pos'.line := by exact_mod_cast hl.1
            exact ⟨c', oc, vs, t, rfl, .head _, hd, by rw [← hline, ← hq]; exact hv⟩
          · cases e'
    case k1 =>
      intro r hr
      rcases List.mem_cons.mp hr with rfl | hr
      · exact .inr hlow
      · exact .inl hr
    case k2 =>
      intro r hr
      rcases List.mem_cons.mp hr with rfl | hr
      · exact hlt
      · exact Nat.lt_trans (hlow r (hcod r hr)) hlt
  | some v =>
    refine wpAny_bind (wpAny_functionCode_hit hcd (hCs.code hm.1 G.1) hf ?_)
    refine wpAny_bind (wpAny_builtinsFor hgs b1 b2 hbo b4 b5 b6 ?_)
    refine wpAny_bind (wpAny_nsGet hgs ?_)
    suffices key : ∀ fo : Obj, fo.cls = .type "function" → fo.isFreed = false → Q (.ref s.heap.objs.size) { s with heap := s.heap.push fo } from wpAny_bind (wpAny_pure (wpAny_newObj_type (key _ rfl rfl) (by size_fits)))
    intro fo hfo hfr
    have hlow : ∀ r ∈ own ++ (P, tabObj ps) :: rest, r.1 < s.heap.objs.size := fun r hr => Heap.lt_size (N r hr).1
    refine h s.heap.objs.size fo (s.heap.push fo) s.toks ps codes hfo ⟨F.ns.push _, fun b o e => Heap.get?_push_of_some _ (F.keep b o e), F.above⟩ ?N2 (fun r hr => ⟨Heap.get?_push_of_some _ (N r (hcod r hr)).1, (N r (hcod r hr)).2⟩) G (fun _ x => x) (fun _ x => .inl x) hlow (fun r hr => hlow r (hcod r hr))
    intro r hr
    rcases List.mem_cons.mp hr with rfl | hr
    · exact ⟨Heap.get?_push_size _ hfr, Nat.ne_of_gt hLs, fresh _ hLs⟩
    · rw [hgr] at hr
      exact ⟨Heap.get?_push_of_some _ (N r hr).1, (N r hr).2⟩
end
end Mine
end
section
open PySem PySem.W PyProof.Rows PySem.Calls PySem.Builtin PySem.Builtin.Re
namespace Mine
set_option maxRecDepth 100000
set_option maxHeartbeats 1000000
theorem plainAttrs_pat : PlainAttrs "re.Pattern" := by
  first
  | exact ⟨⟨"re.Pattern.__getattribute__", by rw [typeLookup_type, builtinLookup_eq_fast]; kernel_rfl, by decide +kernel⟩, by rw [typeLookup_type, builtinLookup_eq_fast]; kernel_rfl⟩
  | exact ⟨⟨"object.__getattribute__", by rw [typeLookup_type, builtinLookup_eq_fast]; kernel_rfl, by decide +kernel⟩, by rw [typeLookup_type, builtinLookup_eq_fast]; kernel_rfl⟩
section
variable {M : Model} {A : Around} {E : Value → Shared → Prop} {s : Shared}
theorem getMethod_sub {P : Addr} {o : Obj} {pl : Sem Bool} {Q : Value × List Value → Shared → Prop} (ho : s.heap.get? P = some o) (hc : o.cls = .type "re.Pattern") (hd : o.dict = none) (h : Q (.builtin "re.Pattern.sub", [.ref P]) s) :
    wpAny M A (getMethod (.ref P) "sub" pl) Q E s :=
  getMethod_builtin ⟨o, ho, hc⟩ plainAttrs_pat slot_sub type_sub (fun a e => by cases e; exact ⟨o, ho, hd⟩) h
end
section
variable {prog : Program} {w : World} {A : Around} {E : Value → Shared → Prop} {s : Shared} {env : Env}
theorem eval_lambda {args : Arguments} {body : PySem.Expr} {scope : Scope} {pos : Pos} {Q : Value → Shared → Prop} (hd : defaultsOf args env = ([], []))
    (h : wpAny (model prog w) A (makeFunction "<lambda>" (env.qual ++ "<lambda>") args (.expr body) scope env [] [] [] pos pos.line) Q E s) : wpAny (model prog w) A (PySem.eval (.Lambda args body scope pos) env) Q E s := by
  rw [arm_eval_Lambda]
  rw [hd]
  dsimp only
  refine wpAny_bind (wpAny_pure ?_)
  refine wpAny_bind (wpAny_holding (wpAny_pure ?_))
  exact h
end
end Mine
end
section
open PySem PySem.W PyProof.Rows PySem.Calls PySem.Builtin PySem.Builtin.Str
namespace Mine
set_option maxRecDepth 100000
set_option maxHeartbeats 1000000
section
variable {prog : Program} {w : World} {A : Around} {E : Value → Shared → Prop} {s : Shared}
/-- nothing to replace: no place is asked -/
theorem call_repl0 {x y z : Str} {t u v : Tok} {Q : Value → Shared → Prop} (h0 : (occurrences x y 0 x.length (x.length + 1)).isEmpty = true) (h : Q (.str x t) s) :
    wpAny (model prog w) A (call (.builtin "str.replace") [.str x t, .str y u, .str z v]) Q E s := by
  refine call_gives F.slot_str_replace (typeIs_str _ _ _) F.entry_str_replace (F.args_str_replace_3 _ _ _) (gives_str_replace x y z t u v fun hc => by rw [h0] at hc; simp at hc) ?_
  rw [h0]
  exact h
end
end Mine
end
section
open PySem PySem.W PyProof.Rows PySem.Calls PySem.Builtin PySem.Builtin.Str
namespace Mine
set_option maxRecDepth 100000
set_option maxHeartbeats 1000000
theorem gives_find4 (x y : Str) (i j : Int) (t u v z : Tok) : Gives (Builtin.«str.find» ⟨[.str x t, .str y u, .int i v, .int j z], []⟩) (.int (match occurrences x y (fromIndex x.length i) (min (fromIndex x.length j) x.length) 1 with | k :: _ => (k : Int) | [] => -1)) := by
  show Gives (match occurrences x y (fromIndex x.length i) (min (fromIndex x.length j) x.length) 1 with | k :: _ => retInt k | [] => (do rule "str.find.not-found"; retInt (-1))) _
  cases occurrences x y (fromIndex x.length i) (min (fromIndex x.length j) x.length) 1 with
  | nil => exact .rule (.of_eq rfl)
  | cons k _ => exact .of_eq rfl
def find4 (x y : Str) (i j : Int) : Int := match occurrences x y (fromIndex x.length i) (min (fromIndex x.length j) x.length) 1 with | k :: _ => (k : Int) | [] => -1
theorem call_find4 {prog : Program} {w : World} {A : Around} {E : Value → Shared → Prop} {s : Shared} {x y : Str} {t u v z : Tok} {i j r : Int} {Q : Value → Shared → Prop} (hr : find4 x y i j = r) (h : Q (.int r s.toks) { s with toks := s.toks + 1 }) :
    wpAny (model prog w) A (call (.builtin "str.find") [.str x t, .str y u, .int i v, .int j z]) Q E s := by
  subst hr
  exact call_gives F.slot_str_find (typeIs_str _ _ _) F.entry_str_find (F.args_str_find_4 _ _ _ _) (gives_find4 x y i j t u v z) h
open PySem.StrLaws in
theorem find4_none {x : Str} {c : Nat} {lo hi : Nat} (h : ∀ i, lo ≤ i → i < hi → x.cps.toList[i]? ≠ some c) (hhi : hi ≤ x.length) : find4 x ⟨#[c]⟩ (lo : Int) (hi : Int) = -1 := by
  unfold find4
  have e1 : fromIndex x.length (lo : Int) = lo := by unfold fromIndex; rw [if_neg (by omega)]; omega
  have e2 : min (fromIndex x.length (hi : Int)) x.length = hi := by
    have : fromIndex x.length (hi : Int) = hi := by unfold fromIndex; rw [if_neg (by omega)]; omega
    rw [this]; omega
  rw [e1, e2, occ_eq]
  have := (occ_none x ⟨#[c]⟩ hi (List.range' lo (hi + 1 - lo)) lo (fun i hi' => by simp at hi'; omega)).mpr (fun i hi' ⟨k1, k2⟩ => by
    simp only [List.mem_range'_1] at hi'
    have hl : (⟨#[c]⟩ : Str).length = 1 := rfl
    rw [hl] at k1
    exact h i hi'.1 (by omega) ((subAt_one x c i).mp ⟨by rw [hl]; omega, k2⟩))
  rw [this]
open PySem.StrLaws in
theorem find4_here {x : Str} {c : Nat} {lo hi : Nat} (h : x.cps.toList[lo]? = some c) (hlo : lo < hi) (hhi : hi ≤ x.length) : find4 x ⟨#[c]⟩ (lo : Int) (hi : Int) = lo := by
  unfold find4
  have e1 : fromIndex x.length (lo : Int) = lo := by unfold fromIndex; rw [if_neg (by omega)]; omega
  have e2 : min (fromIndex x.length (hi : Int)) x.length = hi := by
    have : fromIndex x.length (hi : Int) = hi := by unfold fromIndex; rw [if_neg (by omega)]; omega
    rw [this]; omega
  rw [e1, e2, occ_eq]
  obtain ⟨n, hn⟩ : ∃ n, hi + 1 - lo = n + 1 := ⟨hi - lo, by omega⟩
  rw [hn, List.range'_succ, List.forIn_cons]
  have hs := (subAt_one x c lo).mpr h
  have hl : (⟨#[c]⟩ : Str).length = 1 := rfl
  have c1 : (((#[] : Array Nat), lo).fst.size < 1 ∧ ((#[] : Array Nat), lo).snd ≤ lo) ∧ lo + (⟨#[c]⟩ : Str).length ≤ hi := ⟨⟨by simp, Nat.le_refl _⟩, by rw [hl]; omega⟩
  have key : ∀ (l : List Nat) (a : Nat) (free : Nat), (forIn l ((#[a] : Array Nat), free) (occBody x ⟨#[c]⟩ hi 1)).run.fst = #[a] := by
    intro l
    induction l with
    | nil => intro a free; rfl
    | cons b l ih =>
      intro a free
      rw [List.forIn_cons]
      unfold occBody
      rw [if_neg (by rintro ⟨⟨⟨k, _⟩, _⟩, _⟩; simp at k)]
      exact ih a free
  have hb : occBody x ⟨#[c]⟩ hi 1 lo (#[], lo) = pure (ForInStep.yield (#[lo], lo + 1)) := by
    unfold occBody
    rw [if_pos ⟨c1, hs.2⟩]
    rfl
  rw [hb]
  show (match (forIn (List.range' (lo + 1) n) ((#[lo] : Array Nat), lo + 1) (occBody x ⟨#[c]⟩ hi 1)).run.fst.toList with | k :: _ => (k : Int) | [] => -1) = (lo : Int)
  rw [key]
end Mine
end
section
open PySem PySem.W PyProof.Rows PySem.Calls
namespace Mine
set_option maxRecDepth 100000
set_option maxHeartbeats 1000000
def rngIt (a : Int) (n i : Nat) : Obj := { cls := .type "range_iterator", data := .fields #[rawInt (a + (i : Int) * 1), rawInt ((n : Int) - (i : Int)), rawInt 1] }
section
variable {prog : Program} {w : World} {A : Around} {s : Shared} {h₀ : Heap} {env : Env}
/-- a for loop over a range by ones -/
theorem forRange_ind {R : Result → Shared → Prop} {xv : Str} {pv : Pos} {body orelse : List Stmt} {I : Addr} {a : Int} {n : Nat}
    (J : Nat → (Str → Option Value) → List (Addr × Obj) → Prop) (hh : A.handled = none)
    (hxv : env.kindOf xv = some .local)
    (hp : (env.scope.kind == .class || (env.scope.kind == .module && env.locals != env.globals)) = false)
    (step : ∀ i t m rest h' tk o', i < n → J i m rest → (∀ p ∈ rest, p.1 ∉ [I]) → Fr h₀ env.locals h' (fun z => if z = xv then some (.int (a + (i : Int)) t) else m z) →
      News h₀ env.locals h' ((I, o') :: rest) →
      wpAny (model prog w) A (execs body env) (LP h₀ env.locals s [(I, o')] [I] R (J (i + 1))) NoE { s with heap := h', toks := tk })
    (fin : ∀ m rest h' tk, J n m rest → (∀ p ∈ rest, p.1 ∉ [I]) → Fr h₀ env.locals h' m → News h₀ env.locals h' rest → wpAny (model prog w) A (execs orelse env) (fun f s₃ => R (.ok f) s₃) NoE { s with heap := h', toks := tk })
    (h' : Heap) (tk : Nat) (m : Str → Option Value) (rest : List (Addr × Obj)) (hJ : J 0 m rest) (hr : ∀ p ∈ rest, p.1 ∉ [I]) (Fm : Fr h₀ env.locals h' m) (N : News h₀ env.locals h' ((I, rngIt a n 0) :: rest)) :
      codeAny (model prog w) A (.forLoop (.Name xv pv) (.ref I) body orelse env) R { s with heap := h', toks := tk } :=
  forW_ind (Walks.range hh I a 1 n) (fun i o => o = rngIt a n i) (fun _ => True) J
    (fun i h o _ e1 e2 _ => by subst e2; exact e1) (fun i h x => ⟨_, x, rfl⟩) (fun _ _ _ _ _ _ _ => trivial) hxv hp
    (fun i v m rest h' tk o' hi hP hJ hr F N => by
      obtain ⟨t, rfl⟩ := hP
      rw [Int.mul_one] at F
      exact step i t m rest h' tk o' hi hJ hr F N) fin n 0 h' tk m rest _ rfl (Nat.zero_le _) hJ hr rfl Fm N
theorem iter_range {E : Value → Shared → Prop} {M : Str → Option Value} {L r : Addr} {a b : Int} {t u v : Tok} {news : List (Addr × Obj)} {Q : Value → Shared → Prop} (Fm : Fr h₀ L s.heap M) (N : News h₀ L s.heap news) (n : Nat) (hr : IsRange s.heap r a b 1 t u v)
    (hsm : Builtin.Range.small a b 1 = true) (hn : Builtin.Range.rangeSize a b 1 = (n : Int))
    (h : ∀ h' it, Fr h₀ L h' M → News h₀ L h' ((it, rngIt a n 0) :: news) → (∀ p ∈ news, p.1 < it) → Q (.ref it) { s with heap := h' }) : wpAny (model prog w) A (pyIter (.ref r)) Q E s := by
  refine wpAny_pyIter_range hr hsm ?_
  rw [hn]
  have e : ({ cls := .type "range_iterator", data := .fields #[rawInt a, rawInt (n : Int), rawInt 1] } : Obj) = rngIt a n 0 := by
    unfold rngIt; simp
  rw [e]
  have K : ∀ b o, s.heap.get? b = some o → (s.heap.push (rngIt a n 0)).get? b = some o := fun b o e => Heap.get?_push_of_some _ e
  obtain ⟨F', N'⟩ := led_ext Fm N K
  exact h _ _ F' (led_new Fm N' (Nat.le_refl _) (Heap.get?_push_size _ rfl)) (led_lt N (Nat.le_refl _))
end
end Mine
end
section
open PySem PySem.W PyProof.Rows PySem.Calls
namespace Mine
set_option maxRecDepth 100000
set_option maxHeartbeats 4000000
theorem fill : (fun (_ : OpenLaw) (_ : Params → Frag) => True) PySem.Challenge.rw_ik0125_01 hd.heap_1 := by k_fill; trivial
abbrev prog := PySem.Challenge.rw_ik0125_01.row.prog
def qA (line : Nat) : Str := if line = 137 then Str.ofString "_translate.<locals>.<genexpr>" else Str.ofString "_translate.<locals>.<lambda>"
def qB (_ : Nat) : Str := Str.ofString "_digits2int.<locals>.inner"
def qC (_ : Nat) : Str := Str.ofString "_int2digits.<locals>.inner"
abbrev TabL3 (tabs : List (Addr × Obj)) : Prop := TabL 99 54 47 qA qB qC tabs

structure Ctr (w : World) (f : Addr) (d u : Nat) (vs : List Value) (Pre : List (Addr × Obj) → Heap → Prop) (Post : Heap → Heap → Value → Prop) : Prop where
  run : ∀ {p : Program} {loose : List Str} {mean : ExcName → Option Value} {mg mb : Str → Option Value} {dp un : Nat} {gd : Option (List Code)} {cn : Str} {cs : Scope} {a : Addr} {ccd : Value} {cl : List (Str × Addr)} {outer : List Env} {A₀ : Around} {base h₀ : Heap} {L : Addr} {m : Str → Option Value} {tabs : List (Addr × Obj)} {s : Shared} {Q E : Value → Shared → Prop},
    Below A₀ base outer h₀ → Fr h₀ L s.heap m → (hd.heap_1 w.params).In h₀ → News h₀ L s.heap tabs → TabL3 tabs → Top p loose mean mg mb h₀ → cs.kind = .function →
    dp + d < recursionLimit → un + u < cLine → Pre tabs s.heap →
    (∀ v h' tk' tabs', StayT tabs s.heap h' → NewT tabs tabs' s.heap h' → TabL3 tabs' → Post s.heap h' v → Q v { s with heap := h', toks := tk' }) →
      wpAny (model prog w) (ktrTop dp un gd cn cs L a ccd cl outer) (call (.ref f) vs) Q E s

theorem use_ctr {w : World} {f : Addr} {d u : Nat} {vs : List Value} {Pre : List (Addr × Obj) → Heap → Prop} {Post : Heap → Heap → Value → Prop} {p : Program} {loose : List Str} {mean : ExcName → Option Value} {mg mb : Str → Option Value} {dp un : Nat} {gd : Option (List Code)} {cn : Str} {cs : Scope} {a : Addr} {ccd : Value} {cl : List (Str × Addr)} {outer : List Env} {A₀ : Around} {base h₀ : Heap} {L : Addr} {m : Str → Option Value} {tabs news : List (Addr × Obj)} {g : List (Addr × Obj) → List (Addr × Obj)} {s : Shared} {Q E : Value → Shared → Prop}
    (C : Ctr w f d u vs Pre Post) (B : Below A₀ base outer h₀) (F : Fr h₀ L s.heap m) (X : (hd.heap_1 w.params).In h₀) (N : News h₀ L s.heap news) (TL : TabL3 tabs) (TO : TailOf tabs news g) (T : Top p loose mean mg mb h₀) (hk : cs.kind = .function)
    (hd : dp + d < recursionLimit) (hu : un + u < cLine) (hpre : Pre tabs s.heap)
    (h : ∀ v h' tk' tabs', Fr h₀ L h' m → News h₀ L h' (g tabs') → TabL3 tabs' → TailOf tabs' (g tabs') g → (∀ q ∈ tabs', q.1 ∈ tabs.map (·.1) ∨ s.heap.objs.size ≤ q.1) → Post s.heap h' v → Q v { s with heap := h', toks := tk' }) :
    wpAny (model prog w) (ktrTop dp un gd cn cs L a ccd cl outer) (call (.ref f) vs) Q E s :=
  have N₀ : News h₀ L s.heap tabs := fun q hq => N q (TO.tabs q hq)
  C.run B F X N₀ TL T hk hd hu hpre fun v h' tk' tabs' st n TL' ps => h v h' tk' tabs' (stay_fr F N₀ st) (TO.news N st (newT_news F N₀ n)) TL' (TO.next (fun q hq => Heap.lt_size (N q hq).1) fun q hq => (n q hq).2) (fun q hq => (n q hq).2) ps

/-- a def whose body makes no table: its walk -/
theorem ctr_plain {w : World} {f : Addr} {d u : Nat} {vs : List Value} {Pre : List (Addr × Obj) → Heap → Prop} {Post : Heap → Heap → Value → Prop} {name qual : Str} {params : Arguments} {body : List Stmt} {scope : Scope} {dV kV doc pm cdv ct oc : Value} {an od : Option Addr} {osl : Array (Option Value)} {binds : List (Str × Value)}
    (ho : (hd.heap_1 w.params).lookup f = some ⟨oc, od, .func (fnOf name qual params body scope dV kV doc pm an cdv ct), osl⟩) (hcd : codeIn (hd.heap_1 w.params) cdv qual = true)
    (hd1 : 1 ≤ d)
    (hbind : ∀ s, BindsTo s (fnOf name qual params body scope dV kV doc pm an cdv ct) ⟨vs, []⟩ binds) (hloc : ∀ y ∈ binds, scope.names.lookup y.1 = some .local)
    (hco : scope.isCoroutine = false) (hgen : scope.isGenerator = false) (hk : scope.kind = .function) (hcell : ∀ x ∈ scope.names, x.2 ≠ .cell)
    (h : ∀ (p : Program) (loose : List Str) (mean : ExcName → Option Value) (mg mb : Str → Option Value) (dp un : Nat) (gd : Option (List Code)) (outer : List Env) (A₀ : Around) (base g₀ g : Heap) (L : Addr) (tabs : List (Addr × Obj)) (s : Shared) (Q : Value → Shared → Prop),
      dp + d ≤ recursionLimit → un + u ≤ cLine + 3 → g₀.objs.size ≤ L → (∀ b o, b ∉ tabs.map (·.1) → g₀.get? b = some o → g.get? b = some o) →
      Fr g L s.heap (fun y => binds.reverse.lookup y) → News g L s.heap tabs → TabL3 tabs → Below A₀ base outer g → (hd.heap_1 w.params).In g → Top p loose mean mg mb g → Pre tabs g₀ →
      (∀ v h' tk' m' tabs', Fr g L h' m' → News g L h' tabs' → TabL3 tabs' → (∀ p ∈ tabs', p.1 ∈ tabs.map (·.1) ∨ L ≤ p.1) → Post g₀ h' v → Q v { s with heap := h', toks := tk' }) →
      wpAny (model prog w) (ktrTop dp un gd qual scope L f cdv [] outer) (execs body (envX qual scope L f cdv []))
        (fun fl s' => Q (match fl with | .ret v => v | _ => .none) s') NoE s) : Ctr w f d u vs Pre Post := by
  constructor
  intro p loose mean mg mb dp un gd cn cs a ccd cl outer A₀ base h₀ L m tabs s Q E B F X N TL T hk' hd hu hpre hret
  refine wpAny_call ?_
  refine call_ground B F X N T rfl rfl hk' ho hcd ?_ (hbind s) hloc (fun g L' h₁ eg st e0 e1 F' N' B' X' T' => ?_) hco hgen hk hcell
  · show dp < recursionLimit; omega
  subst e0
  refine h p loose mean mg mb (dp + 1) (un + 3) gd _ _ base s.heap g s.heap.objs.size tabs _ (fun v s' => Q v s') ?_ ?_ (Nat.le_refl _) st F' N' TL B' X' T' hpre ?_
  · omega
  · omega
  · intro v h' tk' m' tabs' F'' N'' TL' ht ps
    exact hret v h' tk' tabs' (fun b o hb e => F''.keep b o (st b o hb e)) (fun p hp => ⟨(N'' p hp).1, ht p hp⟩) TL' ps

/-- a def whose locals are captured -/
theorem ctr_cells {w : World} {f : Addr} {d u : Nat} {vs : List Value} {Pre : List (Addr × Obj) → Heap → Prop} {Post : Heap → Heap → Value → Prop} {name qual : Str} {params : Arguments} {body : List Stmt} {scope : Scope} {dV kV doc pm cdv ct oc : Value} {an od : Option Addr} {osl : Array (Option Value)} {binds : List (Str × Value)}
    (ho : (hd.heap_1 w.params).lookup f = some ⟨oc, od, .func (fnOf name qual params body scope dV kV doc pm an cdv ct), osl⟩) (hcd : codeIn (hd.heap_1 w.params) cdv qual = true)
    (hd1 : 1 ≤ d)
    (hbind : ∀ s, BindsTo s (fnOf name qual params body scope dV kV doc pm an cdv ct) ⟨vs, []⟩ binds) (hkind : (binds.all fun y => scope.names.lookup y.1 == some .local || scope.names.lookup y.1 == some .cell) = true)
    (hnd : ((cellsFrom 0 scope.names []).map (·.1)).Nodup)
    (hco : scope.isCoroutine = false) (hgen : scope.isGenerator = false) (hk : scope.kind = .function)
    (h : ∀ (p : Program) (loose : List Str) (mean : ExcName → Option Value) (mg mb : Str → Option Value) (dp un : Nat) (gd : Option (List Code)) (outer : List Env) (A₀ : Around) (base g₀ g : Heap) (L : Addr) (tabs cells : List (Addr × Obj)) (s : Shared) (Q : Value → Shared → Prop),
      dp + d ≤ recursionLimit → un + u ≤ cLine + 3 → g₀.objs.size = L → (∀ b o, b ∉ tabs.map (·.1) → g₀.get? b = some o → g.get? b = some o) →
      Fr g L s.heap (bindL (envOfC qual scope L f cdv).kindOf binds fun _ => none) → News g L s.heap (cells ++ tabs) → (∀ q ∈ tabs, q.1 < L) → CellsAre (bindC (envOfC qual scope L f cdv).kindOf binds fun _ => none) (cellsFrom (L + 1) scope.names []) cells →
      TabL3 tabs → Below A₀ base outer g → (hd.heap_1 w.params).In g → Top p loose mean mg mb g → Pre tabs g₀ →
      (∀ v h' tk' m' tabs', Fr g L h' m' → News g L h' tabs' → TabL3 tabs' → (∀ p ∈ tabs', p.1 ∈ tabs.map (·.1) ∨ L ≤ p.1) → Post g₀ h' v → Q v { s with heap := h', toks := tk' }) →
      wpAny (model prog w) (ktrTop dp un gd qual scope L f cdv (cellsFrom (L + 1) scope.names []) outer) (execs body (envX qual scope L f cdv (cellsFrom (L + 1) scope.names [])))
        (fun fl s' => Q (match fl with | .ret v => v | _ => .none) s') NoE s) : Ctr w f d u vs Pre Post := by
  constructor
  intro p loose mean mg mb dp un gd cn cs a ccd cl outer A₀ base h₀ L m tabs s Q E B F X N TL T hk' hd hu hpre hret
  refine wpAny_call ?_
  refine call_groundC B F X N T rfl rfl hk' ho hcd ?_ (hbind s) hkind hnd (fun g L' h₁ tk cells eg st e0 F' N' hlt Y B' X' T' => ?_) hco hgen hk
  · show dp < recursionLimit; omega
  subst e0
  refine h p loose mean mg mb (dp + 1) (un + 3) gd _ _ base s.heap g s.heap.objs.size tabs cells { s with heap := h₁, toks := tk } (fun v s' => Q v s') ?_ ?_ rfl st F' N' hlt Y TL B' X' T' hpre ?_
  · omega
  · omega
  · intro v h' tk' m' tabs' F'' N'' TL' ht ps
    exact hret v h' tk' tabs' (fun b o hb e => F''.keep b o (st b o hb e)) (fun p hp => ⟨(N'' p hp).1, ht p hp⟩) TL' ps

/-- a leaf: it touches no table; all that was stays -/
structure CtrL (w : World) (f : Addr) (d u : Nat) (vs : List Value) (Pre : Heap → Prop) (Post : Heap → Heap → Value → Prop) : Prop where
  run : ∀ {p : Program} {loose : List Str} {mean : ExcName → Option Value} {mg mb : Str → Option Value} {dp un : Nat} {gd : Option (List Code)} {cn : Str} {cs : Scope} {a : Addr} {ccd : Value} {cl : List (Str × Addr)} {outer : List Env} {A₀ : Around} {base h₀ : Heap} {L : Addr} {m : Str → Option Value} {s : Shared} {Q E : Value → Shared → Prop},
    Below A₀ base outer h₀ → Fr h₀ L s.heap m → (hd.heap_1 w.params).In h₀ → Top p loose mean mg mb h₀ → cs.kind = .function →
    dp + d < recursionLimit → un + u < cLine → Pre s.heap →
    (∀ v h' tk', (∀ b o, s.heap.get? b = some o → h'.get? b = some o) → Post s.heap h' v → Q v { s with heap := h', toks := tk' }) →
      wpAny (model prog w) (ktrTop dp un gd cn cs L a ccd cl outer) (call (.ref f) vs) Q E s

theorem use_leaf {w : World} {f : Addr} {d u : Nat} {vs : List Value} {Pre : Heap → Prop} {Post : Heap → Heap → Value → Prop} {p : Program} {loose : List Str} {mean : ExcName → Option Value} {mg mb : Str → Option Value} {dp un : Nat} {gd : Option (List Code)} {cn : Str} {cs : Scope} {a : Addr} {ccd : Value} {cl : List (Str × Addr)} {outer : List Env} {A₀ : Around} {base h₀ : Heap} {L : Addr} {m : Str → Option Value} {news : List (Addr × Obj)} {s : Shared} {Q E : Value → Shared → Prop}
    (C : CtrL w f d u vs Pre Post) (B : Below A₀ base outer h₀) (F : Fr h₀ L s.heap m) (X : (hd.heap_1 w.params).In h₀) (N : News h₀ L s.heap news) (T : Top p loose mean mg mb h₀) (hk : cs.kind = .function)
    (hd : dp + d < recursionLimit) (hu : un + u < cLine) (hpre : Pre s.heap)
    (h : ∀ v h' tk', Fr h₀ L h' m → News h₀ L h' news → (∀ b o, s.heap.get? b = some o → h'.get? b = some o) → Post s.heap h' v → Q v { s with heap := h', toks := tk' }) :
    wpAny (model prog w) (ktrTop dp un gd cn cs L a ccd cl outer) (call (.ref f) vs) Q E s :=
  C.run B F X T hk hd hu hpre fun v h' tk' st ps => h v h' tk' ⟨F.ns.keeps st, fun b o e => st _ _ (F.keep b o e), F.above⟩ (fun q hq => ⟨st _ _ (N q hq).1, (N q hq).2⟩) st ps

theorem ctr_leaf {w : World} {f : Addr} {d u : Nat} {vs : List Value} {Pre : Heap → Prop} {Post : Heap → Heap → Value → Prop} {name qual : Str} {params : Arguments} {body : List Stmt} {scope : Scope} {dV kV doc pm cdv ct oc : Value} {an od : Option Addr} {osl : Array (Option Value)} {binds : List (Str × Value)}
    (ho : (hd.heap_1 w.params).lookup f = some ⟨oc, od, .func (fnOf name qual params body scope dV kV doc pm an cdv ct), osl⟩) (hcd : codeIn (hd.heap_1 w.params) cdv qual = true)
    (hd1 : 1 ≤ d)
    (hbind : ∀ s, BindsTo s (fnOf name qual params body scope dV kV doc pm an cdv ct) ⟨vs, []⟩ binds) (hloc : ∀ y ∈ binds, scope.names.lookup y.1 = some .local)
    (hco : scope.isCoroutine = false) (hgen : scope.isGenerator = false) (hk : scope.kind = .function) (hcell : ∀ x ∈ scope.names, x.2 ≠ .cell)
    (h : ∀ (p : Program) (loose : List Str) (mean : ExcName → Option Value) (mg mb : Str → Option Value) (dp un : Nat) (gd : Option (List Code)) (outer : List Env) (A₀ : Around) (base g : Heap) (L : Addr) (s : Shared) (Q : Value → Shared → Prop),
      dp + d ≤ recursionLimit → un + u ≤ cLine + 3 → g.objs.size ≤ L →
      Fr g L s.heap (fun y => binds.reverse.lookup y) → News g L s.heap [] → Below A₀ base outer g → (hd.heap_1 w.params).In g → Top p loose mean mg mb g → Pre g →
      (∀ v h' tk' m', Fr g L h' m' → Post g h' v → Q v { s with heap := h', toks := tk' }) →
      wpAny (model prog w) (ktrTop dp un gd qual scope L f cdv [] outer) (execs body (envX qual scope L f cdv []))
        (fun fl s' => Q (match fl with | .ret v => v | _ => .none) s') NoE s) : CtrL w f d u vs Pre Post := by
  constructor
  intro p loose mean mg mb dp un gd cn cs a ccd cl outer A₀ base h₀ L m s Q E B F X T hk' hd hu hpre hret
  refine wpAny_call ?_
  refine call_ground (tabs := []) B F X News.nil T rfl rfl hk' ho hcd ?_ (hbind s) hloc (fun g L' h₁ eg st e0 e1 F' N' B' X' T' => ?_) hco hgen hk hcell
  · show dp < recursionLimit; omega
  subst e0
  replace eg : g = s.heap := eg
  subst eg
  refine h p loose mean mg mb (dp + 1) (un + 3) gd _ _ base s.heap s.heap.objs.size _ (fun v s' => Q v s') (by omega) (by omega) (Nat.le_refl _) F' N' B' X' T' hpre ?_
  intro v h' tk' m' F'' ps
  exact hret v h' tk' F''.keep ps
end Mine
end
section
open PySem PySem.W PyProof.Rows PySem.Calls
namespace Mine
theorem fresh_DV : True := by (w_top off); k_with_none; trivial
set_option maxRecDepth 100000
set_option maxHeartbeats 4000000
theorem fill_DV : (fun (_ : OpenLaw) (_ : Params → Frag) => True) PySem.Challenge.rw_ik0125_01 hd.heap_1 := by k_fill; trivial
theorem intBits_le {a : Int} {k : Nat} (ha : 0 ≤ a) (h : a < 2 ^ k) : Builtin.Int.intBits a ≤ k := by
  unfold Builtin.Int.intBits
  by_cases h0 : a = 0
  · simp [h0]
  · rw [if_neg (by simpa using h0)]
    have hn : a.natAbs < 2 ^ k := by
      have e : ((a.natAbs : Nat) : Int) = a := Int.natAbs_of_nonneg ha
      have : ((a.natAbs : Nat) : Int) < ((2 ^ k : Nat) : Int) := by rw [e]; simpa using h
      exact_mod_cast this
    exact (Nat.log2_lt (by omega)).mpr hn
theorem c_div2n1n {w : World} {a b n : Int} {ta tb tn : Tok} (ha : 0 ≤ a) (ha2 : a < 18446744073709551616) (hb : 0 < b) (hb2 : b < 1073741824) (hn : 0 ≤ n) : CtrL w 38 1 8 [.int a ta, .int b tb, .int n tn] (fun _ => True)
    (fun g h v => ∃ l t₁ t₂, v = .ref l ∧ g.objs.size ≤ l ∧ h.IsTuple l #[.int (a.fdiv b) t₁, .int (a.fmod b) t₂]) := by
  have hbl : Builtin.Int.intBits a ≤ 64 := intBits_le ha ha2
  k_dflt (refine' ctr_leaf (binds := [(Str.ofString "a", .int a ta), (Str.ofString "b", .int b tb), (Str.ofString "n", .int n tn)]) ?k6 ?k7 ?k1 ?k9 ?kB ?c2 ?c3 ?c4 ?c5 ?_; (case k6 => k_is); (case k7 => k_is); (case k1 => decide); (case k9 => intro s; exact BindsTo.of_eq rfl); (case kB => exact locs rfl); (case c2 => exact rfl); (case c3 => exact rfl); (case c4 => exact rfl); (case c5 => decide))
  intro p loose mean mg mb dp un gd outer A₀ base g L s Q hd hu hL F N B X T hpre hret
  try dsimp only [List.reverse_cons, List.reverse_nil, List.nil_append, List.cons_append] at F
  have hb0 : b ≠ 0 := by omega
  k_steps
  all_goals first | (exfalso; omega) | skip
  rename Fr _ _ _ _ => F₂
  rename News _ _ _ _ => N₂
  exact hret _ _ _ _ F₂ ⟨_, _, _, rfl, Nat.le_trans hL (Nat.le_of_lt F.ns.lt), ⟨_, (N₂ _ (.head _)).1, rfl, _, rfl⟩⟩
end Mine
end
section
open PySem PySem.W PyProof.Rows PySem.Calls
namespace Mine
theorem fresh_ES : True := by (w_top off); k_with_none; trivial
set_option maxRecDepth 100000
set_option maxHeartbeats 4000000
theorem fill_ES : (fun (_ : OpenLaw) (_ : Params → Frag) => True) PySem.Challenge.rw_ik0125_01 hd.heap_1 := by k_fill; trivial
def keysOk (es : Array DictEntry) : Bool := es.toList.all fun e => match e.key with | .int k _ => e.hash == hashInt k | _ => false
theorem keysOk_of {prog : Program} {w : World} {es : Array DictEntry} (h : keysOk es = true) : KeysOf (intKind prog w) es := by
  intro e he
  have := List.all_eq_true.mp h e (Array.mem_def.mp he)
  cases hk : e.key with
  | int k t => rw [hk] at this; exact ⟨k, by simp [intKind, Value.isInt], show e.hash = hashInt k from by simpa using this⟩
  | _ => rw [hk] at this; cases this
theorem esc_map {w : World} {h : Heap} (X : (hd.heap_1 w.params).In h) : ∃ f, h.MapOf (intKind prog w) 87 f ∧ (∀ c ∈ [114, 119, 120, 115, 83, 116, 84], f ((c : Nat) : Int) = none) ∧ ∃ u, f ((45 : Nat) : Int) = some (.str ⟨#[92, 45]⟩ u) := by
  refine ⟨_, ⟨_, _, _, X _ _ (by k_is), ⟨rfl, rfl, rfl⟩, rfl, keysOk_of (by kernel_rfl), fun k => rfl⟩, ?_, ?_⟩
  · intro c hc
    simp only [List.mem_cons, List.not_mem_nil, or_false] at hc
    rcases hc with rfl | rfl | rfl | rfl | rfl | rfl | rfl <;> kernel_rfl
  · exact ⟨474, by kernel_rfl⟩
def escF (c : Nat) : Str := if c = 45 then ⟨#[92, 45]⟩ else ⟨#[c]⟩
theorem wd_ES_0 : True := by k_with_none; trivial
theorem wd_ES_1 : True := by
  (k_with "getMethod str" =>
    ((with_reducible refine gm_translate ?_)))
  trivial
theorem c_escape {w : World} {c : Nat} {t : Tok} (hc : c ∈ [114, 119, 120, 115, 83, 116, 84, 45]) : CtrL w 97 3 40 [.str ⟨#[c]⟩ t] (fun _ => True) (fun _ _ v => ∃ u, v = .str (escF c) u) := by
  k_dflt (refine' ctr_leaf (binds := [(Str.ofString "pattern", .str ⟨#[c]⟩ t)]) ?k6 ?k7 ?k1 ?k9 ?kB ?c2 ?c3 ?c4 ?c5 ?_; (case k6 => k_is); (case k7 => k_is); (case k1 => decide); (case k9 => intro s; exact BindsTo.of_eq rfl); (case kB => exact locs rfl); (case c2 => exact rfl); (case c3 => exact rfl); (case c4 => exact rfl); (case c5 => decide))
  intro p loose mean mg mb dp un gd outer A₀ base g L s Q hd hu hL F N B X T hpre hret
  try dsimp only [List.reverse_cons, List.reverse_nil, List.nil_append, List.cons_append] at F
  k_steps
  rename Fr _ _ _ _ => F₂
  obtain ⟨f, hm, h1, u, h2⟩ := esc_map (X.keeps F₂.keep)
  by_cases h45 : c = 45
  · subst h45
    refine translate_text (by decide) hm h2 rfl fun h' tk' t' hk => ?_
    exact hret _ _ _ _ (F₂.keeps hk) ⟨t', rfl⟩
  · refine translate_keep ((by decide : ∀ c ∈ [114, 119, 120, 115, 83, 116, 84, 45], c < 128) c hc) hm (h1 c ((by decide : ∀ c ∈ [114, 119, 120, 115, 83, 116, 84, 45], c ≠ 45 → c ∈ [114, 119, 120, 115, 83, 116, 84]) c hc h45)) rfl rfl fun h' tk' t' hk => ?_
    exact hret _ _ _ _ (F₂.keeps hk) ⟨t', by unfold escF; rw [if_neg h45]⟩
end Mine
end
section
open PySem PySem.W PyProof.Rows PySem.Calls
namespace Mine
set_option maxRecDepth 100000
set_option maxHeartbeats 4000000
theorem fill_PC : (fun (_ : OpenLaw) (_ : Params → Frag) => True) PySem.Challenge.rw_ik0125_01 hd.heap_1 := by k_fill; trivial
def isSign (c : Nat) : Prop := c ∈ [114, 119, 120, 115, 83, 116, 84, 45]
def one63 : List Nat := [63, 112, 99, 100, 98, 108, 115]
def two84 : List (Nat × Nat) := [(84, 116), (116, 84), (83, 115), (115, 83), (120, 116), (116, 120), (120, 115), (115, 120)]
def pre114 : List Nat := [114, 119, 120, 83, 84]
/-- a piece of a pattern, and the text that _translate hands on for it -/
inductive PieceOk : List Nat → List Nat → Prop
  | sign (c : Nat) (h : isSign c) : PieceOk [c] (escF c).cps.toList
  | one (c : Nat) (h : c ∈ one63) : PieceOk [91, c, 93] [91, c, 93]
  | two (a b : Nat) (h : (a, b) ∈ two84) : PieceOk [91, a, b, 93] [91, a, b, 93]
  | dash : PieceOk [91, 45, 93] [91, 92, 45, 93]
  | atEnd (a : Nat) (h : a ∈ pre114) : PieceOk [91, a, 45, 93] [91, a, 92, 45, 93]
  | atHead (b : Nat) (h : b ∈ pre114) : PieceOk [91, 45, b, 93] [91, 92, 45, b, 93]
def TokOk (t : List Nat) (v : Value) : Prop := ∃ y u, PieceOk t y ∧ v = .str (mkS y) u
inductive ToksOk : List (List Nat) → List Value → Prop
  | nil : ToksOk [] []
  | cons {t : List Nat} {v : Value} {ts : List (List Nat)} {vs : List Value} : TokOk t v → ToksOk ts vs → ToksOk (t :: ts) (v :: vs)
theorem ToksOk.snoc {ts : List (List Nat)} {vs : List Value} {x : List Nat} {v : Value} (h : ToksOk ts vs) (hx : TokOk x v) : ToksOk (ts ++ [x]) (vs ++ [v]) := by
  induction h with
  | nil => exact .cons hx .nil
  | cons a _ ih => exact .cons a ih
theorem ToksOk.len {ts : List (List Nat)} {vs : List Value} (h : ToksOk ts vs) : vs.length = ts.length := by
  induction h with
  | nil => rfl
  | cons _ _ ih => simp [ih]
theorem tokAt_of {P : Str} {ts : List (List Nat)} {k : Nat} (hts : P.cps.toList = ts.flatten) (hk : k < ts.length) : TokAt P (ts.take k).flatten.length ts[k] := by
  constructor
  intro d c hc
  rw [← Array.getElem?_toList, hts]
  have e : ts.flatten = (ts.take k).flatten ++ (ts[k] ++ (ts.drop (k + 1)).flatten) := by
    conv => lhs; rw [← List.take_append_drop k ts, List.flatten_append, List.drop_eq_getElem_cons hk, List.flatten_cons]
  rw [e, List.getElem?_append_right (by omega), Nat.add_sub_cancel_left, List.getElem?_append_left (List.getElem?_eq_some_iff.mp hc).1]
  exact hc
theorem tok_slice {P : Str} {i : Nat} {tok : List Nat} (hT : TokAt P i tok) {a b : Nat} (hab : a ≤ b) (hb : b ≤ tok.length) (hP : i + tok.length ≤ P.length) {x y : Int} (hx : x = ((i + a : Nat) : Int)) (hy : y = ((i + b : Nat) : Int)) :
    Txt.slice P (some x) (some y) = mkS ((tok.drop a).take (b - a)) := by
  subst hx hy
  rw [of_mkS P, sl_ss (by rw [len_cps] at hP; omega)]
  congr 1
  apply List.ext_getElem?
  intro n
  rw [Int.toNat_natCast, show (((i + b : Nat) : Int) - ((i + a : Nat) : Int)).toNat = b - a by omega, List.getElem?_take, List.getElem?_take]
  by_cases hn : n < b - a
  · rw [if_pos hn, if_pos hn, List.getElem?_drop, List.getElem?_drop, Array.getElem?_toList]
    have e : tok[a + n]? = some (tok[a + n]'(by omega)) := List.getElem?_eq_getElem _
    rw [e, Nat.add_assoc, hT.at _ _ e]
  · rw [if_neg hn, if_neg hn]
inductive Pieces : List (List Nat) → List (List Nat) → Prop
  | nil : Pieces [] []
  | cons {t y : List Nat} {ts ys : List (List Nat)} : PieceOk t y → Pieces ts ys → Pieces (t :: ts) (y :: ys)
theorem Pieces.len {ts ys : List (List Nat)} (h : Pieces ts ys) : ys.length = ts.length := by
  induction h with
  | nil => rfl
  | cons _ _ ih => simp [ih]
theorem pieces_of {ts : List (List Nat)} {vs : List Value} (h : ToksOk ts vs) : ∃ ys, Pieces ts ys ∧ StrsAre vs (ys.map mkS) := by
  induction h with
  | nil => exact ⟨[], .nil, .nil⟩
  | cons hx _ ih =>
    obtain ⟨y, u, hp, rfl⟩ := hx
    obtain ⟨ys, h1, h2⟩ := ih
    exact ⟨y :: ys, .cons hp h1, .cons _ _ h2⟩
theorem piece_len {t y : List Nat} (h : PieceOk t y) : y.length ≤ 5 := by
  cases h with
  | sign c h => unfold escF; split <;> simp
  | one => simp
  | two => simp
  | dash => simp
  | atEnd => simp
  | atHead => simp
theorem Pieces.short {ts ys : List (List Nat)} (h : Pieces ts ys) : ∀ y ∈ ys, y.length ≤ 5 := by
  induction h with
  | nil => intro y hy; cases hy
  | cons hp _ ih =>
    intro y hy
    rcases List.mem_cons.mp hy with rfl | hy
    · exact piece_len hp
    · exact ih y hy
theorem tokAt_sub {P : Str} {i : Nat} {a b c : List Nat} (h : TokAt P i (a ++ (b ++ c))) : TokAt P (i + a.length) b := by
  constructor
  intro d x hx
  have hd := (List.getElem?_eq_some_iff.mp hx).1
  rw [Nat.add_assoc]
  refine h.at _ _ ?_
  rw [List.getElem?_append_right (by omega), Nat.add_sub_cancel_left, List.getElem?_append_left hd]
  exact hx
/-- a sign inside a bracket of the made text -/
def uni (c : Nat) : List Nat := if c = 45 then [92, 45] else [c]
def plain13 : List Nat := [63, 112, 99, 100, 98, 108, 115, 84, 116, 83, 120, 114, 119]
def insOk (c : Nat) : Prop := c = 45 ∨ c ∈ plain13
def innerOf (t : List Nat) : List Nat := if t.length = 1 then t else (t.drop 1).dropLast
theorem piece_cases {t y : List Nat} (h : PieceOk t y) : (∃ c ∈ [114, 119, 120, 115, 83, 116, 84], y = [c] ∧ innerOf t = [c]) ∨ (y = [92, 45] ∧ innerOf t = [45]) ∨
    (∃ cs, (∀ c ∈ cs, insOk c) ∧ cs.length ≤ 2 ∧ y = [91] ++ ((cs.map uni).flatten ++ [93]) ∧ innerOf t = cs) := by
  cases h with
  | sign c h =>
    by_cases h45 : c = 45
    · subst h45; exact .inr (.inl ⟨rfl, rfl⟩)
    · refine .inl ⟨c, ?_, ?_, rfl⟩
      · have key : ∀ c ∈ [114, 119, 120, 115, 83, 116, 84, 45], c ≠ 45 → c ∈ [114, 119, 120, 115, 83, 116, 84] := by decide
        exact key c h h45
      · unfold escF; rw [if_neg h45]
  | one c h =>
    have h45 : c ≠ 45 := by rintro rfl; revert h; decide
    refine .inr (.inr ⟨[c], ?_, by simp, by simp [uni, h45], rfl⟩)
    intro x hx; obtain rfl := List.mem_singleton.mp hx
    exact .inr ((by decide : ∀ c ∈ one63, c ∈ plain13) _ h)
  | two a b h =>
    have key : ∀ p ∈ two84, p.1 ≠ 45 ∧ p.2 ≠ 45 ∧ p.1 ∈ plain13 ∧ p.2 ∈ plain13 := by decide
    obtain ⟨h1, h2, h3, h4⟩ := key _ h
    refine .inr (.inr ⟨[a, b], ?_, by simp, by simp [uni, show a ≠ 45 from h1, show b ≠ 45 from h2], rfl⟩)
    intro x hx
    simp only [List.mem_cons, List.not_mem_nil, or_false] at hx
    rcases hx with rfl | rfl
    · exact .inr h3
    · exact .inr h4
  | dash => exact .inr (.inr ⟨[45], by simp [insOk], by simp, by simp [uni], rfl⟩)
  | atEnd a h =>
    have key : ∀ p ∈ pre114, p ≠ 45 ∧ p ∈ plain13 := by decide
    obtain ⟨h1, h2⟩ := key _ h
    refine .inr (.inr ⟨[a, 45], ?_, by simp, by simp [uni, h1], rfl⟩)
    intro x hx
    simp only [List.mem_cons, List.not_mem_nil, or_false] at hx
    rcases hx with rfl | rfl
    · exact .inr h2
    · exact .inl rfl
  | atHead b h =>
    have key : ∀ p ∈ pre114, p ≠ 45 ∧ p ∈ plain13 := by decide
    obtain ⟨h1, h2⟩ := key _ h
    refine .inr (.inr ⟨[45, b], ?_, by simp, by simp [uni, h1], rfl⟩)
    intro x hx
    simp only [List.mem_cons, List.not_mem_nil, or_false] at hx
    rcases hx with rfl | rfl
    · exact .inl rfl
    · exact .inr h2
theorem Pieces.get {ts ys : List (List Nat)} (h : Pieces ts ys) : ∀ {k : Nat} (h1 : k < ts.length) (h2 : k < ys.length), PieceOk ts[k] ys[k] := by
  induction h with
  | nil => intro k h1; simp at h1
  | cons hp _ ih =>
    intro k h1 h2
    cases k with
    | zero => exact hp
    | succ k => simpa using ih (by simpa using h1) (by simpa using h2)
end Mine
end
section
open PySem PySem.W PyProof.Rows PySem.Calls
namespace Mine
set_option maxRecDepth 100000
set_option maxHeartbeats 4000000
theorem fill_UT : (fun (_ : OpenLaw) (_ : Params → Frag) => True) PySem.Challenge.rw_ik0125_01 hd.heap_1 := by k_fill; trivial
theorem use_leaf_t {w : World} {f : Addr} {d u : Nat} {vs : List Value} {Pre : Heap → Prop} {Post : Heap → Heap → Value → Prop} {p : Program} {loose : List Str} {mean : ExcName → Option Value} {mg mb : Str → Option Value} {cn : Str} {cs : Scope} {a : Addr} {ccd : Value} {base h₀ : Heap} {L : Addr} {m : Str → Option Value} {news : List (Addr × Obj)} {s : Shared} {Q E : Value → Shared → Prop}
    (C : CtrL w f d u vs Pre Post) (B : Below callerA base [] h₀) (F : Fr h₀ L s.heap m) (X : (hd.heap_1 w.params).In h₀) (N : News h₀ L s.heap news) (T : Top p loose mean mg mb h₀) (hk : cs.kind = .function)
    (hd : callerA.depth + 1 + d < recursionLimit) (hu : callerA.units + 3 + u < cLine) (hpre : Pre s.heap)
    (h : ∀ v h' tk', Fr h₀ L h' m → News h₀ L h' news → (∀ b o, s.heap.get? b = some o → h'.get? b = some o) → Post s.heap h' v → Q v { s with heap := h', toks := tk' }) :
    wpAny (model prog w) (callerA.deeper (envOfC cn cs L a ccd)) (call (.ref f) vs) Q E s :=
  use_leaf (dp := callerA.depth + 1) (un := callerA.units + 3) (gd := callerA.guards) (cl := cellsFrom (L + 1) cs.names []) (outer := []) C B F X N T hk hd hu hpre h
theorem use_ctr_t {w : World} {f : Addr} {d u : Nat} {vs : List Value} {Pre : List (Addr × Obj) → Heap → Prop} {Post : Heap → Heap → Value → Prop} {p : Program} {loose : List Str} {mean : ExcName → Option Value} {mg mb : Str → Option Value} {cn : Str} {cs : Scope} {a : Addr} {ccd : Value} {base h₀ : Heap} {L : Addr} {m : Str → Option Value} {tabs news : List (Addr × Obj)} {g : List (Addr × Obj) → List (Addr × Obj)} {s : Shared} {Q E : Value → Shared → Prop}
    (C : Ctr w f d u vs Pre Post) (B : Below callerA base [] h₀) (F : Fr h₀ L s.heap m) (X : (hd.heap_1 w.params).In h₀) (N : News h₀ L s.heap news) (TL : TabL3 tabs) (TO : TailOf tabs news g) (T : Top p loose mean mg mb h₀) (hk : cs.kind = .function)
    (hd : callerA.depth + 1 + d < recursionLimit) (hu : callerA.units + 3 + u < cLine) (hpre : Pre tabs s.heap)
    (h : ∀ v h' tk' tabs', Fr h₀ L h' m → News h₀ L h' (g tabs') → TabL3 tabs' → TailOf tabs' (g tabs') g → (∀ q ∈ tabs', q.1 ∈ tabs.map (·.1) ∨ s.heap.objs.size ≤ q.1) → Post s.heap h' v → Q v { s with heap := h', toks := tk' }) :
    wpAny (model prog w) (callerA.deeper (envOfC cn cs L a ccd)) (call (.ref f) vs) Q E s :=
  use_ctr (dp := callerA.depth + 1) (un := callerA.units + 3) (gd := callerA.guards) (cl := cellsFrom (L + 1) cs.names []) (outer := []) C B F X N TL TO T hk hd hu hpre h
example : callerA.depth + 1 + 110 < recursionLimit := by decide
example : callerA.units + 3 + 900 < cLine := by decide
theorem Ctr.mono {w : World} {f : Addr} {d u d' u' : Nat} {vs : List Value} {Pre : List (Addr × Obj) → Heap → Prop} {Post Post' : Heap → Heap → Value → Prop} (C : Ctr w f d u vs Pre Post) (hd : d ≤ d') (hu : u ≤ u') (hp : ∀ g h v, Post g h v → Post' g h v) : Ctr w f d' u' vs Pre Post' := by
  constructor
  intro p loose mean mg mb dp un gd cn cs a ccd cl outer A₀ base h₀ L m tabs s Q E B F X N TL T hk hd' hu' hpre hret
  exact C.run B F X N TL T hk (by omega) (by omega) hpre fun v h' tk' tabs' st n TL' ps => hret v h' tk' tabs' st n TL' (hp _ _ _ ps)
theorem tabL_init : TabL3 [(99, tabObj #[]), (54, tabObj #[]), (47, tabObj #[])] := by
  refine ⟨#[], #[], #[], [], rfl, ?_, ?_, ?_, fun p hp => by cases hp⟩ <;> exact ⟨trivial, fun pos v e => by simp [codeAmong] at e⟩
end Mine
end
section
open PySem PySem.W PyProof.Rows PySem.Calls
namespace Mine
set_option maxRecDepth 100000
set_option maxHeartbeats 4000000
theorem fill_CG : (fun (_ : OpenLaw) (_ : Params → Frag) => True) PySem.Challenge.rw_ik0125_01 hd.heap_1 := by k_fill; trivial
/-- a contract of a def that may leave finished generators behind it -/
structure CtrG (w : World) (f : Addr) (d u : Nat) (vs : List Value) (Pre : List (Addr × Obj) → Heap → Prop) (Post : Heap → Heap → Value → Prop) : Prop where
  run : ∀ {p : Program} {loose : List Str} {mean : ExcName → Option Value} {mg mb : Str → Option Value} {dp un : Nat} {gd : Option (List Code)} {cn : Str} {cs : Scope} {a : Addr} {ccd : Value} {cl : List (Str × Addr)} {outer : List Env} {A₀ : Around} {base h₀ : Heap} {L : Addr} {m : Str → Option Value} {tabs : List (Addr × Obj)} {s : Shared} {Q E : Value → Shared → Prop},
    Below A₀ base outer h₀ → Fr h₀ L s.heap m → (hd.heap_1 w.params).In h₀ → News h₀ L s.heap tabs → TabL3 tabs → Top p loose mean mg mb h₀ → cs.kind = .function →
    dp + d < recursionLimit → un + u < cLine → Pre tabs s.heap →
    (∀ v h' tk' gs' tabs', (AllBare s.gens → AllBare gs') → StayT tabs s.heap h' → NewT tabs tabs' s.heap h' → TabL3 tabs' → Post s.heap h' v → Q v { s with heap := h', toks := tk', gens := gs' }) →
      wpAny (model prog w) (ktrTop dp un gd cn cs L a ccd cl outer) (call (.ref f) vs) Q E s
theorem use_ctrG {w : World} {f : Addr} {d u : Nat} {vs : List Value} {Pre : List (Addr × Obj) → Heap → Prop} {Post : Heap → Heap → Value → Prop} {p : Program} {loose : List Str} {mean : ExcName → Option Value} {mg mb : Str → Option Value} {dp un : Nat} {gd : Option (List Code)} {cn : Str} {cs : Scope} {a : Addr} {ccd : Value} {cl : List (Str × Addr)} {outer : List Env} {A₀ : Around} {base h₀ : Heap} {L : Addr} {m : Str → Option Value} {tabs news : List (Addr × Obj)} {g : List (Addr × Obj) → List (Addr × Obj)} {s : Shared} {Q E : Value → Shared → Prop}
    (C : CtrG w f d u vs Pre Post) (B : Below A₀ base outer h₀) (F : Fr h₀ L s.heap m) (X : (hd.heap_1 w.params).In h₀) (N : News h₀ L s.heap news) (TL : TabL3 tabs) (TO : TailOf tabs news g) (T : Top p loose mean mg mb h₀) (hk : cs.kind = .function)
    (hd : dp + d < recursionLimit) (hu : un + u < cLine) (hpre : Pre tabs s.heap)
    (h : ∀ v h' tk' gs' tabs', (AllBare s.gens → AllBare gs') → Fr h₀ L h' m → News h₀ L h' (g tabs') → TabL3 tabs' → TailOf tabs' (g tabs') g → (∀ q ∈ tabs', q.1 ∈ tabs.map (·.1) ∨ s.heap.objs.size ≤ q.1) → Post s.heap h' v → Q v { s with heap := h', toks := tk', gens := gs' }) :
    wpAny (model prog w) (ktrTop dp un gd cn cs L a ccd cl outer) (call (.ref f) vs) Q E s :=
  have N₀ : News h₀ L s.heap tabs := fun q hq => N q (TO.tabs q hq)
  C.run B F X N₀ TL T hk hd hu hpre fun v h' tk' gs' tabs' hb st n TL' ps => h v h' tk' gs' tabs' hb (stay_fr F N₀ st) (TO.news N st (newT_news F N₀ n)) TL' (TO.next (fun q hq => Heap.lt_size (N q hq).1) fun q hq => (n q hq).2) (fun q hq => (n q hq).2) ps
theorem ctr_plainG {w : World} {f : Addr} {d u : Nat} {vs : List Value} {Pre : List (Addr × Obj) → Heap → Prop} {Post : Heap → Heap → Value → Prop} {name qual : Str} {params : Arguments} {body : List Stmt} {scope : Scope} {dV kV doc pm cdv ct oc : Value} {an od : Option Addr} {osl : Array (Option Value)} {binds : List (Str × Value)}
    (ho : (hd.heap_1 w.params).lookup f = some ⟨oc, od, .func (fnOf name qual params body scope dV kV doc pm an cdv ct), osl⟩) (hcd : codeIn (hd.heap_1 w.params) cdv qual = true)
    (hd1 : 1 ≤ d)
    (hbind : ∀ s, BindsTo s (fnOf name qual params body scope dV kV doc pm an cdv ct) ⟨vs, []⟩ binds) (hloc : ∀ y ∈ binds, scope.names.lookup y.1 = some .local)
    (hco : scope.isCoroutine = false) (hgen : scope.isGenerator = false) (hk : scope.kind = .function) (hcell : ∀ x ∈ scope.names, x.2 ≠ .cell)
    (h : ∀ (p : Program) (loose : List Str) (mean : ExcName → Option Value) (mg mb : Str → Option Value) (dp un : Nat) (gd : Option (List Code)) (outer : List Env) (A₀ : Around) (base g₀ g : Heap) (L : Addr) (tabs : List (Addr × Obj)) (s : Shared) (Q : Value → Shared → Prop),
      dp + d ≤ recursionLimit → un + u ≤ cLine + 3 → g₀.objs.size ≤ L → (∀ b o, b ∉ tabs.map (·.1) → g₀.get? b = some o → g.get? b = some o) →
      Fr g L s.heap (fun y => binds.reverse.lookup y) → News g L s.heap tabs → TabL3 tabs → Below A₀ base outer g → (hd.heap_1 w.params).In g → Top p loose mean mg mb g → Pre tabs g₀ →
      (∀ v h' tk' gs' m' tabs', (AllBare s.gens → AllBare gs') → Fr g L h' m' → News g L h' tabs' → TabL3 tabs' → (∀ p ∈ tabs', p.1 ∈ tabs.map (·.1) ∨ L ≤ p.1) → Post g₀ h' v → Q v { s with heap := h', toks := tk', gens := gs' }) →
      wpAny (model prog w) (ktrTop dp un gd qual scope L f cdv [] outer) (execs body (envX qual scope L f cdv []))
        (fun fl s' => Q (match fl with | .ret v => v | _ => .none) s') NoE s) : CtrG w f d u vs Pre Post := by
  constructor
  intro p loose mean mg mb dp un gd cn cs a ccd cl outer A₀ base h₀ L m tabs s Q E B F X N TL T hk' hd hu hpre hret
  refine wpAny_call ?_
  refine call_ground B F X N T rfl rfl hk' ho hcd ?_ (hbind s) hloc (fun g L' h₁ eg st e0 e1 F' N' B' X' T' => ?_) hco hgen hk hcell
  · show dp < recursionLimit; omega
  subst e0
  refine h p loose mean mg mb (dp + 1) (un + 3) gd _ _ base s.heap g s.heap.objs.size tabs _ (fun v s' => Q v s') ?_ ?_ (Nat.le_refl _) st F' N' TL B' X' T' hpre ?_
  · omega
  · omega
  · intro v h' tk' gs' m' tabs' hb F'' N'' TL' ht ps
    exact hret v h' tk' gs' tabs' hb (fun b o hb e => F''.keep b o (st b o hb e)) (fun p hp => ⟨(N'' p hp).1, ht p hp⟩) TL' ps
def LPG (h₀ : Heap) (L : Addr) (s : Shared) (R : Result → Shared → Prop) (Jn : (Str → Option Value) → List (Addr × Obj) → Prop) (f : Flow) (s₃ : Shared) : Prop :=
  match f with
  | .next | .cont => ∃ h' tk gs m' rest', s₃ = { s with heap := h', toks := tk, gens := gs } ∧ (AllBare s.gens → AllBare gs) ∧ Fr h₀ L h' m' ∧ News h₀ L h' rest' ∧ Jn m' rest'
  | .brk => R (.ok .next) s₃
  | .ret v => R (.ok (.ret v)) s₃
section
variable {prog : Program} {w : World} {A : Around} {s : Shared} {h₀ : Heap} {env : Env}
theorem while_indG {R : Result → Shared → Prop} {test : PySem.Expr} {body orelse : List Stmt} (n : Nat) (J : Nat → (Str → Option Value) → List (Addr × Obj) → Prop)
    (step : ∀ k m rest h' tk gs, (AllBare s.gens → AllBare gs) → k < n → J k m rest → Fr h₀ env.locals h' m → News h₀ env.locals h' rest →
      wpAny (model prog w) A (isTrue test env (eval test env)) (fun b s₂ => b = true ∧ wpAny (model prog w) A (execs body env) (LPG h₀ env.locals s R (J (k + 1))) NoE s₂) NoE { s with heap := h', toks := tk, gens := gs })
    (fin : ∀ m rest h' tk gs, (AllBare s.gens → AllBare gs) → J n m rest → Fr h₀ env.locals h' m → News h₀ env.locals h' rest →
      wpAny (model prog w) A (isTrue test env (eval test env)) (fun b s₂ => b = false ∧ wpAny (model prog w) A (execs orelse env) (fun f s₃ => R (.ok f) s₃) NoE s₂) NoE { s with heap := h', toks := tk, gens := gs }) :
    ∀ (j k : Nat) (h' : Heap) (tk : Nat) (gs : Array GenState) (m : Str → Option Value) (rest : List (Addr × Obj)), n - k = j → k ≤ n → (AllBare s.gens → AllBare gs) → J k m rest → Fr h₀ env.locals h' m → News h₀ env.locals h' rest →
      codeAny (model prog w) A (.whileLoop test body orelse env) R { s with heap := h', toks := tk, gens := gs } := by
  intro j
  induction j with
  | zero =>
    intro k h' tk gs m rest hj hk hb hJ Fm N
    have : k = n := by omega
    subst this
    refine while_turn (wpAny_mono (fin m rest h' tk gs hb hJ Fm N) (fun b s₂ hb => ?_) fun _ _ y => y)
    obtain ⟨rfl, hb⟩ := hb
    exact hb
  | succ j ih =>
    intro k h' tk gs m rest hj hk hb hJ Fm N
    refine while_turn (wpAny_mono (step k m rest h' tk gs hb (by omega) hJ Fm N) (fun b s₂ hb => ?_) fun _ _ y => y)
    obtain ⟨rfl, hb⟩ := hb
    refine wpAny_mono hb (fun f s₃ y => ?_) fun _ _ y => y
    have fin' : ∀ s₃, LPG h₀ env.locals s R (J (k + 1)) .next s₃ → codeAny (model prog w) A (.whileLoop test body orelse env) R s₃ := by
      rintro s₃ ⟨h₃, tk₃, gs₃, m₃, rest₃, rfl, hb₃, F₃, N₃, hJ₃⟩
      exact ih (k + 1) h₃ tk₃ gs₃ m₃ rest₃ (by omega) (by omega) hb₃ hJ₃ F₃ N₃
    cases f with
    | next => exact fin' s₃ y
    | cont => exact fin' s₃ y
    | brk => exact y
    | ret v => exact y
end
end Mine
end
section
open PySem PySem.W PyProof.Rows PySem.Calls
namespace Mine
set_option maxRecDepth 100000
set_option maxHeartbeats 4000000
theorem fill_TA : (fun (_ : OpenLaw) (_ : Params → Frag) => True) PySem.Challenge.rw_ik0125_01 hd.heap_1 := by k_fill; trivial
theorem updF_app {d : Addr} {o : Obj} {r : List (Addr × Obj)} (hr : ∀ p ∈ r, p.1 ≠ d) : ∀ {own : List (Addr × Obj)}, (∀ p ∈ own, p.1 ≠ d) → UpdF d o (own ++ (d, o) :: r) (fun o' => own ++ (d, o') :: r)
  | [], _ => .head hr
  | _ :: _, h => .tail (h _ (.head _)) (updF_app hr fun p hp => h p (.tail _ hp))
/-- a lambda of _translate: its code object stands behind it in the first table -/
theorem lam_tabs {M : Model} {A : Around} {E : Value → Shared → Prop} {s : Shared} {h₀ : Heap} {L a c : Addr} {m mg mb : Str → Option Value} {cn : Str} {cs : Scope} {ccd : Value} {cl : List (Str × Addr)} {own tabs : List (Addr × Obj)}
    {p : Program} {loose : List Str} {mean : ExcName → Option Value} {name qual : Str} {params : Arguments} {body : PySem.Expr} {scope : Scope} {pos : Pos} {firstLine : Nat} {Q : Value → Shared → Prop}
    (F : Fr h₀ L s.heap m) (N : News h₀ L s.heap (own ++ tabs)) (T : Top p loose mean mg mb h₀) (C : CodeHd h₀ c 99) (hcd : ccd = .ref c) (TL : TabL3 tabs) (hown : ∀ p ∈ own, ∀ r ∈ tabs, r.1 ≠ p.1)
    (hq : qual = qA pos.line) (hcl : closureFor scope (envX cn cs L a ccd cl) = pure [])
    (h : ∀ f fo h' tk tabs', fo.cls = .type "function" → Fr h₀ L h' m → News h₀ L h' ((f, fo) :: (own ++ tabs')) → TabL3 tabs' → (∀ r ∈ tabs', r.1 ∈ tabs.map (·.1) ∨ ∀ n ∈ own ++ tabs, n.1 < r.1) → Q (.ref f) { s with heap := h', toks := tk }) :
    wpAny M A (makeFunction name qual params (.expr body) scope (envX cn cs L a ccd cl) [] [] [] pos firstLine) Q E s := by
  obtain ⟨t₁, t₂, t₃, codes, rfl, G₁, G₂, G₃, hcod⟩ := TL.of
  have hown99 : ∀ p ∈ own, p.1 ≠ 99 := fun p hp => (hown p hp _ (.head _)).symm
  have hr : ∀ p ∈ (54, tabObj t₂) :: (47, tabObj t₃) :: codes, p.1 ≠ 99 := fun p hp => by
    rcases List.mem_cons.mp hp with rfl | hp
    · exact (by decide : (54 : Nat) ≠ 99)
    · rcases List.mem_cons.mp hp with rfl | hp
      · exact (by decide : (47 : Nat) ≠ 99)
      · exact (hcod p hp).1
  refine lam_any (q := qA) (codes := codes) F N T C hcd (updF_app hr hown99) G₁ (fun p hp => List.mem_append_right _ (.tail _ (.tail _ (.tail _ hp)))) (fun p hp => (hcod p hp).1) hq hcl ?_
  intro f fo h' tk ps' codes' hfo F' N' Nc G' hsub hnew hlf hlc
  refine h f fo h' tk ((99, tabObj ps') :: (54, tabObj t₂) :: (47, tabObj t₃) :: codes') hfo F' (fun r hr => ?_) ⟨ps', t₂, t₃, codes', rfl, G', G₂.mono hsub, G₃.mono hsub, fun r hr => ?_⟩ (fun r hr => ?_)
  · rcases List.mem_cons.mp hr with rfl | hr
    · exact N' _ (.head _)
    · rcases List.mem_append.mp hr with hr | hr
      · exact N' _ (.tail _ (List.mem_append_left _ hr))
      · rcases List.mem_cons.mp hr with rfl | hr
        · exact N' _ (.tail _ (List.mem_append_right _ (.head _)))
        · rcases List.mem_cons.mp hr with rfl | hr
          · exact N' _ (.tail _ (List.mem_append_right _ (.tail _ (.head _))))
          · rcases List.mem_cons.mp hr with rfl | hr
            · exact N' _ (.tail _ (List.mem_append_right _ (.tail _ (.tail _ (.head _)))))
            · exact Nc r hr
  · rcases hnew r hr with k | k
    · exact hcod r k
    · have k1 := k _ (List.mem_append_right own (.head _))
      have k2 := k _ (List.mem_append_right own (.tail _ (.head _)))
      have k3 := k _ (List.mem_append_right own (.tail _ (.tail _ (.head _))))
      exact ⟨Nat.ne_of_gt k1, Nat.ne_of_gt k2, Nat.ne_of_gt k3⟩
  · rcases List.mem_cons.mp hr with rfl | hr
    · exact .inl (.head _)
    · rcases List.mem_cons.mp hr with rfl | hr
      · exact .inl (.tail _ (.head _))
      · rcases List.mem_cons.mp hr with rfl | hr
        · exact .inl (.tail _ (.tail _ (.head _)))
        · rcases hnew r hr with k | k
          · exact .inl (.tail _ (.tail _ (.tail _ (List.mem_map_of_mem k))))
          · exact .inr k
end Mine
end
section
open PySem PySem.W PyProof.Rows PySem.Calls
namespace Mine
set_option maxRecDepth 100000
set_option maxHeartbeats 4000000
theorem fill_GN : (fun (_ : OpenLaw) (_ : Params → Frag) => True) PySem.Challenge.rw_ik0125_01 hd.heap_1 := by k_fill; trivial
/-- the code object of a generator expression of _translate stands in the first table -/
theorem gcode_tabs {M : Model} {A : Around} {E : Value → Shared → Prop} {s : Shared} {h₀ : Heap} {L a c : Addr} {m : Str → Option Value} {cn : Str} {cs : Scope} {ccd : Value} {cl : List (Str × Addr)} {own tabs : List (Addr × Obj)}
    {qual : Str} {scope : Scope} {pos : Pos} {Q : Value → Shared → Prop}
    (F : Fr h₀ L s.heap m) (N : News h₀ L s.heap (own ++ tabs)) (C : CodeHd h₀ c 99) (hcd : ccd = .ref c) (TL : TabL3 tabs) (hown : ∀ p ∈ own, ∀ r ∈ tabs, r.1 ≠ p.1) (hq : qual = qA pos.line)
    (h : ∀ cv h' tk tabs', Fr h₀ L h' m → News h₀ L h' (own ++ tabs') → TabL3 tabs' → (∀ r ∈ tabs', r.1 ∈ tabs.map (·.1) ∨ s.heap.objs.size ≤ r.1) → s.heap.objs.size ≤ h'.objs.size →
      (∀ b o, b ≠ 99 → s.heap.get? b = some o → h'.get? b = some o) → Q cv { s with heap := h', toks := tk }) :
    wpAny M A (genexprCode (envX cn cs L a ccd cl) pos qual scope) Q E s := by
  obtain ⟨t₁, t₂, t₃, codes, rfl, G₁, G₂, G₃, hcod⟩ := TL.of
  have hown99 : ∀ p ∈ own, p.1 ≠ 99 := fun p hp => (hown p hp _ (.head _)).symm
  have hm := N (99, tabObj t₁) (List.mem_append_right _ (.head _))
  have hCs := C.keeps F.keep
  cases hf : codeAmong pos t₁.toList with
  | some v =>
    refine wpAny_genexprCode_hit hcd (hCs.code hm.1 G₁.1) hf ?_
    exact h v s.heap s.toks _ F N ⟨t₁, t₂, t₃, codes, rfl, G₁, G₂, G₃, hcod⟩ (fun r hr => .inl (List.mem_map_of_mem hr)) (Nat.le_refl _) fun _ _ _ e => e
  | none =>
    refine wpAny_genexprCodeX hcd (hCs.code hm.1 G₁.1) (hCs.tab hm.1) hf fun c' h' tk hx hge hlt _ hrec htb _ => ?_
    obtain ⟨c₂, oc, vs, t, e2, hoc, hd, hv⟩ := hrec
    cases e2
    have hLs : L < s.heap.objs.size := F.ns.lt
    have hLc : L < c' := Nat.lt_of_lt_of_le hLs hge
    have fresh : ∀ b, L < b → h₀.get? b = none := fun b hb => Heap.get?_none_of_le (Nat.le_trans F.above (Nat.le_of_lt hb))
    have hlow : ∀ r ∈ own ++ (99, tabObj t₁) :: (54, tabObj t₂) :: (47, tabObj t₃) :: codes, r.1 < c' := fun r hr => Nat.lt_of_lt_of_le (Heap.lt_size (N r hr).1) hge
    have hsub : ∀ p ∈ codes, p ∈ (c', oc) :: codes := fun p hp => .tail _ hp
    refine h (.ref c') h' tk ((99, tabObj (t₁ ++ #[rawInt pos.line, rawInt pos.col, .ref c'])) :: (54, tabObj t₂) :: (47, tabObj t₃) :: (c', oc) :: codes)
      ⟨F.ns.extBut hx hm.2.1.symm, fun b o e => hx b o (fun e0 => by rw [e0, hm.2.2] at e; cases e) (F.keep b o e), F.above⟩ ?N
      ⟨_, t₂, t₃, (c', oc) :: codes, rfl, ⟨?G1, fun pos' v e => ?G2⟩, G₂.mono hsub, G₃.mono hsub, ?hc⟩ ?k1 (Nat.le_trans hge (Nat.le_of_lt hlt)) fun b o hb e => hx b o hb e
    case N =>
      intro r hr
      rcases List.mem_append.mp hr with hr | hr
      · have n := N r (List.mem_append_left _ hr)
        exact ⟨hx _ _ (hown99 r hr) n.1, n.2⟩
      · rcases List.mem_cons.mp hr with rfl | hr
        · exact ⟨htb.2, hm.2⟩
        · rcases List.mem_cons.mp hr with rfl | hr
          · have n := N (54, tabObj t₂) (List.mem_append_right _ (.tail _ (.head _)))
            exact ⟨hx _ _ (by show (54 : Nat) ≠ 99; decide) n.1, n.2⟩
          · rcases List.mem_cons.mp hr with rfl | hr
            · have n := N (47, tabObj t₃) (List.mem_append_right _ (.tail _ (.tail _ (.head _))))
              exact ⟨hx _ _ (by show (47 : Nat) ≠ 99; decide) n.1, n.2⟩
            · rcases List.mem_cons.mp hr with rfl | hr
              · exact ⟨hoc, Nat.ne_of_gt hLc, fresh _ hLc⟩
              · have n := N r (List.mem_append_right _ (.tail _ (.tail _ (.tail _ hr))))
                exact ⟨hx _ _ (hcod r hr).1 n.1, n.2⟩
    case G1 => rw [Array.toList_append]; exact triples_snoc _ G₁.1
    case G2 =>
      rw [Array.toList_append] at e
      have e' := (among_snoc (pos := pos') (line := pos.line) (col := pos.col) (c := .ref c') t₁.toList G₁.1).symm.trans e
      cases hp : codeAmong pos' t₁.toList with
      | some v' =>
        rw [hp] at e'
        have e2 : v' = v := Option.some.inj e'
        subst e2
        obtain ⟨c₂, oc₂, vs₂, tk₂, a1, a2, a3⟩ := G₁.2 pos' v' hp
        exact ⟨c₂, oc₂, vs₂, tk₂, a1, .tail _ a2, a3⟩
      | none =>
        rw [hp, Option.none_or] at e'
        split at e'
        · rename_i hl
          obtain rfl := Option.some.inj e'
          simp only [Bool.and_eq_true, beq_iff_eq] at hl
          have hline : pos.line = pos'.line := by exact_mod_cast hl.1
          exact ⟨c', oc, vs, t, rfl, .head _, hd, by rw [← hline, ← hq]; exact hv⟩
        · cases e'
    case hc =>
      intro r hr
      rcases List.mem_cons.mp hr with rfl | hr
      · exact ⟨Nat.ne_of_gt (hlow _ (List.mem_append_right _ (.head _))), Nat.ne_of_gt (hlow _ (List.mem_append_right _ (.tail _ (.head _)))), Nat.ne_of_gt (hlow _ (List.mem_append_right _ (.tail _ (.tail _ (.head _)))))⟩
      · exact hcod r hr
    case k1 =>
      intro r hr
      rcases List.mem_cons.mp hr with rfl | hr
      · exact .inl (.head _)
      · rcases List.mem_cons.mp hr with rfl | hr
        · exact .inl (.tail _ (.head _))
        · rcases List.mem_cons.mp hr with rfl | hr
          · exact .inl (.tail _ (.tail _ (.head _)))
          · rcases List.mem_cons.mp hr with rfl | hr
            · exact .inr hge
            · exact .inl (.tail _ (.tail _ (.tail _ (List.mem_map_of_mem hr))))
/-- a generator over the given things, ready to be taken through; what it writes to is no thing of the ledger -/
def GenOk (prog : Program) (w : World) (A : Around) (h₀ : Heap) (L a : Addr) (n : Nat) (F : Nat → Value → Prop) (news : List (Addr × Obj)) (s : Shared) : Prop :=
  ∃ fp wr g St, WalksS prog w A.in4 a fp wr (GenOnlyQ g) n F St ∧ St 0 s ∧ (∀ i s', St i s' → s'.TypeIs (.ref a) "generator") ∧ a ∈ fp ∧ (∀ b ∈ fp, b < s.heap.objs.size) ∧ ∀ b ∈ wr, h₀.get? b = none ∧ L ≠ b ∧ ∀ r ∈ news, r.1 ≠ b
theorem gen_tabs {prog : Program} {w : World} {A : Around} {E : Value → Shared → Prop} {s : Shared} {h₀ : Heap} {L a c : Addr} {m mg mb : Str → Option Value} {cn : Str} {cs : Scope} {ccd : Value} {cl : List (Str × Addr)} {own tabs : List (Addr × Obj)}
    {p : Program} {loose : List Str} {mean : ExcName → Option Value} {scope : Scope} {pos px : Pos} {x : Str} {elt iter : PySem.Expr} {l : Addr} {items : Array Value} {ep : Nat} {Fv : Nat → Value → Prop} {Q : Value → Shared → Prop}
    (F : Fr h₀ L s.heap m) (N : News h₀ L s.heap (own ++ tabs)) (T : Top p loose mean mg mb h₀) (C : CodeHd h₀ c 99) (hcd : ccd = .ref c) (TL : TabL3 tabs) (hown : ∀ p ∈ own, ∀ r ∈ tabs, r.1 ≠ p.1)
    (hl : (l, PySem.W.listOf items ep) ∈ own) (hq : (envX cn cs L a ccd cl).qual ++ "<genexpr>" = qA pos.line)
    (hh : A.handled = none) (hco : scope.isCoroutine = false) (hclos : closureFor scope (envX cn cs L a ccd cl) = pure []) (hcell : ∀ y ∈ scope.names, y.2 ≠ .cell) (h0 : scope.names.lookup (".0" : Str) = some NameKind.local)
    (hx : scope.names.lookup x = some .local) (hkind : scope.kind = .function) (hroom : A.depth < recursionLimit)
    (hit : ∀ Q' : Value → Shared → Prop, Q' (.ref l) s → wpAny (model prog w) A (PySem.eval iter (envX cn cs L a ccd cl)) Q' E s)
    (helt : ∀ (cC : Addr) (code : Value) (bi : Addr) (A' : Around) E' i v (s₂ : Shared) m₂, A'.handled = none → items[i]? = some v → s₂.heap.Ns cC m₂ → m₂ x = some v →
      wpAny (model prog w) A' (PySem.eval elt (genEnv scope [] cC code bi (envX cn cs L a ccd cl))) (fun y s₃ => Fv i y ∧ Keeps s₂ s₃) E' s₂)
    (h : ∀ g h' tk gs tabs', gs.bare = true → Fr h₀ L h' m → News h₀ L h' (own ++ tabs') → TabL3 tabs' → (∀ r ∈ tabs', r.1 ∈ tabs.map (·.1) ∨ ∀ n ∈ own ++ tabs, n.1 < r.1) →
      GenOk prog w A h₀ L g items.size Fv (own ++ tabs') { s with heap := h', toks := tk, gens := s.gens.push gs } → Q (.ref g) { s with heap := h', toks := tk, gens := s.gens.push gs })
    (hs : ∀ y, genFold iter (envX cn cs L a ccd cl) y = pure y) :
    wpAny (model prog w) A (PySem.eval (.GeneratorExp elt [⟨.Name x px, iter, [], 0⟩] scope pos) (envX cn cs L a ccd cl)) Q E s := by
  have hmem := N _ (List.mem_append_left _ hl)
  have hIs : s.heap.IsList l items := ⟨_, hmem.1, rfl, _, rfl⟩
  have hLs : L < s.heap.objs.size := F.ns.lt
  have fresh : ∀ b, L < b → h₀.get? b = none := fun b hb => Heap.get?_none_of_le (Nat.le_trans F.above (Nat.le_of_lt hb))
  have hlt : l < s.heap.objs.size := Heap.lt_size hmem.1
  have hnl : s.heap.NoLimit := T.nolimit.keeps F.keep
  refine wpAny_GeneratorExp_walksQ hh hco hclos hcell h0 hx hkind hroom (hit _ ?_) hs
  refine wpAny_pyIter_list hIs ?_
  refine ⟨hnl.push _, ?_⟩
  refine gcode_tabs (m := m) (own := own) (tabs := tabs) ⟨F.ns.push _, fun b o e => Heap.get?_push_of_some _ (F.keep b o e), F.above⟩ (fun r hr => ⟨Heap.get?_push_of_some _ (N r hr).1, (N r hr).2⟩) C hcd TL hown hq ?_
  intro cv h₃ tk₃ tabs₃ F₃ N₃ TL₃ hT₃ hsz₃ hk₃
  have hsz : (s.heap.push { cls := .type "list_iterator", data := .fields #[.ref l, .int 0 0] }).objs.size = s.heap.objs.size + 1 := Heap.size_push ..
  have hgs := T.g.keeps F₃.keep
  obtain ⟨bm, ob, b1, b2, b3, b4, b5, b6⟩ := T.bmain
  refine wpAny_builtinsFor hgs b1 b2 (F₃.keep _ _ b3) b4 b5 b6 ?_
  have h99 : ∀ r ∈ own, r.1 ≠ 99 := fun r hr => by
    obtain ⟨t₁, t₂, t₃, codes, rfl, _⟩ := TL.of
    exact (hown r hr _ (.head _)).symm
  have hI : h₃.get? s.heap.objs.size = some { cls := .type "list_iterator", data := .fields #[.ref l, .int 0 0] } := hk₃ _ _ (by
    intro e
    obtain ⟨t₁, t₂, t₃, codes, rfl, _⟩ := TL.of
    have := Heap.lt_size (N (99, tabObj t₁) (List.mem_append_right _ (.head _))).1
    rw [e] at this; exact Nat.lt_irrefl _ this) (Heap.get?_push_size _ rfl)
  have hl₃ : h₃.IsList l items := ⟨_, (N₃ _ (List.mem_append_left _ hl)).1, rfl, _, rfl⟩
  refine ⟨s.heap.objs.size, [s.heap.objs.size, l], [s.heap.objs.size], items.size, (fun i v => items[i]? = some v), _, (fun _ => true), Fv, rfl, (fun A' hA => Walks.list hA _ _ (Nat.ne_of_lt hlt) items), ⟨⟨_, hI, rfl, rfl⟩, hl₃⟩, ?_, T.nolimit.keeps F₃.keep, ?_, ?_, ?_⟩
  · intro b hb
    show b < h₃.objs.size
    rcases List.mem_cons.mp hb with rfl | hb
    · exact Heap.lt_size hI
    · rcases List.mem_cons.mp hb with rfl | hb
      · exact Heap.lt_size (N₃ _ (List.mem_append_left _ hl)).1
      · cases hb
  · intro hm
    have hc : cStatics < s.heap.objs.size := let ⟨_, hn, _⟩ := hnl; hn.lt
    rcases List.mem_cons.mp hm with e | hb
    · exact absurd (e ▸ hc) (Nat.lt_irrefl _)
    · cases hb
  · intro href hhref
    refine ⟨fun A' E' i v s₂ m₂ _ _ _ _ _ => ?_, fun A' E' i v s₂ m₂ hA hv _ hns hm₂ _ => helt _ _ _ A' E' i v s₂ m₂ hA hv hns hm₂⟩
    rw [List.forIn_nil]
    exact wpAny_pure ⟨rfl, _, _, rfl, fun _ _ e => e⟩
  · intro g h₅ tk gs hgb hag hsz₅ hk₅ W hat
    have F₅ : Fr h₀ L h₅ m := ⟨F₃.ns.keeps hk₅, fun b o e => hk₅ _ _ (F₃.keep b o e), F₃.above⟩
    have N₅ : News h₀ L h₅ (own ++ tabs₃) := fun r hr => ⟨hk₅ _ _ (N₃ r hr).1, (N₃ r hr).2⟩
    have hpass : (passing (fun _ => true) items.size 0) = List.range items.size := by unfold passing; simp
    rw [hpass, List.length_range] at W
    have e : (fun (j : Nat) (y : Value) => ∃ i, (List.range items.size)[j]? = some i ∧ Fv i y) = fun j y => j < items.size ∧ Fv j y := by
      funext j y
      apply propext
      constructor
      · rintro ⟨i, hi, hF⟩
        obtain ⟨hj, e⟩ := List.getElem?_eq_some_iff.mp hi
        rw [List.getElem_range] at e
        subst e
        exact ⟨by simpa using hj, hF⟩
      · rintro ⟨hj, hF⟩
        exact ⟨j, by rw [List.getElem?_range hj], hF⟩
    rw [e] at W
    have W' : WalksS prog w A.in4 g _ _ _ items.size Fv _ := ⟨W.sub, W.grefl, W.gtrans, W.frame, fun i s Q E hi st hQ => W.item i s Q E hi st fun v s' hv => hQ v s' hv.2, W.done, W.self⟩
    refine h g h₅ tk gs tabs₃ hgb F₅ N₅ TL₃ (fun r hr => ?_) ⟨_, _, _, _, W', hat, (fun i s' st => st.1.typeIs), List.mem_cons_self, ?_, ?_⟩
    · rcases hT₃ r hr with k | k
      · exact .inl k
      · refine .inr fun n hn => Nat.lt_of_lt_of_le (Heap.lt_size (N n hn).1) ?_
        exact Nat.le_trans (by show s.heap.objs.size ≤ (s.heap.push _).objs.size; rw [Heap.size_push]; omega) k
    · intro b hb
      show b < h₅.objs.size
      rw [hsz₅]
      rcases List.mem_cons.mp hb with rfl | hb
      · exact Nat.lt_succ_self _
      · rcases List.mem_cons.mp hb with rfl | hb
        · exact Nat.lt_succ_of_lt hag
        · exact Nat.lt_succ_of_lt (Nat.lt_trans (List.mem_range.mp hb) hag)
    · intro b hb
      have hb' : s.heap.objs.size ≤ b ∧ (b = h₃.objs.size ∨ b = s.heap.objs.size) := by
        rcases List.mem_cons.mp hb with rfl | hb
        · exact ⟨Nat.le_trans (by rw [← Nat.succ_le_succ_iff, Nat.succ_eq_add_one, ← hsz]; exact Nat.le_succ_of_le hsz₃) (Nat.le_refl _), .inl rfl⟩
        · rcases List.mem_cons.mp hb with rfl | hb
          · exact ⟨Nat.le_refl _, .inr rfl⟩
          · cases hb
      refine ⟨fresh _ (Nat.lt_of_lt_of_le hLs hb'.1), Nat.ne_of_lt (Nat.lt_of_lt_of_le hLs hb'.1), fun r hr e => ?_⟩
      rcases hb'.2 with k | k
      · have := Heap.lt_size (N₃ r hr).1
        rw [e, k] at this; exact Nat.lt_irrefl _ this
      · rcases List.mem_append.mp hr with hr | hr
        · have := Heap.lt_size (N r (List.mem_append_left _ hr)).1
          rw [e, k] at this; exact Nat.lt_irrefl _ this
        · rcases hT₃ r hr with q | q
          · obtain ⟨r', hr', e'⟩ := List.mem_map.mp q
            have := Heap.lt_size (N r' (List.mem_append_right _ hr')).1
            rw [e', e, k] at this; exact Nat.lt_irrefl _ this
          · have q' : s.heap.objs.size + 1 ≤ r.1 := by rw [← hsz]; exact q
            rw [e, k] at q'; exact Nat.not_succ_le_self _ q'
theorem call_join_gen {prog : Program} {w : World} {A : Around} {E : Value → Shared → Prop} {s : Shared} {h₀ : Heap} {L a : Addr} {m : Str → Option Value} {news : List (Addr × Obj)} {Fv : Nat → Value → Prop} {sep y : Str} {t : Tok} {Q : Value → Shared → Prop}
    (G : GenOk prog w A h₀ L a 1 Fv news s) (F : Fr h₀ L s.heap m) (N : News h₀ L s.heap news) (hv : ∀ v, Fv 0 v → ∃ u, v = .str y u) (hy : y.length ≤ 1000) (hsep : sep.length ≤ 1000)
    (h : ∀ t' h' tk gs', (AllBare s.gens → AllBare gs') → Fr h₀ L h' m → News h₀ L h' news → Q (.str y t') { s with heap := h', toks := tk, gens := gs' }) :
    wpAny (model prog w) A (call (.builtin "str.join") [.str sep t, .ref a]) Q E s := by
  obtain ⟨fp, wr, g, St, W, hst, hT, ha, hfp, hwr⟩ := G
  have W' : WalksS prog w A.in1.in1 a fp wr (GenOnlyQ g) 1 (fun i v => i = 0 ∧ Fv i v) St :=
    let W₂ := W.in4_2
    ⟨W₂.sub, W₂.grefl, W₂.gtrans, W₂.frame, fun i s Q E hi st hQ => W₂.item i s Q E hi st fun v s' hv' => hQ v s' ⟨by omega, hv'⟩, W₂.done, W₂.self⟩
  refine SC.joinGen W' hT hst hfp ha (fun i v ⟨e, hF⟩ => by subst e; obtain ⟨u, rfl⟩ := hv v hF; exact ⟨y, u, rfl⟩) ?_
  intro s' l hm hit
  obtain ⟨hsz, hall⟩ := hit
  have hl : ∃ u, l = [(y, u)] := by
    match l, hsz, hall with
    | [(z, u)], _, hall =>
      have := (hall 0 (.str z u) rfl).2
      obtain ⟨u', e⟩ := hv _ this
      cases e
      exact ⟨u, rfl⟩
    | [], hsz, _ => simp [strValues] at hsz
    | _ :: _ :: _, hsz, _ => simp [strValues] at hsz
  obtain ⟨u, rfl⟩ := hl
  refine ⟨joinOk_of (by simp; omega), fun t' k => ?_⟩
  obtain ⟨hk, hg, hd, ho, _⟩ := hm
  have e : ({ s' with toks := k } : Shared) = { s with heap := s'.heap, toks := k, gens := s'.gens } := by
    cases s'; cases s; simp only at hd ho; subst hd ho; rfl
  rw [show Txt.join sep (([(y, u)] : List (Str × Tok)).map (·.1)) = y from rfl, e]
  refine h t' s'.heap k s'.gens (fun hb => ?_) ?_ fun r hr => ?_
  · rcases hg with e | ⟨⟨hs, ho'⟩, hb'⟩
    · rw [e]; exact hb
    · intro z hz
      obtain ⟨i, hi, rfl⟩ := Array.mem_iff_getElem.mp hz
      by_cases hig : i = g
      · subst hig
        exact hb' _ (Array.getElem?_eq_getElem hi)
      · have := ho' i hig
        rw [Array.getElem?_eq_getElem hi] at this
        exact hb _ (Array.mem_of_getElem? this.symm)
  · obtain ⟨oL, es, ep, hL, r⟩ := F.ns
    refine ⟨⟨oL, es, ep, hk _ _ (fun hm => (hwr _ hm).2.1 rfl) hL, r⟩, fun b o e => hk _ _ (fun hm => ?_) (F.keep b o e), F.above⟩
    have := (hwr _ hm).1
    rw [e] at this; cases this
  · exact ⟨hk _ _ (fun hm => (hwr _ hm).2.2 r hr rfl) (N r hr).1, (N r hr).2⟩
end Mine
end
section
open PySem PySem.W PyProof.Rows PySem.Calls
namespace Mine
local macro_rules | `(tactic| k_all) => `(tactic| first | assumption | exact allLt_ne (by assumption))
section
local macro_rules | `(tactic| tb_rel) => `(tactic| first | exact SufOf.base | (refine' SufOf.cons ?a; (case a => tb_rel)))
section
open PySem PySem.W PyProof.Rows PySem.Calls
theorem fresh_I2 : True := by (w_top off); k_with_none; trivial
set_option maxRecDepth 100000
set_option maxHeartbeats 4000000
theorem fill_I2 : (fun (_ : OpenLaw) (_ : Params → Frag) => True) PySem.Challenge.rw_ik0125_01 hd.heap_1 := by k_fill; trivial
/-- the digit i of X, N bits each -/
def dig (N X i : Nat) : Nat := X / 2 ^ (N * i) % 2 ^ N
def PutD (N k X Lo : Nat) (ns ns' : List Int) : Prop := ns'.length = ns.length ∧ ∀ i, ns'[i]? = if Lo ≤ i ∧ i < Lo + k then some ((dig N X (i - Lo) : Nat) : Int) else ns[i]?

theorem dig_low {N X k i : Nat} (h : i < k) : dig N (X % 2 ^ (k * N)) i = dig N X i := by
  unfold dig
  have e1 : k * N = N * i + N * (k - i) := by
    rw [← Nat.mul_add, Nat.mul_comm k N]
    congr 1; omega
  rw [e1, Nat.pow_add, Nat.mod_mul_right_div_self]
  have e2 : N * (k - i) = N + N * (k - i - 1) := by
    obtain ⟨j, hj⟩ : ∃ j, k - i = 1 + j := ⟨k - i - 1, by omega⟩
    rw [hj, Nat.mul_add, Nat.mul_one, Nat.add_sub_cancel_left]
  rw [e2, Nat.pow_add, Nat.mod_mul_right_mod]
theorem dig_high {N X k i : Nat} : dig N (X / 2 ^ (k * N)) i = dig N X (k + i) := by
  unfold dig
  rw [Nat.div_div_eq_div_mul, ← Nat.pow_add, Nat.mul_add, Nat.mul_comm k N]
theorem put_one {N X Lo : Nat} {ns : List Int} (hX : X < 2 ^ (N * 1)) (h : Lo + 1 ≤ ns.length) : PutD N 1 X Lo ns (ns.set Lo (X : Int)) := by
  refine ⟨by simp, fun i => ?_⟩
  rw [List.getElem?_set]
  by_cases e : Lo = i
  · subst e
    have : dig N X 0 = X := by
      unfold dig
      simp only [Nat.mul_zero, Nat.pow_zero, Nat.div_one]
      exact Nat.mod_eq_of_lt (by simpa using hX)
    rw [if_pos rfl, if_pos (by omega), if_pos (by omega), Nat.sub_self, this]
  · rw [if_neg e, if_neg (by omega)]
theorem put_two {N X Lo k k₁ k₂ : Nat} {ns ns₁ ns₂ : List Int} (hk : k = k₁ + k₂) (h₁ : PutD N k₁ (X % 2 ^ (k₁ * N)) Lo ns ns₁) (h₂ : PutD N k₂ (X / 2 ^ (k₁ * N)) (Lo + k₁) ns₁ ns₂) : PutD N k X Lo ns ns₂ := by
  subst hk
  refine ⟨h₂.1.trans h₁.1, fun i => ?_⟩
  rw [h₂.2, h₁.2]
  by_cases a : i < Lo
  · rw [if_neg (by omega), if_neg (by omega), if_neg (by omega)]
  by_cases b : i < Lo + k₁
  · rw [if_neg (by omega), if_pos (by omega), if_pos (by omega), dig_low (by omega)]
  by_cases c : i < Lo + k₁ + k₂
  · rw [if_pos (by omega), if_pos (by omega), dig_high]
    congr 4; omega
  · rw [if_neg (by omega), if_neg (by omega), if_neg (by omega)]
structure RecI (w : World) (f l : Addr) (N : Nat) (G : Heap → Prop) (k : Nat) : Prop where
  run : ∀ {X Lo : Nat} {x lo hi : Int} {tx tl th : Tok} {p : Program} {loose : List Str} {mean : ExcName → Option Value} {mg mb : Str → Option Value} {dp un : Nat} {gd : Option (List Code)} {cn : Str} {cs : Scope} {a : Addr} {ccd : Value} {cl : List (Str × Addr)} {outer : List Env} {A₀ : Around} {base h₀ : Heap} {L : Addr} {m : Str → Option Value} {s : Shared} {Q E : Value → Shared → Prop} {vs : List Value} {ns : List Int} {ep : Nat},
    Below A₀ base outer h₀ → Fr h₀ L s.heap m → (hd.heap_1 w.params).In h₀ → News h₀ L s.heap [(l, PySem.W.listOf vs.toArray ep)] → Top p loose mean mg mb h₀ → cs.kind = .function → G s.heap →
    x = (X : Int) → lo = (Lo : Int) → hi = (Lo : Int) + (k : Int) → IntsAre vs ns → Lo + k ≤ ns.length → ns.length ≤ 64 → X < 2 ^ (N * k) → X < 18446744073709551616 → 1 ≤ k → dp + k < recursionLimit → un + 8 * k + 16 < cLine →
    (∀ h' tk' vs' ns' ep', IntsAre vs' ns' → PutD N k X Lo ns ns' → StayT [(l, PySem.W.listOf vs.toArray ep)] s.heap h' → News h₀ L h' [(l, PySem.W.listOf vs'.toArray ep')] → Fr h₀ L h' m → Q .none { s with heap := h', toks := tk' }) →
      wpAny (model prog w) (ktrTop dp un gd cn cs L a ccd cl outer) (call (.ref f) [.int x tx, .int lo tl, .int hi th]) Q E s

theorem fnAt_of {h₀ h : Heap} {L f : Addr} {m : Str → Option Value} {fo : Obj} (F : Fr h₀ L h m) (g : h₀.get? f = some fo) (hf : ∃ fd, fo.data = .func fd) : FnAt f h := by
  obtain ⟨oc, od, dt, sl⟩ := fo
  obtain ⟨fd, e⟩ := hf
  replace e : dt = .func fd := e
  subst e
  exact ⟨oc, od, fd, sl, F.keep _ _ g⟩
theorem fnAt_news {h₀ h : Heap} {L f : Addr} {fo : Obj} {news : List (Addr × Obj)} (N : News h₀ L h ((f, fo) :: news)) (hf : ∃ fd, fo.data = .func fd) : FnAt f h := by
  obtain ⟨oc, od, dt, sl⟩ := fo
  obtain ⟨fd, e⟩ := hf
  replace e : dt = .func fd := e
  subst e
  exact ⟨oc, od, fd, sl, (N _ (.head _)).1⟩
theorem wd_I2_0 : True := by k_with_none; trivial
theorem wd_I2_1 : True := by
  (k_with "callWith ref" =>
    ((k_here; k_dflt (refine' callWith_F ?qzk1 ?_; (case qzk1 => first | exact fnAt_news (by assumption) (by assumption) | exact fnAt_of (by k_asm) (by assumption) (by assumption)); k_whole))))
  trivial
theorem wd_I2_2 : True := by
  (k_with "And" =>
    (((with_reducible show FnAt _ _ ∧ _); refine ⟨by first | exact fnAt_news (by assumption) (by assumption) | exact fnAt_of (by k_asm) (by assumption) (by assumption), ?_⟩; try dsimp only [List.nil_append, List.cons_append])))
  trivial
theorem wd_I2_3 : True := by
  (k_with "ite" =>
    (first | refine ite_pos (by (try simp only [decide_eq_true_eq, beq_iff_eq, bne_iff_ne, ne_eq]); omega) ?_ | refine ite_neg (by (try simp only [decide_eq_true_eq, beq_iff_eq, bne_iff_ne, ne_eq]); omega) ?_))
  trivial
theorem wd_I2_4 : True := by
  (k_with "binaryOp RShift int int" =>
    ((k_here; first | ((with_reducible refine' rshift_mid ?qzh1 ?qzh2 ?_); (case qzh1 => with_reducible assumption); (case qzh2 => with_reducible assumption)) | (with_reducible refine rshift_nat ?_))))
  trivial
theorem wd_I2_5 : True := by
  (k_with "binaryOp Mult int int" =>
    ((k_here; ((with_reducible refine' mul_sh ?qzh1 ?qzh2 ?qzh3 ?qzh4 ?_); (case qzh1 => with_reducible assumption); (case qzh2 => rfl); (case qzh3 => omega); (case qzh4 => omega)))))
  trivial
theorem wd_I2_6 : True := by
  (k_with "binaryOp LShift int int" =>
    ((k_here; ((with_reducible refine' lshift_nat ?qzh1 ?qzh2 ?_); (case qzh1 => with_reducible assumption); (case qzh2 => with_reducible assumption)))))
  trivial
theorem wd_I2_7 : True := by
  (k_with "binaryOp BitXor int int" =>
    ((k_here; (with_reducible refine xor_nat ?_))))
  trivial
theorem wd_I2_8 : True := by
  (k_with "eval Name" =>
    ((k_here; k_dflt (refine' nameX_G ?qzF ?qzc ?qzo ?qzd ?_ ?qza ?qzb; (case qzF => k_asm); (case qza => rfl); (case qzb => rfl); (case qzc => rfl); (case qzo => assumption); (case qzd => assumption); k_whole))))
  trivial
def numD (N A : Nat) : Nat := (Builtin.Int.intBits (A : Int) + N - 1) / N
theorem numD_zero (N : Nat) (h : 1 ≤ N) : numD N 0 = 0 := by
  unfold numD
  rw [show Builtin.Int.intBits ((0 : Nat) : Int) = 0 from rfl]
  exact Nat.div_eq_of_lt (by omega)
theorem numD_pos {N A : Nat} (h : 1 ≤ N) (hA : A ≠ 0) : 1 ≤ numD N A := by
  unfold numD
  have : 1 ≤ Builtin.Int.intBits (A : Int) := by
    unfold Builtin.Int.intBits
    rw [if_neg (by simp; exact hA)]
    omega
  exact (Nat.le_div_iff_mul_le (by omega)).mpr (by omega)
theorem numD_lt {N A : Nat} (h : 1 ≤ N) : A < 2 ^ (N * numD N A) := by
  have h1 : A < 2 ^ Builtin.Int.intBits (A : Int) := by
    unfold Builtin.Int.intBits
    split
    · rename_i e
      simp at e
      subst e
      decide
    · rw [Int.natAbs_natCast]; exact Nat.lt_log2_self
  refine Nat.lt_of_lt_of_le h1 (Nat.pow_le_pow_right (by omega) ?_)
  unfold numD
  have := Nat.div_add_mod (Builtin.Int.intBits (A : Int) + N - 1) N
  have h2 := Nat.mod_lt (Builtin.Int.intBits (A : Int) + N - 1) (show N > 0 by omega)
  omega
theorem ints_rep (t : Tok) : ∀ k, IntsAre (List.replicate k (.int 0 t)) (List.replicate k 0)
  | 0 => .nil
  | k + 1 => .cons 0 t (ints_rep t k)
theorem put_all {N K A : Nat} {ns : List Int} (h : PutD N K A 0 (List.replicate K 0) ns) : ns = (List.range K).map fun i => ((dig N A i : Nat) : Int) := by
  apply List.ext_getElem?
  intro i
  rw [h.2 i]
  simp only [Nat.zero_le, true_and, Nat.zero_add, Nat.sub_zero, List.getElem?_map]
  by_cases c : i < K
  · rw [if_pos c, List.getElem?_range c]; rfl
  · rw [if_neg c, List.getElem?_eq_none (by simp; omega), List.getElem?_eq_none (by simp; omega)]; rfl
theorem news_stay1 {h₀ h h' : Heap} {L l f : Addr} {o o' fo : Obj} {rest : List (Addr × Obj)} (N : News h₀ L h ((f, fo) :: (l, o) :: rest)) (hf : f ≠ l) (hl : ∀ p ∈ rest, p.1 ≠ l) (st : StayT [(l, o)] h h') (N' : News h₀ L h' [(l, o')]) :
    News h₀ L h' ((f, fo) :: (l, o') :: rest) := by
  intro q hq
  rcases List.mem_cons.mp hq with rfl | hq
  · exact ⟨st _ _ (by simpa using hf) (N _ (.head _)).1, (N _ (.head _)).2⟩
  rcases List.mem_cons.mp hq with rfl | hq
  · exact N' _ (.head _)
  · have := N q (.tail _ (.tail _ hq))
    exact ⟨st _ _ (by simpa using hl q hq) this.1, this.2⟩
theorem c_int2digits {w : World} {A N : Nat} {ta tn : Tok} (hA : A < 18446744073709551616) (hN1 : 1 ≤ N) (hN2 : N ≤ 64) : Ctr w 52 80 600 [.int (A : Int) ta, .int (N : Int) tn] (fun _ _ => True)
    (fun g h v => ∃ l vs ep, v = .ref l ∧ g.objs.size ≤ l ∧ h.get? l = some (PySem.W.listOf vs.toArray ep) ∧ IntsAre vs ((List.range (numD N A)).map fun i => ((dig N A i : Nat) : Int))) := by
  have hbl : Builtin.Int.intBits (A : Int) ≤ 64 := intBits_le (by omega) (by omega)
  k_dflt (refine' ctr_cells (binds := [(Str.ofString "a", .int (A : Int) ta), (Str.ofString "n", .int (N : Int) tn)]) ?k6 ?k7 ?k1 ?k9 ?kB ?kD ?c2 ?c3 ?c4 ?_; (case k6 => k_is); (case k7 => k_is); (case k1 => decide); (case k9 => intro s; exact BindsTo.of_eq rfl); (case kB => exact rfl); (case kD => decide +kernel); (case c2 => exact rfl); (case c3 => exact rfl); (case c4 => exact rfl))
  intro p loose mean mg mb dp un gd outer A₀ base g₀ g L tabs cells s Q hd hu hL st F NN hlt Y TL B X T hpre hret
  obtain ⟨oI, oA, oN, rfl, dI, dA, dN⟩ := CellsAre.three Y
  replace dI : oI.data = .cell none := dI
  replace dA : oA.data = .cell none := dA
  replace dN : oN.data = .cell (some (.int (N : Int) tn)) := dN
  clear Y
  dsimp only [List.cons_append, List.nil_append] at NN
  obtain ⟨t₁, t₂, t₃, codes, rfl, G₁, G₂, G₃, hcod⟩ := TL.of
  have hcL : ∀ p ∈ codes, p.1 < L := fun p hp => hlt p (.tail _ (.tail _ (.tail _ hp)))
  have hc0 : ∀ p ∈ codes, p.1 ≠ 47 := fun p hp => (hcod p hp).2.2
  have hc1 : ∀ p ∈ codes, p.1 ≠ L + 1 := fun p hp => Nat.ne_of_lt (Nat.lt_succ_of_lt (hcL p hp))
  have hc2 : ∀ p ∈ codes, p.1 ≠ L + 1 + 1 := fun p hp => Nat.ne_of_lt (Nat.lt_succ_of_lt (Nat.lt_succ_of_lt (hcL p hp)))
  have hc3 : ∀ p ∈ codes, p.1 ≠ L + 1 + 1 + 1 := fun p hp => Nat.ne_of_lt (Nat.lt_succ_of_lt (Nat.lt_succ_of_lt (Nat.lt_succ_of_lt (hcL p hp))))
  have q1 := ltN (hlt _ (.head _))
  have q2 := ltN (hlt _ (.tail _ (.head _)))
  have q3 := ltN (hlt _ (.tail _ (.tail _ (.head _))))
  dsimp only at q1 q2 q3
  k_steps
  have hKe : ((Builtin.Int.intBits (A : Int) : Int) + (N : Int) - 1).fdiv (N : Int) = ((numD N A : Nat) : Int) := by
    unfold numD
    rw [Int.fdiv_eq_ediv_of_nonneg _ (by omega)]
    have : ((Builtin.Int.intBits (A : Int) : Int) + (N : Int) - 1) = ((Builtin.Int.intBits (A : Int) + N - 1 : Nat) : Int) := by omega
    rw [this]
    rfl
  have hK64 : numD N A ≤ 64 := by
    unfold numD
    exact Nat.div_le_of_le_mul (by omega)
  rw [hKe]
  rename Fr _ _ _ _ => F₂
  rename News _ _ _ _ => N₂
  refine mul_one F₂ N₂ (.head _) (by omega) (by omega) ?_
  intro l h₃ F₃ N₃ l₃
  k_lt l₃
  clear N₂ F₂
  k_steps
  k_dflt (refine' nestDef_K ?d0 ?k0 ?a0 ?_; (case d0 => exact rfl); (case k0 => exact rfl); (case a0 => exact rfl))
  rename_i h₄ oA' F₄ N₄ dA'
  have hC : CodeHd g 51 47 := codeHd_of_K X (by kernel_rfl)
  k_dflt (refine' nest_any (q := qC) (codes := codes) F₄ N₄ T hC ?cd ?U G₃ ?m1 (fun p hp => (hcod p hp).2.2) ?hq ?cl ?_; (case cd => exact rfl); (case U => k_updF); (case m1 => (intro pp hpp; repeat (first | exact hpp | refine List.Mem.tail _ ?_))); (case hq => kernel_rfl); (case cl => exact rfl))
  intro f c' oc cvs ctk ctv doc h₅ tk₅ ps' codes' F₅ N₅ Nc₅ G₅ hcm hcdat hcv hsub hnew hlf hlfc
  try dsimp only at N₅
  have N₆ := SufOf.swap (t := codes) (t' := codes') (by tb_rel) N₅ Nc₅
  try dsimp only at N₆
  obtain ⟨fo, hfo, N₆⟩ := named_of N₆
  k_lt hlf
  have hcn : ∀ q, (∀ p ∈ codes, p.1 ≠ q) → q < l → ∀ p ∈ codes', p.1 ≠ q := fun q h1 h2 p hp => by
    rcases hnew p hp with h | h
    · exact h1 p h
    · exact Nat.ne_of_gt (Nat.lt_trans h2 (h _ (.head _)))
  clear N₅ Nc₅
  have e0 : ∀ p ∈ codes', p.1 ≠ l := fun p hp => by
    rcases hnew p hp with h | h
    · exact Nat.ne_of_lt (Nat.lt_trans (hcL p h) (Nat.lt_trans (Nat.lt_succ_self _) l₃.2.2.2.1))
    · exact Nat.ne_of_gt (h _ (.head _))
  have e1 : ∀ p ∈ codes', p.1 ≠ L + 1 + 1 + 1 := hcn _ hc3 l₃.2.1
  have e2 : ∀ p ∈ codes', p.1 ≠ L + 1 + 1 := hcn _ hc2 l₃.2.2.1
  have e3 : ∀ p ∈ codes', p.1 ≠ L + 1 := hcn _ hc1 l₃.2.2.2.1
  k_dflt (refine' storeX_C ?F ?N ?c ?U ?d ?_ ?a ?b; (case a => rfl); (case b => rfl); (case F => k_asm); (case N => k_asm); (case c => rfl); (case U => k_updF); (case d => k_asm))
  intro h₆ oi F₆ N₆ hoi
  try dsimp only at N₆
  obtain ⟨G, hG⟩ : ∃ G : Heap → Prop, G = fun h => h.get? f = some fo ∧ h.get? (L + 1 + 1 + 1) = some oi ∧ h.get? (L + 1 + 1) = some oA' ∧ h.get? (L + 1) = some oN ∧ h.get? c' = some oc := ⟨_, rfl⟩
  have hfd : ∃ fd, fo.data = .func fd := ⟨_, by rw [hfo]⟩
  have hI₀ := ints_rep s.toks (numD N A)
  rw [Int.toNat_natCast] at N₆
  have hlr : (List.replicate (numD N A) (Value.int 0 s.toks)).length = numD N A := List.length_replicate
  generalize List.replicate (numD N A) (Value.int 0 s.toks) = vs₀ at N₆ hI₀ hlr
  have key : ∀ k : Nat, RecI w f l N G k := by
    clear hret N₆ F₆ TL
    intro k
    induction k using Nat.strongRecOn with
    | ind k ih =>
      constructor
      intro X Lo xi lo hi tx tl th p' loose' mean' mg' mb' dp' un' gd' cn' cs' a' ccd' cl' outer' A₀' base' h₀' L' m' s' Q' E' vs ns ep B' F' X' N' T' hk' hG' hxi hlo hhi hI hLo hlen hX hX64 hk1 hd' hu' hret'
      subst hxi
      rw [hG] at hG'
      obtain ⟨g1, g2, g3, g4, g5⟩ := hG'
      have hcr : s'.heap.CodeRec (.ref c') _ := ⟨c', oc, cvs, ctk, rfl, g5, hcdat, hcv⟩
      k_dflt (refine' call_inner (binds := [(Str.ofString "x", .int (X : Int) tx), (Str.ofString "L", .int lo tl), (Str.ofString "R", .int hi th)]) B' F' X' N' T' hk' g1 (by rw [hfo]) hcr ?room ?kb ?kl ?_ ?c2 ?c3 ?c4 ?c5; (case room => omega); (case kb => exact BindsTo.of_eq rfl); (case kl => exact locs rfl); (case c2 => exact rfl); (case c3 => exact rfl); (case c4 => exact rfl); (case c5 => decide))
      clear B' X' T'
      intro A₁ outer₁ g₂ L₂ h₇ tk₇ st₂ eL₂ F₇ N₇ B₂ X₂ T₂
      have gF : g₂.get? f = some fo := st₂ _ _ (by simp; exact Nat.ne_of_gt hlf.1) g1
      have gI : g₂.get? (L + 1 + 1 + 1) = some oi := st₂ _ _ (by simp; exact Nat.ne_of_lt l₃.2.1) g2
      have gA : g₂.get? (L + 1 + 1) = some oA' := st₂ _ _ (by simp; exact Nat.ne_of_lt l₃.2.2.1) g3
      have gN : g₂.get? (L + 1) = some oN := st₂ _ _ (by simp; exact Nat.ne_of_lt l₃.2.2.2.1) g4
      have gC : g₂.get? c' = some oc := st₂ _ _ (by simp; exact e0 _ hcm) g5
      have hvl : vs.length = ns.length := IntsAre.length hI
      by_cases hk : k = 1
      · subst hk
        k_steps
        rename Fr _ _ _ _ => F₈
        rename News _ _ _ _ => N₈
        rename IntsAre _ _ => hI₈
        refine hret' _ _ _ _ _ hI₈ ?_ (fun b o hb e => F₈.keep b o (st₂ b o hb e)) (fun p hp => ⟨(N₈ p hp).1, by
          cases hp with
          | head => exact (N' _ (.head _)).2
          | tail _ hp => cases hp⟩) ?_
        · subst hlo
          rw [Int.toNat_natCast]
          exact put_one hX hLo
        · exact stay_fr F' N' (fun b o hb e => F₈.keep b o (st₂ b o hb e))
      · have hX1 : X / 2 ^ (k / 2 * N) < 18446744073709551616 := Nat.lt_of_le_of_lt (Nat.div_le_self _ _) hX64
        have hS : k / 2 * N ≤ 1000000 := Nat.le_trans (Nat.mul_le_mul (show k / 2 ≤ 64 by omega) hN2) (by decide)
        k_steps
        rename Fr _ _ _ _ => F₈
        rename News _ _ _ _ => N₈
        refine (ih (k / 2) (half_ok hk1 hk hLo hd' hu').lt1).run B₂ F₈ X₂ N₈ T₂ rfl (by rw [hG]; exact ⟨F₈.keep _ _ gF, F₈.keep _ _ gI, F₈.keep _ _ gA, F₈.keep _ _ gN, F₈.keep _ _ gC⟩) rfl hlo rfl hI (half_ok hk1 hk hLo hd' hu').le1 hlen ?hX ?hX6 (half_ok hk1 hk hLo hd' hu').p1 (half_ok hk1 hk hLo hd' hu').d1 (half_ok hk1 hk hLo hd' hu').u1 ?_
        case hX => rw [Nat.mul_comm N]; exact Nat.mod_lt _ (Nat.two_pow_pos _)
        case hX6 => exact Nat.lt_of_le_of_lt (Nat.mod_le _ _) hX64
        intro h₉ tk₉ vs₉ ns₉ ep₉ hI₉ hP₉ st₉ N₉ F₉
        have hl₉ : ns₉.length = ns.length := hP₉.1
        clear st₉ N₈ F₈
        k_steps
        rename Fr _ _ _ _ => F₈
        rename News _ _ _ _ => N₈
        refine (ih (k - k / 2) (half_ok hk1 hk hLo hd' hu').lt2).run (Lo := Lo + k / 2) B₂ F₈ X₂ N₈ T₂ rfl (by rw [hG]; exact ⟨F₈.keep _ _ gF, F₈.keep _ _ gI, F₈.keep _ _ gA, F₈.keep _ _ gN, F₈.keep _ _ gC⟩) rfl ?hlo ?hhi hI₉ (by rw [hl₉]; exact (half_ok hk1 hk hLo hd' hu').le2) (by rw [hl₉]; exact hlen) ?hX hX1 (half_ok hk1 hk hLo hd' hu').p2 (half_ok hk1 hk hLo hd' hu').d2 (half_ok hk1 hk hLo hd' hu').u2 ?_
        case hlo => omega
        case hhi => omega
        case hX =>
          refine Nat.div_lt_of_lt_mul ?_
          rw [← Nat.pow_add, Nat.mul_comm (k / 2), ← Nat.mul_add]
          rwa [show k / 2 + (k - k / 2) = k by omega]
        intro h₁₀ tk₁₀ vs₁₀ ns₁₀ ep₁₀ hI₁₀ hP₁₀ st₁₀ N₁₀ F₁₀
        clear st₁₀ N₈ F₈
        k_steps
        refine hret' _ _ _ _ _ hI₁₀ (put_two (by omega) hP₉ hP₁₀) (fun b o hb e => F₁₀.keep b o (st₂ b o hb e)) (fun p hp => ⟨(N₁₀ p hp).1, by
          cases hp with
          | head => exact (N' _ (.head _)).2
          | tail _ hp => cases hp⟩) (stay_fr F' N' (fun b o hb e => F₁₀.keep b o (st₂ b o hb e)))
  have hls : vs₀.toArray.size = numD N A := hlr
  have TL' : TabL3 ((99, tabObj t₁) :: (54, tabObj t₂) :: (47, tabObj ps') :: codes') := ⟨t₁, t₂, ps', codes', rfl, G₁.mono hsub, G₂.mono hsub, G₅, fun p hp =>
    ⟨hcn 99 (fun p hp => (hcod p hp).1) l₃.2.2.2.2.1 p hp, hcn 54 (fun p hp => (hcod p hp).2.1) l₃.2.2.2.2.2.1 p hp, hcn 47 (fun p hp => (hcod p hp).2.2) l₃.2.2.2.2.2.2.1 p hp⟩⟩
  have ht : ∀ p ∈ (99, tabObj t₁) :: (54, tabObj t₂) :: (47, tabObj ps') :: codes', p.1 ∈ ((99, tabObj t₁) :: (54, tabObj t₂) :: (47, tabObj t₃) :: codes).map (·.1) ∨ L ≤ p.1 := by
    intro p hp
    rcases List.mem_cons.mp hp with rfl | hp
    · exact .inl (by simp)
    rcases List.mem_cons.mp hp with rfl | hp
    · exact .inl (by simp)
    rcases List.mem_cons.mp hp with rfl | hp
    · exact .inl (by simp)
    rcases hnew p hp with h | h
    · exact .inl (by simp only [List.map_cons]; exact .tail _ (.tail _ (.tail _ (List.mem_map_of_mem h))))
    · exact .inr (Nat.le_trans (Nat.le_add_right L 1) (Nat.le_of_lt (h _ (.tail _ (.tail _ (.tail _ (.tail _ (.head _))))))))
  have hLl : g₀.objs.size ≤ l := by
    rw [hL]
    exact Nat.le_of_lt (Nat.lt_trans (Nat.lt_succ_self _) l₃.2.2.2.1)
  clear F₅ F₄ N₄
  k_steps
  · rename_i hA0
    have hA0' : A ≠ 0 := fun e => hA0 (by rw [e]; rfl)
    rename Fr _ _ _ _ => F₈
    rename News _ _ _ _ => N₈
    refine (key (numD N A)).run (Lo := 0) B F₈ X (fun p hp => by cases hp with | head => exact N₈ _ (.tail _ (.head _)) | tail _ hp => cases hp) T rfl
      (by rw [hG]; exact ⟨(N₈ _ (.head _)).1, (N₈ _ (.tail _ (.tail _ (.tail _ (.head _))))).1, (N₈ _ (.tail _ (.tail _ (.tail _ (.tail _ (.head _)))))).1, (N₈ _ (.tail _ (.tail _ (.tail _ (.tail _ (.tail _ (.head _))))))).1, (N₈ _ (.tail _ (.tail _ (.tail _ (.tail _ (.tail _ (.tail _ (.tail _ (.tail _ (.tail _ hcm)))))))))).1⟩) rfl ?lo ?hi hI₀ (by simp) (by simp; omega) (numD_lt hN1) hA (numD_pos hN1 hA0') (by omega) (by omega) ?_
    case lo => rfl
    case hi => omega
    intro h₉ tk₉ vs₉ ns₉ ep₉ hI₉ hP₉ st₉ N₉ F₉
    have hns := put_all hP₉
    have N₁₀ := news_stay1 N₈ (Nat.ne_of_gt hlf.1) (List.forall_mem_cons.mpr ⟨Nat.ne_of_lt l₃.1, List.forall_mem_cons.mpr ⟨Nat.ne_of_lt l₃.2.1, List.forall_mem_cons.mpr ⟨Nat.ne_of_lt l₃.2.2.1, List.forall_mem_cons.mpr ⟨Nat.ne_of_lt l₃.2.2.2.1, List.forall_mem_cons.mpr ⟨Nat.ne_of_lt l₃.2.2.2.2.1, List.forall_mem_cons.mpr ⟨Nat.ne_of_lt l₃.2.2.2.2.2.1, List.forall_mem_cons.mpr ⟨Nat.ne_of_lt l₃.2.2.2.2.2.2.1, e0⟩⟩⟩⟩⟩⟩⟩) st₉ N₉
    clear N₈ F₈ N₉ hlr hls
    k_steps
    exact hret _ _ _ _ _ (by k_asm) (fun p hp => N₁₀ p (.tail _ (.tail _ (.tail _ (.tail _ (.tail _ (.tail _ hp))))))) TL' ht ⟨l, vs₉, ep₉, rfl, hLl, (N₁₀ _ (.tail _ (.head _))).1, hns ▸ hI₉⟩
  · rename_i hA0
    have hA0' : A = 0 := by omega
    rename Fr _ _ _ _ => F₈
    rename News _ _ _ _ => N₈
    refine hret _ _ _ _ _ F₈ (fun p hp => N₈ p (.tail _ (.tail _ (.tail _ (.tail _ (.tail _ (.tail _ hp))))))) TL' ht ⟨l, vs₀, 0, rfl, hLl, (N₈ _ (.tail _ (.head _))).1, ?_⟩
    subst hA0'
    rw [numD_zero N hN1] at hI₀ ⊢
    exact hI₀
end
section
open PySem PySem.W PyProof.Rows PySem.Calls
theorem fresh_D2 : True := by (w_top off); k_with_none; trivial
set_option maxRecDepth 100000
set_option maxHeartbeats 4000000
theorem fill_D2 : (fun (_ : OpenLaw) (_ : Params → Frag) => True) PySem.Challenge.rw_ik0125_01 hd.heap_1 := by k_fill; trivial
def und (N : Nat) : List Nat → Nat
  | [] => 0
  | d :: ds => d + 2 ^ N * und N ds
theorem und_append (N : Nat) : ∀ a b : List Nat, und N (a ++ b) = und N a + 2 ^ (a.length * N) * und N b
  | [], b => by simp [und]
  | d :: a, b => by
    rw [List.cons_append, und, und, und_append N a b, List.length_cons, Nat.add_mul, Nat.one_mul, Nat.pow_add, Nat.mul_add]
    rw [Nat.mul_comm (2 ^ (a.length * N)) (2 ^ N), Nat.mul_assoc]; omega
theorem und_lt {N : Nat} : ∀ {ds : List Nat}, (∀ d ∈ ds, d < 2 ^ N) → und N ds < 2 ^ (N * ds.length)
  | [], _ => by simp [und]
  | d :: ds, h => by
    have h1 := h d (.head _)
    have h2 := und_lt (ds := ds) fun d hd => h d (.tail _ hd)
    rw [und, List.length_cons, Nat.mul_add, Nat.mul_one, Nat.add_comm (N * ds.length), Nat.pow_add]
    have : 2 ^ N * und N ds ≤ 2 ^ N * (2 ^ (N * ds.length) - 1) := Nat.mul_le_mul_left _ (by omega)
    rw [Nat.mul_sub, Nat.mul_one] at this
    have h3 : 2 ^ N ≤ 2 ^ N * 2 ^ (N * ds.length) := Nat.le_mul_of_pos_right _ (Nat.two_pow_pos _)
    omega
theorem seg_split {N : Nat} {ds : List Nat} {Lo k : Nat} (h : Lo + k ≤ ds.length) : und N ((ds.drop Lo).take k) = und N ((ds.drop (Lo + k / 2)).take (k - k / 2)) * 2 ^ (k / 2 * N) + und N ((ds.drop Lo).take (k / 2)) := by
  have e : (ds.drop Lo).take k = (ds.drop Lo).take (k / 2) ++ (ds.drop (Lo + k / 2)).take (k - k / 2) := by
    have : k = k / 2 + (k - k / 2) := by omega
    conv => lhs; rw [this, List.take_add]
    rw [List.drop_drop]
  rw [e, und_append, List.length_take, List.length_drop, Nat.min_eq_left (by omega), Nat.mul_comm (2 ^ _)]
  omega
theorem seg_lt {N : Nat} {ds : List Nat} (hd : ∀ d ∈ ds, d < 2 ^ N) (hl : N * ds.length ≤ 64) (a b : Nat) (hb : b < ds.length) : und N ((ds.drop a).take b) < 18446744073709551616 := by
  by_cases hN : N = 0
  · subst hN
    have := und_lt (N := 0) (ds := (ds.drop a).take b) (fun d h => hd d (List.mem_of_mem_drop (List.mem_of_mem_take h)))
    rw [Nat.zero_mul] at this; omega
  refine Nat.lt_of_lt_of_le (und_lt (fun d h => hd d (List.mem_of_mem_drop (List.mem_of_mem_take h)))) ?_
  refine Nat.le_trans (Nat.pow_le_pow_right (by omega) ?_) (show 2 ^ 64 ≤ 18446744073709551616 by decide)
  refine Nat.le_trans (Nat.mul_le_mul_left N ?_) hl
  rw [List.length_take]; omega
theorem ints_at {vs : List Value} {ns : List Int} (h : IntsAre vs ns) : ∀ (i : Nat) (n : Int), ns[i]? = some n → ∃ t, vs[i]? = some (.int n t) := by
  induction h with
  | nil => intro i n e; simp at e
  | cons m t _ ih =>
    intro i n e
    cases i with
    | zero => simp at e; subst e; exact ⟨t, rfl⟩
    | succ i => exact ih i n (by simpa using e)

theorem take_one {N : Nat} {ds : List Nat} {Lo : Nat} (h : Lo + 1 ≤ ds.length) : und N ((ds.drop Lo).take 1) = ds[Lo] := by
  rw [List.drop_eq_getElem_cons h]
  simp only [List.take_succ_cons, List.take_zero, und, Nat.mul_zero, Nat.add_zero]
structure RecD (w : World) (f : Addr) (N : Nat) (ds : List Nat) (G : Heap → Prop) (k : Nat) : Prop where
  run : ∀ {Lo : Nat} {lo hi : Int} {tl th : Tok} {p : Program} {loose : List Str} {mean : ExcName → Option Value} {mg mb : Str → Option Value} {dp un : Nat} {gd : Option (List Code)} {cn : Str} {cs : Scope} {a : Addr} {ccd : Value} {cl : List (Str × Addr)} {outer : List Env} {A₀ : Around} {base h₀ : Heap} {L : Addr} {m : Str → Option Value} {s : Shared} {Q E : Value → Shared → Prop},
    Below A₀ base outer h₀ → Fr h₀ L s.heap m → (hd.heap_1 w.params).In h₀ → Top p loose mean mg mb h₀ → cs.kind = .function → G s.heap →
    lo = (Lo : Int) → hi = (Lo : Int) + (k : Int) → Lo + k ≤ ds.length → 1 ≤ k → dp + k < recursionLimit → un + 8 * k + 16 < cLine →
    (∀ h' tk' t, (∀ b o, s.heap.get? b = some o → h'.get? b = some o) → Q (.int ((und N ((ds.drop Lo).take k) : Nat) : Int) t) { s with heap := h', toks := tk' }) →
      wpAny (model prog w) (ktrTop dp un gd cn cs L a ccd cl outer) (call (.ref f) [.int lo tl, .int hi th]) Q E s
section
variable {prog : Program} {w : World} {A : Around} {E : Value → Shared → Prop} {s : Shared} {h₀ : Heap} {L l : Addr} {m : Str → Option Value} {vs : List Value} {ep : Nat}
theorem truthy_gl {Q : Bool → Shared → Prop} (F : Fr h₀ L s.heap m) (g : h₀.get? l = some (PySem.W.listOf vs.toArray ep)) (hz : vs.length ≤ 64) (h : Q (decide (0 < vs.length)) { s with toks := s.toks + 1 + 1 }) : wpAny (model prog w) A (truthy (.ref l)) Q E s :=
  wpAny_truthy_list (PySem.IsL.isList (n := ep) (F.keep _ _ g)) (by simp; omega) (by
    have e : (!vs.toArray.isEmpty) = decide (0 < vs.length) := by cases vs <;> simp
    rw [e]; exact h)
theorem len_gl {Q : Value → Shared → Prop} {n : Nat} (F : Fr h₀ L s.heap m) (g : h₀.get? l = some (PySem.W.listOf vs.toArray ep)) (hn : vs.length = n) (hz : n ≤ 64) (h : Q (.int (n : Nat) (s.toks + 1)) { s with toks := s.toks + 1 + 1 }) : wpAny (model prog w) A (call (.builtin "len") [.ref l]) Q E s := by
  subst hn
  exact Calls.call_len_list (PySem.IsL.isList (n := ep) (F.keep _ _ g)) (by simp; omega) h
theorem sub_gl {value slice : PySem.Expr} {k : Int} {u : Tok} {v : Value} {Q : Value → Shared → Prop} (F : Fr h₀ L s.heap m) (g : h₀.get? l = some (PySem.W.listOf vs.toArray ep)) (h0 : 0 ≤ k) (h1 : k < 64) (hx : vs[k.toNat]? = some v) (h : Q v s)
    (hs : subscripted slice false (.ref l) (.int k u) = operate [.ref l, .int k u] (getItem (.ref l) (.int k u)) := by with_unfolding_all rfl) :
    wpAny (model prog w) A (subscriptTail value slice (.ref l) (.int k u)) Q E s :=
  have hl := PySem.IsL.isList (n := ep) (F.keep _ _ g)
  tail_any hl.typeIs slot_list_getitem.lookup (wpAny_getItem_list hl h0 (by omega) (by simpa using hx) h) hs
end
theorem wd_D2_0 : True := by k_with_none; trivial
theorem wd_D2_1 : True := by
  (k_with "truthy ref" =>
    ((k_here; k_dflt (refine truthy_gl (by k_asm) (by assumption) (by omega) ?_))))
  trivial
theorem wd_D2_2 : True := by
  (k_with "call builtin:len" =>
    ((k_here; k_dflt (refine len_gl (by k_asm) (by assumption) (by assumption) (by omega) ?_))))
  trivial
theorem wd_D2_3 : True := by
  (k_with "subscriptTail" =>
    ((k_here; k_dflt (refine sub_gl (by k_asm) (by assumption) (by omega) (by omega) (by assumption) ?_))))
  trivial
theorem wd_D2_4 : True := by
  (k_with "callWith ref" =>
    ((k_here; k_dflt (refine' callWith_F ?qzk1 ?_; (case qzk1 => first | exact fnAt_news (by assumption) (by assumption) | exact fnAt_of (by k_asm) (by assumption) (by assumption)); k_whole))))
  trivial
theorem wd_D2_5 : True := by
  (k_with "And" =>
    (((with_reducible show FnAt _ _ ∧ _); refine ⟨by first | exact fnAt_news (by assumption) (by assumption) | exact fnAt_of (by k_asm) (by assumption) (by assumption), ?_⟩; try dsimp only [List.nil_append, List.cons_append])))
  trivial
theorem wd_D2_6 : True := by
  (k_with "ite" =>
    (first | refine ite_pos (by (try simp only [decide_eq_true_eq, beq_iff_eq, bne_iff_ne, ne_eq]); omega) ?_ | refine ite_neg (by (try simp only [decide_eq_true_eq, beq_iff_eq, bne_iff_ne, ne_eq]); omega) ?_))
  trivial
theorem wd_D2_7 : True := by
  (k_with "binaryOp RShift int int" =>
    ((k_here; first | ((with_reducible refine' rshift_mid ?qzh1 ?qzh2 ?_); (case qzh1 => with_reducible assumption); (case qzh2 => with_reducible assumption)) | (with_reducible refine rshift_nat ?_))))
  trivial
theorem wd_D2_8 : True := by
  (k_with "binaryOp Mult int int" =>
    ((k_here; ((with_reducible refine' mul_sh ?qzh1 ?qzh2 ?qzh3 ?qzh4 ?_); (case qzh1 => with_reducible assumption); (case qzh2 => rfl); (case qzh3 => omega); (case qzh4 => omega)))))
  trivial
theorem wd_D2_9 : True := by
  (k_with "binaryOp LShift int int" =>
    ((k_here; ((with_reducible refine' lshift_nat ?qzh1 ?qzh2 ?_); (case qzh1 => with_reducible assumption); (case qzh2 => with_reducible assumption)))))
  trivial
theorem wd_D2_10 : True := by
  (k_with "eval Name" =>
    ((k_here; k_dflt (refine' nameX_G ?qzF ?qzc ?qzo ?qzd ?_ ?qza ?qzb; (case qzF => k_asm); (case qza => rfl); (case qzb => rfl); (case qzc => rfl); (case qzo => assumption); (case qzd => assumption); k_whole))))
  trivial

theorem c_digits2int {w : World} {N : Nat} {l : Addr} {ep : Nat} {vs : List Value} {ds : List Nat} {tn : Tok} (hN1 : 1 ≤ N) (hI : IntsAre vs (ds.map fun (d : Nat) => (d : Int))) (hdig : ∀ d ∈ ds, d < 2 ^ N) (hlen : N * ds.length ≤ 64) :
    Ctr w 59 80 600 [.ref l, .int (N : Int) tn] (fun tabs h => h.get? l = some (PySem.W.listOf vs.toArray ep) ∧ l ∉ tabs.map (·.1)) (fun g h v => ∃ t, v = .int ((und N ds : Nat) : Int) t) := by
  have hl64 : ds.length ≤ 64 := Nat.le_trans (Nat.le_mul_of_pos_left _ (by omega)) hlen
  have hN2 : ds ≠ [] → N ≤ 64 := fun h => Nat.le_trans (Nat.le_mul_of_pos_right _ (List.length_pos_iff.mpr h)) hlen
  have hvl : vs.length = ds.length := by have := IntsAre.length hI; simpa using this
  k_dflt (refine' ctr_cells (binds := [(Str.ofString "digits", .ref l), (Str.ofString "n", .int (N : Int) tn)]) ?k6 ?k7 ?k1 ?k9 ?kB ?kD ?c2 ?c3 ?c4 ?_; (case k6 => k_is); (case k7 => k_is); (case k1 => decide); (case k9 => intro s; exact BindsTo.of_eq rfl); (case kB => exact rfl); (case kD => decide +kernel); (case c2 => exact rfl); (case c3 => exact rfl); (case c4 => exact rfl))
  intro p loose mean mg mb dp un gd outer A₀ base g₀ g L tabs cells s Q hd hu hL st F NN hlt Y TL B X T hpre hret
  obtain ⟨oI, oN, oD, rfl, dI, dN, dD⟩ := CellsAre.three Y
  replace dI : oI.data = .cell none := dI
  replace dD : oD.data = .cell (some (.ref l)) := dD
  replace dN : oN.data = .cell (some (.int (N : Int) tn)) := dN
  clear Y
  dsimp only [List.cons_append, List.nil_append] at NN
  have gl : g.get? l = some (PySem.W.listOf vs.toArray ep) := st _ _ hpre.2 hpre.1
  obtain ⟨t₁, t₂, t₃, codes, rfl, G₁, G₂, G₃, hcod⟩ := TL.of
  have hcL : ∀ p ∈ codes, p.1 < L := fun p hp => hlt p (.tail _ (.tail _ (.tail _ hp)))
  have hc0 : ∀ p ∈ codes, p.1 ≠ 54 := fun p hp => (hcod p hp).2.1
  have hc1 : ∀ p ∈ codes, p.1 ≠ L + 1 := fun p hp => Nat.ne_of_lt (Nat.lt_succ_of_lt (hcL p hp))
  have hc2 : ∀ p ∈ codes, p.1 ≠ L + 1 + 1 := fun p hp => Nat.ne_of_lt (Nat.lt_succ_of_lt (Nat.lt_succ_of_lt (hcL p hp)))
  have hc3 : ∀ p ∈ codes, p.1 ≠ L + 1 + 1 + 1 := fun p hp => Nat.ne_of_lt (Nat.lt_succ_of_lt (Nat.lt_succ_of_lt (Nat.lt_succ_of_lt (hcL p hp))))
  have q1 := ltN (hlt _ (.head _))
  have q2 := ltN (hlt _ (.tail _ (.head _)))
  have q3 := ltN (hlt _ (.tail _ (.tail _ (.head _))))
  dsimp only at q1 q2 q3
  k_steps
  k_dflt (refine' nestDef_K ?d0 ?k0 ?a0 ?_; (case d0 => exact rfl); (case k0 => exact rfl); (case a0 => exact rfl))
  have hC : CodeHd g 58 54 := codeHd_of_K X (by kernel_rfl)
  k_dflt (refine' nest_any (q := qB) (codes := codes) F NN T hC ?cd ?U G₂ ?m1 (fun p hp => (hcod p hp).2.1) ?hq ?cl ?_; (case cd => exact rfl); (case U => k_updF); (case m1 => (intro pp hpp; repeat (first | exact hpp | refine List.Mem.tail _ ?_))); (case hq => kernel_rfl); (case cl => exact rfl))
  intro f c' oc cvs ctk ctv doc h₅ tk₅ ps' codes' F₅ N₅ Nc₅ G₅ hcm hcdat hcv hsub hnew hlf hlfc
  try dsimp only at N₅
  have N₆ := SufOf.swap (t := codes) (t' := codes') (by tb_rel) N₅ Nc₅
  try dsimp only at N₆
  obtain ⟨fo, hfo, N₆⟩ := named_of N₆
  k_lt hlf
  have hcn : ∀ q, (∀ p ∈ codes, p.1 ≠ q) → q < L + 1 + 1 + 1 → ∀ p ∈ codes', p.1 ≠ q := fun q h1 h2 p hp => by
    rcases hnew p hp with h | h
    · exact h1 p h
    · exact Nat.ne_of_gt (Nat.lt_trans h2 (h _ (.head _)))
  have e1 : ∀ p ∈ codes', p.1 ≠ L + 1 + 1 + 1 := fun p hp => by
    rcases hnew p hp with h | h
    · exact hc3 p h
    · exact Nat.ne_of_gt (h _ (.head _))
  have e2 : ∀ p ∈ codes', p.1 ≠ L + 1 + 1 := hcn _ hc2 (Nat.lt_succ_self _)
  have e3 : ∀ p ∈ codes', p.1 ≠ L + 1 := hcn _ hc1 (Nat.lt_succ_of_lt (Nat.lt_succ_self _))
  k_dflt (refine' storeX_C ?F ?N ?c ?U ?d ?_ ?a ?b; (case a => rfl); (case b => rfl); (case F => k_asm); (case N => k_asm); (case c => rfl); (case U => k_updF); (case d => k_asm))
  intro h₆ oi F₆ N₆ hoi
  try dsimp only at N₆
  obtain ⟨G, hG⟩ : ∃ G : Heap → Prop, G = fun h => h.get? f = some fo ∧ h.get? (L + 1 + 1 + 1) = some oi ∧ h.get? (L + 1 + 1) = some oN ∧ h.get? (L + 1) = some oD ∧ h.get? c' = some oc ∧ h.get? l = some (PySem.W.listOf vs.toArray ep) := ⟨_, rfl⟩
  have hfd : ∃ fd, fo.data = .func fd := ⟨_, by rw [hfo]⟩
  clear N₅ Nc₅
  have key : ∀ k : Nat, RecD w f N ds G k := by
    clear hret N₆ F₆ TL F₅ F NN
    intro k
    induction k using Nat.strongRecOn with
    | ind k ih =>
      constructor
      intro Lo lo hi tl th p' loose' mean' mg' mb' dp' un' gd' cn' cs' a' ccd' cl' outer' A₀' base' h₀' L' m' s' Q' E' B' F' X' T' hk' hG' hlo hhi hLo hk1 hd' hu' hret'
      rw [hG] at hG'
      obtain ⟨g1, g2, g3, g4, g5, g6⟩ := hG'
      have hcr : s'.heap.CodeRec (.ref c') _ := ⟨c', oc, cvs, ctk, rfl, g5, hcdat, hcv⟩
      k_dflt (refine' call_inner (tabs := []) (binds := [(Str.ofString "L", .int lo tl), (Str.ofString "R", .int hi th)]) B' F' X' News.nil T' hk' g1 (by rw [hfo]) hcr ?room ?kb ?kl ?_ ?c2 ?c3 ?c4 ?c5; (case room => omega); (case kb => exact BindsTo.of_eq rfl); (case kl => exact locs rfl); (case c2 => exact rfl); (case c3 => exact rfl); (case c4 => exact rfl); (case c5 => decide))
      clear B' X' T' F'
      intro A₁ outer₁ g₂ L₂ h₇ tk₇ st₂ eL₂ F₇ N₇ B₂ X₂ T₂
      have gF : g₂.get? f = some fo := st₂ _ _ (by simp) g1
      have gI : g₂.get? (L + 1 + 1 + 1) = some oi := st₂ _ _ (by simp) g2
      have gN : g₂.get? (L + 1 + 1) = some oN := st₂ _ _ (by simp) g3
      have gD : g₂.get? (L + 1) = some oD := st₂ _ _ (by simp) g4
      have gC : g₂.get? c' = some oc := st₂ _ _ (by simp) g5
      have gl₂ : g₂.get? l = some (PySem.W.listOf vs.toArray ep) := st₂ _ _ (by simp) g6
      by_cases hk : k = 1
      · subst hk
        obtain ⟨t₀, hx⟩ := ints_at hI Lo ((ds[Lo]'(by omega) : Nat) : Int) (by rw [List.getElem?_map, List.getElem?_eq_getElem (by omega)]; rfl)
        have hx' : vs[lo.toNat]? = some (.int ((ds[Lo]'(by omega) : Nat) : Int) t₀) := by rw [hlo, Int.toNat_natCast]; exact hx
        k_steps
        rename Fr _ _ _ _ => F₈
        rw [take_one hLo] at hret'
        exact hret' _ _ _ (fun b o hb => F₈.keep _ _ (st₂ b o (by simp) hb))
      · have hN64 : N ≤ 64 := hN2 (by intro e; rw [e] at hLo; simp at hLo; omega)
        have hS : k / 2 * N ≤ 1000000 := Nat.le_trans (Nat.mul_le_mul (show k / 2 ≤ 64 by omega) hN64) (by decide)
        k_steps
        rename Fr _ _ _ _ => F₈
        refine (ih (k - k / 2) (half_ok hk1 hk hLo hd' hu').lt2).run (Lo := Lo + k / 2) B₂ F₈ X₂ T₂ rfl (by rw [hG]; exact ⟨F₈.keep _ _ gF, F₈.keep _ _ gI, F₈.keep _ _ gN, F₈.keep _ _ gD, F₈.keep _ _ gC, F₈.keep _ _ gl₂⟩) ?hlo ?hhi (half_ok hk1 hk hLo hd' hu').le2 (half_ok hk1 hk hLo hd' hu').p2 (half_ok hk1 hk hLo hd' hu').d2 (half_ok hk1 hk hLo hd' hu').u2 ?_
        case hlo => omega
        case hhi => omega
        intro h₉ tk₉ t₉ st₉
        have F₉ := F₈.keeps st₉
        clear F₈
        have hX1 : und N ((ds.drop (Lo + k / 2)).take (k - k / 2)) < 18446744073709551616 := seg_lt hdig hlen _ _ (by omega)
        k_steps
        rename Fr _ _ _ _ => F₈
        refine (ih (k / 2) (half_ok hk1 hk hLo hd' hu').lt1).run (Lo := Lo) B₂ F₈ X₂ T₂ rfl (by rw [hG]; exact ⟨F₈.keep _ _ gF, F₈.keep _ _ gI, F₈.keep _ _ gN, F₈.keep _ _ gD, F₈.keep _ _ gC, F₈.keep _ _ gl₂⟩) hlo ?hhi (half_ok hk1 hk hLo hd' hu').le1 (half_ok hk1 hk hLo hd' hu').p1 (half_ok hk1 hk hLo hd' hu').d1 (half_ok hk1 hk hLo hd' hu').u1 ?_
        case hhi => omega
        intro h₁₀ tk₁₀ t₁₀ st₁₀
        have F₁₀ := F₈.keeps st₁₀
        clear F₈
        k_steps
        have e : ((und N ((ds.drop (Lo + k / 2)).take (k - k / 2)) * 2 ^ (k / 2 * N) : Nat) : Int) + ((und N ((ds.drop Lo).take (k / 2)) : Nat) : Int) = ((und N ((ds.drop Lo).take k) : Nat) : Int) := by
          rw [seg_split hLo]; push_cast; rfl
        rw [e]
        exact hret' _ _ _ (fun b o hb => F₁₀.keep _ _ (st₂ b o (by simp) hb))
  have TL' : TabL3 ((99, tabObj t₁) :: (54, tabObj ps') :: (47, tabObj t₃) :: codes') := ⟨t₁, ps', t₃, codes', rfl, G₁.mono hsub, G₅, G₃.mono hsub, fun p hp =>
    ⟨hcn 99 (fun p hp => (hcod p hp).1) (Nat.lt_succ_of_lt (Nat.lt_succ_of_lt (Nat.lt_succ_of_lt q1))) p hp, hcn 54 (fun p hp => (hcod p hp).2.1) (Nat.lt_succ_of_lt (Nat.lt_succ_of_lt (Nat.lt_succ_of_lt q2))) p hp, hcn 47 (fun p hp => (hcod p hp).2.2) (Nat.lt_succ_of_lt (Nat.lt_succ_of_lt (Nat.lt_succ_of_lt q3))) p hp⟩⟩
  have ht : ∀ p ∈ (99, tabObj t₁) :: (54, tabObj ps') :: (47, tabObj t₃) :: codes', p.1 ∈ ((99, tabObj t₁) :: (54, tabObj t₂) :: (47, tabObj t₃) :: codes).map (·.1) ∨ L ≤ p.1 := by
    intro p hp
    rcases List.mem_cons.mp hp with rfl | hp
    · exact .inl (by simp)
    rcases List.mem_cons.mp hp with rfl | hp
    · exact .inl (by simp)
    rcases List.mem_cons.mp hp with rfl | hp
    · exact .inl (by simp)
    rcases hnew p hp with h | h
    · exact .inl (by simp only [List.map_cons]; exact .tail _ (.tail _ (.tail _ (List.mem_map_of_mem h))))
    · exact .inr (Nat.le_trans (Nat.le_add_right L 1) (Nat.le_of_lt (h _ (.tail _ (.tail _ (.head _))))))
  clear F₅
  k_steps
  · rename Fr _ _ _ _ => F₈
    rename News _ _ _ _ => N₈
    refine (key ds.length).run (Lo := 0) B F₈ X T rfl
      (by rw [hG]; exact ⟨(N₈ _ (.head _)).1, (N₈ _ (.tail _ (.head _))).1, (N₈ _ (.tail _ (.tail _ (.head _)))).1, (N₈ _ (.tail _ (.tail _ (.tail _ (.head _))))).1, (N₈ _ (.tail _ (.tail _ (.tail _ (.tail _ (.tail _ (.tail _ (.tail _ hcm)))))))).1, F₈.keep _ _ gl⟩) ?lo ?hi (by omega) (by omega) (by omega) (by omega) ?_
    case lo => rfl
    case hi => omega
    intro h₉ tk₉ t₉ st₉
    have F₉ := F₈.keeps st₉
    have N₉ : News _ _ h₉ _ := fun p hp => ⟨st₉ _ _ (N₈ p hp).1, (N₈ p hp).2⟩
    clear N₈ F₈
    k_steps
    refine hret _ _ _ _ _ F₉ (fun p hp => N₉ p (.tail _ (.tail _ (.tail _ (.tail _ hp))))) TL' ht ⟨t₉, by rw [List.drop_zero, List.take_length]⟩
  · rename Fr _ _ _ _ => F₈
    rename News _ _ _ _ => N₈
    have : ds = [] := List.eq_nil_of_length_eq_zero (by omega)
    subst this
    exact hret _ _ _ _ _ F₈ (fun p hp => N₈ p (.tail _ (.tail _ (.tail _ (.tail _ hp))))) TL' ht ⟨_, rfl⟩
end
end
section
open PySem PySem.W PyProof.Rows PySem.Calls
theorem fresh_FMb : True := by (w_top off); k_with_none; trivial
set_option maxRecDepth 100000
set_option maxHeartbeats 4000000
theorem fillFM : (fun (_ : OpenLaw) (_ : Params → Frag) => True) PySem.Challenge.rw_ik0125_01 hd.heap_1 := by k_fill; trivial
theorem c_S_IFMT {w : World} {x : Int} {t : Tok} : CtrL w 118 1 8 [.int x t] (fun _ => True) (fun _ _ v => ∃ t', v = .int (Builtin.bitAnd x 61440) t') := by
  k_dflt (refine' ctr_leaf (binds := [(Str.ofString "mode", .int x t)]) ?k6 ?k7 ?k1 ?k9 ?kB ?c2 ?c3 ?c4 ?c5 ?_; (case k6 => k_is); (case k7 => k_is); (case k1 => decide); (case k9 => intro s; exact BindsTo.of_eq rfl); (case kB => exact locs rfl); (case c2 => exact rfl); (case c3 => exact rfl); (case c4 => exact rfl); (case c5 => decide))
  intro p loose mean mg mb dp un gd outer A₀ base g L s Q hd hu hL F N B X T hpre hret
  try dsimp only [List.reverse_cons, List.reverse_nil, List.nil_append, List.cons_append] at F
  k_steps
  all_goals exact hret _ _ _ _ (by k_asm) ⟨_, rfl⟩

abbrev chS (c : Nat) : Str := ⟨#[c]⟩
inductive Rows (h : Heap) : List Value → List (Int × Nat) → Prop
  | nil : Rows h [] []
  | cons {a : Addr} {b : Int} {tb : Tok} {c : Nat} {tc : Tok} {vs : List Value} {ps : List (Int × Nat)} : h.IsTuple a #[.int b tb, .str (chS c) tc] → Rows h vs ps → Rows h (.ref a :: vs) ((b, c) :: ps)
inductive Tabs (h : Heap) : List Value → List (List (Int × Nat)) → Prop
  | nil : Tabs h [] []
  | cons {T : Addr} {vs : List Value} {ps : List (Int × Nat)} {r : List Value} {rs : List (List (Int × Nat))} : h.IsTuple T vs.toArray → Rows h vs ps → Tabs h r rs → Tabs h (.ref T :: r) (ps :: rs)
theorem ktup {K : Frag} {h : Heap} {a : Addr} {l : List Value} {n : Nat} {dd : Option Addr} {sl : Array (Option Value)} (X : K.In h) (hl : K.lookup a = some ⟨.type "tuple", dd, .seq l.toArray n, sl⟩) : h.IsTuple a l.toArray := ⟨_, X _ _ hl, rfl, n, rfl⟩
theorem kpair {K : Frag} {h : Heap} {a : Addr} {b : Int} {tb : Tok} {c : Nat} {tc : Tok} {n : Nat} {dd : Option Addr} {sl : Array (Option Value)} (X : K.In h) (hl : K.lookup a = some ⟨.type "tuple", dd, .seq #[.int b tb, .str (chS c) tc] n, sl⟩) : h.IsTuple a #[.int b tb, .str (chS c) tc] := ⟨_, X _ _ hl, rfl, n, rfl⟩
theorem Rows.len {h : Heap} {vs : List Value} {ps : List (Int × Nat)} (r : Rows h vs ps) : vs.length = ps.length := by
  induction r with
  | nil => rfl
  | cons _ _ ih => simp [ih]
theorem Rows.get {h : Heap} {vs : List Value} {ps : List (Int × Nat)} (r : Rows h vs ps) : ∀ {j : Nat} {y : Value}, vs[j]? = some y → ∃ a b tb c tc, y = .ref a ∧ ps[j]? = some (b, c) ∧ h.IsTuple a #[.int b tb, .str (chS c) tc] := by
  induction r with
  | nil => intro j y e; simp at e
  | cons ht _ ih =>
    intro j y e
    cases j with
    | zero => simp at e; subst e; exact ⟨_, _, _, _, _, rfl, rfl, ht⟩
    | succ j => exact ih (by simpa using e)
theorem Tabs.len {h : Heap} {l : List Value} {r : List (List (Int × Nat))} (t : Tabs h l r) : l.length = r.length := by
  induction t with
  | nil => rfl
  | cons _ _ _ ih => simp [ih]
theorem Tabs.get {h : Heap} {l : List Value} {r : List (List (Int × Nat))} (t : Tabs h l r) : ∀ {k : Nat} {x : Value}, l[k]? = some x → ∃ T vs ps, x = .ref T ∧ h.IsTuple T vs.toArray ∧ Rows h vs ps ∧ r[k]? = some ps := by
  induction t with
  | nil => intro k x e; simp at e
  | cons h1 h2 _ ih =>
    intro k x e
    cases k with
    | zero => simp at e; subst e; exact ⟨_, _, _, rfl, h1, h2, rfl⟩
    | succ k => exact ih (by simpa using e)
def tblS : List (List (Int × Nat)) := [[(40960, 108), (49152, 115), (32768, 45), (24576, 98), (16384, 100), (8192, 99), (4096, 112)], [(256, 114)], [(128, 119)], [(2112, 115), (2048, 83), (64, 120)], [(32, 114)], [(16, 119)], [(1032, 115), (1024, 83), (8, 120)], [(4, 114)], [(2, 119)], [(513, 116), (512, 84), (1, 120)]]
theorem fm_tabs {w : World} {h : Heap} (X : (hd.heap_1 w.params).In h) : Tabs h [.ref 126, .ref 128, .ref 130, .ref 134, .ref 136, .ref 138, .ref 142, .ref 144, .ref 146, .ref 150] tblS := by
  exact (Tabs.cons (ktup X (a := 126) (by k_is)) (Rows.cons (kpair X (a := 119) (by k_is)) (Rows.cons (kpair X (a := 120) (by k_is)) (Rows.cons (kpair X (a := 121) (by k_is)) (Rows.cons (kpair X (a := 122) (by k_is)) (Rows.cons (kpair X (a := 123) (by k_is)) (Rows.cons (kpair X (a := 124) (by k_is)) (Rows.cons (kpair X (a := 125) (by k_is)) Rows.nil)))))))
    (Tabs.cons (ktup X (a := 128) (by k_is)) (Rows.cons (kpair X (a := 127) (by k_is)) Rows.nil)
    (Tabs.cons (ktup X (a := 130) (by k_is)) (Rows.cons (kpair X (a := 129) (by k_is)) Rows.nil)
    (Tabs.cons (ktup X (a := 134) (by k_is)) (Rows.cons (kpair X (a := 131) (by k_is)) (Rows.cons (kpair X (a := 132) (by k_is)) (Rows.cons (kpair X (a := 133) (by k_is)) Rows.nil)))
    (Tabs.cons (ktup X (a := 136) (by k_is)) (Rows.cons (kpair X (a := 135) (by k_is)) Rows.nil)
    (Tabs.cons (ktup X (a := 138) (by k_is)) (Rows.cons (kpair X (a := 137) (by k_is)) Rows.nil)
    (Tabs.cons (ktup X (a := 142) (by k_is)) (Rows.cons (kpair X (a := 139) (by k_is)) (Rows.cons (kpair X (a := 140) (by k_is)) (Rows.cons (kpair X (a := 141) (by k_is)) Rows.nil)))
    (Tabs.cons (ktup X (a := 144) (by k_is)) (Rows.cons (kpair X (a := 143) (by k_is)) Rows.nil)
    (Tabs.cons (ktup X (a := 146) (by k_is)) (Rows.cons (kpair X (a := 145) (by k_is)) Rows.nil)
    (Tabs.cons (ktup X (a := 150) (by k_is)) (Rows.cons (kpair X (a := 147) (by k_is)) (Rows.cons (kpair X (a := 148) (by k_is)) (Rows.cons (kpair X (a := 149) (by k_is)) Rows.nil)))
    Tabs.nil))))))))))
theorem fm_top {w : World} {h : Heap} (X : (hd.heap_1 w.params).In h) : h.IsTuple 151 ([.ref 126, .ref 128, .ref 130, .ref 134, .ref 136, .ref 138, .ref 142, .ref 144, .ref 146, .ref 150] : List Value).toArray := ktup X (by k_is)
def hitF (P : Int → Bool) (d : Nat) (l : List (Int × Nat)) : Nat := match l.find? (fun p => P p.1) with | some p => p.2 | none => d
def testF (mode : Int) (k : Nat) (b : Int) : Bool := if k = 0 then Builtin.bitAnd mode 61440 == b else Builtin.bitAnd mode b == b
def dfltF (k : Nat) : Nat := if k = 0 then 63 else 45
def signF (mode : Int) (k : Nat) : Nat := hitF (testF mode k) (dfltF k) (tblS.getD k [])
theorem strsAre_snoc {vs : List Value} {ys : List Str} {y : Str} {t : Tok} (h : StrsAre vs ys) : StrsAre (vs ++ [.str y t]) (ys ++ [y]) := by
  induction h with
  | nil => exact .cons _ _ .nil
  | cons a b _ ih => exact .cons a b ih

theorem wd_FMb_0 : True := by k_with_none; trivial
theorem wd_FMb_1 : True := by
  (k_with "exec For Tuple Call cons nil" =>
    ((refine exec_for ?_)))
  trivial
theorem wd_FMb_2 : True := by
  (k_with "exec For Tuple Name cons cons" =>
    ((refine exec_for ?_)))
  trivial
theorem wd_FMb_3 : True := by
  (k_with "eval Name" =>
    ((k_here; k_dflt (refine' nameX_L ?qzF ?qzv ?_ ?qza ?qzb; (case qzF => k_asm); (case qza => rfl); (case qzb => rfl); (case qzv => first | exact rfl | assumption); k_whole))))
  trivial
theorem wd_FMb_4 : True := by
  (k_with "call ref" =>
    ((k_here; (with_reducible show wpAny _ _ (call (Value.ref 118) _) _ _ _); k_dflt (refine' use_leaf c_S_IFMT ?qzk1 ?qzk2 ?qzk3 ?qzk4 ?qzk5 ?qzk6 ?qzk7 ?qzk8 ?qzk9 ?_; (case qzk1 => k_asm); (case qzk2 => k_asm); (case qzk3 => k_asm); (case qzk4 => k_asm); (case qzk5 => k_asm); (case qzk6 => rfl); (case qzk7 => omega); (case qzk8 => omega); (case qzk9 => trivial)); intro v9 h9 tk9 F9 N9 _ ps9; obtain ⟨t9, e9⟩ := ps9; subst e9)))
  trivial

theorem strsAre_len {vs : List Value} {ys : List Str} (h : StrsAre vs ys) : vs.length = ys.length := by
  induction h with
  | nil => rfl
  | cons a b _ ih => simp [ih]
theorem hit_none {P : Int → Bool} {d : Nat} {ps : List (Int × Nat)} (h : ∀ p ∈ ps, P p.1 = false) : hitF P d ps = d := by
  unfold hitF
  rw [List.find?_eq_none.mpr (fun p hp => by simp [h p hp])]
theorem hit_some {P : Int → Bool} {d : Nat} : ∀ {ps : List (Int × Nat)} {j : Nat} {b : Int} {c : Nat}, (∀ p ∈ ps.take j, P p.1 = false) → ps[j]? = some (b, c) → P b = true → hitF P d ps = c
  | [], _, _, _, _, e, _ => by simp at e
  | q :: ps, 0, b, c, _, e, hb => by simp at e; subst e; unfold hitF; simp [List.find?_cons, hb]
  | q :: ps, j + 1, b, c, h, e, hb => by
    have h0 : P q.1 = false := h q (by simp)
    have := hit_some (d := d) (ps := ps) (j := j) (fun p hp => h p (by simp [hp])) (by simpa using e) hb
    unfold hitF at this ⊢
    rw [List.find?_cons, h0]
    exact this
theorem take_snoc {ps : List (Int × Nat)} {j : Nat} {b : Int} {c : Nat} {P : Int → Bool} (h : ∀ p ∈ ps.take j, P p.1 = false) (e : ps[j]? = some (b, c)) (hb : P b = false) : ∀ p ∈ ps.take (j + 1), P p.1 = false := fun p hp => by
  rw [List.take_add_one, e] at hp
  rcases List.mem_append.mp hp with hp | hp
  · exact h p hp
  · simp at hp; subst hp; exact hb
theorem sumLen (l : List Nat) (f : Nat → Nat) : ((l.map fun k => chS (f k)).map (·.length)).sum = l.length := by
  induction l with
  | nil => rfl
  | cons a l ih => simp only [List.map_cons, List.sum_cons, List.length_cons, ih]; show 1 + l.length = _; omega
theorem c_filemode {w : World} {x : Int} {t : Tok} : CtrL w 158 2 16 [.int x t] (fun _ => True) (fun _ _ v => ∃ t', v = .str (Txt.join (Str.ofString "") ((List.range 10).map fun k => chS (signF x k))) t') := by
  k_dflt (refine' ctr_leaf (binds := [(Str.ofString "mode", .int x t)]) ?k6 ?k7 ?k1 ?k9 ?kB ?c2 ?c3 ?c4 ?c5 ?_; (case k6 => k_is); (case k7 => k_is); (case k1 => decide); (case k9 => intro s; exact BindsTo.of_eq rfl); (case kB => exact locs rfl); (case c2 => exact rfl); (case c3 => exact rfl); (case c4 => exact rfl); (case c5 => decide))
  intro p loose mean mg mb dp un gd outer A₀ base g L s Q hd hu hL F N B X T hpre hret
  try dsimp only [List.reverse_cons, List.reverse_nil, List.nil_append, List.cons_append] at F
  k_steps
  rename_i pl h₁ l₁ h₂ F₂ N₂
  generalize htk0 : tk = tk0
  clear htk0 tk
  refine call_enum_tup F₂ N₂ (fm_top X) ?_
  intro h₃ it e F₃ N₃ l₂ l₃
  have hpe : pl < it := l₂ _ (.head _)
  refine wpAny_pyIter_enum (N₃ _ (.head _)).1 ?_
  refine forEnum_ind (s := { s with heap := h₃, toks := tk0 }) (J := fun k m rest => m (Str.ofString "mode") = some (.int x t) ∧ m (Str.ofString "perm") = some (.ref pl) ∧ ∃ vs n, rest = [(pl, PySem.W.listOf vs n)] ∧ StrsAre vs.toList ((List.range k).map fun k => chS (signF x k)))
    rfl rfl rfl rfl (Nat.ne_of_gt l₃) (fm_top X) ?step ?fin 10 0 h₃ tk0 _ _ .none (tupIt 151 0) rfl (by decide) ⟨rfl, rfl, _, _, rfl, .nil⟩ (fun q hq => ?off) ⟨rfl, rfl⟩ F₃ N₃
  case off =>
    simp only [List.mem_singleton] at hq
    subst hq
    simp only [List.mem_cons, List.not_mem_nil, or_false, not_or]
    exact ⟨Nat.ne_of_lt (Nat.lt_trans hpe l₃), Nat.ne_of_lt hpe⟩
  case fin =>
    rintro m rest h' tk ⟨hm1, hm2, vs, n, rfl, hs⟩ hoff F₄ N₄
    clear F₂ N₂ F₃ N₃
    k_steps
    refine join_list ⟨_, (N₄ _ (.head _)).1, rfl, _, rfl⟩ hs ?_ fun t' k => hret _ _ _ _ F₄ ⟨_, rfl⟩
    rw [sumLen]
    simp
    decide
  case step =>
    rintro i y m rest h' tk tki o' hy ⟨hm1, hm2, vs, n, rfl, hs⟩ hoff F₄ N₄
    obtain ⟨T', vs', ps, rfl, hT', hrows, hps⟩ := (fm_tabs X).get (by simpa using hy)
    clear F₂ N₂ F₃ N₃
    k_steps
    refine iter_tup F₄ N₄ hT' ?_
    intro h₅ it' F₅ N₅ l₅
    clear F₄ N₄
    have q1 := ltN (l₅ _ (.head _))
    have q2 := ltN (l₅ _ (.tail _ (.head _)))
    have q3 := ltN (l₅ _ (.tail _ (.tail _ (.head _))))
    have q4 := ltN hpe
    have q5 := ltN l₃
    dsimp only at q1 q2 q3
    have hvs : vs.size ≤ sizeLine := by
      have := strsAre_len hs
      have hi : i < 10 := by have := (Array.getElem?_eq_some_iff.mp hy).1; simpa using this
      simp at this
      rw [sizeLine_eq]; omega
    have hdone : ∀ (c : Nat) (tc : Tok) (h₆ : Heap) (tk₆ : Nat) (m₆ : Str → Option Value), c = signF x i → m₆ (Str.ofString "mode") = some (.int x t) → m₆ (Str.ofString "perm") = some (.ref pl) → Fr g L h₆ m₆ →
        News g L h₆ [(e, enumObj it ((i + 1 : Nat) : Int) (.ref T')), (it, o'), (pl, PySem.W.listOf (vs.push (.str (chS c) tc)) (n + 1))] →
        LP g L { s with heap := h₃, toks := tk0 } [(e, enumObj it ((i + 1 : Nat) : Int) (.ref T')), (it, o')] [e, it] (fun _ _ => False) (fun m rest => m (Str.ofString "mode") = some (.int x t) ∧ m (Str.ofString "perm") = some (.ref pl) ∧ ∃ vs n, rest = [(pl, PySem.W.listOf vs n)] ∧ StrsAre vs.toList ((List.range (i + 1)).map fun k => chS (signF x k))) .next { s with heap := h₆, toks := tk₆ } := by
      rintro c tc h₆ tk₆ m₆ rfl e1 e2 F₆ N₆
      refine ⟨_, _, _, [(pl, PySem.W.listOf (vs.push (.str (chS (signF x i)) tc)) (n + 1))], rfl, F₆, N₆, (fun q hq => by simp only [List.mem_singleton] at hq; subst hq; exact hoff (pl, PySem.W.listOf vs n) (.head _)), e1, e2, _, _, rfl, ?_⟩
      rw [Array.toList_push, List.range_succ, List.map_append]
      exact strsAre_snoc hs
    have hsign : signF x i = hitF (testF x i) (dfltF i) ps := by unfold signF; rw [List.getD_eq_getElem?_getD, hps]; rfl
    refine forTup2_ind (s := { s with heap := h₅, toks := tk }) (P := fun j v₁ v₂ => ∃ b tb c tc, v₁ = .int b tb ∧ v₂ = .str (chS c) tc ∧ ps[j]? = some (b, c))
      (J := fun j m rest => m (Str.ofString "mode") = some (.int x t) ∧ m (Str.ofString "perm") = some (.ref pl) ∧ m (Str.ofString "index") = some (.int i tki) ∧
        rest = [(e, enumObj it ((i + 1 : Nat) : Int) (.ref T')), (it, o'), (pl, PySem.W.listOf vs n)] ∧ ∀ b ∈ ps.take j, testF x i b.1 = false)
      rfl rfl rfl rfl hT' ?hrow ?step2 ?fin2 vs'.length 0 h₅ tk (fun z => if z = Str.ofString "table" then some (.ref T') else if z = Str.ofString "index" then some (.int (i : Int) tki) else m z) _ (tupIt T' 0) (by simp) (Nat.zero_le _) ⟨hm1, hm2, rfl, rfl, fun b hb => by simp at hb⟩ (fun q hq => by simpa using Nat.ne_of_lt (l₅ q hq)) ⟨rfl, rfl⟩ F₅ N₅
    case hrow =>
      intro j y hy'
      obtain ⟨a, b, tb, c, tc, e1, e2, e3⟩ := hrows.get (by simpa using hy')
      exact ⟨a, _, _, e1, e3, b, tb, c, tc, rfl, rfl, e2⟩
    case fin2 =>
      rintro m₇ rest h₇ tk₇ ⟨a1, a2, a3, rfl, a4⟩ hoff₇ F₇ N₇
      clear F₅ N₅
      k_steps
      · have hlen : ps.take vs'.toArray.size = ps := List.take_of_length_le (by rw [List.size_toArray, hrows.len]; exact Nat.le_refl _)
        rw [hlen] at a4
        refine hdone 63 _ _ _ _ ?_ a1 a2 (by k_asm) (by k_asm)
        rw [hsign, hit_none a4, dfltF, if_pos (by omega)]
      · have hlen : ps.take vs'.toArray.size = ps := List.take_of_length_le (by rw [List.size_toArray, hrows.len]; exact Nat.le_refl _)
        rw [hlen] at a4
        refine hdone 45 _ _ _ _ ?_ a1 a2 (by k_asm) (by k_asm)
        rw [hsign, hit_none a4, dfltF, if_neg (by omega)]
    case step2 =>
      rintro j v₁ v₂ m₇ rest h₇ tk₇ o₇ hj ⟨b, tb, c, tc, rfl, rfl, hpj⟩ ⟨a1, a2, a3, rfl, a4⟩ hoff₇ F₇ N₇
      clear F₅ N₅
      k_steps
      all_goals (rename Fr _ _ _ _ => F₈; rename News _ _ _ _ => N₈)
      · refine wpAny_execs_nil (hdone c tc _ _ _ ?_ ?a1 ?a2 F₈ (fun p hp => N₈ p (.tail _ hp)))
        case a1 => exact a1
        case a2 => exact a2
        rw [hsign]
        refine (hit_some a4 hpj ?_).symm
        simp [testF, *]
        try omega
      · refine ⟨_, _, _, [(e, enumObj it ((i + 1 : Nat) : Int) (.ref T')), (it, o'), (pl, PySem.W.listOf vs n)], rfl, F₈, N₈, hoff₇, a1, a2, a3, rfl, take_snoc a4 hpj ?_⟩
        simp [testF, *]
        try omega
      · refine wpAny_execs_nil (hdone c tc _ _ _ ?_ ?a1 ?a2 F₈ (fun p hp => N₈ p (.tail _ hp)))
        case a1 => exact a1
        case a2 => exact a2
        rw [hsign]
        refine (hit_some a4 hpj ?_).symm
        simp [testF, *]
        try omega
      · refine ⟨_, _, _, [(e, enumObj it ((i + 1 : Nat) : Int) (.ref T')), (it, o'), (pl, PySem.W.listOf vs n)], rfl, F₈, N₈, hoff₇, a1, a2, a3, rfl, take_snoc a4 hpj ?_⟩
        simp [testF, *]
        try omega
end
section
open PySem PySem.W PyProof.Rows PySem.Calls
theorem fresh_DP : True := by (w_top off); k_with_none; trivial
set_option maxRecDepth 100000
set_option maxHeartbeats 4000000
theorem fill_DP : (fun (_ : OpenLaw) (_ : Params → Frag) => True) PySem.Challenge.rw_ik0125_01 hd.heap_1 := by k_fill; trivial
theorem show_me {P : Prop} (h : P ∨ False) : P := h.elim id False.elim
theorem wd_DP_0 : True := by k_with_none; trivial
theorem wd_DP_1 : True := by
  (k_with "exec For Name Call cons nil" =>
    ((refine show_me ?_)))
  trivial
theorem hd_zero {N A K : Nat} (h : A < 2 ^ (N * K)) : A / 2 ^ (N * (K - 0)) = 0 := Nat.div_eq_of_lt (by simpa using h)
theorem hd_succ {N A K i : Nat} (h : i < K) : A / 2 ^ (N * (K - (i + 1))) = A / 2 ^ (N * (K - i)) * 2 ^ N + dig N A (K - 1 - i) := by
  have e : K - i = (K - 1 - i) + 1 := by omega
  have e2 : K - (i + 1) = K - 1 - i := by omega
  rw [e, e2, Nat.mul_add, Nat.mul_one, Nat.pow_add, ← Nat.div_div_eq_div_mul]
  unfold dig
  have := Nat.div_add_mod (A / 2 ^ (N * (K - 1 - i))) (2 ^ N)
  rw [Nat.mul_comm] at this
  exact this.symm
theorem hd_end {N A K : Nat} : A / 2 ^ (N * (K - K)) = A := by simp
theorem dig_lt (N A i : Nat) : dig N A i < 2 ^ N := Nat.mod_lt _ (Nat.two_pow_pos N)
theorem div_step {H M d D : Nat} (hD : 0 < D) (hd : d < M) : (H * M + d) % D = (H % D * M + d) % D ∧ (H * M + d) / D = H / D * M + (H % D * M + d) / D ∧ (H % D * M + d) / D < M := by
  have e : H * M + d = D * (H / D * M) + (H % D * M + d) := by
    have := Nat.div_add_mod H D
    calc H * M + d = (D * (H / D) + H % D) * M + d := by rw [this]
      _ = _ := by rw [Nat.add_mul, Nat.mul_assoc, Nat.add_assoc]
  refine ⟨by rw [e, Nat.mul_add_mod], by rw [e, Nat.mul_add_div hD], ?_⟩
  rw [Nat.div_lt_iff_lt_mul hD]
  have h1 := Nat.mod_lt H hD
  have h2 : (H % D + 1) * M ≤ D * M := Nat.mul_le_mul_right _ h1
  rw [Nat.add_mul, Nat.one_mul] at h2
  rw [Nat.mul_comm M D]
  omega
theorem numD_mul {N A k : Nat} (h : 1 ≤ N) (hA : A < 2 ^ k) : numD N A * N ≤ k + N - 1 := by
  unfold numD
  have h1 : Builtin.Int.intBits (A : Int) ≤ k := intBits_le (by omega) (by exact_mod_cast hA)
  have := Nat.div_mul_le_self (Builtin.Int.intBits (A : Int) + N - 1) N
  omega
theorem ints_snoc {vs : List Value} {ns : List Int} (h : IntsAre vs ns) (n : Int) (t : Tok) : IntsAre (vs ++ [.int n t]) (ns ++ [n]) := by
  induction h with
  | nil => exact .cons _ _ .nil
  | cons m u _ ih => exact .cons _ _ ih
theorem wd_DP_2 : True := by
  (k_with "binaryOp LShift int int" =>
    ((k_here; ((with_reducible refine' lshift_nat ?qzh1 ?qzh2 ?_); (case qzh1 => with_reducible assumption); (case qzh2 => omega)))))
  trivial
theorem wd_DP_3 : True := by
  (k_with "eval Name" =>
    ((k_here; k_dflt (refine' nameX_L ?qzF ?qzv ?_ ?qza ?qzb; (case qzF => k_asm); (case qza => rfl); (case qzb => rfl); (case qzv => first | exact rfl | assumption); k_whole))))
  trivial
theorem c_divmod_pos {w : World} {A D : Nat} {ta tb : Tok} (hA : A < 4294967296) (hB0 : 0 < D) (hB : D < 1073741824) : Ctr w 66 90 700 [.int (A : Int) ta, .int (D : Int) tb] (fun _ _ => True)
    (fun g h v => ∃ l t₁ t₂, v = .ref l ∧ g.objs.size ≤ l ∧ h.IsTuple l #[.int ((A / D : Nat) : Int) t₁, .int ((A % D : Nat) : Int) t₂]) := by
  k_dflt (refine' ctr_plain (binds := [(Str.ofString "a", .int (A : Int) ta), (Str.ofString "b", .int (D : Int) tb)]) ?k6 ?k7 ?k1 ?k9 ?kB ?c2 ?c3 ?c4 ?c5 ?_; (case k6 => k_is); (case k7 => k_is); (case k1 => decide); (case k9 => intro s; exact BindsTo.of_eq rfl); (case kB => exact locs rfl); (case c2 => exact rfl); (case c3 => exact rfl); (case c4 => exact rfl); (case c5 => decide))
  intro p loose mean mg mb dp un gd outer A₀ base g₀ g L tabs s Q hd hu hL st F NN TL B X T hpre hret
  try dsimp only [List.reverse_cons, List.reverse_nil, List.nil_append, List.cons_append] at F
  obtain ⟨N, hN⟩ : ∃ N, N = Builtin.Int.intBits (D : Int) := ⟨_, rfl⟩
  have hN2 : N ≤ 30 := by rw [hN]; exact intBits_le (by omega) (by show (D : Int) < 1073741824; omega)
  have hN1 : 1 ≤ N := by
    rw [hN]; unfold Builtin.Int.intBits
    rw [if_neg (by simp; omega)]; omega
  k_steps
  rw [← hN]
  rename Fr _ _ _ _ => F₂
  rename News _ _ _ _ => N₂
  rw [← hN] at F₂
  refine use_ctr (c_int2digits (A := A) (N := N) (by omega) hN1 (by omega)) B F₂ X N₂ TL .base T rfl (by omega) (by omega) trivial ?_
  intro v h₃ tk₃ tabs' F₃ N₃ TL' TO' ht' ps
  obtain ⟨l, vs, ep, rfl, hl, hlo, hI⟩ := ps
  have N₄ := led_new F₂ N₃ hl hlo
  have htA : ∀ q ∈ tabs', q.1 ∈ tabs.map (·.1) ∨ L ≤ q.1 := fun q hq => (ht' q hq).imp id fun h => Nat.le_trans (Nat.le_of_lt F₂.ns.lt) h
  have hLl : L ≤ l := Nat.le_trans (Nat.le_of_lt F₂.ns.lt) hl
  clear N₂ F₂
  k_steps
  refine .inl ?_
  refine exec_for ?_
  rename_i ql h₅ lql h₆ F₆ N₆
  k_steps
  rename_i I h₇ F₇ N₇ lI
  refine wpAny_pyIter_revIter ⟨_, (N₇ _ (.head _)).1, rfl, rfl⟩ ?_
  have hK : numD N A * N ≤ 64 := by
    have := numD_mul (N := N) (A := A) (k := 32) hN1 (by simpa using hA)
    omega
  have hvl : vs.length = numD N A := by have := IntsAre.length hI; simpa using this
  refine forW_ind (s := { s with heap := h₇, toks := tk }) (Walks.listRev rfl I l (Nat.ne_of_lt lI.2.1) vs.toArray)
    (fun i o => o.cls = .type "list_reverseiterator" ∧ o.data = .fields #[.ref l, rawInt ((vs.toArray.size : Int) - 1 - (i : Int))]) (fun h => h.IsList l vs.toArray)
    (fun i m rest => m (Str.ofString "n") = some (.int (N : Int) s.toks) ∧ m (Str.ofString "b") = some (.int (D : Int) tb) ∧ (∃ t, m (Str.ofString "r") = some (.int ((A / 2 ^ (N * (numD N A - i)) % D : Nat) : Int) t)) ∧
      m (Str.ofString "q_digits") = some (.ref ql) ∧ ∃ (vq : Array Value) (qs : List Nat) (n : Nat), rest = (ql, PySem.W.listOf vq n) :: (l, PySem.W.listOf vs.toArray ep) :: tabs' ∧ IntsAre vq.toList (qs.map fun (q : Nat) => (q : Int)) ∧ qs.length = i ∧ (∀ q ∈ qs, q < 2 ^ N) ∧ und N qs.reverse = A / 2 ^ (N * (numD N A - i)) / D)
    ?fold ?un ?D rfl rfl ?step ?fin vs.toArray.size 0 _ _ _ _ _ rfl (Nat.zero_le _) ?J0 ?off ?ok F₇ N₇
  case fold => rintro i h o hi e1 ⟨e2, e3⟩ e4; exact ⟨hi, ⟨_, e1, e2, e3⟩, e4⟩
  case un => rintro i h ⟨_, ⟨o, h1, h2, h3⟩, _⟩; exact ⟨o, h1, h2, h3⟩
  case D =>
    rintro i m rest h ⟨_, _, _, _, vq, qs, n, rfl, _⟩ F' N'
    exact PySem.IsL.isList (n := ep) (N' _ (.tail _ (.head _))).1
  case off =>
    intro q hq
    simp only [List.mem_singleton]
    rcases List.mem_cons.mp hq with rfl | hq
    · exact Nat.ne_of_lt lI.1
    rcases List.mem_cons.mp hq with rfl | hq
    · exact Nat.ne_of_lt lI.2.1
    · exact allLt_ne lI.2.2 q hq
  case ok => exact ⟨rfl, by simp [revObj]⟩
  case J0 =>
    rw [hd_zero (numD_lt hN1), Nat.zero_mod, Nat.zero_div]
    exact ⟨rfl, rfl, ⟨_, rfl⟩, rfl, #[], [], 0, rfl, .nil, rfl, by simp, rfl⟩
  case step =>
    rintro i v m rest h' tk o' hi hP ⟨jn, jb, ⟨tr, jr⟩, jq, vq, qs, n, rfl, hIq, hlq, hq, hu'⟩ hoff F₈ N₈
    change Fr g L h' _ at F₈
    change News g L h' _ at N₈
    have hiK : i < numD N A := by rw [← hvl]; exact hi
    obtain ⟨td, hv⟩ : ∃ td, v = .int ((dig N A (numD N A - 1 - i) : Nat) : Int) td := by
      obtain ⟨td, e⟩ := ints_at hI (numD N A - 1 - i) ((dig N A (numD N A - 1 - i) : Nat) : Int) (by rw [List.getElem?_map, List.getElem?_range (by omega)]; rfl)
      have hP' : vs[vs.length - 1 - i]? = some v := by simpa using hP
      rw [hvl, e] at hP'
      exact ⟨td, (Option.some.inj hP').symm⟩
    subst hv
    have hr30 : A / 2 ^ (N * (numD N A - i)) % D < D := Nat.mod_lt _ hB0
    have hr64 : A / 2 ^ (N * (numD N A - i)) % D < 18446744073709551616 := by omega
    obtain ⟨s1, s2, s3⟩ := div_step (H := A / 2 ^ (N * (numD N A - i))) hB0 (dig_lt N A (numD N A - 1 - i))
    rw [← hd_succ hiK] at s1 s2
    k_steps
    rename Fr _ _ _ _ => F₉
    rename News _ _ _ _ => N₉
    have eX : ((A / 2 ^ (N * (numD N A - i)) % D * 2 ^ N : Nat) : Int) + ((dig N A (numD N A - 1 - i) : Nat) : Int) = ((A / 2 ^ (N * (numD N A - i)) % D * 2 ^ N + dig N A (numD N A - 1 - i) : Nat) : Int) := by push_cast; rfl
    rw [eX]
    generalize hX : A / 2 ^ (N * (numD N A - i)) % D * 2 ^ N + dig N A (numD N A - 1 - i) = Xn at s1 s2 s3 ⊢
    have hXlt : Xn < 1152921504606846977 := by
      have h1 := (Nat.div_lt_iff_lt_mul hB0).mp s3
      have h2 : 2 ^ N ≤ 1073741824 := Nat.pow_le_pow_right (n := 2) (by omega) hN2
      have h3 : 2 ^ N * D ≤ 1073741824 * 1073741824 := Nat.mul_le_mul h2 (by omega)
      omega
    have q1 : ((Xn : Nat) : Int).fdiv (D : Int) = ((Xn / D : Nat) : Int) := by rw [Int.fdiv_eq_ediv_of_nonneg _ (by omega)]; rfl
    have q2 : ((Xn : Nat) : Int).fmod (D : Int) = ((Xn % D : Nat) : Int) := by rw [Int.fmod_eq_emod_of_nonneg _ (by omega)]; rfl
    refine use_leaf (c_div2n1n (a := (Xn : Int)) (b := (D : Int)) (n := (N : Int)) (by omega) (by omega) (by omega) (by omega) (by omega)) B F₉ X N₉ T rfl (by omega) (by omega) trivial ?_
    rintro v h₁₀ tk₁₀ F₁₀ N₁₀ st₁₀ ⟨t, u₁, u₂, rfl, hlt, hT⟩
    rw [q1, q2, ← s1] at hT
    clear F₉ N₉ st₁₀
    refine assign_two rfl rfl rfl rfl F₁₀ N₁₀ hT ?_
    intro h₁₁ F₁₁ N₁₁
    change Fr g L h₁₁ _ at F₁₁
    change News g L h₁₁ _ at N₁₁
    clear F₁₀ N₁₀
    have hqz : vq.size = i := by have := IntsAre.length hIq; simp at this; omega
    have hK64 : numD N A ≤ 64 := Nat.le_trans (Nat.le_mul_of_pos_right _ (by omega)) hK
    have hvs : vq.size ≤ sizeLine := by rw [sizeLine_eq]; omega
    have z1 := ltN lI.1
    have z2 := ltN lI.2.1
    have z3 := ltN lql.1
    k_steps
    rename Fr _ _ _ _ => F₁₂
    rename News _ _ _ _ => N₁₂
    refine ⟨_, _, _, (ql, PySem.W.listOf (vq.push (.int ((Xn / D : Nat) : Int) u₁)) (n + 1)) :: (l, PySem.W.listOf vs.toArray ep) :: tabs', rfl, F₁₂, N₁₂, ?_, jn, jb, ⟨_, rfl⟩, jq, _, qs ++ [Xn / D], _, rfl, ?_, by simp [hlq], ?_, ?_⟩
    · intro q hq
      rcases List.mem_cons.mp hq with rfl | hq
      · exact hoff (ql, PySem.W.listOf vq n) (.head _)
      · exact hoff q (.tail _ hq)
    · rw [Array.toList_push, List.map_append]
      exact ints_snoc hIq _ _
    · intro q hq'
      rcases List.mem_append.mp hq' with h | h
      · exact hq q h
      · simp at h; subst h; exact s3
    · rw [List.reverse_append, List.reverse_singleton, List.singleton_append, und, hu', s2]
      rw [Nat.mul_comm (2 ^ N)]; omega
  case fin =>
    rintro m rest h' tk ⟨jn, jb, ⟨tr, jr⟩, jq, vq, qs, n, rfl, hIq, hlq, hq, hu'⟩ hoff F₈ N₈
    change Fr g L h' _ at F₈
    change News g L h' _ at N₈
    have hsz : vs.toArray.size = numD N A := by simpa using hvl
    rw [hsz] at jr hlq hu'
    rw [hd_end] at jr hu'
    have hvs : vq.toList.length ≤ sizeLine := by
      have := IntsAre.length hIq
      have hK64 : numD N A ≤ 64 := Nat.le_trans (Nat.le_mul_of_pos_right _ (by omega)) hK
      rw [sizeLine_eq]; simp at this ⊢; omega
    have z3 := ltN lql.1
    clear F₇ N₇
    k_steps
    refine' kl_reverse ?kF ?kN ?ke ?kU ?kz ?_
    case kF => k_asm
    case kN => k_asm
    case ke => exact rfl
    case kU => k_upd
    case kz => exact hvs
    intro h₉ F₉ N₉
    k_steps
    rename Fr _ _ _ _ => F₁₀
    rename News _ _ _ _ => N₁₀
    have N₁₁ : News g L _ ((ql, PySem.W.listOf vq.toList.reverse.toArray n) :: tabs') := fun q hq => by
      rcases List.mem_cons.mp hq with rfl | hq
      · exact N₁₀ _ (.head _)
      · exact N₁₀ _ (.tail _ (.tail _ hq))
    clear N₁₀
    have hIr : IntsAre vq.toList.reverse (qs.reverse.map fun (d : Nat) => (d : Int)) := by rw [List.map_reverse]; exact hIq.reverse
    refine use_ctr (c_digits2int (N := N) (l := ql) (ep := n) (ds := qs.reverse) hN1 hIr (fun d hd => hq d (List.mem_reverse.mp hd)) ?len) B F₁₀ X N₁₁ TL' (.cons (allLt_ne lql.2) .base) T rfl (by omega) (by omega) ⟨(N₁₁ _ (.head _)).1, ?mem⟩ ?_
    case len => rw [List.length_reverse, hlq, Nat.mul_comm]; exact hK
    case mem =>
      intro hm
      obtain ⟨p, hp, e⟩ := List.mem_map.mp hm
      exact allLt_ne lql.2 p hp e
    rintro v h₁₂ tk₁₂ tabs₂ F₁₂ N₁₂ TL₂ TO₂ ht₂ ⟨tq, rfl⟩
    rw [hu']
    have htB : ∀ q ∈ tabs₂, q.1 ∈ tabs.map (·.1) ∨ L ≤ q.1 := fun q hq => by
      rcases ht₂ q hq with h | h
      · obtain ⟨r, hr, e⟩ := List.mem_map.mp h
        exact e ▸ htA r hr
      · exact .inr (Nat.le_trans (Nat.le_of_lt F₁₀.ns.lt) h)
    clear N₁₁ F₁₀
    k_steps
    rename_i D' h₁₄ F₁₄ N₁₄ lD
    exact hret _ _ _ _ tabs₂ F₁₄ (fun q hq => N₁₄ q (.tail _ (.tail _ hq))) TL₂ htB ⟨D', tq, tr, rfl, Nat.le_trans hL (Nat.le_trans hLl (Nat.le_of_lt (Nat.lt_trans lql.1 lD.1))), _, (N₁₄ _ (.head _)).1, rfl, _, rfl⟩
end
section
open PySem PySem.W PyProof.Rows PySem.Calls
theorem fresh_ID : True := by (w_top off); k_with_none; trivial
set_option maxRecDepth 100000
set_option maxHeartbeats 4000000
theorem fill_ID : (fun (_ : OpenLaw) (_ : Params → Frag) => True) PySem.Challenge.rw_ik0125_01 hd.heap_1 := by k_fill; trivial
theorem wd_ID_0 : True := by k_with_none; trivial
theorem wd_ID_1 : True := by
  (k_with "ite" =>
    (first | refine ite_pos (by (try simp only [decide_eq_true_eq, beq_iff_eq, bne_iff_ne, ne_eq]); omega) ?_ | refine ite_neg (by (try simp only [decide_eq_true_eq, beq_iff_eq, bne_iff_ne, ne_eq]); omega) ?_))
  trivial
theorem c_int_divmod_n {w : World} {A D : Nat} {a : Int} {ta tb : Tok} (ha : a = (A : Int)) (hA : A < 4294967296) (hB0 : 0 < D) (hB : D < 1073741824) : Ctr w 73 92 710 [.int a ta, .int (D : Int) tb] (fun _ _ => True)
    (fun g h v => ∃ l t₁ t₂, v = .ref l ∧ g.objs.size ≤ l ∧ h.IsTuple l #[.int ((A / D : Nat) : Int) t₁, .int ((A % D : Nat) : Int) t₂]) := by
  subst ha
  k_dflt (refine' ctr_plain (binds := [(Str.ofString "a", .int (A : Int) ta), (Str.ofString "b", .int (D : Int) tb)]) ?k6 ?k7 ?k1 ?k9 ?kB ?c2 ?c3 ?c4 ?c5 ?_; (case k6 => k_is); (case k7 => k_is); (case k1 => decide); (case k9 => intro s; exact BindsTo.of_eq rfl); (case kB => exact locs rfl); (case c2 => exact rfl); (case c3 => exact rfl); (case c4 => exact rfl); (case c5 => decide))
  intro p loose mean mg mb dp un gd outer A₀ base g₀ g L tabs s Q hd hu hL st F NN TL B X T hpre hret
  try dsimp only [List.reverse_cons, List.reverse_nil, List.nil_append, List.cons_append] at F
  k_steps
  rename Fr _ _ _ _ => F₂
  rename News _ _ _ _ => N₂
  refine use_ctr (c_divmod_pos hA hB0 hB) B F₂ X N₂ TL .base T rfl (by omega) (by omega) trivial ?_
  rintro v h₃ tk₃ tabs' F₃ N₃ TL' TO' ht' ⟨l, t₁, t₂, rfl, hl, hT⟩
  exact hret _ _ _ _ tabs' F₃ N₃ TL' (fun q hq => (ht' q hq).imp id fun h => Nat.le_trans (Nat.le_of_lt F₂.ns.lt) h) ⟨l, t₁, t₂, rfl, Nat.le_trans hL (Nat.le_trans (Nat.le_of_lt F₂.ns.lt) hl), hT⟩
theorem divz {a : Int} {D : Nat} (ha : a < 0) (hD : 0 < D) : a.fdiv D = Builtin.bitNot (((-1 - a).toNat / D : Nat) : Int) ∧ a.fmod D = (D : Int) + Builtin.bitNot (((-1 - a).toNat % D : Nat) : Int) := by
  obtain ⟨n, rfl⟩ : ∃ n : Nat, a = -1 - (n : Int) := ⟨(-1 - a).toNat, by omega⟩
  have e : (-1 - (-1 - (n : Int))).toNat = n := by omega
  rw [e]
  have h1 := Nat.div_add_mod n D
  have h2 := Nat.mod_lt n hD
  generalize n / D = q at *
  generalize n % D = r at *
  have h3 : (-1 - (n : Int)) = (D : Int) * (-1 - (q : Int)) + ((D : Int) - 1 - r) := by
    rw [← h1]; push_cast; rw [Int.mul_sub]; omega
  unfold Builtin.bitNot
  rw [Int.fdiv_eq_ediv_of_nonneg _ (by omega), Int.fmod_eq_emod_of_nonneg _ (by omega)]
  have hq : (-1 - (n : Int)) / (D : Int) = -1 - (q : Int) := by
    rw [h3, Int.add_comm, Int.add_mul_ediv_left _ _ (by omega), Int.ediv_eq_zero_of_lt (by omega) (by omega)]; omega
  have hm : (-1 - (n : Int)) % (D : Int) = (D : Int) - 1 - r := by
    rw [h3, Int.add_comm, Int.add_mul_emod_self_left, Int.emod_eq_of_lt (by omega) (by omega)]
  rw [hq, hm]
  omega
theorem c_int_divmod_z {w : World} {a : Int} {D : Nat} {ta tb : Tok} (ha : a < 0) (hA : -4294967296 ≤ a) (hB0 : 0 < D) (hB : D < 1073741824) : Ctr w 73 94 730 [.int a ta, .int (D : Int) tb] (fun _ _ => True)
    (fun g h v => ∃ l t₁ t₂, v = .ref l ∧ g.objs.size ≤ l ∧ h.IsTuple l #[.int (a.fdiv D) t₁, .int (a.fmod D) t₂]) := by
  k_dflt (refine' ctr_plain (binds := [(Str.ofString "a", .int a ta), (Str.ofString "b", .int (D : Int) tb)]) ?k6 ?k7 ?k1 ?k9 ?kB ?c2 ?c3 ?c4 ?c5 ?_; (case k6 => k_is); (case k7 => k_is); (case k1 => decide); (case k9 => intro s; exact BindsTo.of_eq rfl); (case kB => exact locs rfl); (case c2 => exact rfl); (case c3 => exact rfl); (case c4 => exact rfl); (case c5 => decide))
  intro p loose mean mg mb dp un gd outer A₀ base g₀ g L tabs s Q hd hu hL st F NN TL B X T hpre hret
  try dsimp only [List.reverse_cons, List.reverse_nil, List.nil_append, List.cons_append] at F
  k_steps
  rename Fr _ _ _ _ => F₂
  rename News _ _ _ _ => N₂
  refine use_ctr (c_int_divmod_n (A := (-1 - a).toNat) (by unfold Builtin.bitNot; omega) (by omega) hB0 hB) B F₂ X N₂ TL .base T rfl (by omega) (by omega) trivial ?_
  rintro v h₃ tk₃ tabs' F₃ N₃ TL' TO' ht' ⟨l, t₁, t₂, rfl, hl, hT⟩
  have htA : ∀ q ∈ tabs', q.1 ∈ tabs.map (·.1) ∨ L ≤ q.1 := fun q hq => (ht' q hq).imp id fun h => Nat.le_trans (Nat.le_of_lt F₂.ns.lt) h
  obtain ⟨o, ho, _⟩ := id hT
  have hLl : L ≤ l := Nat.le_trans (Nat.le_of_lt F₂.ns.lt) hl
  have N₅ := led_new F₂ N₃ hl ho
  clear N₂ F₂ N₃
  refine assign_two rfl rfl rfl rfl F₃ N₅ hT ?_
  intro h₄ F₄ N₄
  change Fr g L h₄ _ at F₄
  change News g L h₄ _ at N₄
  clear F₃ N₅
  k_steps
  rename_i D' h₆ F₆ N₆ lD
  obtain ⟨e1, e2⟩ := divz (D := D) ha hB0
  rw [← e1, ← e2] at N₆
  exact hret _ _ _ _ tabs' F₆ (fun q hq => N₆ q (.tail _ (.tail _ hq))) TL' htA ⟨D', _, _, rfl, Nat.le_trans hL (Nat.le_trans hLl (Nat.le_of_lt lD.1)), _, (N₆ _ (.head _)).1, rfl, _, rfl⟩
end
section
open PySem PySem.W PyProof.Rows PySem.Calls
theorem fresh_LB : True := by (w_top off); k_with_none; trivial
set_option maxRecDepth 100000
set_option maxHeartbeats 4000000
theorem fill_LB : (fun (_ : OpenLaw) (_ : Params → Frag) => True) PySem.Challenge.rw_ik0125_01 hd.heap_1 := by k_fill; trivial
theorem wd_LB_0 : True := by k_with_none; trivial
theorem wd_LB_1 : True := by
  (k_with "exec For Name Subscript cons nil" =>
    ((refine show_me ?_)))
  trivial
theorem c_told {w : World} {n : Nat} {t : Tok} (hn : n < 4096) : Ctr w 172 94 730 [.int (n : Int) t] (fun _ _ => True) (fun _ _ v => ∃ u, v = .int ((n ^^^ (n / 2) : Nat) : Int) u) := by
  k_dflt (refine' ctr_plain (binds := [(Str.ofString "number", .int (n : Int) t)]) ?k6 ?k7 ?k1 ?k9 ?kB ?c2 ?c3 ?c4 ?c5 ?_; (case k6 => k_is); (case k7 => k_is); (case k1 => decide); (case k9 => intro s; exact BindsTo.of_eq rfl); (case kB => exact locs rfl); (case c2 => exact rfl); (case c3 => exact rfl); (case c4 => exact rfl); (case c5 => decide))
  intro p loose mean mg mb dp un gd outer A₀ base g₀ g L tabs s Q hd hu hL st F NN TL B X T hpre hret
  try dsimp only [List.reverse_cons, List.reverse_nil, List.nil_append, List.cons_append] at F
  k_steps
  rename Fr _ _ _ _ => F₂
  rename News _ _ _ _ => N₂
  refine use_ctr (c_int_divmod_n (A := n) (D := 2) rfl (by omega) (by omega) (by omega)) B F₂ X N₂ TL .base T rfl (by omega) (by omega) trivial ?_
  rintro v h₃ tk₃ tabs' F₃ N₃ TL' TO' ht' ⟨l, t₁, t₂, rfl, hl, hT⟩
  k_steps
  rw [bitXor_nat]
  exact hret _ _ _ _ tabs' (by k_asm) (by k_asm) TL' (fun q hq => (ht' q hq).imp id fun h => Nat.le_trans (Nat.le_of_lt F₂.ns.lt) h) ⟨_, rfl⟩
theorem allLt_ne' {d : Addr} {l : List (Addr × Obj)} (h : ∀ p ∈ l, p.1 < d) : ∀ p ∈ l, p.1 ≠ d := fun p hp => Nat.ne_of_lt (h p hp)
def digR (A : Nat) : List Nat := ((List.range (numD 1 A)).map (dig 1 A)).reverse
def lastF (R : List Nat) (i : Nat) : Nat := (R.take i).foldl (· ^^^ ·) 0
def seenF (R : List Nat) (i : Nat) : List Nat := (List.range i).map fun j => lastF R (j + 1)
def backF (A : Nat) : Nat := und 1 (seenF (digR A) (numD 1 A)).reverse
local macro_rules | `(tactic| walk_at "subscriptTail Name Slice ref ref") => `(tactic| (k_here; (refine' krv_ints ?F ?N ?l ?k ?i ?_ ?s ?t ?z; (case F => k_asm); (case N => k_asm); (case l => exact News.isList (by k_asm) (by k_dflt k_mem)); (case k => exact IsPart.int _ _); (case i => assumption); (case s => with_unfolding_all rfl); (case t => kmk_pure); (case z => assumption)); intro D' ws' h' F' N' l1 hI' hC'; (try k_lt l1); (try k_sweep)))
theorem lastF_succ {R : List Nat} {i : Nat} (h : i < R.length) : lastF R (i + 1) = lastF R i ^^^ R[i] := by
  unfold lastF
  rw [List.take_succ_eq_append_getElem h, List.foldl_append]; rfl
theorem lastF_lt {R : List Nat} (h : ∀ d ∈ R, d < 2) : ∀ i, lastF R i < 2
  | 0 => by simp [lastF]
  | i + 1 => by
    by_cases hi : i < R.length
    · rw [lastF_succ hi]
      exact Nat.xor_lt_two_pow (n := 1) (lastF_lt h i) (h _ (List.getElem_mem hi))
    · have : lastF R (i + 1) = lastF R i := by
        unfold lastF
        rw [List.take_of_length_le (by omega), List.take_of_length_le (by omega)]
      rw [this]; exact lastF_lt h i
theorem wd_LB_2 : True := by
  (k_with "binaryOp BitXor int int" =>
    ((k_here; (with_reducible refine xor_int ?_))))
  trivial
theorem wd_LB_3 : True := by
  (k_with "eval Name" =>
    ((k_here; k_dflt (refine' nameX_L ?qzF ?qzv ?_ ?qza ?qzb; (case qzF => k_asm); (case qza => rfl); (case qzb => rfl); (case qzv => first | exact rfl | assumption); k_whole))))
  trivial
theorem c_back {w : World} {A : Nat} {t : Tok} (hA : A < 4096) : Ctr w 179 94 730 [.int (A : Int) t] (fun _ _ => True) (fun _ _ v => ∃ u, v = .int ((backF A : Nat) : Int) u) := by
  k_dflt (refine' ctr_plain (binds := [(Str.ofString "told", .int (A : Int) t)]) ?k6 ?k7 ?k1 ?k9 ?kB ?c2 ?c3 ?c4 ?c5 ?_; (case k6 => k_is); (case k7 => k_is); (case k1 => decide); (case k9 => intro s; exact BindsTo.of_eq rfl); (case kB => exact locs rfl); (case c2 => exact rfl); (case c3 => exact rfl); (case c4 => exact rfl); (case c5 => decide))
  intro p loose mean mg mb dp un gd outer A₀ base g₀ g L tabs s Q hd hu hL st F NN TL B X T hpre hret
  try dsimp only [List.reverse_cons, List.reverse_nil, List.nil_append, List.cons_append] at F
  k_steps
  refine .inl ?_
  refine exec_for ?_
  k_steps
  rename_i sl ha lsl hb hc F₂ N₂
  refine use_ctr (c_int2digits (A := A) (N := 1) (by omega) (by omega) (by omega)) B F₂ X N₂ TL (.cons (allLt_ne' lsl) .base) T rfl (by omega) (by omega) trivial ?_
  rintro v h₃ tk₃ tabs' F₃ N₃ TL' TO' ht' ⟨l, vs, ep, rfl, hl, hlo, hI⟩
  have N₄ := led_new F₂ N₃ hl hlo
  have htA : ∀ q ∈ tabs', q.1 ∈ tabs.map (·.1) ∨ L ≤ q.1 := fun q hq => (ht' q hq).imp id fun h => Nat.le_trans (Nat.le_of_lt F₂.ns.lt) h
  have hts : ∀ p ∈ tabs', p.1 ≠ sl := by
    intro q hq
    rcases ht' q hq with h | h
    · obtain ⟨r, hr, e⟩ := List.mem_map.mp h
      exact Nat.ne_of_lt (e ▸ lsl r hr)
    · exact Nat.ne_of_gt (Nat.lt_of_lt_of_le (Heap.lt_size (N₂ _ (.head _)).1) h)
  have hslt := Nat.lt_of_lt_of_le (Heap.lt_size (N₂ _ (.head _)).1) hl
  clear N₂ F₂ N₃
  have hvl : vs.length = numD 1 A := by have := IntsAre.length hI; simpa using this
  have hK : numD 1 A ≤ 64 := by
    have := numD_mul (N := 1) (A := A) (k := 32) (by omega) (by show A < 4294967296; omega)
    omega
  have hvs : vs.toArray.size ≤ sizeLine := by rw [sizeLine_eq]; simp; omega
  k_steps
  rename_i D' ws h₅ F₅ N₅ hW hC lD
  have hR : IntsAre ws ((digR A).map fun (d : Nat) => (d : Int)) := by
    have e : (digR A).map (fun (d : Nat) => (d : Int)) = ((List.range (numD 1 A)).map fun i => ((dig 1 A i : Nat) : Int)).reverse := by
      unfold digR; rw [List.map_reverse, List.map_map]; rfl
    rw [e]; exact hW
  have hRl : (digR A).length = numD 1 A := by unfold digR; simp
  have hwl : ws.length = numD 1 A := by have := IntsAre.length hR; simpa [hRl] using this
  have hR2 : ∀ d ∈ digR A, d < 2 := fun d hd => by
    unfold digR at hd
    obtain ⟨j, _, rfl⟩ := List.mem_map.mp (List.mem_reverse.mp hd)
    exact Nat.mod_lt _ (by decide)
  refine iter_list F₅ N₅ (PySem.IsL.isList (n := 0) (N₅ _ (.head _)).1) ?_
  intro h₆ I F₆ N₆ lI
  k_lt lI
  clear F₅ N₅
  refine forList_ind (s := { s with heap := h₆, toks := tk₃ }) (l := D') (items := ws.toArray)
    (fun i m rest => (∃ t, m (Str.ofString "last") = some (.int ((lastF (digR A) i : Nat) : Int) t)) ∧ m (Str.ofString "seen") = some (.ref sl) ∧ ∃ (vq : Array Value) (n : Nat), rest = (D', PySem.W.listOf ws.toArray 0) :: (l, PySem.W.listOf vs.toArray ep) :: (sl, PySem.W.listOf vq n) :: tabs' ∧ IntsAre vq.toList ((seenF (digR A) i).map fun (q : Nat) => (q : Int)))
    rfl (Nat.ne_of_lt lI.1) ?D rfl rfl ?step ?fin _ _ _ _ ?J0 ?off F₆ N₆
  case D =>
    rintro i m rest h ⟨_, _, vq, n, rfl, _⟩ F' N'
    exact PySem.IsL.isList (n := 0) (N' _ (.head _)).1
  case off =>
    intro q hq
    simp only [List.mem_singleton]
    rcases List.mem_cons.mp hq with rfl | hq
    · exact Nat.ne_of_lt lI.1
    rcases List.mem_cons.mp hq with rfl | hq
    · exact Nat.ne_of_lt lI.2.1
    rcases List.mem_cons.mp hq with rfl | hq
    · exact Nat.ne_of_lt lI.2.2.1
    · exact allLt_ne lI.2.2.2 q hq
  case J0 => exact ⟨⟨_, rfl⟩, rfl, #[], 0, rfl, .nil⟩
  case step =>
    rintro i v m rest h' tk' o' hi hP ⟨⟨tr, jr⟩, jq, vq, n, rfl, hIq⟩ hoff F₈ N₈
    change Fr g L h' _ at F₈
    change News g L h' _ at N₈
    have hiR : i < (digR A).length := by rw [hRl, ← hwl]; simpa using hi
    obtain ⟨td, hv⟩ : ∃ td, v = .int (((digR A)[i] : Nat) : Int) td := by
      obtain ⟨td, e⟩ := ints_at hR i (((digR A)[i] : Nat) : Int) (by rw [List.getElem?_map, List.getElem?_eq_getElem hiR]; rfl)
      have hP' : ws[i]? = some v := by simpa using hP
      rw [e] at hP'
      exact ⟨td, (Option.some.inj hP').symm⟩
    subst hv
    have hqz : vq.size = i := by have := IntsAre.length hIq; simp [seenF] at this; omega
    have hvs2 : vq.size ≤ sizeLine := by rw [sizeLine_eq]; omega
    have z1 := ltN lI.1
    have z2 := ltN lI.2.1
    have z3 := ltN lI.2.2.1
    have z4 := ltN lD.1
    have z5 := ltN lD.2.1
    have z7 := ltN hslt
    dsimp only at z7
    k_steps
    rename Fr _ _ _ _ => F₁₂
    rename News _ _ _ _ => N₁₂
    rw [bitXor_nat, ← lastF_succ hiR] at F₁₂ N₁₂
    refine ⟨_, _, _, (D', PySem.W.listOf ws.toArray 0) :: (l, PySem.W.listOf vs.toArray ep) :: (sl, PySem.W.listOf (vq.push (.int ((lastF (digR A) (i + 1) : Nat) : Int) tk')) (n + 1)) :: tabs', rfl, F₁₂, N₁₂, ?_, ⟨_, rfl⟩, jq, _, _, rfl, ?_⟩
    · intro q hq
      rcases List.mem_cons.mp hq with rfl | hq
      · exact hoff _ (.head _)
      rcases List.mem_cons.mp hq with rfl | hq
      · exact hoff _ (.tail _ (.head _))
      rcases List.mem_cons.mp hq with rfl | hq
      · exact hoff (sl, PySem.W.listOf vq n) (.tail _ (.tail _ (.head _)))
      · exact hoff q (.tail _ (.tail _ (.tail _ hq)))
    · unfold seenF at hIq ⊢
      rw [Array.toList_push, List.range_succ, List.map_append, List.map_append]
      exact ints_snoc hIq _ _
  case fin =>
    rintro m rest h' tk' ⟨⟨tr, jr⟩, jq, vq, n, rfl, hIq⟩ hoff F₈ N₈
    change Fr g L h' _ at F₈
    change News g L h' _ at N₈
    have hqz : vq.size = numD 1 A := by have := IntsAre.length hIq; simp [seenF] at this; omega
    have hvs2 : vq.size ≤ sizeLine := by rw [sizeLine_eq]; omega
    have hwz : ws.toArray.size = numD 1 A := by simpa using hwl
    rw [hwz] at hIq
    clear F₆ N₆
    k_steps
    rename_i E' ws₂ h₈ F₉ N₉ hW₂ hC₂ lE
    have N₁₁ : News g L _ ((E', PySem.W.listOf ws₂.toArray 0) :: tabs') := fun q hq => by
      rcases List.mem_cons.mp hq with rfl | hq
      · exact N₉ _ (.head _)
      · exact N₉ _ (.tail _ (.tail _ (.tail _ (.tail _ hq))))
    have hIr : IntsAre ws₂ ((seenF (digR A) (numD 1 A)).reverse.map fun (d : Nat) => (d : Int)) := by rw [List.map_reverse]; exact hW₂
    refine use_ctr (c_digits2int (N := 1) (l := E') (ep := 0) (ds := (seenF (digR A) (numD 1 A)).reverse) (by decide) hIr ?dig ?len) B F₉ X N₁₁ TL' (.cons (allLt_ne lE.2.2.2) .base) T rfl (by omega) (by omega) ⟨(N₁₁ _ (.head _)).1, ?mem⟩ ?_
    case dig =>
      intro d hd
      obtain ⟨j, _, rfl⟩ := List.mem_map.mp (List.mem_reverse.mp hd)
      exact lastF_lt hR2 _
    case len => simp [seenF]; omega
    case mem =>
      intro hm
      obtain ⟨p, hp, e⟩ := List.mem_map.mp hm
      exact allLt_ne lE.2.2.2 p hp e
    rintro v h₁₂ tk₁₂ tabs₂ F₁₂ N₁₂ TL₂ TO₂ ht₂ ⟨tq, rfl⟩
    have htB : ∀ q ∈ tabs₂, q.1 ∈ tabs.map (·.1) ∨ L ≤ q.1 := fun q hq => by
      rcases ht₂ q hq with h | h
      · obtain ⟨r, hr, e⟩ := List.mem_map.mp h
        exact e ▸ htA r hr
      · exact .inr (Nat.le_trans (Nat.le_of_lt F₉.ns.lt) h)
    exact hret _ _ _ _ tabs₂ F₁₂ (fun q hq => N₁₂ q (.tail _ hq)) TL₂ htB ⟨tq, rfl⟩
end
section
open PySem PySem.W PyProof.Rows PySem.Calls
theorem fresh_LN1 : True := by (w_top off); k_with_none; trivial
set_option maxRecDepth 100000
set_option maxHeartbeats 4000000
theorem fill_LN1 : (fun (_ : OpenLaw) (_ : Params → Frag) => True) PySem.Challenge.rw_ik0125_01 hd.heap_1 := by k_fill; trivial
def numF (ns : List Int) : Int := (ns.foldl (fun t c => t * 8 + c.fmod 8) 0)
theorem wd_LN1_0 : True := by k_with_none; trivial
theorem wd_LN1_1 : True := by
  (k_with "eval Name" =>
    ((k_here; k_dflt (refine' nameX_L ?F ?v ?_ ?a ?b; (case F => k_asm); (case a => rfl); (case b => rfl); (case v => first | exact rfl | assumption); k_whole))))
  trivial
theorem wd_LN1_2 : True := by
  (k_with "exec For Name Name cons nil" =>
    ((refine show_me0 ?_)))
  trivial
theorem numF_bound (ns : List Int) : 0 ≤ numF ns ∧ numF ns < 8 ^ ns.length := by
  unfold numF
  rw [← List.foldr_reverse, ← List.length_reverse (as := ns)]
  generalize ns.reverse = r
  induction r with
  | nil => simp
  | cons c r ih =>
    rw [List.foldr_cons, List.length_cons]
    have h1 := Int.fmod_nonneg_of_pos c (show (0 : Int) < 8 by decide)
    have h2 := Int.fmod_lt_of_pos c (show (0 : Int) < 8 by decide)
    rw [Int.pow_succ]
    omega
theorem numF_snoc (ns : List Int) (c : Int) : numF (ns ++ [c]) = numF ns * 8 + c.fmod 8 := by
  unfold numF; rw [List.foldl_append]; rfl
theorem numF_lt {ns : List Int} (h : ns.length ≤ 4) : 0 ≤ numF ns ∧ numF ns < 4096 := by
  have := numF_bound ns
  refine ⟨this.1, Int.lt_of_lt_of_le this.2 ?_⟩
  have : ns.length = 0 ∨ ns.length = 1 ∨ ns.length = 2 ∨ ns.length = 3 ∨ ns.length = 4 := by omega
  rcases this with e | e | e | e | e <;> rw [e] <;> decide
theorem c_number {w : World} {l : Addr} {ep : Nat} {vs : List Value} {ns : List Int} (hI : IntsAre vs ns) (hn : ns.length ≤ 4) :
    CtrL w 165 2 16 [.ref l] (fun g => g.get? l = some (PySem.W.listOf vs.toArray ep)) (fun _ _ v => ∃ t, v = .int (numF ns) t) := by
  k_dflt (refine' ctr_leaf (binds := [(Str.ofString "cells", .ref l)]) ?k6 ?k7 ?k1 ?k9 ?kB ?c2 ?c3 ?c4 ?c5 ?_; (case k6 => k_is); (case k7 => k_is); (case k1 => decide); (case k9 => intro s; exact BindsTo.of_eq rfl); (case kB => exact locs rfl); (case c2 => exact rfl); (case c3 => exact rfl); (case c4 => exact rfl); (case c5 => decide))
  intro p loose mean mg mb dp un gd outer A₀ base g L s Q hd hu hL F NN B X T hpre hret
  try dsimp only [List.reverse_cons, List.reverse_nil, List.nil_append, List.cons_append] at F
  k_steps
  refine .inl ?_
  refine exec_for ?_
  k_steps
  rename_i h₂ F₂ N₂
  have hvl : vs.length = ns.length := by have := IntsAre.length hI; simpa using this
  have gl := F₂.keep _ _ hpre
  have hlg := Heap.lt_size hpre
  refine iter_list F₂ N₂ (PySem.IsL.isList (n := ep) gl) ?_
  intro h₃ I F₃ N₃ lI
  have hIl : l ≠ I := by
    intro e
    have := (N₃ _ (.head _)).2.2
    rw [← e, hpre] at this; cases this
  clear F₂ N₂
  refine forList_ind (s := { s with heap := h₃, toks := s.toks + 1 + 1 }) (l := l) (items := vs.toArray)
    (fun i m rest => (∃ t, m (Str.ofString "total") = some (.int (numF (ns.take i)) t)) ∧ rest = [])
    rfl hIl ?D rfl rfl ?step ?fin _ _ _ _ ?J0 ?off F₃ N₃
  case D =>
    rintro i m rest h ⟨_, rfl⟩ F' N'
    exact PySem.IsL.isList (n := ep) (F'.keep _ _ hpre)
  case off => intro q hq; cases hq
  case J0 => exact ⟨⟨_, rfl⟩, rfl⟩
  case step =>
    rintro i v m rest h' tk' o' hi hP ⟨⟨tr, jr⟩, rfl⟩ hoff F₈ N₈
    change Fr g L h' _ at F₈
    change News g L h' _ at N₈
    clear F₃ N₃
    have hin : i < ns.length := by rw [← hvl]; simpa using hi
    obtain ⟨td, hv⟩ : ∃ td, v = .int ns[i] td := by
      obtain ⟨td, e⟩ := ints_at hI i ns[i] (List.getElem?_eq_getElem hin)
      have hP' : vs[i]? = some v := by simpa using hP
      rw [e] at hP'
      exact ⟨td, (Option.some.inj hP').symm⟩
    subst hv
    have hb := numF_lt (ns := ns.take i) (by rw [List.length_take]; omega)
    have hs := numF_snoc (ns.take i) ns[i]
    rw [← List.take_succ_eq_append_getElem hin] at hs
    generalize numF (ns.take i) = x at hb hs jr
    k_steps
    rename Fr _ _ _ _ => F₉
    rename News _ _ _ _ => N₉
    rw [← hs] at F₉
    exact ⟨_, _, _, [], rfl, F₉, N₉, hoff, ⟨_, rfl⟩, rfl⟩
  case fin =>
    rintro m rest h' tk' ⟨⟨tr, jr⟩, rfl⟩ hoff F₈ N₈
    change Fr g L h' _ at F₈
    change News g L h' _ at N₈
    clear F₃ N₃
    rw [List.take_of_length_le (by simp; omega)] at jr
    have hb := numF_lt (ns := ns) (by omega)
    k_steps
    exact hret _ _ _ _ F₈ ⟨_, rfl⟩
end
section
local macro_rules | `(tactic| walk_at "newList") => `(tactic| (k_here; (with_reducible show wpAny _ _ (newList []) _ _ _); k_dflt (refine' newList_D ?F ?N ?_; (case F => k_asm); (case N => k_asm)); intro D' h' F' N' l1 lL; (try k_lt l1); (try k_sweep)))
local macro_rules | `(tactic| walk_at "getAttr ref") => `(tactic| (k_here; k_dflt (refine' getAttr_app_L ?F ?N ?m ?_; (case F => k_asm); (case N => k_asm); (case m => k_mem)); intro q' h' F' N' l1; (try k_lt l1); (try k_sweep)))
local macro_rules | `(tactic| walk_at "call ref") => `(tactic| (k_here; k_dflt (refine' call_boundApp ?F ?N ?q ?U ?z ?_; (case F => k_asm); (case N => k_asm); (case q => first | assumption | exact appAt_of (by k_asm) (by k_mem)); (case U => k_upd); (case z => first | assumption | decide | (rw [sizeLine_eq]; simp))); intro h' F' N'; (try k_sweep)))
section
open PySem PySem.W PyProof.Rows PySem.Calls
theorem fresh_JQ : True := by (w_top off); k_with_none; trivial
set_option maxRecDepth 100000
set_option maxHeartbeats 4000000
theorem fill_JQ : (fun (_ : OpenLaw) (_ : Params → Frag) => True) PySem.Challenge.rw_ik0125_01 hd.heap_1 := by k_fill; trivial
theorem wd_JQ_0 : True := by k_with_none; trivial
theorem wd_JQ_1 : True := by
  (k_with "exec While Compare cons nil" =>
    ((refine show_me0 ?_)))
  trivial
theorem wd_JQ_2 : True := by
  (k_with "exec While" =>
    ((refine show_me0 ?_)))
  trivial
theorem wd_JQ_3 : True := by
  (k_with "callWith ref" =>
    ((k_here; k_dflt (refine' callWith_app ?qzN ?qzm ?_; (case qzN => k_asm); (case qzm => k_mem); k_whole))))
  trivial
theorem loadX_L {M : Model} {A : Around} {E : Value → Shared → Prop} {s : Shared} {h₀ : Heap} {L a : Addr} {m : Str → Option Value} {cn : Str} {cs : Scope} {ccd : Value} {cl : List (Str × Addr)} {x : Str} {v : Value} {Q : Value → Shared → Prop} (F : Fr h₀ L s.heap m) (hv : m x = some v) (h : Q v s)
    (hk : cs.kind = .function := by rfl) (hx : (envX cn cs L a ccd cl).kindOf x = some .local := by rfl) :
    wpAny M A (loadName (envX cn cs L a ccd cl) x) Q E s := wpAny_loadName_local hk hx F.ns hv h
section
variable {prog : Program} {w : World} {A : Around} {E : Value → Shared → Prop} {s : Shared} {h₀ : Heap} {L l : Addr} {m : Str → Option Value} {vs : List Value} {ep : Nat}
theorem len_gv {Q : Value → Shared → Prop} {n : Nat} (F : Fr h₀ L s.heap m) (g : h₀.get? l = some (PySem.W.listOf vs.toArray ep)) (hn : vs.length = n) (hz : n ≤ 1000) (h : Q (.int (n : Nat) (s.toks + 1)) { s with toks := s.toks + 1 + 1 }) : wpAny (model prog w) A (call (.builtin "len") [.ref l]) Q E s := by
  subst hn
  exact Calls.call_len_list (PySem.IsL.isList (n := ep) (F.keep _ _ g)) (by simp; omega) h
theorem sub_gv {value slice : PySem.Expr} {k : Int} (i : Nat) {u : Tok} {v : Value} {Q : Value → Shared → Prop} (F : Fr h₀ L s.heap m) (g : h₀.get? l = some (PySem.W.listOf vs.toArray ep)) (hx : vs[i]? = some v) (hk : k = (i : Int)) (h1 : i < 1000) (h : Q v s)
    (hs : subscripted slice false (.ref l) (.int k u) = operate [.ref l, .int k u] (getItem (.ref l) (.int k u)) := by with_unfolding_all rfl) :
    wpAny (model prog w) A (subscriptTail value slice (.ref l) (.int k u)) Q E s := by
  subst hk
  have hl := PySem.IsL.isList (n := ep) (F.keep _ _ g)
  exact tail_any hl.typeIs slot_list_getitem.lookup (wpAny_getItem_list hl (by omega) (by omega) (by simpa using hx) h) hs
end
theorem wd_JQ_4 : True := by
  (k_with "call builtin:len" =>
    ((k_here; (with_reducible show wpAny _ _ (call (Value.builtin _) [Value.ref _]) _ _ _); k_dflt (refine len_gv (by k_asm) (by assumption) (by assumption) (by omega) ?_))))
  trivial
theorem wd_JQ_5 : True := by
  (k_with "subscriptTail" =>
    ((k_here; (with_reducible show wpAny _ _ (subscriptTail _ _ (Value.ref _) (Value.int _ _)) _ _ _); k_dflt (first | refine sub_gv 0 (by k_asm) (by assumption) (by assumption) (by omega) (by omega) ?_ | refine sub_gv 1 (by k_asm) (by assumption) (by assumption) (by omega) (by omega) ?_ | (refine' sub_gv _ ?qzF ?qzg ?qzx ?qzk ?qzz ?_; (case qzF => k_asm); (case qzg => assumption); (case qzx => assumption); (case qzk => omega); (case qzz => omega))))))
  trivial
theorem wd_JQ_6 : True := by
  (k_with "compareOp IsNot" =>
    ((k_here; first | ((with_reducible show wpAny _ _ (compareOp CmpOp.IsNot (Value.str _ _) (Value.ref _)) _ _ _); k_dflt (refine wpAny_isNot_other (by rfl) (by intro x; cases x) ?_)) | (k_dflt (refine wpAny_isNot_ref_self ?_)))))
  trivial
theorem wd_JQ_7 : True := by
  (k_with "eval Name" =>
    ((k_here; k_dflt (refine' nameX_L ?qzF ?qzv ?_ ?qza ?qzb; (case qzF => k_asm); (case qza => rfl); (case qzb => rfl); (case qzv => first | exact rfl | assumption); k_whole))))
  trivial

theorem wd_JQ_8 : True := by
  (k_with "ite" =>
    (first | refine ite_pos (by (try simp only [decide_eq_true_eq, beq_iff_eq, bne_iff_ne, ne_eq]); omega) ?_ | refine ite_neg (by (try simp only [decide_eq_true_eq, beq_iff_eq, bne_iff_ne, ne_eq]); omega) ?_))
  trivial
theorem wd_JQ_9 : True := by
  (k_with "loadName" =>
    ((k_here; k_dflt (refine' loadX_L ?qzF ?qzv ?_ ?qza ?qzb; (case qzF => k_asm); (case qza => rfl); (case qzb => rfl); (case qzv => first | exact rfl | assumption); k_whole))))
  trivial
theorem strsAre_get {vs : List Value} {ys : List Str} (h : StrsAre vs ys) : ∀ {i : Nat} (hi : i < ys.length), ∃ t, vs[i]? = some (.str ys[i] t) := by
  induction h with
  | nil => intro i hi; simp at hi
  | cons y t _ ih =>
    intro i hi
    cases i with
    | zero => exact ⟨t, rfl⟩
    | succ i => simpa using ih (by simpa using hi)
/-- parts without a star: the texts one behind the other -/
theorem c_join1 {w : World} {S l : Addr} {ep : Nat} {vs : List Value} {ys : List Str} (hs : StrsAre vs ys) (hy : ∀ y ∈ ys, y.length ≤ 8) (hn2 : ys.length ≤ 100) :
    CtrL w 111 3 60 [.ref l, .ref S] (fun g => g.get? l = some (PySem.W.listOf vs.toArray ep)) (fun _ _ v => ∃ t, v = .str (Str.ofString "(?s:" ++ Txt.join (Str.ofString "") ys ++ Str.ofString ")\\Z") t) := by
  k_dflt (refine' ctr_leaf (binds := [(Str.ofString "inp", .ref l), (Str.ofString "STAR", .ref S)]) ?k6 ?k7 ?k1 ?k9 ?kB ?c2 ?c3 ?c4 ?c5 ?_; (case k6 => k_is); (case k7 => k_is); (case k1 => decide); (case k9 => intro s; exact BindsTo.of_eq rfl); (case kB => exact locs rfl); (case c2 => exact rfl); (case c3 => exact rfl); (case c4 => exact rfl); (case c5 => decide))
  intro p loose mean mg mb dp un gd outer A₀ base g L s Q hd hu hL F NN B X T hpre hret
  try dsimp only [List.reverse_cons, List.reverse_nil, List.nil_append, List.cons_append] at F
  have hlv := strsAre_len hs
  have hVv : ∀ i, i < ys.length → ∃ y t, y.length ≤ 8 ∧ vs[i]? = some (.str y t) := by
    intro i hi
    obtain ⟨t, ht⟩ := strsAre_get hs hi
    exact ⟨ys[i], t, hy _ (List.getElem_mem hi), ht⟩
  k_steps
  refine .inl ?_
  rename_i rl h₁ lrl lL h₂ tk₁ q h₃ lq h₄ D' h₅ lD h₆ h₇ h₈ F₈ N₈
  replace N₈ : News g L h₈ [(q, boundApp rl), (rl, PySem.W.listOf #[] 0)] := fun p hp => N₈ p (.tail _ hp)
  clear lD
  have q3 := ltN lrl
  refine exec_while ?_
  refine while_ind (s := { s with heap := h₈, toks := tk }) ys.length (fun k m rest => ∃ (ti tn : Tok), m (Str.ofString "inp") = some (.ref l) ∧ m (Str.ofString "STAR") = some (.ref S) ∧ m (Str.ofString "res") = some (.ref rl) ∧ m (Str.ofString "add") = some (.ref q) ∧
      m (Str.ofString "i") = some (.int (k : Int) ti) ∧ m (Str.ofString "n") = some (.int (ys.length : Int) tn) ∧ ∃ (its : Array Value) (ep' : Nat), rest = [(q, boundApp rl), (rl, PySem.W.listOf its ep')] ∧ its.toList = vs.take k)
    ?step ?fin ys.length 0 _ _ _ _ rfl (Nat.zero_le _) ?J0 F₈ N₈
  case J0 => exact ⟨_, _, rfl, rfl, rfl, rfl, rfl, rfl, _, _, rfl, rfl⟩
  case step =>
    rintro k m rest h' tk' hk ⟨ti, tn, j1, j2, j3, j4, j5, j6, its, ep', rfl, hits⟩ F₁₂ N₁₂
    change Fr g L h' _ at F₁₂
    change News g L h' _ at N₁₂
    clear F₈ N₈
    obtain ⟨y, ty, hyl, hvk⟩ := hVv k hk
    have hz : its.size ≤ sizeLine := by
      have : its.toList.length = k := by rw [hits, List.length_take]; omega
      rw [sizeLine_eq]; simp at this; omega
    k_steps
    · exact (N₁₂ _ (.head _)).1
    rename Fr _ _ _ _ => F₁₃
    rename News _ _ _ _ => N₁₃
    refine ⟨_, _, _, _, rfl, F₁₃, N₁₃, fun p hp h => by simp at h, _, _, j1, j2, j3, j4, rfl, j6, _, _, rfl, ?_⟩
    rw [Array.toList_push, hits, List.take_add_one, hvk]; rfl
  case fin =>
    rintro m rest h' tk' ⟨ti, tn, j1, j2, j3, j4, j5, j6, its, ep', rfl, hits⟩ F₁₂ N₁₂
    change Fr g L h' _ at F₁₂
    change News g L h' _ at N₁₂
    clear F₈ N₈
    rw [List.take_of_length_le (by omega)] at hits
    k_steps
    refine .inl ?_
    refine exec_while (while_turn ?_)
    k_steps
    refine join_list ⟨_, (N₁₂ _ (.tail _ (.head _))).1, rfl, _, rfl⟩ (hits ▸ hs) ?_ fun t' k' => ?_
    · have := sum_len hy
      rw [emp_len]; omega
    obtain ⟨Y, hY, hYl⟩ : ∃ Y, Y = Txt.join (Str.ofString "") ys ∧ Y.length ≤ 800 := ⟨_, rfl, Nat.le_trans (join_len hy) (by omega)⟩
    rw [← hY]
    k_steps
    rename Fr _ _ _ _ => F₁₅
    refine hret _ _ _ _ F₁₅ ⟨_, congrArg (fun z => Value.str z _) ?_⟩
    apply str_ext
    rw [hY]
    simp only [app_cps]
    rw [show Str.empty.cps.toList = [] from rfl, List.nil_append]
end
section
open PySem PySem.W PyProof.Rows PySem.Calls
theorem fresh_TC : True := by (w_top off); k_with_none; trivial
set_option maxRecDepth 100000
set_option maxHeartbeats 4000000
theorem fill_TC : (fun (_ : OpenLaw) (_ : Params → Frag) => True) PySem.Challenge.rw_ik0125_01 hd.heap_1 := by k_fill; trivial
theorem wd_TC_0 : True := by k_with_none; trivial
theorem wd_TC_1 : True := by
  (k_with "exec While Compare cons nil" =>
    ((refine show_me0 ?_)))
  trivial
theorem wd_TC_2 : True := by
  (k_with "exec While" =>
    ((refine show_me0 ?_)))
  trivial
theorem wd_TC_3 : True := by
  (k_with "callWith ref" =>
    ((k_here; k_dflt (refine' callWith_app ?qzN ?qzm ?_; (case qzN => k_asm); (case qzm => k_mem); k_whole))))
  trivial
theorem wd_TC_4 : True := by
  (k_with "call builtin:len" =>
    ((k_here; (with_reducible show wpAny _ _ (call (Value.builtin _) [Value.str _ _]) _ _ _); k_dflt (refine PySem.P.len_str (by omega) ?_))))
  trivial
theorem wd_TC_5 : True := by
  (k_with "subscriptTail Name Name str int" =>
    ((k_here; (with_reducible show wpAny _ _ (subscriptTail _ _ (Value.str _ _) (Value.int _ _)) _ _ _); k_dflt (first | (refine' str_tok (d := 0) ?qzhT ?qzhj ?qzhc ?qzhl ?_; (case qzhT => assumption); (case qzhj => first | rfl | omega); (case qzhc => exact rfl); (case qzhl => first | assumption | omega)) | (refine' str_tok (d := 1) ?qzhT ?qzhj ?qzhc ?qzhl ?_; (case qzhT => assumption); (case qzhj => first | rfl | omega); (case qzhc => exact rfl); (case qzhl => first | assumption | omega))))))
  trivial
theorem wd_TC_6 : True := by
  (k_with "eval Name" =>
    ((k_here; k_dflt (refine' nameX_L ?qzF ?qzv ?_ ?qza ?qzb; (case qzF => k_asm); (case qza => rfl); (case qzb => rfl); (case qzv => first | exact rfl | assumption); k_whole))))
  trivial
def TabsAt (tabs tabs' : List (Addr × Obj)) (L rl q : Addr) : Prop := TabL3 tabs' ∧ (∀ p ∈ tabs', p.1 ∈ tabs.map (·.1) ∨ L ≤ p.1) ∧ ∀ p ∈ tabs', p.1 ≠ q ∧ p.1 ≠ rl
theorem TabsAt.next {tabs tabs' tabs₁ own : List (Addr × Obj)} {L rl q : Addr} {oq or : Obj} (h : TabsAt tabs tabs' L rl q) (TL : TabL3 tabs₁) (hT : ∀ r ∈ tabs₁, r.1 ∈ tabs'.map (·.1) ∨ ∀ n ∈ own ++ tabs', n.1 < r.1) (hq : (q, oq) ∈ own) (hr : (rl, or) ∈ own) (hL : L ≤ rl) : TabsAt tabs tabs₁ L rl q := by
  refine ⟨TL, fun p hp => ?_, fun p hp => ?_⟩
  · rcases hT p hp with k | k
    · obtain ⟨r, hr', e⟩ := List.mem_map.mp k
      have := h.2.1 r hr'
      rw [e] at this; exact this
    · exact .inr (Nat.le_trans hL (Nat.le_of_lt (k _ (List.mem_append_left _ hr))))
  · rcases hT p hp with k | k
    · obtain ⟨r, hr', e⟩ := List.mem_map.mp k
      have := h.2.2 r hr'
      rw [e] at this; exact this
    · exact ⟨Nat.ne_of_gt (k _ (List.mem_append_left _ hq)), Nat.ne_of_gt (k _ (List.mem_append_left _ hr))⟩
theorem own_next {own tabs' tabs₂ : List (Addr × Obj)} (h : ∀ p ∈ own, ∀ r ∈ tabs', r.1 ≠ p.1) (hT : ∀ r ∈ tabs₂, r.1 ∈ tabs'.map (·.1) ∨ ∀ n ∈ own ++ tabs', n.1 < r.1) : ∀ p ∈ own, ∀ r ∈ tabs₂, r.1 ≠ p.1 := fun p hp r hr => by
  rcases hT r hr with k | k
  · obtain ⟨r', hr', e⟩ := List.mem_map.mp k
    have := h p hp r' hr'
    rw [e] at this; exact this
  · exact Nat.ne_of_gt (k p (List.mem_append_left _ hp))
def JT (S : Addr) (P : Str) (ts : List (List Nat)) (t tq : Tok) (rl q L : Addr) (tabs : List (Addr × Obj)) : Nat → (Str → Option Value) → List (Addr × Obj) → Prop :=
  fun k m rest => ∃ (i : Nat) (ti : Tok) (tn : Tok), m (Str.ofString "pat") = some (.str P t) ∧ m (Str.ofString "STAR") = some (.ref S) ∧ m (Str.ofString "res") = some (.ref rl) ∧ m (Str.ofString "add") = some (.ref q) ∧
      m (Str.ofString "i") = some (.int (i : Int) ti) ∧ m (Str.ofString "n") = some (.int (P.length : Int) tn) ∧ i = (ts.take k).flatten.length ∧ ∃ (its : Array Value) (ep : Nat) (tabs' : List (Addr × Obj)), rest = (q, boundApp rl) :: (rl, PySem.W.listOf its ep) :: tabs' ∧ ToksOk (ts.take k) its.toList ∧ TabsAt tabs tabs' L rl q
theorem turn_end {S : Addr} {P : Str} {ts : List (List Nat)} {t tq : Tok} {rl q : Addr} {tabs tabs' : List (Addr × Obj)} {h₀ : Heap} {L : Addr} {s : Shared} {gs : Array GenState} {R : Result → Shared → Prop} {k i : Nat} {tk : Nat} {m : Str → Option Value} {h : Heap} {its : Array Value} {ep : Nat} {v : Value} {x : List Nat} {iv : Int} {ti tn : Tok}
    (hgb : AllBare s.gens → AllBare gs) (F : Fr h₀ L h m) (N : News h₀ L h ((q, boundApp rl) :: (rl, PySem.W.listOf (its.push v) (ep + 1)) :: tabs')) (hmi : m (Str.ofString "i") = some (.int iv ti)) (hiv : iv = ((i + x.length : Nat) : Int)) (j1 : m (Str.ofString "pat") = some (.str P t)) (j2 : m (Str.ofString "STAR") = some (.ref S)) (j3 : m (Str.ofString "res") = some (.ref rl)) (j4 : m (Str.ofString "add") = some (.ref q))
    (j6 : m (Str.ofString "n") = some (.int (P.length : Int) tn)) (hk : k < ts.length) (htk : ts[k] = x) (hi : i = (ts.take k).flatten.length) (hto : ToksOk (ts.take k) its.toList) (hx : TokOk x v) (hT : TabsAt tabs tabs' L rl q) :
    LPG h₀ L s R (JT S P ts t tq rl q L tabs (k + 1)) .next { s with heap := h, toks := tk, gens := gs } := by
  subst hiv
  refine ⟨h, tk, gs, m, _, rfl, hgb, F, N, i + x.length, ti, tn, j1, j2, j3, j4, hmi, j6, ?_, _, _, tabs', rfl, ?_, hT⟩
  · rw [List.take_succ_eq_append_getElem hk, List.flatten_append, htk, hi]; simp
  · rw [Array.toList_push, List.take_succ_eq_append_getElem hk, htk]
    exact hto.snoc hx
theorem wd_TC_7 : True := by
  (k_with "subscriptTail Name Slice str ref" =>
    ((k_here; k_dflt ((with_reducible show wpAny _ _ (subscriptTail _ (Expr.Slice (some _) (some _) none _) _ _) _ _ _); refine' slz_ss (s := ⟨_, _, _, _, _⟩) ?qzF ?qzN ?qzz ?qzl ?_; (case qzF => k_asm); (case qzN => k_asm); (case qzz => exact eqS_of (by with_reducible assumption)); (case qzl => omega)); intro _ _ _ _ _; (try k_sweep))))
  trivial
def MarkG : Prop := True
theorem gen_tok {M : Model} {A : Around} {α : Type} {T : Sem α} {Q : α → Shared → Prop} {E : Value → Shared → Prop} {h : Heap} {gs : Array GenState} {d : Drawn} {X : Nat} {os : OsState} (k : ∀ tk, 0 < tk → wpAny M A T Q E ⟨h, gs, d, tk, os⟩) : wpAny M A T Q E ⟨h, gs, d, X + 1, os⟩ := k _ (Nat.succ_pos _)
theorem wd_TC_8 : True := by
  (k_with "execs cons" =>
    (((have hMk : MarkG := by assumption); clear hMk; k_here; (with_reducible refine gen_tok ?_); intro _ _)))
  trivial
theorem wd_TC_9 : True := by
  (k_with "execs nil" =>
    (((have hMk : MarkG := by assumption); clear hMk; k_here; (with_reducible refine gen_tok ?_); intro _ _)))
  trivial
theorem wd_TC_10 : True := by
  (k_with "ite" =>
    (((have hMk : MarkG := by assumption); clear hMk; first | refine ite_pos (by (try simp only [decide_eq_true_eq, beq_iff_eq, bne_iff_ne, ne_eq]); omega) ?_ | refine ite_neg (by (try simp only [decide_eq_true_eq, beq_iff_eq, bne_iff_ne, ne_eq]); omega) ?_)))
  trivial
theorem notin_z {prog : Program} {w : World} {A : Around} {E : Value → Shared → Prop} {s : Shared} {x y : Str} {t u : Tok} {bz : Bool} {Q : Value → Shared → Prop} (hz : EqB (!(!(Builtin.Str.occurrences x y 0 x.length 1).isEmpty)) bz) (h : Q (.bool bz) s) : wpAny (model prog w) A (compareOp .NotIn (.str y u) (.str x t)) Q E s := by
  have hz : _ = bz := hz
  subst hz; exact notIn_str h
theorem wd_TC_11 : True := by
  (k_with "compareOp NotIn str str" =>
    ((k_here; k_dflt (refine notin_z (by with_reducible assumption) ?_))))
  trivial
theorem repl_z {prog : Program} {w : World} {A : Around} {E : Value → Shared → Prop} {s : Shared} {x y z r : Str} {t u v : Tok} {Q : Value → Shared → Prop} (hr : EqS (Txt.replace x y z) r) (hu : @Ne Nat u 0) (hv : @Ne Nat v 0) (huv : @Ne Nat u v) (hyz : (y == z) = false) (hx : x.length ≤ 1000) (hz : z.length ≤ 14)
    (hq : ∀ t' k, Q (.str r t') { s with toks := k }) : wpAny (model prog w) A (call (.builtin "str.replace") [.str x t, .str y u, .str z v]) Q E s := by
  have hr : _ = r := hr
  subst hr; exact SC.replaceW hu hv huv hyz (by omega) hz hq
theorem wd_TC_12 : True := by
  (k_with "call builtin:str.replace" =>
    ((k_here; k_dflt (refine repl_z (by with_reducible assumption) (by omega) (by omega) (by omega) (by decide +kernel) (by rw [mkS_len]; simp only [List.length_cons, List.length_nil]; omega) (by decide +kernel) ?_); intro _ _)))
  trivial
theorem s_33 : Str.ofString "!" = ⟨#[33]⟩ := by decide +kernel
theorem s_42 : Str.ofString "*" = ⟨#[42]⟩ := by decide +kernel
theorem s_63 : Str.ofString "?" = ⟨#[63]⟩ := by decide +kernel
theorem s_91 : Str.ofString "[" = ⟨#[91]⟩ := by decide +kernel
theorem s_93 : Str.ofString "]" = ⟨#[93]⟩ := by decide +kernel
theorem s_94 : Str.ofString "^" = ⟨#[94]⟩ := by decide +kernel
theorem sg_beq (c d : Nat) : (((⟨#[c]⟩ : Str)) == ⟨#[d]⟩) = (c == d) := by
  rw [Bool.eq_iff_iff, beq_iff_eq, beq_iff_eq]
  constructor
  · intro h; have := congrArg (fun s : Str => s.cps.toList) h; simpa using this
  · rintro rfl; rfl
section
variable {prog : Program} {w : World} {A : Around} {E : Value → Shared → Prop} {s : Shared} {c d : Nat} {x : Str} {t u : Tok} {Q : Value → Shared → Prop}
theorem eq_sf (hx : x = ⟨#[d]⟩) (hcd : c ≠ d) (h : Q (.bool false) s) : wpAny (model prog w) A (compareOp .Eq (.str ⟨#[c]⟩ t) (.str x u)) Q E s :=
  PyProof.Rows.eq_str (by subst hx; rw [sg_beq, beq_false_of_ne hcd]; exact h)
theorem eq_st (hx : x = ⟨#[d]⟩) (hcd : c = d) (h : Q (.bool true) s) : wpAny (model prog w) A (compareOp .Eq (.str ⟨#[c]⟩ t) (.str x u)) Q E s :=
  PyProof.Rows.eq_str (by subst hx; rw [sg_beq, hcd, beq_self_eq_true]; exact h)
theorem eq_2f {a b : Nat} {l : List Nat} (hx : x = ⟨#[d]⟩) (h : Q (.bool false) s) : wpAny (model prog w) A (compareOp .Eq (.str (mkS (a :: b :: l)) t) (.str x u)) Q E s :=
  PyProof.Rows.eq_str (by
    subst hx
    rw [show ((mkS (a :: b :: l) : Str) == ⟨#[d]⟩) = false from beq_false_of_ne fun e => by have := congrArg Str.length e; simp [Str.length] at this]; exact h)
theorem ne_sf (hx : x = ⟨#[d]⟩) (hcd : c ≠ d) (h : Q (.bool true) s) : wpAny (model prog w) A (compareOp .NotEq (.str ⟨#[c]⟩ t) (.str x u)) Q E s :=
  PyProof.Rows.ne_str (by subst hx; rw [bne, sg_beq, beq_false_of_ne hcd]; exact h)
theorem ne_st (hx : x = ⟨#[d]⟩) (hcd : c = d) (h : Q (.bool false) s) : wpAny (model prog w) A (compareOp .NotEq (.str ⟨#[c]⟩ t) (.str x u)) Q E s :=
  PyProof.Rows.ne_str (by subst hx; rw [bne, sg_beq, hcd, beq_self_eq_true]; exact h)
end
theorem eq_zb {prog : Program} {w : World} {A : Around} {E : Value → Shared → Prop} {s : Shared} {x y : Str} {t u : Tok} {b : Bool} {Q : Value → Shared → Prop} (hz : EqB (x == y) b) (h : Q (.bool b) s) : wpAny (model prog w) A (compareOp .Eq (.str x t) (.str y u)) Q E s := by
  have hz : _ = b := hz
  subst hz; exact PyProof.Rows.eq_str h
theorem wd_TC_13 : True := by
  (k_with "compareOp Eq str str" =>
    (((have hMk : MarkG := by assumption); clear hMk; k_here; k_dflt (first
  | (refine eq_zb (by with_reducible assumption) ?_)
  | (with_reducible refine' eq_2f ?qzhx ?_; (case qzhx => first | with_reducible exact s_33 | with_reducible exact s_42 | with_reducible exact s_63 | with_reducible exact s_91 | with_reducible exact s_93 | with_reducible exact s_94))
  | (refine' eq_sf ?qzhx ?qzhn ?_; (case qzhx => first | with_reducible exact s_33 | with_reducible exact s_42 | with_reducible exact s_63 | with_reducible exact s_91 | with_reducible exact s_93 | with_reducible exact s_94); (case qzhn => first | assumption | decide))
  | (refine' eq_st ?qzhx ?qzhn ?_; (case qzhx => first | with_reducible exact s_33 | with_reducible exact s_42 | with_reducible exact s_63 | with_reducible exact s_91 | with_reducible exact s_93 | with_reducible exact s_94); (case qzhn => rfl))))))
  trivial
theorem wd_TC_14 : True := by
  (k_with "compareOp NotEq str str" =>
    (((have hMk : MarkG := by assumption); clear hMk; k_here; k_dflt (first
  | (refine' ne_sf ?qzhx ?qzhn ?_; (case qzhx => first | with_reducible exact s_33 | with_reducible exact s_42 | with_reducible exact s_63 | with_reducible exact s_91 | with_reducible exact s_93 | with_reducible exact s_94); (case qzhn => first | assumption | decide))
  | (refine' ne_st ?qzhx ?qzhn ?_; (case qzhx => first | with_reducible exact s_33 | with_reducible exact s_42 | with_reducible exact s_63 | with_reducible exact s_91 | with_reducible exact s_93 | with_reducible exact s_94); (case qzhn => rfl))))))
  trivial
theorem getMethod_subK {K : Frag} {M : Model} {A : Around} {E : Value → Shared → Prop} {s : Shared} {P : Addr} {o : Obj} {pl : Sem Bool} {Q : Value × List Value → Shared → Prop} (X : K.In s.heap) (hl : K.lookup P = some o) (hc : o.cls = .type "re.Pattern") (hd : o.dict = none) (h : Q (.builtin "re.Pattern.sub", [.ref P]) s) :
    wpAny M A (getMethod (.ref P) "sub" pl) Q E s := getMethod_sub (X _ _ hl) hc hd h
theorem wd_TC_15 : True := by
  (k_with "getMethod ref" =>
    ((k_here; k_dflt (refine' getMethod_subK ?qzk1 ?qzk2 ?qzk3 ?qzk4 ?_; (case qzk1 => k_in); (case qzk2 => k_is); (case qzk3 => rfl); (case qzk4 => rfl)))))
  trivial
theorem truthy_ne {prog : Program} {w : World} {A : Around} {E : Value → Shared → Prop} {s : Shared} {x : Str} {t : Tok} {Q : Bool → Shared → Prop} (hp : 1 ≤ x.length) (hl : x.length ≤ 1000) (h : Q true { s with toks := s.toks + 1 + 1 }) : wpAny (model prog w) A (PySem.truthy (.str x t)) Q E s := by
  refine PySem.P.truthy_str (by omega) ?_
  rw [show ((x.length : Int) != 0) = true from by rw [bne_iff_ne]; omega]; exact h
theorem wd_TC_16 : True := by
  (k_with "eval Lambda" =>
    ((k_here; k_dflt (refine eval_lambda rfl (show_me0 ?_)))))
  trivial
theorem wd_TC_17 : True := by
  (k_with "truthy str" =>
    (((have hMk : MarkG := by assumption); clear hMk; k_here; k_dflt (refine truthy_ne (by rw [mkS_len]; simp only [List.length_cons, List.length_nil]; omega) (by rw [mkS_len]; simp only [List.length_cons, List.length_nil]; omega) ?_))))
  trivial
theorem sub0 {a : Nat} {l : List Nat} : (mkS (a :: l)).cps[0]? = some a := by simp
theorem wd_TC_18 : True := by
  (k_with "subscriptTail Name Constant str int" =>
    (((have hMk : MarkG := by assumption); clear hMk; k_here; (with_reducible show wpAny _ _ (subscriptTail _ _ (Value.str _ _) (Value.int 0 _)) _ _ _); k_dflt (refine' str_sub_at (k := 0) ?qzhi ?qzhl ?qzhc ?_; (case qzhi => rfl); (case qzhl => rw [mkS_len]; simp only [List.length_cons, List.length_nil]; omega); (case qzhc => exact sub0)))))
  trivial
theorem in_two_f {prog : Program} {w : World} {A : Around} {E : Value → Shared → Prop} {s : Shared} {T : Addr} {x y : Str} {a b c : Nat} {t₁ t₂ u : Tok} {Q : Value → Shared → Prop} (ht : IsTup s.heap T #[.str x t₁, .str y t₂]) (hx : x = ⟨#[a]⟩) (hy : y = ⟨#[b]⟩) (h1 : c ≠ a) (h2 : c ≠ b) (h : Q (.bool false) s) :
    wpAny (model prog w) A (compareOp .In (.str ⟨#[c]⟩ u) (.ref T)) Q E s := by
  refine in_tuple_strs ht (.cons x t₁ (.cons y t₂ .nil)) ?_
  subst hx hy
  rw [List.any_cons, List.any_cons, List.any_nil, sg_beq, sg_beq, beq_false_of_ne (Ne.symm h1), beq_false_of_ne (Ne.symm h2)]
  exact h
theorem wd_TC_19 : True := by
  (k_with "compareOp In str ref" =>
    (((have hMk : MarkG := by assumption); clear hMk; k_here; k_dflt (refine' in_two_f ?qzk1 ?qzhx ?qzhy ?qzh1 ?qzh2 ?_; (case qzk1 => exact News.isTup (by k_asm) (by k_mem)); (case qzhx => with_reducible exact s_94); (case qzhy => with_reducible exact s_91); (case qzh1 => first | assumption | decide); (case qzh2 => first | assumption | decide)))))
  trivial
theorem brk (l : List Nat) : Str.empty ++ Str.ofString "[" ++ mkS l ++ Str.ofString "]" = mkS (91 :: (l ++ [93])) := by
  apply str_ext
  rw [app_cps, app_cps, app_cps]
  rw [show (Str.ofString "[").cps.toList = [91] by decide +kernel, show (Str.ofString "]").cps.toList = [93] by decide +kernel, show Str.empty.cps.toList = [] from rfl]
  simp
theorem ein_one : ∀ c ∈ one63, (!(!(Builtin.Str.occurrences (mkS [c]) (Str.ofString "-") 0 (mkS [c]).length 1).isEmpty)) = true := by decide +kernel
theorem erp_one : ∀ c ∈ one63, (Txt.replace (mkS [c]) (Str.ofString "\\") (Str.ofString "\\\\")) = (mkS [c]) := by decide +kernel
theorem ntw_one : ∀ c ∈ one63, NoTwin [c] := fun c hc => by
  have : ∀ c ∈ one63, [c] ∈ ([[63], [112], [99], [100], [98], [108], [115]] : List (List Nat)) := by decide
  exact noTwin_ok _ (List.mem_append_left (bs := [[92, 45], [114, 92, 45], [119, 92, 45], [120, 92, 45], [83, 92, 45], [84, 92, 45], [92, 45, 114], [92, 45, 119], [92, 45, 120], [92, 45, 83], [92, 45, 84], [84, 116], [116, 84], [83, 115], [115, 83], [120, 116], [116, 120], [120, 115], [115, 120]]) (this c hc))
theorem ein_two : ∀ x ∈ two84, (!(!(Builtin.Str.occurrences (mkS [x.1, x.2]) (Str.ofString "-") 0 (mkS [x.1, x.2]).length 1).isEmpty)) = true := by decide +kernel
theorem erp_two : ∀ x ∈ two84, (Txt.replace (mkS [x.1, x.2]) (Str.ofString "\\") (Str.ofString "\\\\")) = (mkS [x.1, x.2]) := by decide +kernel
theorem ntw_two : ∀ x ∈ two84, NoTwin [x.1, x.2] := fun x hx => by
  have : ∀ x ∈ two84, [x.1, x.2] ∈ ([[84, 116], [116, 84], [83, 115], [115, 83], [120, 116], [116, 120], [120, 115], [115, 120]] : List (List Nat)) := by decide
  exact noTwin_ok _ (List.mem_append_right [[63], [112], [99], [100], [98], [108], [115], [92, 45], [114, 92, 45], [119, 92, 45], [120, 92, 45], [83, 92, 45], [84, 92, 45], [92, 45, 114], [92, 45, 119], [92, 45, 120], [92, 45, 83], [92, 45, 84]] (this x hx))
theorem find4_z {prog : Program} {w : World} {A : Around} {E : Value → Shared → Prop} {s : Shared} {x y : Str} {t u v z : Tok} {i j r : Int} {Q : Value → Shared → Prop} (hr : EqI (find4 x y i j) r) (h : Q (.int r s.toks) { s with toks := s.toks + 1 }) :
    wpAny (model prog w) A (call (.builtin "str.find") [.str x t, .str y u, .int i v, .int j z]) Q E s := call_find4 hr h
theorem wd_TC_20 : True := by
  (k_with "call builtin:str.find" =>
    (((have hMk : MarkG := by assumption); clear hMk; k_here; k_dflt (refine find4_z (by with_reducible assumption) ?_))))
  trivial
theorem ntw_dash : NoTwin [92, 45] := noTwin_ok _ (by decide)
theorem ntw_end : ∀ a ∈ pre114, NoTwin [a, 92, 45] := fun a ha => by
  have : ∀ a ∈ pre114, [a, 92, 45] ∈ ([[114, 92, 45], [119, 92, 45], [120, 92, 45], [83, 92, 45], [84, 92, 45]] : List (List Nat)) := by decide
  exact noTwin_ok _ (List.mem_append_right [[63], [112], [99], [100], [98], [108], [115], [92, 45]] (List.mem_append_left (bs := [[92, 45, 114], [92, 45, 119], [92, 45, 120], [92, 45, 83], [92, 45, 84], [84, 116], [116, 84], [83, 115], [115, 83], [120, 116], [116, 120], [120, 115], [115, 120]]) (this a ha)))
theorem ntw_head : ∀ a ∈ pre114, NoTwin [92, 45, a] := fun a ha => by
  have : ∀ a ∈ pre114, [92, 45, a] ∈ ([[92, 45, 114], [92, 45, 119], [92, 45, 120], [92, 45, 83], [92, 45, 84]] : List (List Nat)) := by decide
  exact noTwin_ok _ (List.mem_append_right [[63], [112], [99], [100], [98], [108], [115], [92, 45], [114, 92, 45], [119, 92, 45], [120, 92, 45], [83, 92, 45], [84, 92, 45]] (List.mem_append_left (bs := [[84, 116], [116, 84], [83, 115], [115, 83], [120, 116], [116, 120], [120, 115], [115, 120]]) (this a ha)))
theorem ein_head : ∀ b ∈ pre114, (!(!(Builtin.Str.occurrences (mkS [45, b]) (Str.ofString "-") 0 (mkS [45, b]).length 1).isEmpty)) = false := by decide +kernel
theorem eo_head : ∀ b ∈ pre114, (Builtin.Str.occurrences (mkS [45, b]) (Str.ofString "\\") 0 (mkS [45, b]).length ((mkS [45, b]).length + 1)).isEmpty = true := by decide +kernel
theorem er_head : ∀ b ∈ pre114, (Txt.replace (mkS [45, b]) (Str.ofString "-") (Str.ofString "\\-")) = (mkS [92, 45, b]) := by decide +kernel
theorem ein_end : ∀ b ∈ pre114, (!(!(Builtin.Str.occurrences (mkS [b, 45]) (Str.ofString "-") 0 (mkS [b, 45]).length 1).isEmpty)) = false := by decide +kernel
theorem eo_end : ∀ b ∈ pre114, (Builtin.Str.occurrences (mkS [b, 45]) (Str.ofString "\\") 0 (mkS [b, 45]).length ((mkS [b, 45]).length + 1)).isEmpty = true := by decide +kernel
theorem er_end : ∀ b ∈ pre114, (Txt.replace (mkS [b, 45]) (Str.ofString "-") (Str.ofString "\\-")) = (mkS [b, 92, 45]) := by decide +kernel
theorem truthy_nil {prog : Program} {w : World} {A : Around} {E : Value → Shared → Prop} {s : Shared} {t : Tok} {Q : Bool → Shared → Prop} (h : Q false { s with toks := s.toks + 1 + 1 }) : wpAny (model prog w) A (PySem.truthy (.str (mkS []) t)) Q E s :=
  PySem.P.truthy_str (by decide) h
theorem wd_TC_21 : True := by
  (k_with "truthy str" =>
    (((have hMk : MarkG := by assumption); clear hMk; k_here; (with_reducible refine truthy_nil ?_))))
  trivial
theorem iadd_dash {prog : Program} {w : World} {A : Around} {E : Value → Shared → Prop} {s : Shared} {a : Nat} {t u : Tok} {Q : Value → Shared → Prop} (h : ∀ t' k, Q (.str (mkS [a, 45]) t') { s with toks := k }) :
    wpAny (model prog w) A (inplaceOp .Add (.str (mkS [a]) t) (.str (Str.ofString "-") u)) Q E s := by
  have e : mkS [a] ++ Str.ofString "-" = mkS [a, 45] := by
    apply str_ext
    rw [app_cps, show (Str.ofString "-").cps.toList = [45] by decide +kernel]
    simp
  refine PyProof.Rows.iadd_str (fun t' k => ?_) (by rw [mkS_len, show (Str.ofString "-").length = 1 by decide +kernel, sizeLine_eq]; simp)
  rw [e]; exact h t' k
theorem wd_TC_22 : True := by
  (k_with "inplaceOp Add str str" =>
    (((have hMk : MarkG := by assumption); clear hMk; k_here; (with_reducible refine iadd_dash ?_); intro _ _)))
  trivial
theorem wd_TC_23 : True := by
  (k_with "eval JoinedStr" =>
    (((have hMk : MarkG := by assumption); clear hMk; k_here; (refine show_me0 ?_))))
  trivial
theorem look {m m' : Str → Option Value} {x : Str} {v : Value} (hm : m' = m) (h : m x = some v) : m' x = some v := by rw [hm]; exact h

/-- the inside of a bracket, and what _translate makes of it -/
def BrOk (cs out : List Nat) : Prop := (∃ c ∈ one63, cs = [c] ∧ out = [c]) ∨ (∃ a b, (a, b) ∈ two84 ∧ cs = [a, b] ∧ out = [a, b]) ∨ (cs = [45] ∧ out = [92, 45]) ∨ (∃ a ∈ pre114, cs = [a, 45] ∧ out = [a, 92, 45]) ∨ (∃ b ∈ pre114, cs = [45, b] ∧ out = [92, 45, b])
theorem br_of {x : List Nat} (h : (∃ c ∈ one63, x = [91, c, 93]) ∨ (∃ a b, (a, b) ∈ two84 ∧ x = [91, a, b, 93]) ∨ (x = [91, 45, 93]) ∨ (∃ a ∈ pre114, x = [91, a, 45, 93]) ∨ (∃ b ∈ pre114, x = [91, 45, b, 93])) : ∃ cs out, BrOk cs out ∧ x = 91 :: (cs ++ [93]) := by
  rcases h with ⟨c, hc, rfl⟩ | ⟨a, b, hc, rfl⟩ | rfl | ⟨a, hc, rfl⟩ | ⟨b, hc, rfl⟩
  · exact ⟨_, _, .inl ⟨c, hc, rfl, rfl⟩, rfl⟩
  · exact ⟨_, _, .inr (.inl ⟨a, b, hc, rfl, rfl⟩), rfl⟩
  · exact ⟨_, _, .inr (.inr (.inl ⟨rfl, rfl⟩)), rfl⟩
  · exact ⟨_, _, .inr (.inr (.inr (.inl ⟨a, hc, rfl, rfl⟩))), rfl⟩
  · exact ⟨_, _, .inr (.inr (.inr (.inr ⟨b, hc, rfl, rfl⟩))), rfl⟩
def insC : List Nat := [45, 63, 112, 99, 100, 98, 108, 115, 84, 116, 83, 120, 114, 119]
theorem br_ins {cs out : List Nat} (h : BrOk cs out) : ∃ f r, cs = f :: r ∧ r.length ≤ 1 ∧ ∀ c ∈ cs, c ∈ insC := by
  have k1 : ∀ c ∈ one63, c ∈ insC := by decide
  have k2 : ∀ x ∈ two84, x.1 ∈ insC ∧ x.2 ∈ insC := by decide
  have k3 : ∀ c ∈ pre114, c ∈ insC := by decide
  have k4 : 45 ∈ insC := by decide
  rcases h with ⟨c, hc, rfl, rfl⟩ | ⟨a, b, hc, rfl, rfl⟩ | ⟨rfl, rfl⟩ | ⟨a, hc, rfl, rfl⟩ | ⟨b, hc, rfl, rfl⟩
  · exact ⟨_, _, rfl, by simp, by simpa using k1 c hc⟩
  · exact ⟨_, _, rfl, by simp, by simpa using k2 _ hc⟩
  · exact ⟨_, _, rfl, by simp, by simpa using k4⟩
  · exact ⟨_, _, rfl, by simp, by simpa using ⟨k3 a hc, k4⟩⟩
  · exact ⟨_, _, rfl, by simp, by simpa using ⟨k4, k3 b hc⟩⟩
theorem br_piece {cs out : List Nat} (h : BrOk cs out) : PieceOk (91 :: (cs ++ [93])) (91 :: (out ++ [93])) := by
  rcases h with ⟨c, hc, rfl, rfl⟩ | ⟨a, b, hc, rfl, rfl⟩ | ⟨rfl, rfl⟩ | ⟨a, hc, rfl, rfl⟩ | ⟨b, hc, rfl, rfl⟩
  · exact .one c hc
  · exact .two a b hc
  · exact .dash
  · exact .atEnd a hc
  · exact .atHead b hc
theorem br_out {cs out : List Nat} (h : BrOk cs out) : ∃ o r, out = o :: r ∧ r.length ≤ 2 ∧ o ≠ 33 ∧ o ≠ 94 ∧ o ≠ 91 ∧ NoTwin (o :: r) ∧ EqB (mkS (o :: r) == Str.ofString "!") false := by
  have one : ∀ c, c ≠ 33 → EqB (mkS [c] == Str.ofString "!") false := fun c hc => by
    unfold EqB; rw [s_33, show ((mkS [c] : Str) == ⟨#[33]⟩) = (c == 33) from sg_beq c 33]; exact beq_false_of_ne hc
  have two : ∀ a b l, EqB (mkS (a :: b :: l) == Str.ofString "!") false := fun a b l => by
    unfold EqB; rw [s_33]; exact beq_false_of_ne fun e => by have := congrArg Str.length e; simp [Str.length] at this
  have n1 : ∀ c ∈ insC, c ≠ 33 ∧ c ≠ 94 ∧ c ≠ 91 := by decide
  have k1 : ∀ c ∈ one63, c ∈ insC := by decide
  have k2 : ∀ x ∈ two84, x.1 ∈ insC := by decide
  have k3 : ∀ c ∈ pre114, c ∈ insC := by decide
  have d1 : (92 : Nat) ≠ 33 ∧ (92 : Nat) ≠ 94 ∧ (92 : Nat) ≠ 91 := by decide
  rcases h with ⟨c, hc, rfl, rfl⟩ | ⟨a, b, hc, rfl, rfl⟩ | ⟨rfl, rfl⟩ | ⟨a, hc, rfl, rfl⟩ | ⟨b, hc, rfl, rfl⟩
  · have h := n1 c (k1 c hc)
    exact ⟨c, [], rfl, by simp, h.1, h.2.1, h.2.2, ntw_one c hc, one c h.1⟩
  · have h := n1 a (k2 _ hc)
    exact ⟨a, [b], rfl, by simp, h.1, h.2.1, h.2.2, ntw_two (a, b) hc, two _ _ _⟩
  · exact ⟨92, [45], rfl, by simp, d1.1, d1.2.1, d1.2.2, ntw_dash, two _ _ _⟩
  · have h := n1 a (k3 a hc)
    exact ⟨a, [92, 45], rfl, by simp, h.1, h.2.1, h.2.2, ntw_end a hc, two _ _ _⟩
  · exact ⟨92, [45, b], rfl, by simp, d1.1, d1.2.1, d1.2.2, ntw_head b hc, two _ _ _⟩
theorem br_way {f : Nat} {r out : List Nat} (h : BrOk (f :: r) out) :
    (out = f :: r ∧ EqB (!(!(Builtin.Str.occurrences (mkS (f :: r)) (Str.ofString "-") 0 (mkS (f :: r)).length 1).isEmpty)) true ∧ EqS (Txt.replace (mkS (f :: r)) (Str.ofString "\\") (Str.ofString "\\\\")) (mkS (f :: r))) ∨
    (f = 45 ∧ out = 92 :: 45 :: r ∧ (∀ c ∈ r, c ≠ 45) ∧ EqB (!(!(Builtin.Str.occurrences (mkS (f :: r)) (Str.ofString "-") 0 (mkS (f :: r)).length 1).isEmpty)) false ∧
      (Builtin.Str.occurrences (mkS (f :: r)) (Str.ofString "\\") 0 (mkS (f :: r)).length ((mkS (f :: r)).length + 1)).isEmpty = true ∧ Txt.replace (mkS (f :: r)) (Str.ofString "-") (Str.ofString "\\-") = mkS (92 :: 45 :: r)) ∨
    (f ∈ pre114 ∧ r = [45] ∧ out = [f, 92, 45]) := by
  have n45 : ∀ b ∈ pre114, b ≠ 45 := by decide
  rcases h with ⟨c, hc, e, rfl⟩ | ⟨a, b, hc, e, rfl⟩ | ⟨e, rfl⟩ | ⟨a, hc, e, rfl⟩ | ⟨b, hc, e, rfl⟩
  · obtain ⟨h1, h2⟩ := List.cons.inj e
    subst h1 h2; exact .inl ⟨rfl, ein_one _ hc, erp_one _ hc⟩
  · obtain ⟨h1, h2⟩ := List.cons.inj e
    subst h1 h2; exact .inl ⟨rfl, ein_two (f, b) hc, erp_two (f, b) hc⟩
  · obtain ⟨h1, h2⟩ := List.cons.inj e
    subst h1 h2; exact .inr (.inl ⟨rfl, rfl, (fun c h => by cases h), (by unfold EqB; decide +kernel), (by decide +kernel), (by decide +kernel)⟩)
  · obtain ⟨h1, h2⟩ := List.cons.inj e
    subst h1 h2; exact .inr (.inr ⟨hc, rfl, rfl⟩)
  · obtain ⟨h1, h2⟩ := List.cons.inj e
    subst h1 h2; exact .inr (.inl ⟨rfl, rfl, (fun c h => by rw [List.mem_singleton.mp h]; exact n45 b hc), ein_head b hc, eo_head b hc, er_head b hc⟩)
def MarkJ : Prop := True
theorem wd_TC_24 : True := by
  (k_with "exec If" =>
    (((have hMk : MarkJ := by assumption); clear hMk; (refine show_me0 ?_))))
  trivial
/-- where the ways of a bracket meet: its inside is made -/
def JB (P : Str) (S rl q L : Addr) (t : Tok) (its : Array Value) (ep : Nat) (tabs : List (Addr × Obj)) (g : Heap) (out : List Nat) (j : Int) (s s' : Shared) : Prop :=
  ∃ (h' : Heap) (tk' : Nat) (gs' : Array GenState) (m' : Str → Option Value) (tabs' : List (Addr × Obj)) (tu tj tn : Tok), s' = { s with heap := h', toks := tk', gens := gs' } ∧ (AllBare s.gens → AllBare gs') ∧ Fr g L h' m' ∧
    News g L h' ((q, boundApp rl) :: (rl, PySem.W.listOf its ep) :: tabs') ∧ TabsAt tabs tabs' L rl q ∧ m' (Str.ofString "stuff") = some (.str (mkS out) tu) ∧ m' (Str.ofString "j") = some (.int j tj) ∧
    m' (Str.ofString "pat") = some (.str P t) ∧ m' (Str.ofString "STAR") = some (.ref S) ∧ m' (Str.ofString "res") = some (.ref rl) ∧ m' (Str.ofString "add") = some (.ref q) ∧ m' (Str.ofString "n") = some (.int (P.length : Int) tn)
theorem if_join {M : Model} {A : Around} {T : Sem Flow} {K : Flow → Shared → Prop} {E : Value → Shared → Prop} {s : Shared} (J : Shared → Shared → Prop) (ev : wpAny M A T (fun f s' => f = .next ∧ J s s') E s) (cont : ∀ s', J s s' → K .next s') : wpAny M A T K E s :=
  wpAny_mono ev (fun f s' ⟨h1, h2⟩ => by subst h1; exact cont s' h2) fun _ _ e => e
set_option maxHeartbeats 40000000 in
theorem c_translate_ {w : World} {S : Addr} {P : Str} {ts : List (List Nat)} {t tq : Tok} (hP : P.length ≤ 100) (hn : ts.length ≤ 100) (hts : P.cps.toList = ts.flatten) (hok : ∀ x ∈ ts, (∃ c, isSign c ∧ x = [c]) ∨ (∃ c ∈ one63, x = [91, c, 93]) ∨ (∃ a b, (a, b) ∈ two84 ∧ x = [91, a, b, 93]) ∨ (x = [91, 45, 93]) ∨ (∃ a ∈ pre114, x = [91, a, 45, 93]) ∨ (∃ b ∈ pre114, x = [91, 45, b, 93])) : CtrG w 104 20 200 [.str P t, .ref S, .str ⟨#[46]⟩ tq] (fun _ _ => True) (fun g h v => ∃ l vs ep, v = .ref l ∧ g.objs.size ≤ l ∧ h.get? l = some (PySem.W.listOf vs ep) ∧ ToksOk ts vs.toList) := by
  k_dflt (refine' ctr_plainG (binds := [(Str.ofString "pat", .str P t), (Str.ofString "STAR", .ref S), (Str.ofString "QUESTION_MARK", .str ⟨#[46]⟩ tq)]) ?k6 ?k7 ?k1 ?k9 ?kB ?c2 ?c3 ?c4 ?c5 ?_; (case k6 => k_is); (case k7 => k_is); (case k1 => decide); (case k9 => intro s; exact BindsTo.of_eq rfl); (case kB => exact locs rfl); (case c2 => exact rfl); (case c3 => exact rfl); (case c4 => exact rfl); (case c5 => decide))
  intro p loose mean mg mb dp un gd outer A₀ base g₀ g L tabs s Q hd hu hL st F NN TL B X T hpre hret
  try dsimp only [List.reverse_cons, List.reverse_nil, List.nil_append, List.cons_append] at F
  have hP10 : P.length ≤ 10000 := Nat.le_trans hP (by decide)
  k_steps
  refine .inl ?_
  refine exec_while ?_
  rename_i rl h₁ lrl lL h₂ tk₁ q h₃ lq h₄ D' h₅ lD h₆ h₇ h₈ F₈ N₈
  have z1 := ltN lq.1
  refine while_indG (s := { s with heap := h₈, toks := tk }) ts.length (JT S P ts t tq rl q L tabs)
    ?step ?fin ts.length 0 _ _ s.gens _ _ rfl (Nat.zero_le _) (fun x => x) ?J0 F₈ (fun p hp => N₈ p (.tail _ hp))
  case J0 =>
    refine ⟨0, _, _, rfl, rfl, rfl, rfl, rfl, rfl, by simp, _, _, tabs, rfl, by simpa using ToksOk.nil, TL, fun p hp => .inl (List.mem_map_of_mem hp), fun p hp => ?_⟩
    exact ⟨allLt_ne lq.2 p hp, Nat.ne_of_lt (lrl p hp)⟩
  case step =>
    rintro k m rest h' tk' gs hgb hk ⟨i, ti, tn, j1, j2, j3, j4, j5, j6, hi, its, ep, tabs', rfl, hto, hTA⟩ F₉ N₉
    change Fr g L h' _ at F₉
    change News g L h' _ at N₉
    have hz : its.size ≤ sizeLine := by
      have := hto.len
      rw [List.length_take] at this
      rw [sizeLine_eq]; simp at this; omega
    clear F₈ N₈
    have hC : CodeHd g 103 99 := codeHd_of_K X (by kernel_rfl)
    have hown : ∀ p ∈ [(q, boundApp rl), (rl, PySem.W.listOf its ep)], ∀ r ∈ tabs', r.1 ≠ p.1 := fun p hp r hr => by
      rcases List.mem_cons.mp hp with rfl | hp
      · exact (hTA.2.2 r hr).1
      · rcases List.mem_cons.mp hp with rfl | hp
        · exact (hTA.2.2 r hr).2
        · cases hp
    have hnr' : ∀ p ∈ tabs', p.1 ≠ rl := fun p hp => (hTA.2.2 p hp).2
    rcases hok ts[k] (List.getElem_mem hk) with ⟨c, hc, htk⟩ | hbr
    · have hPc : TokAt P i [c] := by rw [hi, ← htk]; exact tokAt_of hts hk
      have hin : i < P.length := (Array.getElem?_eq_some_iff.mp (hPc.at 0 c rfl)).1
      have mkg : MarkG := trivial
      have hc' : c ∈ [114, 119, 120, 115, 83, 116, 84, 45] := hc
      have nc42 : c ≠ 42 := by rintro rfl; revert hc'; decide
      have nc63 : c ≠ 63 := by rintro rfl; revert hc'; decide
      have nc91 : c ≠ 91 := by rintro rfl; revert hc'; decide
      k_steps
      rename Fr _ _ _ _ => F₁₀
      rename News _ _ _ _ => N₁₀
      refine use_leaf (c_escape (c := c) hc') B F₁₀ X N₁₀ T rfl (by omega) (by omega) trivial ?_
      rintro v h₁₁ tk₁₁ F₁₁ N₁₁ _ ⟨u, rfl⟩
      clear F₁₀ N₁₀
      have hApp : AppAt q rl h₁₁ := (N₁₁ _ (.head _)).1
      k_steps
      any_goals exact hApp
      rename Fr _ _ _ _ => F₁₂
      rename News _ _ _ _ => N₁₂
      exact turn_end hgb F₁₂ N₁₂ rfl rfl j1 j2 j3 j4 j6 hk htk hi hto ⟨_, _, .sign c hc, congrArg (fun x => Value.str x _) (of_mkS _)⟩ hTA
    · obtain ⟨cs, out, hbo, htk⟩ := br_of hbr
      clear hbr
      obtain ⟨f, r, rfl, hrl, hcs⟩ := br_ins hbo
      have hPc : TokAt P i (91 :: ((f :: r) ++ [93])) := by rw [hi, ← htk]; exact tokAt_of hts hk
      have hPi : TokAt P (i + 1) ((f :: r) ++ [93]) := tokAt_sub (a := [91]) (c := []) (by simpa using hPc)
      have hin : i + (r.length + 1) + 1 < P.length := (Array.getElem?_eq_some_iff.mp (hPc.at (r.length + 2) 93 (by simp))).1
      have hns : ∀ c ∈ f :: r, c ≠ 93 := fun c hc e => by have := hcs c hc; rw [e] at this; revert this; decide
      have nf33 : f ≠ 33 := fun e => by have := hcs f (.head _); rw [e] at this; revert this; decide
      have nf93 : f ≠ 93 := hns f (.head _)
      have es : EqS (Txt.slice P (some ((i : Int) + 1)) (some ((i : Int) + 1 + ((r.length + 1 : Nat) : Int)))) (mkS (f :: r)) := by
        have := tok_slice hPc (a := 1) (b := r.length + 2) (by omega) (by simp) (by simp; omega) (x := (i : Int) + 1) (y := (i : Int) + 1 + ((r.length + 1 : Nat) : Int)) (by omega) (by push_cast; omega)
        unfold EqS; simpa using this
      have mkg : MarkG := trivial
      replace hPc : TokAt P i [91, f] := ⟨fun d x hx => hPc.at d x (by
        have hd := (List.getElem?_eq_some_iff.mp hx).1
        have : d = 0 ∨ d = 1 := by simp at hd; omega
        rcases this with rfl | rfl <;> exact hx)⟩
      k_steps
      refine .inl ?_
      refine exec_while ?_
      rename Fr _ _ _ _ => F₁
      rename News _ _ _ _ => N₁
      refine while_ind (s := { s with gens := gs }) (r.length + 1) (fun e m' rest => ∃ (ti tj tn : Tok), m' (Str.ofString "pat") = some (.str P t) ∧ m' (Str.ofString "STAR") = some (.ref S) ∧ m' (Str.ofString "res") = some (.ref rl) ∧ m' (Str.ofString "add") = some (.ref q) ∧
          m' (Str.ofString "i") = some (.int ((i : Int) + 1) ti) ∧ m' (Str.ofString "n") = some (.int (P.length : Int) tn) ∧ m' (Str.ofString "j") = some (.int ((i : Int) + 1 + (e : Int)) tj) ∧ rest = (q, boundApp rl) :: (rl, PySem.W.listOf its ep) :: tabs')
        ?istep ?ifin (r.length + 1) 0 _ _ _ _ rfl (Nat.zero_le _) ?iJ0 F₁ N₁
      case iJ0 => exact ⟨_, _, _, j1, j2, j3, j4, rfl, j6, rfl, rfl⟩
      case istep =>
        rintro e m' rest h' tk' he ⟨ti', tj, tn', j1, j2, j3, j4, j5, j6, j7, rfl⟩ F₉ N₉
        change Fr g L h' _ at F₉
        change News g L h' _ at N₉
        clear F₁ N₁ hPc
        have hPe : TokAt P (i + 1 + e) [(f :: r)[e]] := by
          have h1 : (f :: r) ++ [93] = (f :: r).take e ++ ([(f :: r)[e]] ++ ((f :: r).drop (e + 1) ++ [93])) := by
            conv => lhs; rw [← List.take_append_drop e (f :: r), List.drop_eq_getElem_cons (by simpa using he)]
            simp only [List.append_assoc, List.cons_append, List.nil_append]
          rw [h1] at hPi
          have := tokAt_sub hPi
          rwa [List.length_take, Nat.min_eq_left (by simp; omega)] at this
        have hx := hns _ (List.getElem_mem (l := f :: r) (n := e) (by simpa using he))
        generalize (f :: r)[e] = x at hPe hx
        clear hPi hns hcs
        k_steps
        rename Fr _ _ _ _ => F₂
        rename News _ _ _ _ => N₂
        exact ⟨_, _, _, _, rfl, F₂, N₂, fun p hp h => by simp at h, _, _, _, j1, j2, j3, j4, j5, j6, by (show some (Value.int ((i : Int) + 1 + (e : Int) + 1) _) = _); rw [Int.add_assoc ((i : Int) + 1)]; rfl, rfl⟩
      case ifin =>
        rintro m' rest h' tk' ⟨ti', tj, tn', j1, j2, j3, j4, j5, j6, j7, rfl⟩ F₉ N₉
        change Fr g L h' _ at F₉
        change News g L h' _ at N₉
        clear F₁ N₁
        have hPe : TokAt P (i + 1 + (r.length + 1)) [93] := tokAt_sub (a := f :: r) (b := [93]) (c := []) (by simpa using hPi)
        have mkj : MarkJ := trivial
        k_steps
        refine .inl ?_
        clear mkj hns
        walk1
        have mkj : MarkJ := trivial
        k_steps
        refine .inl ?_
        clear mkj
        rename Fr _ _ _ _ => F₂
        rename News _ _ _ _ => N₂
        refine if_join (JB P S rl q L t its ep tabs g out ((i : Int) + 1 + ((r.length + 1 : Nat) : Int))) ?ev ?cont
        case ev =>
          rcases br_way hbo with ⟨rfl, ein, erp⟩ | ⟨rfl, rfl, hr45, ein, eo1, er2⟩ | ⟨ha, rfl, rfl⟩
          · clear hbo hPe hPi hcs
            k_steps
            rename Fr _ _ _ _ => F₃
            rename News _ _ _ _ => N₃
            exact ⟨_, _, _, _, tabs', _, _, _, rfl, fun x => x, F₃, N₃, hTA, rfl, j7, j1, j2, j3, j4, j6⟩
          · clear htk
            have ef : EqI (find4 P (Str.ofString "-") ((i : Int) + 1 + 1) ((i : Int) + 1 + ((r.length + 1 : Nat) : Int))) (-1) := by
              show find4 _ _ _ _ = _
              rw [show Str.ofString "-" = ⟨#[45]⟩ by decide +kernel]
              refine mod_cast find4_none (x := P) (c := 45) (lo := i + 1 + 1) (hi := i + 1 + (r.length + 1)) (fun n h1 h2 => ?_) (by omega)
              obtain ⟨d, rfl⟩ : ∃ d, n = i + 1 + (d + 1) := ⟨n - (i + 2), by omega⟩
              have hd : d < r.length := by omega
              rw [Array.getElem?_toList, hPi.at (d + 1) r[d] (by simp [List.getElem?_append_left hd])]
              exact fun e => hr45 _ (List.getElem_mem hd) (Option.some.inj e)
            clear hbo hPe hPi hcs hr45
            k_steps
            refine .inl ?_
            rename Fr _ _ _ _ => Fo1
            obtain ⟨m1, hm1, Fa1⟩ : ∃ m1, m1 = _ ∧ Fr g L _ m1 := ⟨_, rfl, Fo1⟩
            clear Fo1
            have j1a := look hm1 (x := Str.ofString "pat") j1
            have j2a := look hm1 (x := Str.ofString "STAR") j2
            have j3a := look hm1 (x := Str.ofString "res") j3
            have j4a := look hm1 (x := Str.ofString "add") j4
            have j6a := look hm1 (x := Str.ofString "n") j6
            have ei1 := look hm1 (x := Str.ofString "i") j5
            have ej1 := look hm1 (x := Str.ofString "j") j7
            have ek1 := look hm1 (x := Str.ofString "k") rfl
            have echunks1 := look hm1 (x := Str.ofString "chunks") rfl
            clear hm1
            refine exec_while (while_turn ?_)
            k_steps
            rename Fr _ _ _ _ => Fo2
            obtain ⟨m2, hm2, Fa2⟩ : ∃ m2, m2 = _ ∧ Fr g L _ m2 := ⟨_, rfl, Fo2⟩
            clear Fo2
            have j1b := look hm2 (x := Str.ofString "pat") j1a
            have j2b := look hm2 (x := Str.ofString "STAR") j2a
            have j3b := look hm2 (x := Str.ofString "res") j3a
            have j4b := look hm2 (x := Str.ofString "add") j4a
            have j6b := look hm2 (x := Str.ofString "n") j6a
            have ej2 := look hm2 (x := Str.ofString "j") ej1
            have echunks2 := look hm2 (x := Str.ofString "chunks") echunks1
            clear hm2
            rename Fr _ _ _ _ => F₂₀
            rename News _ _ _ _ => N₂₀
            refine gen_tabs (own := [_, (q, boundApp rl), (rl, PySem.W.listOf its ep)]) (ep := 1) (items := #[.str (mkS (45 :: r)) _]) (Fv := fun _ v => ∃ u, v = .str (mkS (92 :: 45 :: r)) u) F₂₀ N₂₀ T hC rfl hTA.1 (fun p hp r hr => ?_) (.head _) (by kernel_rfl) rfl rfl rfl (by decide) (by kernel_rfl) (by kernel_rfl) rfl (by show dp < recursionLimit; omega) ?hit ?helt ?hjoin (by intro _; rfl)
            · rcases List.mem_cons.mp hp with rfl | hp
              · exact allLt_ne (by first | assumption | exact And.right (And.right (by assumption))) r hr
              · exact hown p hp r hr
            case hit =>
              intro Q' hQ'
              k_steps
              exact hQ'
            case helt =>
              intro cC code bi A' E' n v s₂ m₂ hA hv hns hm₂
              obtain ⟨tv, rfl⟩ : ∃ tv, v = .str (mkS (45 :: r)) tv := by
                cases n with
                | zero => exact ⟨_, (Option.some.inj hv).symm⟩
                | succ n => simp at hv
              have ne1 : (Builtin.Str.occurrences (mkS (45 :: r)) (Str.ofString "\\") 0 (mkS (45 :: r)).length ((mkS (45 :: r)).length + 1)).isEmpty = true := eo1
              clear F₂₀ N₂₀
              refine methodCall_KW ?_
              refine methodCall_KW ?_
              refine wpAny_Name (wpAny_loadName_local rfl (by kernel_rfl) hns hm₂ ?_)
              refine GM.replace ?_
              refine Calls.callWith_builtin rfl (Calls.evalArgs_plain (Calls.spliced_cons ?_))
              refine wpAny_Constant_str (k := 0) (pos := default) (Calls.spliced_cons (wpAny_Constant_str (k := 0) (pos := default) (Calls.spliced_nil ?_)))
              refine call_repl0 ne1 ?_
              refine GM.replace ?_
              refine Calls.callWith_builtin rfl (Calls.evalArgs_plain (Calls.spliced_cons ?_))
              refine wpAny_Constant_str (k := 0) (pos := default) (Calls.spliced_cons (wpAny_Constant_str (k := 0) (pos := default) (Calls.spliced_nil ?_)))
              refine SC.replaceW (Nat.succ_ne_zero _) (Nat.succ_ne_zero _) (fun e => by simp at e) (by decide +kernel) (by rw [mkS_len]; simp only [List.length_cons, List.length_nil]; omega) (by decide +kernel) ?_
              intro t' k'
              exact ⟨⟨t', by rw [show Txt.replace (mkS (45 :: r)) (Str.ofString "-") (Str.ofString "\\-") = mkS (92 :: 45 :: r) from er2]⟩, _, _, rfl, fun _ _ e => e⟩
            case hjoin =>
              intro ga h₂₁ tk₂₁ gs₂₁ tabs₂ hgs₂ F₂₁ N₂₁ TL₂ hT₂ hG₂
              have hTA₂ := hTA.next TL₂ hT₂ (.tail _ (.head _)) (.tail _ (.tail _ (.head _))) (Nat.le_of_lt lL)
              have hown₂ := own_next (fun p hp r hr => by
                rcases List.mem_cons.mp hp with rfl | hp
                · exact allLt_ne (by first | assumption | exact And.right (And.right (by assumption))) r hr
                · exact hown p hp r hr) hT₂
              clear F₂₀ N₂₀
              k_steps
              refine call_join_gen (y := mkS (92 :: 45 :: r)) hG₂ F₂₁ N₂₁ (fun v hv => hv) (by rw [mkS_len]; simp only [List.length_cons, List.length_nil]; omega) (by decide +kernel) ?_
              intro t₂₂ h₂₂ tk₂₂ gs₂₂ hb₂₂ F₂₂ N₂₂
              clear F₂₁ N₂₁ hG₂
              dsimp only [List.cons_append, List.nil_append] at N₂₂
              k_steps
              rename Fr _ _ _ _ => F₃
              rename News _ _ _ _ => N₃
              exact ⟨_, _, _, _, tabs₂, _, _, _, rfl, fun x => hb₂₂ (x.push hgs₂), F₃, fun p hp => N₃ p (.tail _ hp), hTA₂, rfl, ej2, j1b, j2b, j3b, j4b, j6b⟩
          · clear htk
            have na33 : f ≠ 33 := by rintro rfl; revert ha; decide
            have ein : EqB (!(!(Builtin.Str.occurrences (mkS [f, 45]) (Str.ofString "-") 0 (mkS [f, 45]).length 1).isEmpty)) false := ein_end f ha
            have hP2 : TokAt P (i + 1) [f, 45] := tokAt_sub (a := []) (b := [f, 45]) (c := [93]) hPi
            have es2 : EqS (Txt.slice P (some ((i : Int) + 1)) (some ((i : Int) + 1 + 1))) (mkS [f]) := tok_slice hP2 (a := 0) (b := 1) (by decide) (by simp) (by simp at hin ⊢; omega) (by omega) (by omega)
            have es3 : EqS (Txt.slice P (some ((i : Int) + 1 + 1 + 1)) (some ((i : Int) + 1 + ((([45] : List Nat).length + 1 : Nat) : Int)))) (mkS []) := tok_slice hP2 (a := 2) (b := 2) (by decide) (by simp) (by simp at hin ⊢; omega) (by omega) (by first | omega | (simp; done) | (simp; omega))
            have ef : EqI (find4 P (Str.ofString "-") ((i : Int) + 1 + 1) ((i : Int) + 1 + ((([45] : List Nat).length + 1 : Nat) : Int))) ((i : Int) + 1 + 1) := by
              show find4 _ _ _ _ = _
              rw [show Str.ofString "-" = ⟨#[45]⟩ by decide +kernel]
              refine mod_cast find4_here (x := P) (c := 45) (lo := i + 1 + 1) (hi := i + 1 + (([45] : List Nat).length + 1)) ?_ (by simp) (by simp at hin ⊢; omega)
              rw [Array.getElem?_toList]
              exact hP2.at 1 45 rfl
            have ef2 : EqI (find4 P (Str.ofString "-") ((i : Int) + 1 + 1 + 3) ((i : Int) + 1 + ((([45] : List Nat).length + 1 : Nat) : Int))) (-1) := by
              show find4 _ _ _ _ = _
              rw [show Str.ofString "-" = ⟨#[45]⟩ by decide +kernel]
              exact mod_cast find4_none (x := P) (c := 45) (lo := i + 1 + 1 + 3) (hi := i + 1 + (([45] : List Nat).length + 1)) (fun n h1 h2 => by simp at h2; omega) (by simp at hin ⊢; omega)
            have eo1 := eo_end f ha
            have er2 := er_end f ha
            clear hbo hPe hPi hcs hP2
            k_steps
            refine .inl ?_
            rename Fr _ _ _ _ => Fo1
            obtain ⟨m1, hm1, Fa1⟩ : ∃ m1, m1 = _ ∧ Fr g L _ m1 := ⟨_, rfl, Fo1⟩
            clear Fo1
            have j1a := look hm1 (x := Str.ofString "pat") j1
            have j2a := look hm1 (x := Str.ofString "STAR") j2
            have j3a := look hm1 (x := Str.ofString "res") j3
            have j4a := look hm1 (x := Str.ofString "add") j4
            have j6a := look hm1 (x := Str.ofString "n") j6
            have ei1 := look hm1 (x := Str.ofString "i") j5
            have ej1 := look hm1 (x := Str.ofString "j") j7
            have ek1 := look hm1 (x := Str.ofString "k") rfl
            have echunks1 := look hm1 (x := Str.ofString "chunks") rfl
            clear hm1
            refine exec_while (while_turn ?_)
            k_steps
            refine (while_turn ?_ : codeAny _ _ _ _ _)
            k_steps
            rename Fr _ _ _ _ => Fo2
            obtain ⟨m2, hm2, Fa2⟩ : ∃ m2, m2 = _ ∧ Fr g L _ m2 := ⟨_, rfl, Fo2⟩
            clear Fo2
            have j1b := look hm2 (x := Str.ofString "pat") j1a
            have j2b := look hm2 (x := Str.ofString "STAR") j2a
            have j3b := look hm2 (x := Str.ofString "res") j3a
            have j4b := look hm2 (x := Str.ofString "add") j4a
            have j6b := look hm2 (x := Str.ofString "n") j6a
            have ej2 := look hm2 (x := Str.ofString "j") ej1
            have echunks2 := look hm2 (x := Str.ofString "chunks") echunks1
            clear hm2
            rename Fr _ _ _ _ => F₂₀
            rename News _ _ _ _ => N₂₀
            refine gen_tabs (own := [_, (q, boundApp rl), (rl, PySem.W.listOf its ep)]) (ep := 1) (items := #[.str (mkS [f, 45]) _]) (Fv := fun _ v => ∃ u, v = .str (mkS [f, 92, 45]) u) F₂₀ N₂₀ T hC rfl hTA.1 (fun p hp r hr => ?_) (.head _) (by kernel_rfl) rfl rfl rfl (by decide) (by kernel_rfl) (by kernel_rfl) rfl (by show dp < recursionLimit; omega) ?hit ?helt ?hjoin (by intro _; rfl)
            · rcases List.mem_cons.mp hp with rfl | hp
              · exact allLt_ne (by first | assumption | exact And.right (And.right (by assumption))) r hr
              · exact hown p hp r hr
            case hit =>
              intro Q' hQ'
              k_steps
              exact hQ'
            case helt =>
              intro cC code bi A' E' n v s₂ m₂ hA hv hns hm₂
              obtain ⟨tv, rfl⟩ : ∃ tv, v = .str (mkS [f, 45]) tv := by
                cases n with
                | zero => exact ⟨_, (Option.some.inj hv).symm⟩
                | succ n => simp at hv
              have ne1 : (Builtin.Str.occurrences (mkS [f, 45]) (Str.ofString "\\") 0 (mkS [f, 45]).length ((mkS [f, 45]).length + 1)).isEmpty = true := eo1
              clear F₂₀ N₂₀
              refine methodCall_KW ?_
              refine methodCall_KW ?_
              refine wpAny_Name (wpAny_loadName_local rfl (by kernel_rfl) hns hm₂ ?_)
              refine GM.replace ?_
              refine Calls.callWith_builtin rfl (Calls.evalArgs_plain (Calls.spliced_cons ?_))
              refine wpAny_Constant_str (k := 0) (pos := default) (Calls.spliced_cons (wpAny_Constant_str (k := 0) (pos := default) (Calls.spliced_nil ?_)))
              refine call_repl0 ne1 ?_
              refine GM.replace ?_
              refine Calls.callWith_builtin rfl (Calls.evalArgs_plain (Calls.spliced_cons ?_))
              refine wpAny_Constant_str (k := 0) (pos := default) (Calls.spliced_cons (wpAny_Constant_str (k := 0) (pos := default) (Calls.spliced_nil ?_)))
              refine SC.replaceW (Nat.succ_ne_zero _) (Nat.succ_ne_zero _) (fun e => by simp at e) (by decide +kernel) (by rw [mkS_len]; simp only [List.length_cons, List.length_nil]; omega) (by decide +kernel) ?_
              intro t' k'
              exact ⟨⟨t', by rw [show Txt.replace (mkS [f, 45]) (Str.ofString "-") (Str.ofString "\\-") = mkS [f, 92, 45] from er2]⟩, _, _, rfl, fun _ _ e => e⟩
            case hjoin =>
              intro ga h₂₁ tk₂₁ gs₂₁ tabs₂ hgs₂ F₂₁ N₂₁ TL₂ hT₂ hG₂
              have hTA₂ := hTA.next TL₂ hT₂ (.tail _ (.head _)) (.tail _ (.tail _ (.head _))) (Nat.le_of_lt lL)
              have hown₂ := own_next (fun p hp r hr => by
                rcases List.mem_cons.mp hp with rfl | hp
                · exact allLt_ne (by first | assumption | exact And.right (And.right (by assumption))) r hr
                · exact hown p hp r hr) hT₂
              clear F₂₀ N₂₀
              k_steps
              refine call_join_gen (y := mkS [f, 92, 45]) hG₂ F₂₁ N₂₁ (fun v hv => hv) (by rw [mkS_len]; simp only [List.length_cons, List.length_nil]; omega) (by decide +kernel) ?_
              intro t₂₂ h₂₂ tk₂₂ gs₂₂ hb₂₂ F₂₂ N₂₂
              clear F₂₁ N₂₁ hG₂
              dsimp only [List.cons_append, List.nil_append] at N₂₂
              k_steps
              rename Fr _ _ _ _ => F₃
              rename News _ _ _ _ => N₃
              exact ⟨_, _, _, _, tabs₂, _, _, _, rfl, fun x => hb₂₂ (x.push hgs₂), F₃, fun p hp => N₃ p (.tail _ hp), hTA₂, rfl, ej2, j1b, j2b, j3b, j4b, j6b⟩
        case cont =>
          rintro s' ⟨h₄', tk₄', gs₄, m₄, tabs₄, tu, tj, tn, rfl, hb₄, F₄, N₄, hTA₄, v1, v2, v3, v4, v5, v6, v7⟩
          obtain ⟨o, ro, rfl, hro, no33, no94, no91, hnt, eb⟩ := br_out hbo
          have hPo := br_piece hbo
          have hown₄ : ∀ p ∈ [(q, boundApp rl), (rl, PySem.W.listOf its ep)], ∀ r ∈ tabs₄, r.1 ≠ p.1 := fun p hp r hr => by
            rcases List.mem_cons.mp hp with rfl | hp
            · exact (hTA₄.2.2 r hr).1
            · rcases List.mem_cons.mp hp with rfl | hp
              · exact (hTA₄.2.2 r hr).2
              · cases hp
          clear hbo hPe hPi hcs F₂ N₂ hPc
          k_steps
          refine .inl ?_
          rename Fr _ _ _ _ => F₁₀
          rename News _ _ _ _ => N₁₀
          refine lam_tabs (own := [(q, boundApp rl), (rl, PySem.W.listOf its ep)]) F₁₀ N₁₀ T hC rfl hTA₄.1 hown₄ (by kernel_rfl) rfl ?_
          intro fl fo h₁₁ tk₁₁ tabs₁ hfo F₁₁ N₁₁ TL₁ hT₁
          clear F₁₀ N₁₀
          k_steps
          refine call_sub (P := 78) (C := 77) (l := o :: ro) (F₁₁.keep _ _ (X _ _ (by k_is))) (F₁₁.keep _ _ (X _ _ (by k_is))) (N₁₁ _ (.head _)).1 hfo hnt (by simp) (by simp; omega) ?_
          intro h₁₂ t₁₂ k₁₂ hk₁₂
          have F₁₂ : Fr g L h₁₂ _ := ⟨F₁₁.ns.keeps hk₁₂, fun b o e => hk₁₂ _ _ (F₁₁.keep b o e), F₁₁.above⟩
          have N₁₂ : News g L h₁₂ _ := fun p hp => ⟨hk₁₂ _ _ (N₁₁ p (.tail _ hp)).1, (N₁₁ p (.tail _ hp)).2⟩
          have hTA₁ := hTA₄.next TL₁ hT₁ (.head _) (.tail _ (.head _)) (Nat.le_of_lt lL)
          clear F₁₁ N₁₁
          dsimp only [List.cons_append, List.nil_append] at N₁₂
          have hnr : ∀ p ∈ tabs₁, p.1 ≠ rl := fun p hp => (hTA₁.2.2 p hp).2
          k_steps
          refine .inl ?_
          obtain ⟨Y, hY, hYl⟩ : ∃ Y, Y = mkS (o :: ro) ∧ Y.length ≤ 8 := ⟨_, rfl, by rw [mkS_len]; simp only [List.length_cons, List.length_nil]; omega⟩
          rename Fr _ _ _ _ => F₁₃
          rw [← hY] at F₁₃
          clear mkg
          k_steps
          · rename News _ _ _ _ => N₁₃
            first | exact (N₁₃ _ (.tail _ (.head _))).1 | exact (N₁₃ _ (.tail _ (.tail _ (.head _)))).1
          · rename Fr _ _ _ _ => F₁₃
            rename News _ _ _ _ => N₁₃
            exact turn_end (fun x => hb₄ (hgb x)) F₁₃ (fun p hp => N₁₃ p (.tail _ hp)) rfl (by simp; omega) v3 v4 v5 v6 v7 hk htk hi hto ⟨_, _, hPo, congrArg (fun x => Value.str x _) (by rw [hY]; exact brk (o :: ro))⟩ hTA₁
  case fin =>
    rintro m rest h' tk' gs hgb ⟨i, ti, tn, j1, j2, j3, j4, j5, j6, hi, its, ep, tabs', rfl, hto, hTA⟩ F₉ N₉
    change Fr g L h' _ at F₉
    change News g L h' _ at N₉
    rw [List.take_length] at hi hto
    have hiP : i = P.length := by rw [hi, ← hts]; rfl
    subst hiP
    clear F₈ N₈
    k_steps
    · simp
    · exact hret _ _ _ gs _ tabs' hgb F₉ (fun p hp => N₉ p (.tail _ (.tail _ hp))) hTA.1 hTA.2.1 ⟨rl, its, ep, rfl, Nat.le_trans hL (Nat.le_of_lt lL), (N₉ _ (.tail _ (.head _))).1, hto⟩
end
section
open PySem PySem.W PyProof.Rows PySem.Calls
theorem fresh_SE : True := by (w_top off); k_with_none; trivial
set_option maxRecDepth 100000
set_option maxHeartbeats 4000000
theorem fill_SE : (fun (_ : OpenLaw) (_ : Params → Frag) => True) PySem.Challenge.rw_ik0125_01 hd.heap_1 := by k_fill; trivial
theorem wd_SE_0 : True := by k_with_none; trivial
theorem wd_SE_1 : True := by
  (k_with "exec While Compare cons nil" =>
    ((refine show_me0 ?_)))
  trivial
theorem wd_SE_2 : True := by
  (k_with "exec While" =>
    ((refine show_me0 ?_)))
  trivial
theorem wd_SE_3 : True := by
  (k_with "eval Name" =>
    ((k_here; k_dflt (refine' nameX_L ?qzF ?qzv ?_ ?qza ?qzb; (case qzF => k_asm); (case qza => rfl); (case qzb => rfl); (case qzv => first | exact rfl | assumption); k_whole))))
  trivial
theorem wd_SE_4 : True := by
  (k_with "compareOp NotEq str str" =>
    ((k_here; k_dflt (first | (refine ne_z (by with_reducible assumption) ?_) | (refine' neo_f ?qzhx ?qzhn ?_; (case qzhx => with_reducible exact q_34); (case qzhn => first | assumption | decide)) | (refine' neo_t ?qzhx ?qzhn ?_; (case qzhx => with_reducible exact q_34); (case qzhn => rfl))))))
  trivial
theorem wd_SE_5 : True := by
  (k_with "compareOp Eq str str" =>
    ((k_here; k_dflt (first
  | (refine' eqo_f ?qzhx ?qzhn ?_; (case qzhx => first | with_reducible exact q_33 | with_reducible exact q_39); (case qzhn => first | assumption | decide))
  | (refine' eqo_t ?qzhx ?qzhn ?_; (case qzhx => first | with_reducible exact q_33 | with_reducible exact q_39); (case qzhn => rfl))))))
  trivial
theorem wd_SE_6 : True := by
  (k_with "compareOp In str str" =>
    ((k_here; k_dflt (refine in_z (by with_reducible assumption) ?_))))
  trivial
theorem wd_SE_7 : True := by
  (k_with "subscriptTail Name Name str int" =>
    ((k_here; (with_reducible show wpAny _ _ (subscriptTail _ _ (Value.str _ _) (Value.int _ _)) _ _ _); k_dflt (first | (refine' str_tok (d := 0) ?qzhT ?qzhj ?qzhc ?qzhl ?_; (case qzhT => assumption); (case qzhj => first | rfl | omega); (case qzhc => exact rfl); (case qzhl => first | assumption | omega)) | (refine' str_tok (d := 1) ?qzhT ?qzhj ?qzhc ?qzhl ?_; (case qzhT => assumption); (case qzhj => first | rfl | omega); (case qzhc => exact rfl); (case qzhl => first | assumption | omega))))))
  trivial
theorem wd_SE_8 : True := by
  (k_with "binaryOp Add str str" =>
    ((k_here; k_dflt (refine' add_mk ?qzhx ?qzhy ?qzhl ?_; (case qzhx => with_reducible rfl); (case qzhy => with_reducible rfl); (case qzhl => refine ⟨?_, ?_⟩ <;> ((try simp only [List.length_append, List.length_cons, List.length_nil]) <;> omega))); intro _ _)))
  trivial
inductive SetsOk : List (List Nat) → List Value → Prop
  | nil : SetsOk [] []
  | cons {t : List Nat} {u : Tok} {ts : List (List Nat)} {vs : List Value} : SetsOk ts vs → SetsOk (t :: ts) (.str (mkS (innerOf t)) u :: vs)
theorem SetsOk.snoc {ts : List (List Nat)} {vs : List Value} {t : List Nat} {u : Tok} (h : SetsOk ts vs) : SetsOk (ts ++ [t]) (vs ++ [.str (mkS (innerOf t)) u]) := by
  induction h with
  | nil => exact .cons .nil
  | cons _ ih => exact .cons ih
theorem SetsOk.len {ts : List (List Nat)} {vs : List Value} (h : SetsOk ts vs) : vs.length = ts.length := by
  induction h with
  | nil => rfl
  | cons _ ih => simp [ih]
theorem in_signs : ∀ c ∈ [114, 119, 120, 115, 83, 116, 84], (!(Builtin.Str.occurrences (Str.ofString "rwxsStT") (mkS [c]) 0 (Str.ofString "rwxsStT").length 1).isEmpty) = true := by decide +kernel
theorem in_bar : ∀ c ∈ 92 :: plain13, (!(Builtin.Str.occurrences (Str.ofString "-^") (mkS [c]) 0 (Str.ofString "-^").length 1).isEmpty) = false := by decide +kernel
theorem c_sets {w : World} {Xs : List Nat} {ts ys : List (List Nat)} {t : Tok} (hX : Xs.length ≤ 500) (hps : Pieces ts ys) (hXy : Xs = ys.flatten) (hn : ts.length ≤ 100) :
    CtrL w 193 3 60 [.str (mkS ([40, 63, 115, 58] ++ Xs ++ [41, 92, 90])) t] (fun _ => True) (fun g h v => ∃ l vs ep, v = .ref l ∧ g.objs.size ≤ l ∧ h.get? l = some (PySem.W.listOf vs ep) ∧ SetsOk ts vs.toList) := by
  obtain ⟨y, hy⟩ : ∃ y : Str, y = mkS ([40, 63, 115, 58] ++ Xs ++ [41, 92, 90]) := ⟨_, rfl⟩
  rw [← hy]
  have hy10 : y.length ≤ 10000 := by rw [hy, mkS_len]; simp; omega
  have hyl : y.length = Xs.length + 7 := by rw [hy, mkS_len]; simp
  have b1 : EqB (Txt.slice y none (some 4) != Str.ofString "(?s:") false := by
    unfold EqB
    rw [hy, sl_ns ⟨by decide, by simp; omega⟩, show Str.ofString "(?s:" = mkS [40, 63, 115, 58] by decide +kernel]
    simp
  have b2 : EqB (Txt.slice y (some (-3)) none != Str.ofString ")\\Z") false := by
    unfold EqB
    rw [hy, sl_neg ⟨by decide, by simp; omega⟩, show Str.ofString ")\\Z" = mkS [41, 92, 90] by decide +kernel]
    have : (-3 + ((([40, 63, 115, 58] ++ Xs ++ [41, 92, 90] : List Nat)).length : Int)).toNat = ([40, 63, 115, 58] ++ Xs).length := by simp; omega
    rw [this, List.drop_left]
    simp
  have hys : y.cps.toList = ([40, 63, 115, 58] :: (ys ++ [[41, 92, 90]])).flatten := by rw [hy, hXy]; simp
  k_dflt (refine' ctr_leaf (binds := [(Str.ofString "text", .str y t)]) ?k6 ?k7 ?k1 ?k9 ?kB ?c2 ?c3 ?c4 ?c5 ?_; (case k6 => k_is); (case k7 => k_is); (case k1 => decide); (case k9 => intro s; exact BindsTo.of_eq rfl); (case kB => exact locs rfl); (case c2 => exact rfl); (case c3 => exact rfl); (case c4 => exact rfl); (case c5 => decide))
  intro p loose mean mg mb dp un gd outer A₀ base g L s Q hd hu hL F NN B X T hpre hret
  try dsimp only [List.reverse_cons, List.reverse_nil, List.nil_append, List.cons_append] at F
  k_steps
  refine .inl ?_
  refine exec_while ?_
  rename_i sl h₁ lL lsl h₂ h₃ F₈ N₈
  have hsl : g.objs.size ≤ sl := Nat.le_trans hL (Nat.le_of_lt lL)
  refine while_ind (s := { s with heap := h₃, toks := tk }) ts.length (fun k m rest => ∃ (tk : Tok), m (Str.ofString "text") = some (.str y t) ∧ m (Str.ofString "sets") = some (.ref sl) ∧ m (Str.ofString "k") = some (.int (4 + ((ys.take k).flatten.length : Int)) tk) ∧
      ∃ (its : Array Value) (ep : Nat), rest = [(sl, PySem.W.listOf its ep)] ∧ SetsOk (ts.take k) its.toList)
    ?step ?fin ts.length 0 _ _ _ _ rfl (Nat.zero_le _) ?J0 F₈ N₈
  case J0 => exact ⟨_, rfl, rfl, rfl, _, _, rfl, by simpa using SetsOk.nil⟩
  case step =>
    rintro k m rest h' tk' hk ⟨tkk, j1, j2, j3, its, ep, rfl, hto⟩ F₉ N₉
    change Fr g L h' _ at F₉
    change News g L h' _ at N₉
    clear F₈ N₈ b1 b2
    have hky : k < ys.length := by rw [hps.len]; exact hk
    have hp := hps.get hk hky
    have hT : TokAt y (4 + (ys.take k).flatten.length) ys[k] := by
      have := tokAt_of (k := k + 1) hys (by simp; omega)
      have e : (([40, 63, 115, 58] :: (ys ++ [[41, 92, 90]])).take (k + 1)).flatten.length = 4 + (ys.take k).flatten.length := by
        rw [List.take_succ_cons, List.flatten_cons, List.length_append, List.take_append_of_le_length (by omega)]; rfl
      rw [e] at this
      simpa [List.getElem_append_left hky] using this
    have hnx : (ys.take (k + 1)).flatten.length = (ys.take k).flatten.length + ys[k].length := by
      rw [List.take_succ_eq_append_getElem hky, List.flatten_append, List.length_append]; simp
    have hle : (ys.take (k + 1)).flatten.length ≤ Xs.length := by
      rw [hXy]
      conv => rhs; rw [← List.take_append_drop (k + 1) ys, List.flatten_append, List.length_append]
      omega
    have hits : its.size ≤ sizeLine := by
      have := hto.len
      rw [List.length_take] at this
      rw [sizeLine_eq]; simp at this; omega
    have hts : ts.take (k + 1) = ts.take k ++ [ts[k]] := List.take_succ_eq_append_getElem hk
    generalize ts[k] = p at hp hts
    generalize ys[k] = q at hp hT hnx
    obtain ⟨i, hi⟩ : ∃ i : Nat, i = 4 + (ys.take k).flatten.length := ⟨_, rfl⟩
    rw [← hi] at hT
    replace j3 : m (Str.ofString "k") = some (.int (i : Int) tkk) := by rw [j3, hi]; push_cast; rfl
    have hiq : i + q.length + 3 ≤ y.length := by omega
    have END : ∀ {s₀ : Shared} {h' : Heap} {tk : Nat} {m' : Str → Option Value} {iv : Int} {tv u : Tok} {ep' : Nat} {R : Result → Shared → Prop}, Fr g L h' m' → News g L h' [(sl, PySem.W.listOf (its.push (.str (mkS (innerOf p)) u)) ep')] → m' (Str.ofString "k") = some (.int iv tv) → iv = i + q.length →
        m' (Str.ofString "text") = some (.str y t) → m' (Str.ofString "sets") = some (.ref sl) →
        LP g L s₀ [] [] R (fun m rest => ∃ (tk : Tok), m (Str.ofString "text") = some (.str y t) ∧ m (Str.ofString "sets") = some (.ref sl) ∧ m (Str.ofString "k") = some (.int (4 + ((ys.take (k + 1)).flatten.length : Int)) tk) ∧
      ∃ (its : Array Value) (ep : Nat), rest = [(sl, PySem.W.listOf its ep)] ∧ SetsOk (ts.take (k + 1)) its.toList) .next { s₀ with heap := h', toks := tk } := by
      intro s₀ h' tk m' iv tv u ep' R F N e1 e2 e3 e4
      refine ⟨_, _, _, _, rfl, F, N, (fun p hp h => by simp at h), tv, e3, e4, ?_, _, _, rfl, ?_⟩
      · rw [e1, e2, hnx, hi]; push_cast; rw [Int.add_assoc]
      · rw [hts, Array.toList_push]; exact hto.snoc
    clear hto hts hnx hXy hle hi
    rcases piece_cases hp with ⟨c, hc, rfl, hin⟩ | ⟨rfl, hin⟩ | ⟨cs, hcs, hcl, rfl, hin⟩
    · simp only [List.length_cons, List.length_nil] at hiq
      have c1 : c ≠ 91 := by rintro rfl; revert hc; decide
      have c2 : c ≠ 92 := by rintro rfl; revert hc; decide
      have b3 : EqB (!(Builtin.Str.occurrences (Str.ofString "rwxsStT") (mkS [c]) 0 (Str.ofString "rwxsStT").length 1).isEmpty) true := in_signs c hc
      clear hc
      rw [hin] at END
      k_steps
      rename Fr _ _ _ _ => F₁
      rename News _ _ _ _ => N₁
      exact END F₁ N₁ rfl (by simp) j1 j2
    · simp only [List.length_cons, List.length_nil] at hiq
      rw [hin] at END
      k_steps
      rename Fr _ _ _ _ => F₁
      rename News _ _ _ _ => N₁
      rw [q_35] at N₁
      exact END F₁ N₁ rfl (by simp; omega) j1 j2
    · rw [hin] at END
      have hlen : ([91] ++ ((cs.map uni).flatten ++ [93])).length = (cs.map uni).flatten.length + 2 := by simp
      rw [hlen] at hiq
      have hT0 := hT
      replace hT : TokAt y i ([91] : List Nat) := ⟨fun d x hx => hT0.at d x (by rw [List.getElem?_append_left (List.getElem?_eq_some_iff.mp hx).1]; exact hx)⟩
      k_steps
      refine .inl ?_
      refine exec_while ?_
      rename Fr _ _ _ _ => F₁
      rename News _ _ _ _ => N₁
      clear hT
      refine while_ind (s := { s with heap := _, toks := _ }) cs.length (fun j m rest => ∃ (tk u : Tok), m (Str.ofString "text") = some (.str y t) ∧ m (Str.ofString "sets") = some (.ref sl) ∧ m (Str.ofString "k") = some (.int ((i + 1 + ((cs.map uni).take j).flatten.length : Nat) : Int) tk) ∧
          m (Str.ofString "signs") = some (.str (mkS (cs.take j)) u) ∧ rest = [(sl, PySem.W.listOf its ep)])
        ?istep ?ifin cs.length 0 _ _ _ _ rfl (Nat.zero_le _) ?iJ0 F₁ N₁
      case iJ0 => exact ⟨_, _, j1, j2, by simp; rfl, by rw [List.take_zero, ← q_em]; rfl, rfl⟩
      case istep =>
        rintro j m rest h' tk' hj ⟨tkk, u, j1, j2, j3, j4, rfl⟩ F₉ N₉
        change Fr g L h' _ at F₉
        change News g L h' _ at N₉
        clear F₁ N₁ END
        have hTj : TokAt y (i + 1 + ((cs.map uni).take j).flatten.length) (uni cs[j]) := by
          have e : ([91] ++ ((cs.map uni).flatten ++ [93]) : List Nat) = ([91] ++ ((cs.map uni).take j).flatten) ++ (uni cs[j] ++ (((cs.map uni).drop (j + 1)).flatten ++ [93])) := by
            conv => lhs; rw [← List.take_append_drop j (cs.map uni), List.flatten_append, List.drop_eq_getElem_cons (by simpa using hj), List.flatten_cons, List.getElem_map]
            simp only [List.append_assoc]
          rw [e] at hT0
          have := tokAt_sub hT0
          rw [List.length_append, List.length_singleton, ← Nat.add_assoc] at this
          exact this
        have hnx : ((cs.map uni).take (j + 1)).flatten.length = ((cs.map uni).take j).flatten.length + (uni cs[j]).length := by
          rw [List.take_succ_eq_append_getElem (by simpa using hj), List.flatten_append, List.length_append, List.getElem_map]; simp
        have hsn : cs.take (j + 1) = cs.take j ++ [cs[j]] := List.take_succ_eq_append_getElem hj
        have hac : (cs.take j).length ≤ 2 := by rw [List.length_take]; omega
        have hok := hcs _ (List.getElem_mem hj)
        have hie : i + 1 + ((cs.map uni).take j).flatten.length + (uni cs[j]).length + 1 ≤ y.length := by
          have : ((cs.map uni).take (j + 1)).flatten.length ≤ (cs.map uni).flatten.length := by
            conv => rhs; rw [← List.take_append_drop (j + 1) (cs.map uni), List.flatten_append, List.length_append]
            omega
          omega
        generalize cs[j] = c at hTj hnx hsn hok hie
        have END : ∀ {s₀ : Shared} {h' : Heap} {tk : Nat} {m' : Str → Option Value} {iv : Int} {tv u : Tok} {l : List Nat} {R : Result → Shared → Prop}, Fr g L h' m' → News g L h' [(sl, PySem.W.listOf its ep)] → m' (Str.ofString "k") = some (.int iv tv) → iv = ((i + 1 + ((cs.map uni).take j).flatten.length : Nat) : Int) + ((uni c).length : Int) →
            m' (Str.ofString "text") = some (.str y t) → m' (Str.ofString "sets") = some (.ref sl) → m' (Str.ofString "signs") = some (.str (mkS l) u) → l = cs.take j ++ [c] →
            LP g L s₀ [] [] R (fun m rest => ∃ (tk u : Tok), m (Str.ofString "text") = some (.str y t) ∧ m (Str.ofString "sets") = some (.ref sl) ∧ m (Str.ofString "k") = some (.int ((i + 1 + ((cs.map uni).take (j + 1)).flatten.length : Nat) : Int) tk) ∧
          m (Str.ofString "signs") = some (.str (mkS (cs.take (j + 1))) u) ∧ rest = [(sl, PySem.W.listOf its ep)]) .next { s₀ with heap := h', toks := tk } := by
          intro s₀ h' tk m' iv tv u l R F N e1 e2 e3 e4 e5 e6
          refine ⟨_, _, _, _, rfl, F, N, (fun p hp h => by simp at h), tv, u, e3, e4, ?_, ?_, rfl⟩
          · rw [e1, e2, hnx]; push_cast; rw [Int.add_assoc]
          · rw [hsn, ← e6]; exact e5
        clear hnx hsn hiq
        generalize cs.take j = acc at j4 hac END
        obtain ⟨I, hI⟩ : ∃ I : Nat, I = i + 1 + ((cs.map uni).take j).flatten.length := ⟨_, rfl⟩
        rw [← hI] at hTj hie END j3
        clear hI
        rcases hok with rfl | hok
        · have b3 : EqB (!(Builtin.Str.occurrences (Str.ofString "-^") (mkS [92]) 0 (Str.ofString "-^").length 1).isEmpty) false := in_bar 92 (.head _)
          replace hTj : TokAt y I [92, 45] := hTj
          replace hie : I + 2 + 1 ≤ y.length := hie
          k_steps
          rename Fr _ _ _ _ => F₁
          rename News _ _ _ _ => N₁
          exact END F₁ N₁ rfl (by simp only [uni, if_pos, List.length_cons, List.length_nil]; push_cast; omega) j1 j2 rfl rfl
        · have b3 : EqB (!(Builtin.Str.occurrences (Str.ofString "-^") (mkS [c]) 0 (Str.ofString "-^").length 1).isEmpty) false := in_bar c (.tail _ hok)
          have c1 : c ≠ 93 := by rintro rfl; revert hok; decide
          have c2 : c ≠ 92 := by rintro rfl; revert hok; decide
          have hu : uni c = [c] := by unfold uni; rw [if_neg (by rintro rfl; revert hok; decide)]
          rw [hu] at hTj hie END
          simp only [List.length_cons, List.length_nil] at hie
          clear hok hu
          k_steps
          rename Fr _ _ _ _ => F₁
          rename News _ _ _ _ => N₁
          exact END F₁ N₁ rfl (by simp) j1 j2 rfl rfl
      case ifin =>
        rintro m rest h' tk' ⟨tkk, u, j1, j2, j3, j4, rfl⟩ F₉ N₉
        change Fr g L h' _ at F₉
        change News g L h' _ at N₉
        clear F₁ N₁
        have hTj : TokAt y (i + 1 + ((cs.map uni).take cs.length).flatten.length) ([93] : List Nat) := by
          have := tokAt_sub (a := [91] ++ (cs.map uni).flatten) (b := [93]) (c := []) (by simpa using hT0)
          rw [List.length_append, List.length_singleton, ← Nat.add_assoc] at this
          rw [List.take_of_length_le (by simp)]; exact this
        have hlt : ((cs.map uni).take cs.length).flatten.length = (cs.map uni).flatten.length := by rw [List.take_of_length_le (by simp)]
        rw [hlt] at hTj j3
        rw [List.take_length] at j4
        rw [hlen] at END
        generalize (cs.map uni).flatten.length = K at *
        k_steps
        rename Fr _ _ _ _ => F₁
        rename News _ _ _ _ => N₁
        exact END F₁ N₁ rfl (by push_cast; omega) j1 j2
  case fin =>
    rintro m rest h' tk' ⟨tk, j1, j2, j3, its, ep, rfl, hto⟩ F₉ N₉
    change Fr g L h' _ at F₉
    change News g L h' _ at N₉
    clear F₈ N₈
    rw [List.take_of_length_le (by rw [hps.len]; exact Nat.le_refl _), ← hXy] at j3
    rw [List.take_length] at hto
    k_steps
    · simp only [decide_eq_false_iff_not]; omega
    · exact hret _ _ _ _ F₉ ⟨sl, its, ep, rfl, hsl, (N₉ _ (.head _)).1, hto⟩
end
end
section
open PySem PySem.W PyProof.Rows PySem.Calls
theorem fresh_LT : True := by (w_top off); k_with_none; trivial
set_option maxRecDepth 100000
set_option maxHeartbeats 4000000
theorem fill_LT : (fun (_ : OpenLaw) (_ : Params → Frag) => True) PySem.Challenge.rw_ik0125_01 hd.heap_1 := by k_fill; trivial
theorem wd_LT_0 : True := by k_with_none; trivial
theorem wd_LT_1 : True := by
  (k_with "CompSrcT" =>
    ((refine show_me0 ?_)))
  trivial
theorem wd_LT_2 : True := by
  (k_with "eval Name" =>
    ((k_here; k_dflt (refine' nameX_L ?qzF ?qzv ?_ ?qza ?qzb; (case qzF => k_asm); (case qza => rfl); (case qzb => rfl); (case qzv => first | exact rfl | assumption); k_whole))))
  trivial
theorem len_gt {prog : Program} {w : World} {A : Around} {E : Value → Shared → Prop} {s : Shared} {h₀ : Heap} {L l : Addr} {m : Str → Option Value} {vs : Array Value} {ep : Nat} {Q : Value → Shared → Prop} {n : Nat} (F : Fr h₀ L s.heap m) (g : h₀.get? l = some (PySem.W.listOf vs ep)) (hn : vs.size = n) (hz : n ≤ 1000) (h : Q (.int (n : Nat) (s.toks + 1)) { s with toks := s.toks + 1 + 1 }) : wpAny (model prog w) A (call (.builtin "len") [.ref l]) Q E s := by
  subst hn
  exact Calls.call_len_list (PySem.IsL.isList (n := ep) (F.keep _ _ g)) (by simp; omega) h
theorem len_sn {prog : Program} {w : World} {A : Around} {E : Value → Shared → Prop} {s : Shared} {x : Str} {t : Tok} {n : Nat} {Q : Value → Shared → Prop} (hn : x.length = n) (hz : n ≤ 1000) (h : Q (.int (n : Nat) (s.toks + 1)) { s with toks := s.toks + 1 + 1 }) : wpAny (model prog w) A (call (.builtin "len") [.str x t]) Q E s := by
  subst hn
  exact PySem.P.len_str (by omega) h
theorem wd_LT_3 : True := by
  (k_with "call builtin:len" =>
    ((k_here; first | ((with_reducible show wpAny _ _ (call (Value.builtin _) [Value.ref _]) _ _ _); k_dflt (refine len_gt (by k_asm) (by assumption) (by assumption) (by omega) ?_)) | ((with_reducible show wpAny _ _ (call (Value.builtin _) [Value.str _ _]) _ _ _); k_dflt (refine len_sn (by assumption) (by omega) ?_)))))
  trivial
theorem wd_LT_4 : True := by
  (k_with "compareOp NotIn str str" =>
    ((k_here; k_dflt (refine nin_z (by with_reducible assumption) ?_))))
  trivial
theorem wd_LT_5 : True := by
  (k_with "subscriptTail Name Name str int" =>
    ((k_here; (with_reducible show wpAny _ _ (subscriptTail _ _ (Value.str _ _) (Value.int _ _)) _ _ _); k_dflt (refine' sub_row ?qzhx ?qzh ?qzhl ?_; (case qzhx => assumption); (case qzh => with_reducible assumption); (case qzhl => assumption)))))
  trivial
section
variable {prog : Program} {w : World} {A : Around} {E : Value → Shared → Prop} {s : Shared} {h₀ : Heap} {L l : Addr} {m : Str → Option Value} {vs : Array Value} {ep : Nat}
theorem sub_ga {value slice : PySem.Expr} {i : Nat} {u : Tok} {v : Value} {Q : Value → Shared → Prop} (F : Fr h₀ L s.heap m) (g : h₀.get? l = some (PySem.W.listOf vs ep)) (hx : vs[i]? = some v) (h1 : i < 1000) (h : Q v s)
    (hs : subscripted slice false (.ref l) (.int (i : Int) u) = operate [.ref l, .int (i : Int) u] (getItem (.ref l) (.int (i : Int) u)) := by with_unfolding_all rfl) :
    wpAny (model prog w) A (subscriptTail value slice (.ref l) (.int (i : Int) u)) Q E s := by
  have hl := PySem.IsL.isList (n := ep) (F.keep _ _ g)
  exact tail_any hl.typeIs slot_list_getitem.lookup (wpAny_getItem_list hl (by omega) (by omega) (by simpa using hx) h) hs
end
theorem wd_LT_6 : True := by
  (k_with "subscriptTail Name Name ref int" =>
    ((k_here; (with_reducible show wpAny _ _ (subscriptTail _ _ (Value.ref _) (Value.int _ _)) _ _ _); k_dflt (refine' sub_ga ?qzF ?qzg ?qzx ?qzz ?_; (case qzF => k_asm); (case qzg => assumption); (case qzx => assumption); (case qzz => omega)))))
  trivial
theorem SetsOk.get {ts : List (List Nat)} {vs : Array Value} (h : SetsOk ts vs.toList) : ∀ {i : Nat}, i < ts.length → ∃ u, vs[i]? = some (.str (mkS (innerOf (ts.getD i []))) u) := by
  have key : ∀ {ts : List (List Nat)} {vs : List Value}, SetsOk ts vs → ∀ {i : Nat}, i < ts.length → ∃ u, vs[i]? = some (.str (mkS (innerOf (ts.getD i []))) u) := by
    intro ts vs h
    induction h with
    | nil => intro i hi; simp at hi
    | @cons t u ts vs _ ih =>
      intro i hi
      cases i with
      | zero => exact ⟨u, rfl⟩
      | succ i => simpa using ih (by simpa using hi)
  intro i hi
  obtain ⟨u, hu⟩ := key h hi
  exact ⟨u, by simpa using hu⟩
/-- the places whose sign is not taken -/
def takesG (row : List Nat) (ts : List (List Nat)) (l : List Int) (k : Int) : List Int := if row.getD k.toNat 0 ∈ innerOf (ts.getD k.toNat []) then l else l ++ [k]
theorem takesG_grows {row : List Nat} {ts : List (List Nat)} : KPfGrows (takesG row ts) := by
  intro l k
  unfold takesG
  split <;> simp
def takesF (row : List Nat) (ts : List (List Nat)) : Bool := decide ((rangeKs 0 10).foldl (takesG row ts) [] = [])
set_option maxHeartbeats 400000 in
theorem c_takes {w : World} {row : List Nat} {ts : List (List Nat)} {l : Addr} {vs : Array Value} {ep : Nat} {t : Tok} (hr : row.length = 10) (hts : ts.length = 10) (hS : SetsOk ts vs.toList) :
    Ctr w 198 3 120 [.ref l, .str (mkS row) t] (fun tabs g => g.get? l = some (PySem.W.listOf vs ep) ∧ l ∉ tabs.map (·.1)) (fun _ _ v => v = .bool (takesF row ts)) := by
  obtain ⟨y, hy⟩ : ∃ y, y = mkS row := ⟨_, rfl⟩
  have hyl : y.length = 10 := by rw [hy, mkS_len, hr]
  rw [← hy]
  k_dflt (refine' ctr_cells (binds := [(Str.ofString "sets", .ref l), (Str.ofString "row", .str y t)]) ?k6 ?k7 ?k1 ?k9 ?kB ?kD ?c2 ?c3 ?c4 ?_; (case k6 => k_is); (case k7 => k_is); (case k1 => decide); (case k9 => intro s; exact BindsTo.of_eq rfl); (case kB => exact rfl); (case kD => decide +kernel); (case c2 => exact rfl); (case c3 => exact rfl); (case c4 => exact rfl))
  intro p loose mean mg mb dp un gd outer A₀ base g₀ g L tabs cells s Q hd hu hL st F NN hlt Y TL B X T hpre hret
  have hrl : row.length ≤ 1000 := by omega
  have hvl : vs.size = 10 := by have := hS.len; simpa [hts] using this
  obtain ⟨oR, oS, rfl, dR, dS⟩ := CellsAre.two Y
  replace dS : oS.data = .cell (some (.ref l)) := dS
  replace dR : oR.data = .cell (some (.str y t)) := dR
  clear Y
  dsimp only [List.cons_append, List.nil_append] at NN
  obtain ⟨hg0, hlt0⟩ := hpre
  have gl := st l _ hlt0 hg0
  k_steps
  refine .inl ?_
  refine LCt.CompSrcT.range (by rfl) (by k_asm) (by k_asm) (by assumption) (by first | decide | rfl) (by first | rfl | decide) (by first | size_fits | exact Nat.le_of_ble_eq_true rfl) ?_
  intro g'
  refine kci_range (a := 0) (n := 10) (takesG row ts) ?turn ?fin ?hg
  case hg => exact takesG_grows
  case turn =>
    intro k tk I oI C oC D m₂ ys ks h₉ tk₉ E' hk0 hk1 hys hC hx F₉ N₉ hoff hne mk
    obtain ⟨i, rfl⟩ : ∃ i : Nat, k = (i : Int) := ⟨k.toNat, by omega⟩
    have hi : i < 10 := by omega
    have hrw : RowAt row (i : Int) (row.getD i 0) := ⟨⟨i, rfl, by rw [List.getD_eq_getElem?_getD, List.getElem?_eq_getElem (by omega)]; rfl⟩⟩
    obtain ⟨u, hu⟩ := hS.get (i := i) (by omega)
    have hG : takesG row ts ks (i : Int) = if row.getD i 0 ∈ innerOf (ts.getD i []) then ks else ks ++ [(i : Int)] := rfl
    rw [hG]
    have hfo := StrLaws.found_one (mkS (innerOf (ts.getD i []))) (row.getD i 0)
    generalize row.getD i 0 = c at *
    generalize innerOf (ts.getD i []) = cs at *
    by_cases hin : c ∈ cs
    · have b1 : EqB (!(!(Builtin.Str.occurrences (mkS cs) (mkS [c]) 0 (mkS cs).length 1).isEmpty)) false := by unfold EqB; rw [hfo]; simp [hin]
      rw [if_pos hin]
      clear hfo
      k_steps
      exact LCg.CompEnd.intro F₉ N₉ _ (fun p hp => hp) hoff trivial (kci_no rfl rfl)
    · have b1 : EqB (!(!(Builtin.Str.occurrences (mkS cs) (mkS [c]) 0 (mkS cs).length 1).isEmpty)) true := by unfold EqB; rw [hfo]; simp [hin]
      rw [if_neg hin]
      clear hfo
      k_steps
      exact LCg.CompEnd.intro F₉ N₉ _ (fun p hp => hp) hoff trivial (kci_el rfl rfl rfl)
  case fin => 
    intro ys hys hyl
    k_steps
    rename Fr _ _ _ _ => F₂
    rename News _ _ _ _ => N₂
    exact hret _ _ _ _ tabs F₂ (fun p hp => N₂ p (.tail _ (.tail _ (.tail _ (.tail _ hp))))) TL (fun p hp => .inl (List.mem_map_of_mem hp)) rfl
end
section
open PySem PySem.W PyProof.Rows PySem.Calls
theorem fresh_OP : True := by (w_top off); k_with_none; trivial
set_option maxRecDepth 100000
set_option maxHeartbeats 4000000
theorem fill_OP : (fun (_ : OpenLaw) (_ : Params → Frag) => True) PySem.Challenge.rw_ik0125_01 hd.heap_1 := by k_fill; trivial
theorem wd_OP_0 : True := by k_with_none; trivial
theorem wd_OP_1 : True := by
  (k_with "pyIter ref" =>
    ((k_here; refine show_me0 ?_)))
  trivial
theorem wd_OP_2 : True := by
  (k_with "exec For Name Call cons nil" =>
    ((refine show_me0 ?_)))
  trivial
def MarkI : Prop := True
theorem wd_OP_3 : True := by
  (k_with "eval IfExp" =>
    (((have hMk : MarkI := by assumption); clear hMk; (refine show_me0 ?_))))
  trivial
theorem wd_OP_4 : True := by
  (k_with "eval Name" =>
    ((k_here; k_dflt (refine' nameX_L ?qzF ?qzv ?_ ?qza ?qzb; (case qzF => k_asm); (case qza => rfl); (case qzb => rfl); (case qzv => first | exact rfl | assumption); k_whole))))
  trivial
def colF (bit : Nat) : Nat := if bit < 9 then 9 - bit else 36 - 3 * bit
def signsF (k : Nat) : List Nat := if k = 9 then [45, 120, 84, 116] else [45, 120, 83, 115]
/-- what a sign becomes when one bit of its column is turned -/
def altF (k bit c : Nat) : Nat :=
  if k % 3 = 0 then (signsF k).getD ((signsF k).idxOf c ^^^ (if bit < 9 then 1 else 2)) 0
  else if c = 45 then [114, 119].getD (k % 3 - 1) 0 else 45
/-- the sign may stand in the column -/
def signOk (k c : Nat) : Prop := c ∈ (if k % 3 = 0 then signsF k else [45, [114, 119].getD (k % 3 - 1) 0])
def rowOk (row : List Nat) : Prop := row.length = 10 ∧ ∀ k, 1 ≤ k → k < 10 → signOk k (row.getD k 0)
def openTok (row : List Nat) (bit k : Nat) : List Nat := if k = colF bit then [91, row.getD k 0, altF k bit (row.getD k 0), 93] else [row.getD k 0]
def openToks (row : List Nat) (bit : Nat) : List (List Nat) := [91, row.getD 0 0, 93] :: (List.range 9).map fun i => openTok row bit (i + 1)
section
variable {prog : Program} {w : World} {A : Around} {E : Value → Shared → Prop} {s : Shared}
/-- an expression with two ways, told by the one number that either of them gives -/
theorem int_way {T : Sem Value} {Q : Value → Shared → Prop} (z : Int) (h : ∀ Q' : Value → Shared → Prop, (∀ z' t k, z' = z → Q' (.int z' t) { s with toks := k }) → wpAny (model prog w) A T Q' E s) (hq : ∀ t k, Q (.int z t) { s with toks := k }) : wpAny (model prog w) A T Q E s :=
  h Q fun _ t k e => e ▸ hq t k
theorem str_way {T : Sem Value} {Q : Value → Shared → Prop} (z : Str) (h : ∀ Q' : Value → Shared → Prop, (∀ z' t k, z' = z → Q' (.str z' t) { s with toks := k }) → wpAny (model prog w) A T Q' E s) (hq : ∀ t k, Q (.str z t) { s with toks := k }) : wpAny (model prog w) A T Q E s :=
  h Q fun _ t k e => e ▸ hq t k
end
theorem wd_OP_5 : True := by
  (k_with "subscriptTail Name Name str int" =>
    ((k_here; (with_reducible show wpAny _ _ (subscriptTail _ _ (Value.str _ _) (Value.int _ _)) _ _ _); k_dflt (refine' sub_row ?qzhx ?qzh ?qzhl ?_; (case qzhx => first | with_reducible rfl); (case qzh => with_reducible assumption); (case qzhl => first | assumption | decide)))))
  trivial
theorem wd_OP_6 : True := by
  (k_with "subscriptTail Name Constant str int" =>
    ((k_here; (with_reducible show wpAny _ _ (subscriptTail _ _ (Value.str _ _) (Value.int _ _)) _ _ _); k_dflt (refine' sub_row ?qzhx ?qzh ?qzhl ?_; (case qzhx => first | with_reducible rfl); (case qzh => with_reducible assumption); (case qzhl => first | assumption | decide)))))
  trivial
theorem wd_OP_7 : True := by
  (k_with "subscriptTail" =>
    ((k_here; (with_reducible show wpAny _ _ (subscriptTail _ _ (Value.str _ _) (Value.int _ _)) _ _ _); k_dflt (refine' sub_row ?qzhx ?qzh ?qzhl ?_; (case qzhx => first | with_reducible exact q_36 | with_reducible rfl); (case qzh => with_reducible assumption); (case qzhl => first | assumption | decide)))))
  trivial
theorem wd_OP_8 : True := by
  (k_with "subscriptTail Name BinOp str int" =>
    ((k_here; (with_reducible show wpAny _ _ (subscriptTail _ _ (Value.str _ _) (Value.int _ _)) _ _ _); k_dflt (refine' sub_row ?qzhx ?qzh ?qzhl ?_; (case qzhx => first | with_reducible rfl); (case qzh => with_reducible assumption); (case qzhl => first | assumption | decide)))))
  trivial
theorem wd_OP_9 : True := by
  (k_with "binaryOp Add str str" =>
    ((k_here; k_dflt (refine' add_mk ?qzhx ?qzhy ?qzhl ?_; (case qzhx => first | with_reducible exact q_33 | with_reducible exact q_34 | with_reducible exact q_35 | with_reducible rfl); (case qzhy => first | with_reducible exact q_33 | with_reducible exact q_34 | with_reducible exact q_35 | with_reducible rfl); (case qzhl => refine ⟨?_, ?_⟩ <;> ((try simp only [List.length_append, List.length_cons, List.length_nil]) <;> omega))); intro _ _)))
  trivial
theorem wd_OP_10 : True := by
  (k_with "ite" =>
    (first | refine ite_pos (by (try simp only [decide_eq_true_eq, beq_iff_eq, bne_iff_ne, ne_eq]); omega) ?_ | refine ite_neg (by (try simp only [decide_eq_true_eq, beq_iff_eq, bne_iff_ne, ne_eq]); omega) ?_))
  trivial
theorem wd_OP_11 : True := by
  (k_with "compareOp Eq str str" =>
    ((k_here; k_dflt (first | (refine' eqo_f ?qzhx ?qzhn ?_; (case qzhx => with_reducible exact q_35); (case qzhn => first | assumption | decide)) | (refine' eqo_t ?qzhx ?qzhn ?_; (case qzhx => with_reducible exact q_35); (case qzhn => first | assumption | rfl))))))
  trivial
theorem toks_get {row : List Nat} {bit i : Nat} (hi : i < 9) : (openToks row bit)[i + 1]? = some (openTok row bit (i + 1)) := by
  unfold openToks
  rw [List.getElem?_cons_succ, List.getElem?_map, List.getElem?_range hi]; rfl
theorem open_snoc {row : List Nat} {bit i : Nat} (hi : i < 9) : ((openToks row bit).take (i + 1 + 1)).flatten = ((openToks row bit).take (i + 1)).flatten ++ openTok row bit (i + 1) := by
  rw [List.take_add_one, toks_get hi, List.flatten_append]
  simp
theorem open_len {row : List Nat} {bit : Nat} : ∀ {i : Nat}, i < 10 → ((openToks row bit).take (i + 1)).flatten.length ≤ 4 * (i + 1)
  | 0, _ => by simp [openToks]
  | i + 1, h => by
    rw [open_snoc (by omega), List.length_append]
    have := open_len (row := row) (bit := bit) (i := i) (by omega)
    have h2 : (openTok row bit (i + 1)).length ≤ 4 := by unfold openTok; split <;> simp
    omega
structure IdxAt (l : List Nat) (c : Nat) (z : Int) : Prop where
  of : ∃ i : Nat, Builtin.Str.occurrences (mkS l) (mkS [c]) 0 (mkS l).length 1 = [i] ∧ z = (i : Int)
theorem idx_at {prog : Program} {w : World} {A : Around} {E : Value → Shared → Prop} {s : Shared} {x : Str} {l : List Nat} {c : Nat} {z : Int} {t u : Tok} {Q : Value → Shared → Prop} (hx : x = mkS l) (h : IdxAt l c z) (hq : Q (.int z s.toks) { s with toks := s.toks + 1 }) :
    wpAny (model prog w) A (call (.builtin "str.index") [.str x t, .str (mkS [c]) u]) Q E s := by
  subst hx
  obtain ⟨i, hi, rfl⟩ := h.of
  exact call_gives F.slot_str_index (typeIs_str _ _ _) F.entry_str_index (F.args_str_index_2 _ _) (gives_str_index (mkS l) (mkS [c]) t u i [] hi) hq
theorem wd_OP_12 : True := by
  (k_with "call builtin:str.index" =>
    ((k_here; k_dflt (refine' idx_at ?qzhx ?qzh ?_; (case qzhx => with_reducible rfl); (case qzh => with_reducible assumption)))))
  trivial
theorem idx_all : ∀ k, k = 9 ∨ k = 0 → ∀ c ∈ signsF k, Builtin.Str.occurrences (mkS (signsF k)) (mkS [c]) 0 (mkS (signsF k)).length 1 = [(signsF k).idxOf c] := by
  rintro k (rfl | rfl) <;> decide +kernel
theorem signs_k {k : Nat} : signsF k = signsF 9 ∨ signsF k = signsF 0 := by
  by_cases h : k = 9
  · subst h; exact .inl rfl
  · right; unfold signsF; rw [if_neg h, if_neg (by decide)]
theorem idx_of {k c : Nat} (h : c ∈ signsF k) : IdxAt (signsF k) c ((signsF k).idxOf c : Int) := by
  rcases signs_k (k := k) with e | e <;> rw [e] at h ⊢
  · exact ⟨⟨_, idx_all 9 (.inl rfl) c h, rfl⟩⟩
  · exact ⟨⟨_, idx_all 0 (.inr rfl) c h, rfl⟩⟩
theorem alt_of {k c : Nat} {e : Nat} (he : e = 1 ∨ e = 2) (h : c ∈ signsF k) : RowAt (signsF k) (Builtin.bitXor ((signsF k).idxOf c : Int) (e : Int)) ((signsF k).getD ((signsF k).idxOf c ^^^ e) 0) := by
  have key : ∀ k, k = 9 ∨ k = 0 → ∀ c ∈ signsF k, ∀ e, e = 1 ∨ e = 2 → (signsF k)[(signsF k).idxOf c ^^^ e]? = some ((signsF k).getD ((signsF k).idxOf c ^^^ e) 0) := by
    rintro k (rfl | rfl) c h e (rfl | rfl) <;> revert c <;> decide
  rw [bitXor_nat]
  rcases signs_k (k := k) with e' | e' <;> rw [e'] at h ⊢
  · exact ⟨⟨_, rfl, key 9 (.inl rfl) c h e he⟩⟩
  · exact ⟨⟨_, rfl, key 0 (.inr rfl) c h e he⟩⟩
set_option maxHeartbeats 40000000 in
theorem c_opened {w : World} {row : List Nat} {bit : Nat} {t u : Tok} (hr : rowOk row) (hb : bit < 12) :
    CtrL w 186 3 60 [.str (mkS row) t, .int (bit : Int) u] (fun _ => True) (fun _ _ v => ∃ t', v = .str (mkS (openToks row bit).flatten) t') := by
  k_dflt (refine' ctr_leaf (binds := [(Str.ofString "row", .str (mkS row) t), (Str.ofString "bit", .int (bit : Int) u)]) ?k6 ?k7 ?k1 ?k9 ?kB ?c2 ?c3 ?c4 ?c5 ?_; (case k6 => k_is); (case k7 => k_is); (case k1 => decide); (case k9 => intro s; exact BindsTo.of_eq rfl); (case kB => exact locs rfl); (case c2 => exact rfl); (case c3 => exact rfl); (case c4 => exact rfl); (case c5 => decide))
  intro p loose mean mg mb dp un gd outer A₀ base g L s Q hd hu hL F NN B X T hpre hret
  try dsimp only [List.reverse_cons, List.reverse_nil, List.nil_append, List.cons_append] at F
  have hrl : row.length ≤ 1000 := by rw [hr.1]; decide
  have rat : ∀ k : Nat, k < 10 → row[k]? = some (row.getD k 0) := fun k hk => by
    rw [List.getD_eq_getElem?_getD, List.getElem?_eq_getElem (by rw [hr.1]; exact hk)]; rfl
  have hr0 : RowAt row 0 (row.getD 0 0) := ⟨⟨0, rfl, rat 0 (by decide)⟩⟩
  have mki : MarkI := trivial
  k_steps
  refine .inl ?_
  refine int_way (colF bit : Int) ?_ ?_
  · clear mki
    intro Q' hQ'
    by_cases hb9 : bit < 9
    · k_steps
      exact hQ' _ _ _ (by unfold colF; rw [if_pos hb9]; omega)
    · k_steps
      exact hQ' _ _ _ (by unfold colF; rw [if_neg hb9]; omega)
  intro tc kc
  clear mki
  k_steps
  refine .inl ?_
  refine exec_for ?_
  k_steps
  refine .inl ?_
  rename Fr _ _ _ _ => F₁
  rename News _ _ _ _ => N₁
  refine iter_range F₁ N₁ 9 (by assumption) (by decide) (by decide) ?_
  intro h₃ I F₃ N₃ lI
  clear F₁ N₁ hr0
  refine forRange_ind (a := 1) (n := 9) (fun i m rest => (∃ tp, m (Str.ofString "pattern") = some (.str (mkS ((openToks row bit).take (i + 1)).flatten) tp)) ∧ (∃ tc, m (Str.ofString "column") = some (.int (colF bit : Int) tc)) ∧
      m (Str.ofString "row") = some (.str (mkS row) t) ∧ m (Str.ofString "bit") = some (.int (bit : Int) u) ∧ rest = [])
    rfl rfl rfl ?step ?fin _ _ _ _ ?J0 ?off F₃ N₃
  case off => intro q hq; cases hq
  case J0 => exact ⟨⟨_, rfl⟩, ⟨_, rfl⟩, rfl, rfl, rfl⟩
  case step =>
    rintro i tk m rest h' tk' o' hi ⟨⟨tp, jp⟩, ⟨tc, jc⟩, jr, jb, rfl⟩ hoff F₈ N₈
    change Fr g L h' _ at F₈
    change News g L h' _ at N₈
    clear F₃ N₃
    obtain ⟨c, hcr⟩ : ∃ c, c = row.getD (i + 1) 0 := ⟨_, rfl⟩
    have hrk : RowAt row (1 + (i : Int)) c := ⟨⟨i + 1, by omega, by rw [hcr]; exact rat _ (by omega)⟩⟩
    have hok := hr.2 (i + 1) (by omega) (by omega)
    rw [← hcr] at hok
    have hpl := open_len (row := row) (bit := bit) (i := i) (by omega)
    have hnx := open_snoc (row := row) (bit := bit) hi
    generalize ((openToks row bit).take (i + 1)).flatten = acc at jp hpl hnx
    have END : ∀ {s₀ : Shared} {h' : Heap} {tk : Nat} {m' : Str → Option Value} {l : List Nat} {tp : Tok} {R : Result → Shared → Prop}, Fr g L h' m' → News g L h' [(I, o')] → m' (Str.ofString "pattern") = some (.str (mkS l) tp) → l = acc ++ openTok row bit (i + 1) →
        m' (Str.ofString "column") = some (.int (colF bit : Int) tc) → m' (Str.ofString "row") = some (.str (mkS row) t) → m' (Str.ofString "bit") = some (.int (bit : Int) u) →
        LP g L s₀ [(I, o')] [I] R (fun m rest => (∃ tp, m (Str.ofString "pattern") = some (.str (mkS ((openToks row bit).take (i + 1 + 1)).flatten) tp)) ∧ (∃ tc, m (Str.ofString "column") = some (.int (colF bit : Int) tc)) ∧
          m (Str.ofString "row") = some (.str (mkS row) t) ∧ m (Str.ofString "bit") = some (.int (bit : Int) u) ∧ rest = []) .next { s₀ with heap := h', toks := tk } := by
      intro s₀ h' tk m' l tp R F N e1 e2 e3 e4 e5
      rw [hnx, ← e2]
      exact ⟨_, _, _, [], rfl, F, N, (fun p hp h => by simp at hp), ⟨_, e1⟩, ⟨_, e3⟩, e4, e5, rfl⟩
    clear hnx
    have hf : (1 + (i : Int)).fmod 3 = (((i + 1) % 3 : Nat) : Int) := by
      rw [Int.fmod_eq_emod_of_nonneg _ (by omega)]; omega
    by_cases hc : i + 1 = colF bit
    · have hot : openTok row bit (i + 1) = [91, c, altF (i + 1) bit c, 93] := by unfold openTok; rw [if_pos hc, ← hcr]
      rw [hot] at END
      clear hot hcr
      by_cases h3 : (i + 1) % 3 = 0
      · unfold signOk at hok
        rw [if_pos h3] at hok
        have ix := idx_of hok
        have al := alt_of (e := if bit < 9 then 1 else 2) (by split <;> simp) hok
        have ha : altF (i + 1) bit c = (signsF (i + 1)).getD ((signsF (i + 1)).idxOf c ^^^ (if bit < 9 then 1 else 2)) 0 := by unfold altF; rw [if_pos h3]
        rw [← ha] at al
        have hsl : (signsF (i + 1)).length ≤ 1000 := by unfold signsF; split <;> decide
        clear hok ha
        generalize altF (i + 1) bit c = al' at al END
        have e9 : signsF (i + 1) = if i + 1 = 9 then [45, 120, 84, 116] else [45, 120, 83, 115] := rfl
        generalize signsF (i + 1) = sg at ix al hsl e9
        generalize ((sg.idxOf c : Nat) : Int) = zi at ix al
        have mki : MarkI := trivial
        k_steps
        refine .inl ?_
        refine str_way (mkS sg) ?_ ?_
        · clear mki
          intro Q' hQ'
          by_cases h9 : i + 1 = 9
          · k_steps
            exact hQ' _ _ _ (by rw [e9, if_pos h9]; exact q_37)
          · k_steps
            exact hQ' _ _ _ (by rw [e9, if_neg h9]; exact q_38)
        intro ts ks
        k_steps
        refine .inl ?_
        refine int_way ((if bit < 9 then 1 else 2 : Nat) : Int) ?_ ?_
        · clear mki
          intro Q' hQ'
          by_cases hb9 : bit < 9
          · k_steps
            exact hQ' _ _ _ (by rw [if_pos hb9]; rfl)
          · k_steps
            exact hQ' _ _ _ (by rw [if_neg hb9]; rfl)
        intro tb kb
        k_steps
        rename Fr _ _ _ _ => F₉
        rename News _ _ _ _ => N₉
        refine END F₉ N₉ rfl ?_ jc jr jb
        simp only [List.append_assoc, List.cons_append, List.nil_append]
      · have hrw : RowAt [114, 119] ((1 + (i : Int)).fmod 3 - 1) ([114, 119].getD ((i + 1) % 3 - 1) 0) := by
          have : (i + 1) % 3 = 1 ∨ (i + 1) % 3 = 2 := by omega
          refine ⟨⟨(i + 1) % 3 - 1, by rw [hf]; omega, ?_⟩⟩
          rcases this with e | e <;> rw [e] <;> rfl
        have ha : altF (i + 1) bit c = if c = 45 then [114, 119].getD ((i + 1) % 3 - 1) 0 else 45 := by unfold altF; rw [if_neg h3]
        clear hok
        generalize altF (i + 1) bit c = al' at ha END
        have mki : MarkI := trivial
        k_steps
        refine .inl ?_
        refine str_way (mkS [al']) ?_ ?_
        · clear mki
          intro Q' hQ'
          by_cases h45 : c = 45
          · k_steps
            exact hQ' _ _ _ (by rw [ha, if_pos h45])
          · k_steps
            exact hQ' _ _ _ (by rw [ha, if_neg h45]; exact q_35)
        intro ts ks
        k_steps
        rename Fr _ _ _ _ => F₉
        rename News _ _ _ _ => N₉
        refine END F₉ N₉ rfl ?_ jc jr jb
        simp only [List.append_assoc, List.cons_append, List.nil_append]
    · k_steps
      rename Fr _ _ _ _ => F₉
      rename News _ _ _ _ => N₉
      refine END F₉ N₉ rfl ?_ jc jr jb
      unfold openTok
      rw [if_neg hc, hcr]
  case fin =>
    rintro m rest h' tk' ⟨⟨tp, jp⟩, ⟨tc, jc⟩, jr, jb, rfl⟩ hoff F₈ N₈
    change Fr g L h' _ at F₈
    change News g L h' _ at N₈
    clear F₃ N₃
    rw [List.take_of_length_le (by simp [openToks])] at jp
    k_steps
    exact hret _ _ _ _ F₈ ⟨_, rfl⟩
end
section
open PySem PySem.W PyProof.Rows PySem.Calls
set_option maxRecDepth 100000
set_option maxHeartbeats 4000000
theorem fill_LX : (fun (_ : OpenLaw) (_ : Params → Frag) => True) PySem.Challenge.rw_ik0125_01 hd.heap_1 := by k_fill; trivial
theorem c_idm {w : World} {a : Int} {D : Nat} {ta tb : Tok} (h1 : -4294967296 ≤ a) (h2 : a < 4294967296) (hB0 : 0 < D) (hB : D < 1073741824) : Ctr w 73 94 730 [.int a ta, .int (D : Int) tb] (fun _ _ => True)
    (fun g h v => ∃ l t₁ t₂, v = .ref l ∧ g.objs.size ≤ l ∧ h.IsTuple l #[.int (a.fdiv D) t₁, .int (a.fmod D) t₂]) := by
  by_cases h : a < 0
  · exact c_int_divmod_z h h1 hB0 hB
  · obtain ⟨A, rfl⟩ : ∃ A : Nat, a = (A : Int) := ⟨a.toNat, by omega⟩
    refine (c_int_divmod_n (A := A) rfl (by omega) hB0 hB).mono (by decide) (by decide) ?_
    rintro g h v ⟨l, t1, t2, e1, e2, e3⟩
    refine ⟨l, t1, t2, e1, e2, ?_⟩
    rw [Int.fdiv_eq_ediv_of_nonneg _ (by omega), Int.fmod_eq_emod_of_nonneg _ (by omega)]
    exact e3
end
section
open PySem PySem.W PyProof.Rows PySem.Calls
theorem fresh_TU : True := by (w_top off); k_with_none; trivial
set_option maxRecDepth 100000
set_option maxHeartbeats 4000000
theorem fill_TU : (fun (_ : OpenLaw) (_ : Params → Frag) => True) PySem.Challenge.rw_ik0125_01 hd.heap_1 := by k_fill; trivial
theorem wd_TU_0 : True := by k_with_none; trivial
theorem wd_TU_1 : True := by
  (k_with "call type:object" =>
    ((k_here; k_dflt (refine' call_object ?qzF ?qzN ?_; (case qzF => k_asm); (case qzN => k_asm)); intro _ _ _ _ _)))
  trivial
theorem c_translate1 {w : World} {P : Str} {ts : List (List Nat)} {t : Tok} (hP : P.length ≤ 100) (hts : P.cps.toList = ts.flatten) (hn : ts.length ≤ 100)
    (hok : ∀ x ∈ ts, (∃ c, isSign c ∧ x = [c]) ∨ (∃ c ∈ one63, x = [91, c, 93]) ∨ (∃ a b, (a, b) ∈ two84 ∧ x = [91, a, b, 93]) ∨ (x = [91, 45, 93]) ∨ (∃ a ∈ pre114, x = [91, a, 45, 93]) ∨ (∃ b ∈ pre114, x = [91, 45, b, 93])) :
    CtrG w 85 30 300 [.str P t] (fun _ _ => True) (fun _ _ v => ∃ t ys, Pieces ts ys ∧ v = .str (Str.ofString "(?s:" ++ Txt.join (Str.ofString "") (ys.map mkS) ++ Str.ofString ")\\Z") t) := by
  k_dflt (refine' ctr_plainG (binds := [(Str.ofString "pat", .str P t)]) ?k6 ?k7 ?k1 ?k9 ?kB ?c2 ?c3 ?c4 ?c5 ?_; (case k6 => k_is); (case k7 => k_is); (case k1 => decide); (case k9 => intro s; exact BindsTo.of_eq rfl); (case kB => exact locs rfl); (case c2 => exact rfl); (case c3 => exact rfl); (case c4 => exact rfl); (case c5 => decide))
  intro p loose mean mg mb dp un gd outer A₀ base g₀ g L tabs s Q hd hu hL st F NN TL B X T hpre hret
  try dsimp only [List.reverse_cons, List.reverse_nil, List.nil_append, List.cons_append] at F
  k_steps
  rename_i S h₁ l₁ h₂ F₂ N₂
  have hlt2 := F₂.ns.lt
  refine use_ctrG (c_translate_ (S := S) (P := P) (ts := ts) hP hn hts hok) B F₂ X N₂ TL (.cons (ltAll_ne l₁) .base) T rfl (by omega) (by omega) trivial ?_
  rintro v h₃ tk₃ gs₃ tabs' hgb F₃ N₃ TL' TO' ht' ⟨l, vs, ep, rfl, hl, hlo, hto⟩
  have N₄ := led_new F₂ N₃ hl hlo
  k_steps
  rename Fr _ _ _ _ => F₅
  rename News _ _ _ _ => N₅
  obtain ⟨ys, hps, hst⟩ := pieces_of hto
  have hva : vs = vs.toList.toArray := by simp
  refine use_leaf (c_join1 (ep := ep) hst (fun y hy => ?_) (by simp only [List.length_map]; rw [hps.len]; exact hn)) B F₅ X N₅ T rfl (by omega) (by omega) (by rw [← hva]; exact (N₅ _ (.head _)).1) ?_
  · obtain ⟨z, hz, rfl⟩ := List.mem_map.mp hy
    rw [mkS_len]
    have := hps.short z hz
    omega
  · rintro v h₆ tk₆ F₆ N₆ _ ⟨t', rfl⟩
    exact hret _ _ _ gs₃ _ tabs' hgb F₆ (fun p hp => N₆ p (.tail _ (.tail _ hp))) TL' (fun q hq => (ht' q hq).imp id fun h => Nat.le_trans (Nat.le_of_lt hlt2) h) ⟨_, ys, hps, rfl⟩
end
section
open PySem PySem.W PyProof.Rows PySem.Calls
set_option maxRecDepth 100000
set_option maxHeartbeats 4000000
theorem fill_PG : (fun (_ : OpenLaw) (_ : Params → Frag) => True) PySem.Challenge.rw_ik0125_01 hd.heap_1 := by k_fill; trivial
theorem or_and_add : ∀ a b : Nat, (a ||| b) + (a &&& b) = a + b := by
  intro a
  induction a using Nat.strongRecOn with
  | ind a ih =>
    intro b
    by_cases h0 : a = 0
    · subst h0; simp
    · have h := ih (a / 2) (by omega) (b / 2)
      have e1 : (a ||| b) / 2 = a / 2 ||| b / 2 := Nat.or_div_two
      have e2 : (a &&& b) / 2 = a / 2 &&& b / 2 := Nat.and_div_two
      have e3 := Nat.or_mod_two_pow (a := a) (b := b) (n := 1)
      have e4 := Nat.and_mod_two_pow (a := a) (b := b) (n := 1)
      rw [← e1, ← e2] at h
      rw [Nat.pow_one] at e3 e4
      rcases Nat.mod_two_eq_zero_or_one a with x | x <;> rcases Nat.mod_two_eq_zero_or_one b with y | y <;> rw [x, y] at e3 e4 <;> simp only [Nat.or_self, Nat.zero_or, Nat.or_zero, Nat.and_self, Nat.zero_and, Nat.and_zero] at e3 e4 <;> omega
theorem gray_neg (n : Nat) : Builtin.bitXor (-1 - (n : Int)) ((-1 - (n : Int)).fdiv 2) = ((n ^^^ (n / 2) : Nat) : Int) := by
  have e : (-1 - (n : Int)).fdiv 2 = -1 - ((n / 2 : Nat) : Int) := by
    rw [Int.fdiv_eq_ediv_of_nonneg _ (by decide)]; omega
  rw [e, bitXor_and]
  generalize n / 2 = b
  have ha : Builtin.bitAnd (-1 - (n : Int)) (-1 - (b : Int)) = -((n ||| b : Nat) : Int) - 1 := by
    unfold Builtin.bitAnd
    rw [decide_eq_false (by omega), decide_eq_false (by omega)]
    show Builtin.bitNot _ = _
    have h1 : (Builtin.bitNot (-1 - (n : Int))).toNat = n := by unfold Builtin.bitNot; omega
    have h2 : (Builtin.bitNot (-1 - (b : Int))).toNat = b := by unfold Builtin.bitNot; omega
    rw [h1, h2]; rfl
  rw [ha]
  have h1 := or_and_add n b
  have h2 := xor_and_add n b
  omega
theorem dig1 (A i : Nat) : dig 1 A i = (A.testBit i).toNat := by
  unfold dig
  rw [Nat.one_mul, Nat.pow_one, Nat.toNat_testBit]
theorem gray_bit (n i : Nat) : (n ^^^ (n / 2)).testBit i = (n.testBit i ^^ n.testBit (i + 1)) := by
  rw [Nat.testBit_xor, ← Nat.testBit_succ]
theorem toNat_xor (a b : Bool) : (a ^^ b).toNat = a.toNat ^^^ b.toNat := by cases a <;> cases b <;> rfl
theorem testBit_high {A K i : Nat} (h : A < 2 ^ K) (hi : K ≤ i) : A.testBit i = false := Nat.testBit_lt_two_pow (Nat.lt_of_lt_of_le h (Nat.pow_le_pow_right (by decide) hi))
theorem gray_top {n K : Nat} (hn : n < 4096) (h : n ^^^ (n / 2) < 2 ^ K) : n < 2 ^ K := by
  have key : ∀ i, K ≤ i → ∀ m, n.testBit (i + m) = n.testBit i := by
    intro i hi m
    induction m with
    | zero => rfl
    | succ m ih =>
      have := gray_bit n (i + m)
      rw [testBit_high h (by omega)] at this
      rw [← ih, show i + (m + 1) = i + m + 1 by omega]
      revert this
      cases n.testBit (i + m) <;> cases n.testBit (i + m + 1) <;> simp
  refine Nat.lt_pow_two_of_testBit _ fun i hi => ?_
  have := key i hi 12
  rw [testBit_high (K := 12) (by omega) (by omega)] at this
  exact this.symm
theorem last_gray {n K : Nat} (hK : K = numD 1 (n ^^^ (n / 2))) (hn : n < 2 ^ K) : ∀ i, i ≤ K → lastF (digR (n ^^^ (n / 2))) i = dig 1 n (K - i)
  | 0, _ => by
    rw [dig1, testBit_high hn (by omega)]; rfl
  | i + 1, hi => by
    have hl : (digR (n ^^^ (n / 2))).length = K := by rw [hK]; unfold digR; simp
    rw [lastF_succ (by omega), last_gray hK hn i (by omega)]
    have hg : (digR (n ^^^ (n / 2)))[i]'(by omega) = dig 1 (n ^^^ (n / 2)) (K - 1 - i) := by
      unfold digR
      rw [List.getElem_reverse]
      simp only [List.getElem_map, List.getElem_range, List.length_map, List.length_range]
      rw [← hK]
    rw [hg, dig1, dig1, dig1, gray_bit, ← toNat_xor, show K - 1 - i + 1 = K - i by omega, show K - (i + 1) = K - 1 - i by omega]
    cases n.testBit (K - i) <;> cases n.testBit (K - 1 - i) <;> rfl
theorem und_digs (n : Nat) : ∀ K, und 1 ((List.range K).map (dig 1 n)) = n % 2 ^ K
  | 0 => by simp [und, Nat.mod_one]
  | K + 1 => by
    rw [List.range_succ, List.map_append, und_append, und_digs n K, List.length_map, List.length_range, Nat.mul_one, Nat.mod_pow_succ]
    simp only [List.map_cons, List.map_nil, und]
    unfold dig
    rw [Nat.one_mul, Nat.pow_one, Nat.mul_zero, Nat.add_zero]
theorem gray_back {n : Nat} (hn : n < 4096) : backF (n ^^^ (n / 2)) = n := by
  obtain ⟨K, hK⟩ : ∃ K, K = numD 1 (n ^^^ (n / 2)) := ⟨_, rfl⟩
  have h1 : n ^^^ (n / 2) < 2 ^ K := by have := numD_lt (N := 1) (A := n ^^^ (n / 2)) (by decide); rwa [Nat.one_mul, ← hK] at this
  have h2 := gray_top hn h1
  unfold backF
  rw [← hK]
  have e : (seenF (digR (n ^^^ (n / 2))) K).reverse = (List.range K).map (dig 1 n) := by
    apply List.ext_getElem
    · simp [seenF]
    · intro i h3 h4
      rw [List.getElem_reverse]
      simp only [seenF, List.getElem_map, List.getElem_range, List.length_map, List.length_range]
      have hi : i < K := by simpa using h4
      rw [last_gray hK h2 _ (by omega), show K - (K - 1 - i + 1) = i by omega]
  rw [e, und_digs, Nat.mod_eq_of_lt h2]
/-- the first place of a 1 among the digits of m -/
def lowF (m : Nat) : Nat := ((List.range (numD 1 m)).map fun i => ((dig 1 m i : Nat) : Int)).idxOf 1
theorem one_mem {m : Nat} (h : m ≠ 0) : (1 : Int) ∈ (List.range (numD 1 m)).map fun i => ((dig 1 m i : Nat) : Int) := by
  have h1 := numD_lt (N := 1) (A := m) (by decide)
  rw [Nat.one_mul] at h1
  obtain ⟨i, hi⟩ := Nat.exists_testBit_of_ne_zero h
  refine List.mem_map.mpr ⟨i, List.mem_range.mpr ?_, ?_⟩
  · refine Nat.lt_of_not_le fun hc => ?_
    rw [testBit_high h1 hc] at hi; cases hi
  · rw [dig1, hi]; rfl
theorem low_spec {m : Nat} (h : m ≠ 0) : m.testBit (lowF m) = true ∧ ∀ i, i < lowF m → m.testBit i = false := by
  have hm := one_mem h
  have hlt := List.idxOf_lt_length_iff.mpr hm
  constructor
  · have := List.getElem_idxOf hlt
    simp only [List.getElem_map, List.getElem_range] at this
    rw [dig1] at this
    unfold lowF
    revert this
    cases m.testBit (List.idxOf 1 ((List.range (numD 1 m)).map fun i => ((dig 1 m i : Nat) : Int))) <;> simp
  · intro i hi
    unfold lowF at hi
    have hil : i < ((List.range (numD 1 m)).map fun i => ((dig 1 m i : Nat) : Int)).length := Nat.lt_trans hi hlt
    have := List.not_of_lt_findIdx (p := (· == (1 : Int))) (xs := (List.range (numD 1 m)).map fun i => ((dig 1 m i : Nat) : Int)) (i := i) hi
    simp only [List.getElem_map, List.getElem_range, beq_iff_eq] at this
    rw [dig1] at this
    revert this
    cases m.testBit i <;> simp
theorem low_split {m c : Nat} (h1 : m.testBit c = true) (h2 : ∀ i, i < c → m.testBit i = false) : ∃ q, m = 2 ^ (c + 1) * q + 2 ^ c := by
  have h3 : m % 2 ^ c = 0 := by
    apply Nat.eq_of_testBit_eq
    intro i
    rw [Nat.testBit_mod_two_pow, Nat.zero_testBit]
    by_cases hi : i < c
    · rw [h2 i hi]; simp
    · simp [hi]
  have h4 : m / 2 ^ c % 2 = 1 := by rw [← Nat.toNat_testBit, h1]; rfl
  refine ⟨m / 2 ^ c / 2, ?_⟩
  have h5 := Nat.div_add_mod m (2 ^ c)
  have h6 := Nat.div_add_mod (m / 2 ^ c) 2
  rw [h4] at h6
  rw [h3] at h5
  rw [Nat.pow_succ, Nat.mul_assoc]
  generalize m / 2 ^ c = z at *
  rw [← h5]
  have h7 : 2 ^ c * z = 2 ^ c * (2 * (z / 2) + 1) := by rw [h6]
  rw [Nat.add_zero, h7, Nat.mul_add, Nat.mul_one]
theorem xor_pred (c q : Nat) : (2 ^ (c + 1) * q + 2 ^ c) ^^^ (2 ^ (c + 1) * q + 2 ^ c - 1) = 2 ^ (c + 1) - 1 := by
  have hp := Nat.two_pow_pos c
  have hlt : 2 ^ c < 2 ^ (c + 1) := by rw [Nat.pow_succ]; omega
  rw [Nat.add_sub_assoc hp]
  apply Nat.eq_of_testBit_eq
  intro i
  rw [Nat.testBit_xor, Nat.testBit_two_pow_mul_add _ hlt, Nat.testBit_two_pow_mul_add _ (by omega), Nat.testBit_two_pow_sub_one]
  by_cases hi : i < c + 1
  · rw [if_pos hi, if_pos hi, Nat.testBit_two_pow_sub_one, Nat.testBit_two_pow, decide_eq_true hi]
    by_cases h2 : i < c
    · rw [decide_eq_true h2, decide_eq_false (by omega)]; rfl
    · rw [decide_eq_false h2, decide_eq_true (by omega)]; rfl
  · rw [if_neg hi, if_neg hi, Nat.testBit_two_pow_sub_one, decide_eq_false hi]; simp
theorem half_ones (c : Nat) : (2 ^ (c + 1) - 1) ^^^ ((2 ^ (c + 1) - 1) / 2) = 2 ^ c := by
  apply Nat.eq_of_testBit_eq
  intro i
  rw [gray_bit, Nat.testBit_two_pow_sub_one, Nat.testBit_two_pow_sub_one, Nat.testBit_two_pow]
  by_cases h : i < c
  · rw [decide_eq_true (by omega), decide_eq_true (by omega), decide_eq_false (by omega)]; rfl
  · by_cases h2 : i = c
    · rw [decide_eq_true (by omega), decide_eq_false (by omega), decide_eq_true (by omega)]; rfl
    · rw [decide_eq_false (by omega), decide_eq_false (by omega), decide_eq_false (by omega)]; rfl
theorem gray_xor (a b : Nat) : (a ^^^ (a / 2)) ^^^ (b ^^^ (b / 2)) = (a ^^^ b) ^^^ ((a ^^^ b) / 2) := by
  apply Nat.eq_of_testBit_eq
  intro i
  rw [Nat.testBit_xor, gray_bit, gray_bit, gray_bit, Nat.testBit_xor, Nat.testBit_xor]
  cases a.testBit i <;> cases b.testBit i <;> cases a.testBit (i + 1) <;> cases b.testBit (i + 1) <;> rfl
theorem gray_step {n : Nat} (hn : n < 4096) : min (lowF (n + 1)) 11 < 12 ∧ (n + 1) % 4096 ^^^ ((n + 1) % 4096 / 2) = (n ^^^ (n / 2)) ^^^ 2 ^ (min (lowF (n + 1)) 11) := by
  refine ⟨by omega, ?_⟩
  obtain ⟨h1, h2⟩ := low_spec (m := n + 1) (by omega)
  by_cases h : n = 4095
  · subst h
    have : lowF (4095 + 1) = 12 := by
      by_cases hl : lowF (4095 + 1) = 12
      · exact hl
      · exfalso
        have e : (4095 + 1 : Nat) = 2 ^ 12 := rfl
        rw [e, Nat.testBit_two_pow] at h1
        exact hl (of_decide_eq_true h1).symm
    rw [this]; rfl
  · generalize lowF (n + 1) = c at *
    have hc : c < 12 := by
      refine Nat.lt_of_not_le fun hc => ?_
      rw [testBit_high (K := 12) (by omega) hc] at h1; cases h1
    rw [Nat.min_eq_left (by omega), Nat.mod_eq_of_lt (by omega)]
    obtain ⟨q, hq⟩ := low_split h1 h2
    have h3 := xor_pred c q
    rw [← hq, Nat.add_sub_cancel] at h3
    have h4 := gray_xor (n + 1) n
    rw [h3, half_ones] at h4
    rw [← h4, Nat.xor_comm (n ^^^ (n / 2)), Nat.xor_assoc, Nat.xor_self, Nat.xor_zero]
end
section
open PySem PySem.W PyProof.Rows PySem.Calls
set_option maxRecDepth 100000
set_option maxHeartbeats 4000000
theorem fill_PR : (fun (_ : OpenLaw) (_ : Params → Frag) => True) PySem.Challenge.rw_ik0125_01 hd.heap_1 := by k_fill; trivial
def rowL (x : Int) : List Nat := (List.range 10).map (signF x)
theorem row_mkS (x : Int) : Txt.join (Str.ofString "") ((List.range 10).map fun k => chS (signF x k)) = mkS (rowL x) := by
  apply str_ext
  rw [join_cps, List.map_map]
  unfold rowL
  show ((List.range 10).map (fun k => (chS (signF x k)).cps.toList)).flatten = _
  simp [chS, List.range_succ]
theorem rowL_len (x : Int) : (rowL x).length = 10 := by simp [rowL]
theorem rowL_get (x : Int) {k : Nat} (h : k < 10) : (rowL x).getD k 0 = signF x k := by
  unfold rowL
  rw [List.getD_eq_getElem?_getD, List.getElem?_map, List.getElem?_range h]; rfl
def sgn (k : Nat) (p q : Bool) : Nat := if k % 3 = 0 then (signsF k).getD (p.toNat + 2 * q.toNat) 0 else if p then [114, 119].getD (k % 3 - 1) 0 else 45
theorem and_pow (n i : Nat) : n &&& 2 ^ i = (n.testBit i).toNat * 2 ^ i := by
  apply Nat.eq_of_testBit_eq
  intro j
  rw [Nat.testBit_and, Nat.testBit_two_pow]
  by_cases h : i = j
  · subst h; cases n.testBit i <;> simp
  · rw [decide_eq_false h, Bool.and_false]; cases n.testBit i <;> simp [Nat.testBit_two_pow, h]
theorem tb1 (M b i : Nat) (h : b = 2 ^ i) : (Builtin.bitAnd (M : Int) (b : Int) == (b : Int)) = M.testBit i := by
  subst h
  rw [bitAnd_pp (Int.natCast_nonneg _) (Int.natCast_nonneg _), Int.toNat_natCast, Int.toNat_natCast, and_pow]
  have := Nat.two_pow_pos i
  cases M.testBit i
  · rw [Bool.toNat_false, Nat.zero_mul]
    exact beq_false_of_ne (by omega)
  · rw [Bool.toNat_true, Nat.one_mul]; exact beq_self_eq_true _
theorem tb2 (M b i j : Nat) (h : b = 2 ^ i ||| 2 ^ j) (h1 : 2 ^ i ||| 2 ^ j ≠ 2 ^ i) (h2 : 2 ^ i ||| 2 ^ j ≠ 2 ^ j) (h3 : 2 ^ i ||| 2 ^ j ≠ 0) : (Builtin.bitAnd (M : Int) (b : Int) == (b : Int)) = (M.testBit i && M.testBit j) := by
  subst h
  rw [bitAnd_pp (Int.natCast_nonneg _) (Int.natCast_nonneg _), Int.toNat_natCast, Int.toNat_natCast, Nat.and_or_distrib_left, and_pow, and_pow]
  cases M.testBit i <;> cases M.testBit j <;> simp only [Bool.toNat_false, Bool.toNat_true, Nat.zero_mul, Nat.one_mul, Nat.zero_or, Nat.or_zero, Bool.and_false, Bool.and_true, Bool.false_and, Bool.and_self, beq_self_eq_true]
  · exact beq_false_of_ne (by omega)
  · exact beq_false_of_ne (by omega)
  · exact beq_false_of_ne (by omega)
theorem hit1 (P : Int → Bool) (d c : Nat) (b : Int) : hitF P d [(b, c)] = if P b then c else d := by
  unfold hitF
  cases h : P b <;> simp [List.find?, h]
theorem hit3 (P : Int → Bool) (d c1 c2 c3 : Nat) (b1 b2 b3 : Int) : hitF P d [(b1, c1), (b2, c2), (b3, c3)] = if P b1 then c1 else if P b2 then c2 else if P b3 then c3 else d := by
  unfold hitF
  cases h1 : P b1 <;> cases h2 : P b2 <;> cases h3 : P b3 <;> simp [List.find?, h1, h2, h3]
theorem sign1 (M k : Nat) (h0 : 1 ≤ k) (h : k < 10) : signF (M : Int) k = sgn k (M.testBit (9 - k)) (M.testBit (12 - k / 3)) := by
  have : k = 1 ∨ k = 2 ∨ k = 3 ∨ k = 4 ∨ k = 5 ∨ k = 6 ∨ k = 7 ∨ k = 8 ∨ k = 9 := by omega
  unfold signF
  rcases this with rfl | rfl | rfl | rfl | rfl | rfl | rfl | rfl | rfl
  · refine (hit1 _ _ _ _).trans ?_
    have e : testF (M : Int) 1 256 = M.testBit 8 := tb1 M 256 8 rfl
    rw [e]; rfl
  · refine (hit1 _ _ _ _).trans ?_
    have e : testF (M : Int) 2 128 = M.testBit 7 := tb1 M 128 7 rfl
    rw [e]; rfl
  · refine (hit3 _ _ _ _ _ _ _ _).trans ?_
    have e1 : testF (M : Int) 3 2112 = (M.testBit 11 && M.testBit 6) := tb2 M 2112 11 6 rfl (by decide) (by decide) (by decide)
    have e2 : testF (M : Int) 3 2048 = M.testBit 11 := tb1 M 2048 11 rfl
    have e3 : testF (M : Int) 3 64 = M.testBit 6 := tb1 M 64 6 rfl
    rw [e1, e2, e3]
    show _ = sgn 3 (M.testBit 6) (M.testBit 11)
    cases M.testBit 6 <;> cases M.testBit 11 <;> rfl
  · refine (hit1 _ _ _ _).trans ?_
    have e : testF (M : Int) 4 32 = M.testBit 5 := tb1 M 32 5 rfl
    rw [e]; rfl
  · refine (hit1 _ _ _ _).trans ?_
    have e : testF (M : Int) 5 16 = M.testBit 4 := tb1 M 16 4 rfl
    rw [e]; rfl
  · refine (hit3 _ _ _ _ _ _ _ _).trans ?_
    have e1 : testF (M : Int) 6 1032 = (M.testBit 10 && M.testBit 3) := tb2 M 1032 10 3 rfl (by decide) (by decide) (by decide)
    have e2 : testF (M : Int) 6 1024 = M.testBit 10 := tb1 M 1024 10 rfl
    have e3 : testF (M : Int) 6 8 = M.testBit 3 := tb1 M 8 3 rfl
    rw [e1, e2, e3]
    show _ = sgn 6 (M.testBit 3) (M.testBit 10)
    cases M.testBit 3 <;> cases M.testBit 10 <;> rfl
  · refine (hit1 _ _ _ _).trans ?_
    have e : testF (M : Int) 7 4 = M.testBit 2 := tb1 M 4 2 rfl
    rw [e]; rfl
  · refine (hit1 _ _ _ _).trans ?_
    have e : testF (M : Int) 8 2 = M.testBit 1 := tb1 M 2 1 rfl
    rw [e]; rfl
  · refine (hit3 _ _ _ _ _ _ _ _).trans ?_
    have e1 : testF (M : Int) 9 513 = (M.testBit 9 && M.testBit 0) := tb2 M 513 9 0 rfl (by decide) (by decide) (by decide)
    have e2 : testF (M : Int) 9 512 = M.testBit 9 := tb1 M 512 9 rfl
    have e3 : testF (M : Int) 9 1 = M.testBit 0 := tb1 M 1 0 rfl
    rw [e1, e2, e3]
    show _ = sgn 9 (M.testBit 0) (M.testBit 9)
    cases M.testBit 0 <;> cases M.testBit 9 <;> rfl
theorem mode_bit {κ x i : Nat} (hx : x < 4096) (hi : i < 12) : (κ * 4096 + x).testBit i = x.testBit i := by
  rw [Nat.mul_comm, show 4096 = 2 ^ 12 from rfl, Nat.testBit_two_pow_mul_add _ hx, if_pos hi]
theorem mode_kind {κ x : Nat} (hκ : κ < 16) (hx : x < 4096) : Builtin.bitAnd ((κ * 4096 + x : Nat) : Int) 61440 = ((κ * 4096 : Nat) : Int) := by
  have e : (κ * 4096 + x) &&& 61440 = κ * 4096 := by
    apply Nat.eq_of_testBit_eq
    intro i
    rw [Nat.testBit_and, Nat.mul_comm, show 4096 = 2 ^ 12 from rfl, Nat.testBit_two_pow_mul_add _ hx, show 61440 = 2 ^ 12 * 15 + 0 from rfl, Nat.testBit_two_pow_mul_add _ (by decide), ← Nat.add_zero (2 ^ 12 * κ), Nat.testBit_two_pow_mul_add _ (by decide)]
    by_cases hi : i < 12
    · rw [if_pos hi, if_pos hi, if_pos hi]; simp
    · rw [if_neg hi, if_neg hi, if_neg hi, ← Nat.testBit_and]
      have : κ &&& 15 = κ := by
        rw [show 15 = 2 ^ 4 - 1 from rfl, Nat.and_two_pow_sub_one_eq_mod, Nat.mod_eq_of_lt hκ]
      rw [this]
  rw [show (61440 : Int) = ((61440 : Nat) : Int) from rfl, bitAnd_pp (Int.natCast_nonneg _) (Int.natCast_nonneg _), Int.toNat_natCast, Int.toNat_natCast, e]
theorem sign0 {κ x y : Nat} (hκ : κ < 16) (hx : x < 4096) (hy : y < 4096) : signF ((κ * 4096 + x : Nat) : Int) 0 = signF ((κ * 4096 + y : Nat) : Int) 0 := by
  unfold signF
  have : ∀ b, testF ((κ * 4096 + x : Nat) : Int) 0 b = testF ((κ * 4096 + y : Nat) : Int) 0 b := fun b => by
    unfold testF
    rw [if_pos rfl, if_pos rfl, mode_kind hκ hx, mode_kind hκ hy]
  rw [show testF ((κ * 4096 + x : Nat) : Int) 0 = testF ((κ * 4096 + y : Nat) : Int) 0 from funext this]
theorem sign_k {κ x k : Nat} (hx : x < 4096) (h0 : 1 ≤ k) (h : k < 10) (h3 : k % 3 = 0) : signF ((κ * 4096 + x : Nat) : Int) k = sgn k (x.testBit (9 - k)) (x.testBit (12 - k / 3)) := by
  rw [sign1 _ _ h0 h, mode_bit hx (by omega), mode_bit hx (by omega)]
theorem sign_n {κ x k : Nat} (hx : x < 4096) (h0 : 1 ≤ k) (h : k < 10) (h3 : k % 3 ≠ 0) (q : Bool) : signF ((κ * 4096 + x : Nat) : Int) k = sgn k (x.testBit (9 - k)) q := by
  rw [sign1 _ _ h0 h, mode_bit hx (by omega)]
  unfold sgn
  rw [if_neg h3, if_neg h3]
/-- the second bit of a column, where it has one -/
def qBit (x k : Nat) : Bool := k % 3 == 0 && x.testBit (12 - k / 3)
theorem sign_q {κ x k : Nat} (hx : x < 4096) (h0 : 1 ≤ k) (h : k < 10) : signF ((κ * 4096 + x : Nat) : Int) k = sgn k (x.testBit (9 - k)) (qBit x k) := by
  unfold qBit
  by_cases h3 : k % 3 = 0
  · rw [sign_k hx h0 h h3, h3]; rfl
  · exact sign_n hx h0 h h3 _
theorem sgn_ok : ∀ k, k < 10 → 1 ≤ k → ∀ p q, sgn k p q ∈ (if k % 3 = 0 then signsF k else [45, [114, 119].getD (k % 3 - 1) 0]) := by decide
theorem sgn_sign : ∀ k, k < 10 → 1 ≤ k → ∀ p q, sgn k p q ∈ [114, 119, 120, 115, 83, 116, 84, 45] := by decide
theorem sgn_inj : ∀ k, k < 10 → 1 ≤ k → ∀ p q p' q', sgn k p q = sgn k p' q' → p = p' ∧ (k % 3 = 0 → q = q') := by decide
theorem sgn_alt : ∀ bit, bit < 12 → ∀ p q, altF (colF bit) bit (sgn (colF bit) p q) = if bit < 9 then sgn (colF bit) (!p) q else sgn (colF bit) p (!q) := by decide
theorem col_ok : ∀ bit, bit < 12 → 1 ≤ colF bit ∧ colF bit < 10 := by decide
theorem row_ok {κ x : Nat} (hx : x < 4096) : rowOk (rowL ((κ * 4096 + x : Nat) : Int)) := by
  refine ⟨rowL_len _, fun k h1 h2 => ?_⟩
  rw [rowL_get _ h2, sign_q hx h1 h2]
  exact sgn_ok k h2 h1 _ _
theorem pair_ok : ∀ bit, bit < 12 → ∀ p q, (sgn (colF bit) p q, altF (colF bit) bit (sgn (colF bit) p q)) ∈ two84 ∨ (sgn (colF bit) p q ∈ pre114 ∧ altF (colF bit) bit (sgn (colF bit) p q) = 45) ∨ (sgn (colF bit) p q = 45 ∧ altF (colF bit) bit (sgn (colF bit) p q) ∈ pre114) := by decide
theorem kind_ok : ∀ m : Nat, signF (m : Int) 0 ∈ 45 :: one63 := by
  intro m
  unfold signF hitF
  split
  · rename_i p e
    have := List.mem_of_find?_eq_some e
    revert this
    show p ∈ [(40960, 108), (49152, 115), (32768, 45), (24576, 98), (16384, 100), (8192, 99), (4096, 112)] → _
    simp only [List.mem_cons, List.not_mem_nil, or_false]
    rintro (rfl | rfl | rfl | rfl | rfl | rfl | rfl) <;> decide
  · decide
theorem toks_ok {κ x bit : Nat} (hx : x < 4096) (hb : bit < 12) : ∀ t ∈ openToks (rowL ((κ * 4096 + x : Nat) : Int)) bit, (∃ c, isSign c ∧ t = [c]) ∨ (∃ c ∈ one63, t = [91, c, 93]) ∨ (∃ a b, (a, b) ∈ two84 ∧ t = [91, a, b, 93]) ∨ (t = [91, 45, 93]) ∨ (∃ a ∈ pre114, t = [91, a, 45, 93]) ∨ (∃ b ∈ pre114, t = [91, 45, b, 93]) := by
  intro t ht
  unfold openToks at ht
  rcases List.mem_cons.mp ht with rfl | ht
  · rw [rowL_get _ (by decide)]
    rcases List.mem_cons.mp (kind_ok (κ * 4096 + x)) with e | e
    · rw [e]; exact .inr (.inr (.inr (.inl rfl)))
    · exact .inr (.inl ⟨_, e, rfl⟩)
  · obtain ⟨i, hi, rfl⟩ := List.mem_map.mp ht
    have hi := List.mem_range.mp hi
    have hs := sign_q (κ := κ) hx (show 1 ≤ i + 1 by omega) (by omega)
    unfold openTok
    rw [rowL_get _ (by omega), hs]
    by_cases hc : i + 1 = colF bit
    · rw [if_pos hc, hc]
      rcases pair_ok bit hb (x.testBit (9 - colF bit)) (qBit x (colF bit)) with h | ⟨h1, h2⟩ | ⟨h1, h2⟩
      · exact .inr (.inr (.inl ⟨_, _, h, rfl⟩))
      · rw [h2]; exact .inr (.inr (.inr (.inr (.inl ⟨_, h1, rfl⟩))))
      · rw [h1] at h2 ⊢; exact .inr (.inr (.inr (.inr (.inr ⟨_, h2, rfl⟩))))
    · rw [if_neg hc]; exact .inl ⟨_, sgn_sign _ (by omega) (by omega) _ _, rfl⟩
theorem takes_all {row : List Nat} {ts : List (List Nat)} : ∀ (ks acc : List Int), ks.foldl (takesG row ts) acc = acc ++ ks.filter fun k => decide (row.getD k.toNat 0 ∉ innerOf (ts.getD k.toNat []))
  | [], acc => by simp
  | k :: ks, acc => by
    rw [List.foldl_cons, takes_all ks]
    unfold takesG
    by_cases h : row.getD k.toNat 0 ∈ innerOf (ts.getD k.toNat [])
    · rw [if_pos h, List.filter_cons, if_neg (by simpa using h)]
    · rw [if_neg h, List.filter_cons, if_pos (by simpa using h), List.append_assoc]; rfl
theorem takes_iff0 {row : List Nat} {ts : List (List Nat)} : takesF row ts = true ↔ ∀ k, k < 10 → row.getD k 0 ∈ innerOf (ts.getD k []) := by
  unfold takesF
  rw [decide_eq_true_iff, takes_all, List.nil_append, List.filter_eq_nil_iff]
  constructor
  · intro h k hk
    have := h (k : Int) (by unfold rangeKs; exact List.mem_map.mpr ⟨k, List.mem_range.mpr hk, by simp⟩)
    simpa using this
  · intro h k hk
    have h1 := (mem_rangeKs hk).1
    have h2 := (mem_rangeKs hk).2
    have := h k.toNat (by omega)
    simpa using this
theorem inner_get {row : List Nat} {bit : Nat} : innerOf ((openToks row bit).getD 0 []) = [row.getD 0 0] ∧ ∀ k, 1 ≤ k → k < 10 → innerOf ((openToks row bit).getD k []) = if k = colF bit then [row.getD k 0, altF k bit (row.getD k 0)] else [row.getD k 0] := by
  refine ⟨rfl, fun k h1 h2 => ?_⟩
  obtain ⟨i, rfl⟩ : ∃ i, k = i + 1 := ⟨k - 1, by omega⟩
  rw [List.getD_eq_getElem?_getD, toks_get (by omega)]
  show innerOf (openTok row bit (i + 1)) = _
  unfold openTok
  by_cases h : i + 1 = colF bit
  · rw [if_pos h, if_pos h]; rfl
  · rw [if_neg h, if_neg h]; rfl
theorem col_lo : ∀ i, i < 12 → i < 9 → 9 - colF i = i := by decide
theorem col_hi : ∀ i, i < 12 → ¬ i < 9 → colF i % 3 = 0 ∧ 12 - colF i / 3 = i := by decide
theorem col_inj0 : ∀ i, i < 12 → ∀ b, b < 12 → colF i ≠ colF b ∨ ¬ (i < 9 ↔ b < 9) ∨ i = b := by decide
theorem col_inj (i : Nat) (hi : i < 12) (b : Nat) (hb : b < 12) (h : colF i = colF b) : (i < 9 → b < 9 → i = b) ∧ (¬ i < 9 → ¬ b < 9 → i = b) := by
  rcases col_inj0 i hi b hb with e | e | e
  · exact absurd h e
  · exact ⟨fun h1 h2 => absurd ⟨fun _ => h2, fun _ => h1⟩ e, fun h1 h2 => absurd ⟨fun h => absurd h h1, fun h => absurd h h2⟩ e⟩
  · exact ⟨fun _ _ => e, fun _ _ => e⟩
theorem col_off : ∀ b, b < 12 → (b < 9 → b ≠ 12 - colF b / 3) ∧ (¬ b < 9 → b ≠ 9 - colF b) := by decide
theorem col_not0 : ∀ k, k < 10 → ∀ b, b < 12 → k = 0 ∨ k = colF b ∨ (b ≠ 9 - k ∧ (k % 3 ≠ 0 ∨ b ≠ 12 - k / 3)) := by decide
theorem col_not (k : Nat) (hk : k < 10) (h1 : 1 ≤ k) (b : Nat) (hb : b < 12) (h : k ≠ colF b) : b ≠ 9 - k ∧ (k % 3 = 0 → b ≠ 12 - k / 3) := by
  rcases col_not0 k hk b hb with e | e | ⟨e1, e2⟩
  · rw [e] at h1; cases h1
  · exact absurd e h
  · exact ⟨e1, fun h3 => e2.resolve_left fun n => n h3⟩
theorem takes_iff {κ T x bit : Nat} (hκ : κ < 16) (hT : T < 4096) (hx : x < 4096) (hb : bit < 12) :
    takesF (rowL ((κ * 4096 + x : Nat) : Int)) (openToks (rowL ((κ * 4096 + T : Nat) : Int)) bit) = decide (x = T ∨ x = T ^^^ 2 ^ bit) := by
  rw [Bool.eq_iff_iff, decide_eq_true_iff, takes_iff0]
  obtain ⟨i0, ik⟩ := inner_get (row := rowL ((κ * 4096 + T : Nat) : Int)) (bit := bit)
  constructor
  · intro h
    have same : ∀ i, i < 12 → i ≠ bit → x.testBit i = T.testBit i := by
      intro i hi hne
      obtain ⟨c1, c2⟩ := col_ok i hi
      have hm := h (colF i) c2
      rw [ik _ c1 c2, rowL_get _ c2, rowL_get _ c2, sign_q hx c1 c2, sign_q hT c1 c2] at hm
      have pick : ∀ p q : Bool, sgn (colF i) (x.testBit (9 - colF i)) (qBit x (colF i)) = sgn (colF i) p q → (i < 9 → x.testBit i = p) ∧ (9 ≤ i → x.testBit i = q) := by
        intro p q e
        have := sgn_inj _ c2 c1 _ _ _ _ e
        refine ⟨fun h9 => ?_, fun h9 => ?_⟩
        · rw [col_lo i hi h9] at this; exact this.1
        · obtain ⟨e2, e3⟩ := col_hi i hi (Nat.not_lt.mpr h9)
          have := this.2 e2
          unfold qBit at this
          rw [e2, e3] at this; exact this
      have own : (i < 9 → T.testBit (9 - colF i) = T.testBit i) ∧ (9 ≤ i → qBit T (colF i) = T.testBit i) := by
        refine ⟨fun h9 => ?_, fun h9 => ?_⟩
        · rw [col_lo i hi h9]
        · obtain ⟨e2, e3⟩ := col_hi i hi (Nat.not_lt.mpr h9)
          unfold qBit; rw [e2, e3]; rfl
      have base : sgn (colF i) (x.testBit (9 - colF i)) (qBit x (colF i)) = sgn (colF i) (T.testBit (9 - colF i)) (qBit T (colF i)) → x.testBit i = T.testBit i := by
        intro e
        have := pick _ _ e
        by_cases h9 : i < 9
        · rw [this.1 h9, own.1 h9]
        · rw [this.2 (Nat.not_lt.mp h9), own.2 (Nat.not_lt.mp h9)]
      by_cases hc : colF i = colF bit
      · rw [if_pos hc] at hm
        simp only [List.mem_cons, List.not_mem_nil, or_false] at hm
        rcases hm with e | e
        · exact base e
        · rw [hc] at e
          rw [sgn_alt bit hb, ← hc] at e
          by_cases hb9 : bit < 9
          · rw [if_pos hb9] at e
            have h9 : ¬ i < 9 := fun h9 => hne ((col_inj i hi bit hb hc).1 h9 hb9)
            rw [(pick _ _ e).2 (Nat.not_lt.mp h9), own.2 (Nat.not_lt.mp h9)]
          · rw [if_neg hb9] at e
            have h9 : i < 9 := Decidable.byContradiction fun h9 => hne ((col_inj i hi bit hb hc).2 h9 hb9)
            rw [(pick _ _ e).1 h9, own.1 h9]
      · rw [if_neg hc] at hm
        exact base (List.mem_singleton.mp hm)
    by_cases hbit : x.testBit bit = T.testBit bit
    · left
      apply Nat.eq_of_testBit_eq
      intro i
      by_cases hi : i < 12
      · by_cases hne : i = bit
        · rw [hne, hbit]
        · exact same i hi hne
      · rw [testBit_high (K := 12) hx (Nat.not_lt.mp hi), testBit_high (K := 12) hT (Nat.not_lt.mp hi)]
    · right
      apply Nat.eq_of_testBit_eq
      intro i
      rw [Nat.testBit_xor, Nat.testBit_two_pow]
      by_cases hne : i = bit
      · rw [hne, decide_eq_true rfl]
        revert hbit
        cases x.testBit bit <;> cases T.testBit bit <;> simp
      · rw [decide_eq_false (fun e => hne e.symm), Bool.xor_false]
        by_cases hi : i < 12
        · exact same i hi hne
        · rw [testBit_high (K := 12) hx (Nat.not_lt.mp hi), testBit_high (K := 12) hT (Nat.not_lt.mp hi)]
  · intro h k hk
    by_cases h0 : k = 0
    · subst h0
      rw [i0, rowL_get _ hk, rowL_get _ hk, sign0 hκ hx hT]
      exact .head _
    · have h1 : 1 ≤ k := Nat.pos_of_ne_zero h0
      rw [ik k h1 hk, rowL_get _ hk, rowL_get _ hk]
      rcases h with rfl | rfl
      · split
        · exact .head _
        · exact .head _
      · rw [sign_q hx h1 hk, sign_q hT h1 hk]
        by_cases hc : k = colF bit
        · rw [if_pos hc]
          refine List.mem_cons.mpr (.inr (List.mem_singleton.mpr ?_))
          subst hc
          rw [sgn_alt bit hb]
          by_cases hb9 : bit < 9
          · rw [if_pos hb9]
            have e1 := col_lo bit hb hb9
            have e2 : (T ^^^ 2 ^ bit).testBit (9 - colF bit) = !T.testBit (9 - colF bit) := by
              rw [e1, Nat.testBit_xor, Nat.testBit_two_pow, decide_eq_true rfl, Bool.xor_true]
            have e3 : qBit (T ^^^ 2 ^ bit) (colF bit) = qBit T (colF bit) := by
              unfold qBit
              rw [Nat.testBit_xor, Nat.testBit_two_pow, decide_eq_false ((col_off bit hb).1 hb9), Bool.xor_false]
            rw [e2, e3]
          · rw [if_neg hb9]
            obtain ⟨e4, e1⟩ := col_hi bit hb hb9
            have e2 : (T ^^^ 2 ^ bit).testBit (9 - colF bit) = T.testBit (9 - colF bit) := by
              rw [Nat.testBit_xor, Nat.testBit_two_pow, decide_eq_false ((col_off bit hb).2 hb9), Bool.xor_false]
            have e3 : qBit (T ^^^ 2 ^ bit) (colF bit) = !qBit T (colF bit) := by
              unfold qBit
              rw [e1, e4, Nat.testBit_xor, Nat.testBit_two_pow, decide_eq_true rfl, Bool.xor_true]; rfl
            rw [e2, e3]
        · rw [if_neg hc]
          refine List.mem_singleton.mpr ?_
          have hno := col_not k hk h1 bit hb hc
          have e2 : (T ^^^ 2 ^ bit).testBit (9 - k) = T.testBit (9 - k) := by
            rw [Nat.testBit_xor, Nat.testBit_two_pow, decide_eq_false hno.1, Bool.xor_false]
          have e3 : qBit (T ^^^ 2 ^ bit) k = qBit T k := by
            unfold qBit
            by_cases h3 : k % 3 = 0
            · rw [Nat.testBit_xor, Nat.testBit_two_pow, decide_eq_false (hno.2 h3), Bool.xor_false]
            · rw [beq_false_of_ne h3]; rfl
          rw [e2, e3]
end
section
open PySem PySem.W PyProof.Rows PySem.Calls
theorem fresh_LV : True := by (w_top off); k_with_none; trivial
set_option maxRecDepth 100000
set_option maxHeartbeats 4000000
theorem fill_LV : (fun (_ : OpenLaw) (_ : Params → Frag) => True) PySem.Challenge.rw_ik0125_01 hd.heap_1 := by k_fill; trivial
theorem my_post {M : Model} {A : Around} {cd : Code} {s s₁ : Shared} {cw : ClaimW} {cl : Str → Option Addr} {mean : ExcName → Option Value} {args : List WData} {tabs : List (Addr × Addr)} (hT : PySem.W.TabsAt tabs s₁.heap) (hr : ∀ a x, cw.raises a x = false)
    (h : codeAny M A cd (fun r s' => GoodW cw cl mean args { s₁ with heap := ghostOf s₁.heap tabs } r { s' with gens := #[] } ∧ GrownAll tabs s'.heap ∧ AllBare s'.gens) s) : codeAny M A cd (GoodWG cw cl mean args s₁) s :=
  codeAny_mono h fun r s' ⟨⟨hc, hk, hos, hg⟩, hgr, hbare⟩ => by
    have keep : ∀ b o, b ∉ tabs.map (·.2) → s₁.heap.get? b = some o → s'.heap.get? b = some o := fun b o hb e => hk b o (ghost_ne e hb)
    have grown : ∀ b o, b ∈ tabs.map (·.2) → s₁.heap.get? b = some o → isCodeTable s₁.heap b ∧ o = tabObj #[] ∧ ∃ ps, s'.heap.get? b = some (tabObj ps) := fun b o hb e => by
      obtain ⟨q, hq, rfl⟩ := List.mem_map.mp hb
      have e2 := (hT q hq).2
      rw [e] at e2
      exact ⟨((hT q hq).1.tab (hT q hq).2).isCodeTable, Option.some.inj e2, hgr.get q hq⟩
    refine ⟨?_, ⟨fun b o e => ?_, fun b o e => ?_⟩, hos, hbare⟩
    · rcases hc with ⟨v, d, as, r1, r2, r3, r4, r5⟩ | ⟨e, ob, x, _, _, _, r4, _⟩
      · refine .inl ⟨v, d, as, r1, r2, r3, r4, fun q => ⟨(r5 q).1, fun a ha => ?_⟩⟩
        cases q1 : s₁.heap.get? a with
        | none => rfl
        | some o =>
          by_cases hb : a ∈ tabs.map (·.2)
          · obtain ⟨_, _, ps, hP⟩ := grown a o hb q1
            exact absurd ha (readsW_apart hP rfl r3)
          · have e3 := (r5 q).2 a ha
            rw [show (ghostOf s₁.heap tabs).get? a = some o from ghost_ne q1 hb] at e3
            cases e3
      · rw [hr] at r4; cases r4
    · by_cases hb : b ∈ tabs.map (·.2)
      · obtain ⟨ht, rfl, ps, hP⟩ := grown b o hb e
        exact .inr (.inl ⟨ht, rfl, #[], ps, rfl, by rw [Array.empty_append]; exact hP⟩)
      · exact .inl (keep b o hb e)
    · by_cases hb : b ∈ tabs.map (·.2)
      · obtain ⟨_, _, ps, hP⟩ := grown b o hb e
        exact ⟨_, hP⟩
      · exact ⟨o, keep b o hb e⟩
local macro_rules | `(tactic| kn_posts) => `(tactic| (refine my_post (by assumption) (fun _ _ => rfl) ?_))
theorem wd_LV_0 : True := by k_with_none; trivial
theorem wd_LV_1 : True := by
  (k_with "call ref" =>
    ((k_here; (refine show_me0 ?_))))
  trivial
theorem wd_LV_2 : True := by
  (k_with "eval IfExp" =>
    (((have hMk : MarkI := by assumption); clear hMk; (refine show_me0 ?_))))
  trivial
theorem keepA {h₀ h : Heap} {L : Addr} {A B C D E F G H : Addr × Obj} {rest : List (Addr × Obj)} (N : News h₀ L h (A :: B :: C :: D :: E :: F :: G :: H :: rest)) : News h₀ L h (C :: E :: F :: rest) := fun p hp => N p (by
  rcases List.mem_cons.mp hp with rfl | hp
  · exact .tail _ (.tail _ (.head _))
  rcases List.mem_cons.mp hp with rfl | hp
  · exact .tail _ (.tail _ (.tail _ (.tail _ (.head _))))
  rcases List.mem_cons.mp hp with rfl | hp
  · exact .tail _ (.tail _ (.tail _ (.tail _ (.tail _ (.head _)))))
  · exact .tail _ (.tail _ (.tail _ (.tail _ (.tail _ (.tail _ (.tail _ (.tail _ hp))))))))
theorem off3 {A B C X : Addr} {a b c : Obj} (h1 : A ≠ X) (h2 : B ≠ X) (h3 : C ≠ X) : ∀ r ∈ [(A, a), (B, b), (C, c)], r.1 ≠ X := by
  intro r hr
  rcases List.mem_cons.mp hr with rfl | hr
  · exact h1
  rcases List.mem_cons.mp hr with rfl | hr
  · exact h2
  rcases List.mem_cons.mp hr with rfl | hr
  · exact h3
  · cases hr
theorem fm_nat (x : Int) {k : Nat} (hk : 0 < k) : ∃ n : Nat, x.fmod (k : Int) = (n : Int) ∧ n < k := by
  have h1 := Int.fmod_nonneg_of_pos x (show (0 : Int) < (k : Int) by omega)
  have h2 := Int.fmod_lt_of_pos x (show (0 : Int) < (k : Int) by omega)
  exact ⟨(x.fmod k).toNat, by omega, by omega⟩
theorem fdn (W D : Nat) : ((W : Int)).fdiv (D : Int) = ((W / D : Nat) : Int) := by rw [Int.fdiv_eq_ediv_of_nonneg _ (by omega)]; rfl
theorem fmn (W D : Nat) : ((W : Int)).fmod (D : Int) = ((W % D : Nat) : Int) := by rw [Int.fmod_eq_emod_of_nonneg _ (by omega)]; rfl
theorem gray_lt {n : Nat} (hn : n < 4096) : n ^^^ (n / 2) < 4096 := by
  have := Nat.xor_lt_two_pow (n := 12) (x := n) (y := n / 2) hn (by show _ < 4096; omega)
  exact this
theorem nb {n : Nat} (hn : n < 4096) : -4294967296 ≤ (n : Int) ∧ (n : Int) < 4294967296 ∧ -4294967296 ≤ -1 - (n : Int) ∧ -1 - (n : Int) < 4294967296 ∧ n + 1 < 18446744073709551616 := by omega
theorem succ_mod (n : Nat) : Int.fmod ((n : Int) + 1) 4096 = (((n + 1) % 4096 : Nat) : Int) := by rw [Int.fmod_eq_emod_of_nonneg _ (by decide)]; omega
theorem eqI_rfl (a : Int) : EqI a a := rfl
theorem lack_one (n : Nat) : (-1 - (n : Int)).fmod 2 = 1 - Int.fmod (n : Int) 2 := by
  rw [Int.fmod_eq_emod_of_nonneg _ (by decide), Int.fmod_eq_emod_of_nonneg _ (by decide)]; omega
/-- the right that is held against the pattern -/
def otherF (z : Int) (G d : Nat) : Nat := if z.fmod 2 = 1 then G ^^^ 2 ^ (d % 12) else d
theorem other_t {z : Int} {G d : Nat} (h : z.fmod 2 = 1) : Builtin.bitXor (G : Int) (2 ^ ((d : Int).fmod 12).toNat) = ((otherF z G d : Nat) : Int) := by
  unfold otherF
  rw [if_pos h, Int.fmod_eq_emod_of_nonneg _ (by decide), show ((d : Int) % 12).toNat = d % 12 by omega, ← bitXor_nat]
  push_cast; rfl
theorem other_f {z : Int} {G d : Nat} (h : z.fmod 2 ≠ 1) : (d : Int) = ((otherF z G d : Nat) : Int) := by
  unfold otherF
  rw [if_neg h]
theorem other_lt {z : Int} {G d : Nat} (hG : G < 4096) (hd : d < 4096) : otherF z G d < 4096 := by
  unfold otherF
  split
  · exact Nat.xor_lt_two_pow (n := 12) hG (Nat.pow_lt_pow_right (by decide) (by omega))
  · exact hd
theorem weight_ints : ∀ ns : List Int, (∀ k ∈ ns, PyData.weight (.int k) ≤ 8) → PyData.weight (.list (ns.map .int)) ≤ 9 * ns.length
  | [], _ => Nat.le_refl _
  | k :: ns, h => by
    have h1 := h k (.head _)
    have h2 := weight_ints ns fun j hj => h j (.tail _ hj)
    show PyData.weight (.int k) + 1 + PyData.weight (.list (ns.map .int)) ≤ 9 * (ns.length + 1)
    omega
theorem digs_lay {m : Nat} (hm : m < 18446744073709551616) : PyData.layable0 (.list (((List.range (numD 1 m)).map fun i => ((dig 1 m i : Nat) : Int)).map .int)) = true := by
  have hl : ((List.range (numD 1 m)).map fun i => ((dig 1 m i : Nat) : Int)).length ≤ 64 := by
    rw [List.length_map, List.length_range]
    have := numD_mul (N := 1) (A := m) (k := 64) (by decide) hm
    omega
  have hw : ∀ k ∈ (List.range (numD 1 m)).map fun i => ((dig 1 m i : Nat) : Int), PyData.weight (.int k) ≤ 8 := by
    intro k hk
    obtain ⟨i, _, rfl⟩ := List.mem_map.mp hk
    have h2 : dig 1 m i < 2 := dig_lt 1 m i
    exact intBits_le (by omega) (by show ((dig 1 m i : Nat) : Int) < 256; omega)
  generalize ((List.range (numD 1 m)).map fun i => ((dig 1 m i : Nat) : Int)) = ns at *
  have h3 := weight_ints ns hw
  unfold PyData.layable0
  have e1 : PyData.canLay0 (.list (ns.map .int)) = true := by simp only [PyData.canLay0]; exact canLayAll0_ints ns
  have e2 : PyData.depth (.list (ns.map .int)) ≤ 64 := by have := PySem.W.depthAll_ints ns; simp only [PyData.depth]; omega
  have e3 : PyData.weight (.list (ns.map .int)) ≤ 2 ^ 20 := by show _ ≤ 1048576; omega
  rw [e1, decide_eq_true e2, decide_eq_true e3]; rfl
theorem wd_LV_3 : True := by
  (k_with "call builtin:list.index" =>
    ((k_here; refine index_list_ints (by is_list) (by assumption) (by assumption) (by assumption) ?_)))
  trivial
theorem min_cast (a : Nat) : (if 11 < (a : Int) then 11 else (a : Int)) = ((min a 11 : Nat) : Int) := by
  by_cases h : 11 < (a : Int)
  · rw [if_pos h, Nat.min_eq_right (by omega)]; rfl
  · rw [if_neg h, Nat.min_eq_left (by omega)]
theorem text_eq (ys : List (List Nat)) : Str.ofString "(?s:" ++ Txt.join (Str.ofString "") (ys.map mkS) ++ Str.ofString ")\\Z" = mkS ([40, 63, 115, 58] ++ ys.flatten ++ [41, 92, 90]) := by
  apply str_ext
  rw [app_cps, app_cps, join_cps, List.map_map]
  rw [show (Str.ofString "(?s:").cps.toList = [40, 63, 115, 58] by decide +kernel, show (Str.ofString ")\\Z").cps.toList = [41, 92, 90] by decide +kernel]
  have : ((fun y : Str => y.cps.toList) ∘ mkS) = id := funext fun l => by simp
  rw [this, List.map_id]
theorem use_ctrG_t {w : World} {f : Addr} {d u : Nat} {vs : List Value} {Pre : List (Addr × Obj) → Heap → Prop} {Post : Heap → Heap → Value → Prop} {p : Program} {loose : List Str} {mean : ExcName → Option Value} {mg mb : Str → Option Value} {cn : Str} {cs : Scope} {a : Addr} {ccd : Value} {base h₀ : Heap} {L : Addr} {m : Str → Option Value} {tabs news : List (Addr × Obj)} {g : List (Addr × Obj) → List (Addr × Obj)} {s : Shared} {Q E : Value → Shared → Prop}
    (C : CtrG w f d u vs Pre Post) (B : Below callerA base [] h₀) (F : Fr h₀ L s.heap m) (X : (hd.heap_1 w.params).In h₀) (N : News h₀ L s.heap news) (TL : TabL3 tabs) (TO : TailOf tabs news g) (T : Top p loose mean mg mb h₀) (hk : cs.kind = .function)
    (hd : callerA.depth + 1 + d < recursionLimit) (hu : callerA.units + 3 + u < cLine) (hpre : Pre tabs s.heap)
    (h : ∀ v h' tk' gs' tabs', (AllBare s.gens → AllBare gs') → Fr h₀ L h' m → News h₀ L h' (g tabs') → TabL3 tabs' → TailOf tabs' (g tabs') g → (∀ q ∈ tabs', q.1 ∈ tabs.map (·.1) ∨ s.heap.objs.size ≤ q.1) → Post s.heap h' v → Q v { s with heap := h', toks := tk', gens := gs' }) :
    wpAny (model prog w) (callerA.deeper (envOfC cn cs L a ccd)) (call (.ref f) vs) Q E s :=
  use_ctrG (dp := callerA.depth + 1) (un := callerA.units + 3) (gd := callerA.guards) (cl := cellsFrom (L + 1) cs.names []) (outer := []) C B F X N TL TO T hk hd hu hpre h
theorem off5 {tb : List (Addr × Obj)} {A B C D E : Addr} {a b c d e : Obj} (h1 : AllLt A tb) (h2 : ∀ r ∈ tb, r.1 ≠ B) (h3 : ∀ r ∈ tb, r.1 ≠ C) (h4 : ∀ r ∈ tb, r.1 ≠ D) (h5 : ∀ r ∈ tb, r.1 ≠ E) : ∀ p ∈ [(A, a), (B, b), (C, c), (D, d), (E, e)], ∀ r ∈ tb, r.1 ≠ p.1 := by
  intro p hp
  simp only [List.mem_cons, List.not_mem_nil, or_false] at hp
  rcases hp with rfl | rfl | rfl | rfl | rfl
  · exact allLt_ne h1
  · exact h2
  · exact h3
  · exact h4
  · exact h5
theorem three_at {x y z : Int} {t u r : Tok} {i : Nat} {v : Value} (hi : i < 3) (hv : (#[Value.int x t, Value.int y u, Value.int z r] : Array Value)[i]? = some v) : ∃ k q, [x, y, z][i]? = some k ∧ v = .int k q := by
  have : i = 0 ∨ i = 1 ∨ i = 2 := by omega
  rcases this with rfl | rfl | rfl <;> (cases hv; exact ⟨_, _, rfl, rfl⟩)
theorem law_post (scr : List Int) : PySem.Challenge.rw_ik0125_01.row.claim.post [ofPy (PyData.list (scr.map PyData.int))] (WData.bool true) [ofPy (PyData.list (scr.map PyData.int))] = true := by wrow_post
theorem good_end {cw : ClaimW} {cl : Str → Option Addr} {mean : ExcName → Option Value} {args : List WData} {s₁ : Shared} {tabs : List (Addr × Addr)} {h' : Heap} {tk : Nat} {gs : Array GenState} {d : Drawn} {os : OsState} {L : Addr} {m : Str → Option Value}
    (hr : ∀ cls, cw.raises args cls = false) (hp : cw.post args (.bool true) args = true) (F : Fr (ghostOf s₁.heap tabs) L h' m) (hg : GrownAll tabs h') (hb : AllBare gs) (hos : os = s₁.os) :
    GoodW cw cl mean args { s₁ with heap := ghostOf s₁.heap tabs } (.ok (.ret (.bool true))) { heap := h', gens := #[], drawn := d, toks := tk, os := os } ∧ GrownAll tabs h' ∧ AllBare gs :=
  ⟨⟨.inl ⟨.bool true, .bool true, [], rfl, hr, .bool true, hp, fun _ => ⟨List.nodup_nil, fun a ha => by cases ha⟩⟩, fun b o e => F.keep b o e, hos, rfl⟩, hg, hb⟩
theorem mem7 {α : Type} {a b c d e f g x : α} {l : List α} (h : x ∈ l) : x ∈ a :: b :: c :: d :: e :: f :: g :: l := .tail _ (.tail _ (.tail _ (.tail _ (.tail _ (.tail _ (.tail _ h))))))
section
variable {prog : Program} {w : World} {A : Around} {h₀ : Heap} {L : Addr} {m : Str → Option Value} {env : Env} {elt : Expr} {x : Str} {scope : Scope} {cl : List (Str × Addr)} {s : Shared} {S : List (Addr × Obj) → Prop} {P : Nat → Value → Prop} {Fin : List Value → List (Addr × Obj) → Prop}
theorem comp_tabsB {n : Nat} {ks : List Int} (g : Int → Bool) (own : List (Addr × Obj)) (TL : List (Addr × Obj) → Prop) (hS : ∀ tb, S (own ++ tb)) (hks : ks.length = n) (hP : ∀ i v, i < n → P i v → ∃ k t, ks[i]? = some k ∧ v = .int k t)
    (turn : ∀ k t I oI C oC D m₂ ys h tk (E' : Value → Shared → Prop) tb, k ∈ ks → LCg.NsObj oC m₂ → m₂ x = some (.int k t) → Fr h₀ L h m → News h₀ L h ((I, oI) :: (C, oC) :: (D, LCg.lst ys) :: (own ++ tb)) → TL tb →
      (∀ r ∈ tb, r.1 ≠ I ∧ r.1 ≠ C ∧ r.1 ≠ D) → (∀ p ∈ own, ∀ r ∈ tb, r.1 ≠ p.1) → LCg.Off3 I C D own → ((@Ne Nat I C) ∧ (@Ne Nat I D) ∧ (@Ne Nat C D)) →
      wpAny (model prog w) A (eval elt (compEnvC scope cl C env)) (fun y s₂ => ∃ h' tk' tb', s₂ = { s with heap := h', toks := tk' } ∧ y = .bool (g k) ∧ Fr h₀ L h' m ∧ News h₀ L h' ((I, oI) :: (C, oC) :: (D, LCg.lst ys) :: (own ++ tb')) ∧ TL tb' ∧
        (∀ q ∈ tb', q.1 ∈ tb.map (·.1) ∨ ∃ hh : Heap, News h₀ L hh ((I, oI) :: (C, oC) :: (D, LCg.lst ys) :: (own ++ tb)) ∧ hh.objs.size ≤ q.1)) E' { s with heap := h, toks := tk })
    (fin : ∀ tb, TL tb → (∀ p ∈ own, ∀ r ∈ tb, r.1 ≠ p.1) → Fin (ks.map fun k => Value.bool (g k)) (own ++ tb)) : ∀ tb, TL tb → (∀ p ∈ own, ∀ r ∈ tb, r.1 ≠ p.1) → LCg.CompRest prog w A h₀ L m env elt x scope cl s S P Fin n 0 [] (own ++ tb) := by
  have key : ∀ (j i : Nat) (ys : List Value) tb, i + j = n → ys = (ks.take i).map (fun k => Value.bool (g k)) → TL tb → (∀ p ∈ own, ∀ r ∈ tb, r.1 ≠ p.1) → LCg.CompRest prog w A h₀ L m env elt x scope cl s S P Fin j i ys (own ++ tb) := by
    intro j
    induction j with
    | zero =>
      intro i ys tb hi hy hTL hot
      have e : i = ks.length := by omega
      subst e
      rw [List.take_length] at hy
      subst hy
      exact LCg.CompRest.zero (fin tb hTL hot)
    | succ j ih =>
      intro i ys tb hi hy hTL hot
      refine LCg.CompRest.succ ?_
      intro v I oI C oC D m₂ h tk E' hv hC hx F N off ne
      obtain ⟨k, t, hk, hv'⟩ := hP i v (by omega) hv
      rw [hv'] at hx
      have offm := off.mem
      refine wpAny_mono (turn k t I oI C oC D m₂ ys h tk E' tb (List.mem_of_getElem? hk) hC hx F N hTL (fun r hr => offm r (List.mem_append_right _ hr)) hot (.of fun p hp => offm p (List.mem_append_left _ hp)) ne) (fun y s₂ hq => ?_) fun _ _ e => e
      obtain ⟨h', tk', tb', rfl, rfl, F', N', hTL', htb⟩ := hq
      have hot' : ∀ p ∈ own, ∀ r ∈ tb', r.1 ≠ p.1 := by
        intro p hp r hr
        rcases htb r hr with e | ⟨hh, Nh, e⟩
        · obtain ⟨q, hq, e⟩ := List.mem_map.mp e
          exact e ▸ hot p hp q hq
        · exact Nat.ne_of_gt (Nat.lt_of_lt_of_le (Heap.lt_size (Nh p (.tail _ (.tail _ (.tail _ (List.mem_append_left _ hp))))).1) e)
      refine ⟨h', tk', own ++ tb', rfl, F', N', .of fun p hp => ?_, hS _, ?_⟩
      · rcases List.mem_append.mp hp with hp | hp
        · exact offm p (List.mem_append_left _ hp)
        · rcases htb p hp with e | ⟨hh, Nh, e⟩
          · obtain ⟨q, hq, e⟩ := List.mem_map.mp e
            exact e ▸ offm q (List.mem_append_right _ hq)
          · have zI := Heap.lt_size (Nh _ (.head _)).1
            have zC := Heap.lt_size (Nh _ (.tail _ (.head _))).1
            have zD := Heap.lt_size (Nh _ (.tail _ (.tail _ (.head _)))).1
            exact ⟨Nat.ne_of_gt (Nat.lt_of_lt_of_le zI e), Nat.ne_of_gt (Nat.lt_of_lt_of_le zC e), Nat.ne_of_gt (Nat.lt_of_lt_of_le zD e)⟩
      · refine ih (i + 1) _ tb' (by omega) ?_ hTL' hot'
        rw [List.take_add_one, hk, hy]
        simp
  exact fun tb => key n 0 [] tb (by omega) (by simp only [List.take_zero, List.map_nil])
end
def MarkC : Prop := True
theorem wd_LV_4 : True := by
  (k_with "CompSrc" =>
    (((have hMk : MarkC := by assumption); clear hMk; (refine show_me0 ?_))))
  trivial
section
variable {prog : Program} {w : World} {A : Around} {E : Value → Shared → Prop} {s : Shared} {x y c : Int} {t u : Tok} {Q : Value → Shared → Prop}
theorem xr_z (e : EqI (Builtin.bitXor x y) c) (h : Q (.int c s.toks) { s with toks := s.toks + 1 }) : wpAny (model prog w) A (binaryOp .BitXor (.int x t) (.int y u)) Q E s := by
  have e : Builtin.bitXor x y = c := e
  subst e; exact xor_int h
theorem ne_ff (e : EqI x y) (h : Q (.bool false) s) : wpAny (model prog w) A (compareOp .NotEq (.int x t) (.int y u)) Q E s :=
  PyProof.Rows.ne_int (by have e : x = y := e; subst e; rw [bne_self_eq_false]; exact h)
end
def NeI (x y : Int) : Prop := x ≠ y
section
variable {prog : Program} {w : World} {A : Around} {E : Value → Shared → Prop} {s : Shared} {x y c : Int} {t u : Tok} {Q : Value → Shared → Prop}
theorem eq_tt (e : EqI x y) (h : Q (.bool true) s) : wpAny (model prog w) A (compareOp .Eq (.int x t) (.int y u)) Q E s :=
  PyProof.Rows.eq_int (by have e : x = y := e; subst e; rw [beq_self_eq_true]; exact h)
theorem eq_ff (e : NeI x y) (h : Q (.bool false) s) : wpAny (model prog w) A (compareOp .Eq (.int x t) (.int y u)) Q E s :=
  PyProof.Rows.eq_int (by rw [beq_false_of_ne e]; exact h)
theorem eq3b {l b : Addr} {x y z : Bool} (hl : s.heap.IsList l #[.bool x, .bool y, .bool z]) (hb : s.heap.IsList b #[.bool x, .bool y, .bool z]) (hu : A.units < cLine) (h : Q (.bool true) s) : wpAny (model prog w) A (compareOp .Eq (.ref l) (.ref b)) Q E s :=
  SeqAt.eq_listAt (e := fun _ => true) hl hb rfl hu (fun j _ _ => SeqAt.EqAt.same _) h
end
theorem wd_LV_5 : True := by
  (k_with "compareOp Eq int int" =>
    ((k_here; with_reducible first | refine eq_tt (by assumption) ?_ | refine eq_ff (by assumption) ?_)))
  trivial
theorem wd_LV_6 : True := by
  (k_with "compareOp Eq ref ref" =>
    ((k_here; refine show_me0 ?_)))
  trivial
theorem wd_LV_7 : True := by
  (k_with "binaryOp BitXor int int" =>
    ((k_here; with_reducible refine xr_z (by with_reducible assumption) ?_)))
  trivial
theorem wd_LV_8 : True := by
  (k_with "compareOp NotEq int int" =>
    ((k_here; with_reducible refine ne_ff (by first | with_reducible exact eqI_rfl _ | with_reducible assumption) ?_; (try dsimp only))))
  trivial
theorem lt_ten {k : Int} (h : k < 0 + ((10 - 0 : Int).toNat : Int)) : k < ((1 + 1 + 1 + 1 + 1 + 1 + 1 + 1 + 1 + 1 : Nat) : Int) := by
  have : ((10 - 0 : Int).toNat : Int) = 10 := rfl
  rw [this, Int.zero_add] at h; exact h
local macro_rules | `(tactic| l_idx) => `(tactic| exact lt_ten (by assumption))
set_option maxHeartbeats 20000000 in
theorem lw : PySem.Challenge.rw_ik0125_01.Holds := hd ⟨top_all, (by
  k_go0
  (all_goals try k_fold)
  rename_i wld s0 s1 mg mb cG cY fa co cpm ccd cdoc cho chcd chg cX cV cT cB cTE cTW scr chs clay chL chr chl2 cw8 cw7 sad svs cw4 chLs cra cw1 cr0 chI chrr hcond hcond2 chD hp1 tk1 ow3 ow2 ow1 ow0 cl2 cl1 cl0 cr cX0 X T B F0 cH1 cH2 N0 l0
  k_steps
  refine .inl ?_
  rename Fr _ _ _ _ => F₁
  rename News _ _ _ _ => N₁
  rename_i hI8 hL8 Df h₁' tk₁' oD Ds ws h₁ hIw hCw hLw lDs
  generalize hfs : List.map _ (rangeKs 0 (10 - 0 : Int).toNat) = fs at *
  have hfl : fs.length = 10 := by rw [← hfs, List.length_map, rangeKs_length]; rfl
  clear hfs
  generalize hm0 : bindL _ _ _ = m0 at F₁
  clear hm0
  clear chcd chD cX cV cB cTE cTW cG cY cT cX0
  refine use_leaf_t (c_number hIw (by rw [List.length_take]; omega)) B F₁ X N₁ T rfl (by decide) (by decide) (N₁ _ (.head _)).1 ?_
  rintro v h₂ tk₂ F₂ N₂ _ ⟨ta, rfl⟩
  clear F₁ N₁
  k_steps
  refine .inl ?_
  rename Fr _ _ _ _ => F₃
  rename News _ _ _ _ => N₃
  rename_i D₂ ws₂ h₃ hI₂ hC₂ hL₂ lD₂
  refine use_leaf_t (c_number hI₂ (by rw [List.length_take]; omega)) B F₃ X N₃ T rfl (by decide) (by decide) (N₃ _ (.head _)).1 ?_
  rintro v h₄ tk₄ F₄ N₄ _ ⟨tb, rfl⟩
  clear F₃ N₃
  replace N₄ := keepA N₄
  have hn1 := numF_lt (ns := List.take 4 fs) (by rw [List.length_take]; omega)
  have hn2 := numF_lt (ns := List.take (min 8 fs.length - 4) (List.drop 4 fs)) (by rw [List.length_take]; omega)
  clear hI₂ hC₂ hL₂ lD₂ hIw hCw hLw lDs
  generalize numF (List.take 4 fs) = z1 at *
  generalize numF (List.take (min 8 fs.length - 4) (List.drop 4 fs)) = z2 at *
  obtain ⟨n, rfl⟩ : ∃ n : Nat, z1 = (n : Int) := ⟨z1.toNat, by omega⟩
  obtain ⟨d, rfl⟩ : ∃ d : Nat, z2 = (d : Int) := ⟨z2.toNat, by omega⟩
  have hn : n < 4096 := by omega
  have hd4 : d < 4096 := by omega
  clear hn1 hn2
  k_steps
  refine .inl ?_
  rename Fr _ _ _ _ => F₅
  rename News _ _ _ _ => N₅
  have cS : ow3.data = .cell none := cl2
  clear cl2 cl1 cl0 cr
  have hzk := fm_nat (fs.getD (Int.toNat 9) 0) (k := 16) (by decide)
  rw [show ((16 : Nat) : Int) = 16 from rfl] at hzk
  generalize (fs.getD (Int.toNat 9) 0).fmod 16 = zk at *
  obtain ⟨κ, rfl, hκ⟩ := hzk
  refine use_ctr_t (c_idm (a := (n : Int)) (D := 2) (nb hn).1 (nb hn).2.1 (by decide) (by decide)) B F₅ X N₅ tabL_init (.cons ?o1 (.cons ?o2 (.cons ?o3 .base))) T rfl (by decide) (by decide) trivial ?_
  case o1 =>
    obtain ⟨_, _, _, _, _, h1, h2, h3⟩ := oD
    exact off3 h1 h2 h3
  case o2 => exact off3 (Nat.ne_of_lt (Nat.lt_succ_of_lt (Nat.lt_succ_of_lt (Nat.lt_succ_of_lt (Nat.lt_succ_of_lt l0.1))))) (Nat.ne_of_lt (Nat.lt_succ_of_lt (Nat.lt_succ_of_lt (Nat.lt_succ_of_lt (Nat.lt_succ_of_lt l0.2.1))))) (Nat.ne_of_lt (Nat.lt_succ_of_lt (Nat.lt_succ_of_lt (Nat.lt_succ_of_lt (Nat.lt_succ_of_lt l0.2.2)))))
  case o3 => exact off3 (Nat.ne_of_lt (Nat.lt_succ_of_lt (Nat.lt_succ_of_lt (Nat.lt_succ_of_lt l0.1)))) (Nat.ne_of_lt (Nat.lt_succ_of_lt (Nat.lt_succ_of_lt (Nat.lt_succ_of_lt l0.2.1)))) (Nat.ne_of_lt (Nat.lt_succ_of_lt (Nat.lt_succ_of_lt (Nat.lt_succ_of_lt l0.2.2))))
  rintro v h₆ tk₆ tB F₆ N₆ TL TO htb ⟨l, t₁, t₂, rfl, hl, hT⟩
  clear F₅ N₅
  rw [fdn, fmn] at hT
  have e0 : EqI _ _ := bitXor_nat n (n / 2)
  have eR : EqI ((n % 2 : Nat) : Int) (Int.fmod (n : Int) 2) := (fmn n 2).symm
  have hTl := gray_lt hn
  have hB := gray_back hn
  obtain ⟨G, hG⟩ : ∃ G, G = n ^^^ (n / 2) := ⟨_, rfl⟩
  have e2 : EqI _ _ := gray_neg n
  have eK : EqI _ _ := lack_one n
  rw [← hG] at e0 hTl hB e2
  generalize n / 2 = H at hT e0
  generalize n % 2 = R at hT eR
  k_steps
  refine .inl ?_
  rename Fr _ _ _ _ => F₇
  rename News _ _ _ _ => N₇
  refine use_ctr_t (c_idm (a := -1 - (n : Int)) (D := 2) (nb hn).2.2.1 (nb hn).2.2.2.1 (by decide) (by decide)) B F₇ X N₇ TL TO T rfl (by decide) (by decide) trivial ?_
  clear TL TO htb hT hl N₇ F₇
  rintro v h₈ tk₈ tB₂ F₈ N₈ TL TO htb ⟨l₂, t₃, t₄, rfl, hl, hT⟩
  rw [show ((2 : Nat) : Int) = 2 from rfl] at hT
  generalize (-1 - (n : Int)).fdiv 2 = U at hT e2
  generalize (-1 - (n : Int)).fmod 2 = K at hT eK
  k_steps
  refine .inl ?_
  rename Fr _ _ _ _ => F₉
  rename News _ _ _ _ => N₉
  clear hT hl e0 e2 eR eK htb
  refine use_ctr_t (c_back (A := G) hTl) B F₉ X N₉ TL TO T rfl (by decide) (by decide) trivial ?_
  clear TL TO
  rintro v h₁₀ tk₁₀ tB₃ F₁₀ N₁₀ TL TO htb ⟨t₅, rfl⟩
  clear F₉ N₉
  rw [hB]
  k_steps
  refine .inl ?_
  rename Fr _ _ _ _ => F₁₁
  rename News _ _ _ _ => N₁₁
  rw [succ_mod]
  refine use_ctr_t (c_told (n := (n + 1) % 4096) (Nat.mod_lt _ (by decide))) B F₁₁ X N₁₁ TL TO T rfl (by decide) (by decide) trivial ?_
  clear TL TO htb hB
  rintro v h₁₂ tk₁₂ tB₄ F₁₂ N₁₂ TL TO htb ⟨t₆, rfl⟩
  clear F₁₁ N₁₁
  obtain ⟨hlow, hA⟩ := gray_step hn
  rw [hA, ← hG]
  clear hA
  have hAl : G ^^^ 2 ^ (min (lowF (n + 1)) 11) < 4096 := Nat.xor_lt_two_pow (n := 12) hTl (Nat.pow_lt_pow_right (by decide) hlow)
  obtain ⟨A, hA⟩ : ∃ A, A = G ^^^ 2 ^ (min (lowF (n + 1)) 11) := ⟨_, rfl⟩
  rw [← hA] at hAl ⊢
  have mki : MarkI := trivial
  k_steps
  refine .inl ?_
  clear mki
  refine int_way ((otherF (fs.getD 8 0) G d : Nat) : Int) ?_ ?_
  · intro Q' hQ'
    k_steps
    · exact hQ' _ _ _ (other_t (by assumption))
    · exact hQ' _ _ _ (other_f (by assumption))
  intro tO kO
  have hOl := other_lt (z := fs.getD 8 0) hTl hd4
  generalize otherF (fs.getD 8 0) G d = O at *
  k_steps
  refine .inl ?_
  rename Fr _ _ _ _ => F₁₃
  rename News _ _ _ _ => N₁₃
  rw [show (n : Int) + 1 = ((n + 1 : Nat) : Int) from rfl]
  refine use_ctr_t (c_int2digits (A := n + 1) (N := 1) (nb hn).2.2.2.2 (by decide) (by decide)) B F₁₃ X N₁₃ TL TO T rfl (by decide) (by decide) trivial ?_
  clear TL TO htb
  rintro v h₁₄ tk₁₄ tB₅ F₁₄ N₁₄ TL TO htb ⟨lq, vq, eq, rfl, hlq, hlo, hIq⟩
  replace N₁₄ := led_new F₁₃ N₁₄ hlq hlo
  clear F₁₃ N₁₃ hlo
  have hk1 := one_mem (Nat.succ_ne_zero n)
  have hlay := digs_lay (nb hn).2.2.2.2
  have hlw : ((List.range (numD 1 (n + 1))).map fun i => ((dig 1 (n + 1) i : Nat) : Int)).idxOf 1 = lowF (n + 1) := rfl
  generalize ((List.range (numD 1 (n + 1))).map fun i => ((dig 1 (n + 1) i : Nat) : Int)) = dg at *
  k_steps
  refine .inl ?_
  rename Fr _ _ _ _ => F₁₅
  rename News _ _ _ _ => N₁₅
  clear hIq hk1 hlay hlq
  replace N₁₅ : News _ _ _ _ := fun p hp => N₁₅ p (.tail _ hp)
  rw [hlw] at F₁₅
  clear hlw
  generalize (if 11 < ((lowF (n + 1) : Nat) : Int) then tk₁₄ + 1 + 1 else tk₁₄ + 1) = tq at F₁₅
  rw [min_cast] at F₁₅
  generalize min (lowF (n + 1)) 11 = b at *
  have hmode : (κ : Int) * 4096 + (G : Int) = ((κ * 4096 + G : Nat) : Int) := by push_cast; rfl
  rw [hmode]
  refine use_leaf_t (c_filemode (x := ((κ * 4096 + G : Nat) : Int))) B F₁₅ X N₁₅ T rfl (by decide) (by decide) trivial ?_
  rintro v h₁₆ tk₁₆ F₁₆ N₁₆ _ ⟨u₁, rfl⟩
  clear F₁₅ N₁₅
  rw [row_mkS]
  k_steps
  refine .inl ?_
  rename Fr _ _ _ _ => F₁₇
  rename News _ _ _ _ => N₁₇
  refine use_leaf_t (c_opened (row := rowL ((κ * 4096 + G : Nat) : Int)) (bit := b) (row_ok hTl) hlow) B F₁₇ X N₁₇ T rfl (by decide) (by decide) trivial ?_
  rintro v h₁₈ tk₁₈ F₁₈ N₁₈ _ ⟨u₂, rfl⟩
  clear F₁₇ N₁₇
  have htk := toks_ok (κ := κ) hTl hlow
  have hpl : (openToks (rowL ((κ * 4096 + G : Nat) : Int)) b).flatten.length ≤ 40 := by
    have := open_len (row := rowL ((κ * 4096 + G : Nat) : Int)) (bit := b) (i := 9) (by decide)
    rw [List.take_of_length_le (by simp [openToks])] at this
    exact this
  have htl : (openToks (rowL ((κ * 4096 + G : Nat) : Int)) b).length = 10 := by simp [openToks]
  have hG' := takes_iff (x := G) hκ hTl hTl hlow
  have hA' := takes_iff hκ hTl hAl hlow
  have hO' := takes_iff hκ hTl hOl hlow
  rw [← hA] at hG' hA' hO'
  generalize openToks (rowL ((κ * 4096 + G : Nat) : Int)) b = ts at *
  k_steps
  refine .inl ?_
  rename Fr _ _ _ _ => F₁₉
  rename News _ _ _ _ => N₁₉
  refine use_ctrG_t (c_translate1 (P := mkS ts.flatten) (ts := ts) (by rw [mkS_len]; exact Nat.le_trans hpl (by decide)) (by simp) (by rw [htl]; decide) htk) B F₁₉ X N₁₉ TL TO T rfl (by decide) (by decide) trivial ?_
  clear TL TO htb htk
  rintro v h₂₀ tk₂₀ gs₂₀ tB₆ hgb F₂₀ N₂₀ TL TO htb ⟨u₃, yq, hps, rfl⟩
  clear F₁₉ N₁₉
  rw [text_eq]
  k_steps
  refine .inl ?_
  rename Fr _ _ _ _ => F₂₁
  rename News _ _ _ _ => N₂₁
  have hyl : yq.flatten.length ≤ 500 := by
    have h1 : ∀ l ∈ yq, l.length ≤ 5 := hps.short
    have h2 := flat_len (ys := yq.map mkS) (B := 5) (fun y hy => by obtain ⟨z, hz, rfl⟩ := List.mem_map.mp hy; rw [mkS_len]; exact h1 z hz)
    rw [List.map_map, show ((fun y : Str => y.cps.toList) ∘ mkS) = id from funext fun l => by simp, List.map_id, List.length_map, hps.len, htl] at h2
    exact Nat.le_trans h2 (by decide)
  refine use_leaf_t (c_sets (Xs := yq.flatten) (ts := ts) (ys := yq) hyl hps rfl (by rw [htl]; decide)) B F₂₁ X N₂₁ T rfl (by decide) (by decide) trivial ?_
  rintro v h₂₂ tk₂₂ F₂₂ N₂₂ hk₂₂ ⟨lS, vS, eS, rfl, hlS, hgS, hSO⟩
  replace N₂₂ := led_new F₂₁ N₂₂ hlS hgS
  have hot : ∀ r ∈ tB₆, r.1 ≠ lS := fun r hr => Nat.ne_of_lt (Nat.lt_of_lt_of_le (Heap.lt_size (N₂₁ r (TO.tabs r hr)).1) hlS)
  have TO₂ := TailOf.cons (p := (lS, PySem.W.listOf vS eS)) hot TO
  have z1 : Df < lS := Nat.lt_of_lt_of_le (Heap.lt_size (N₂₁ _ (.head _)).1) hlS
  have z2 : s1.heap.objs.size + 1 + 1 + 1 + 1 < lS := Nat.lt_of_lt_of_le (Heap.lt_size (N₂₁ _ (.tail _ (.head _))).1) hlS
  have z3 : s1.heap.objs.size + 1 + 1 + 1 < lS := Nat.lt_of_lt_of_le (Heap.lt_size (N₂₁ _ (.tail _ (.tail _ (.head _)))).1) hlS
  have hoff := tailOf_off TO₂ [(lS, PySem.W.listOf vS eS), (Df, LCg.lst ys), (s1.heap.objs.size + 1 + 1 + 1 + 1, ow3), (s1.heap.objs.size + 1 + 1 + 1, _)] rfl (fun _ => rfl)
  have oa1 : ∀ r ∈ tB₆, r.1 ≠ Df := fun r hr => hoff _ (.tail _ (.head _)) r hr
  have oa2 : ∀ r ∈ tB₆, r.1 ≠ s1.heap.objs.size + 1 + 1 + 1 + 1 := fun r hr => hoff _ (.tail _ (.tail _ (.head _))) r hr
  have oa3 : ∀ r ∈ tB₆, r.1 ≠ s1.heap.objs.size + 1 + 1 + 1 := fun r hr => hoff _ (.tail _ (.tail _ (.tail _ (.head _)))) r hr
  clear F₂₁ N₂₁ TO TO₂ hoff hlS hk₂₂
  have mkc : MarkC := trivial
  k_steps
  refine .inl ?_
  rename Fr _ _ _ _ => F₂₃
  rename News _ _ _ _ => N₂₃
  clear mkc
  rename_i hSa oS dSc lT hTa lTT
  refine LCg.CompSrc.ledger (by rfl) (by k_asm) (by k_asm) (by k_mem) (by exact Nat.le_of_ble_eq_true rfl) ?_
  intro g'
  refine comp_tabsB (ks := [(G : Int), (A : Int), (O : Int)]) (fun k => takesF (rowL ((κ : Int) * 4096 + k)) ts) [_, _, _, _, _] TabL3 (fun tb => .inr ⟨_, List.mem_append_left _ (.head _), rfl, _, rfl⟩) rfl ?hP ?turn ?fin tB₆ TL (off5 lTT.2.2.2.2 hot oa1 oa2 oa3)
  case hP =>
    rintro i v hi hv
    exact three_at hi hv
  case turn =>
    intro k tkk I oI C oC D m₂ ys₂ h₉ tk₉ E' tb₃ hk hC hx F₉ N₉ TL₃ off1 hot₃ off2 ne
    clear hk
    dsimp only [List.cons_append, List.nil_append] at N₉
    k_steps
    refine .inl ?_
    rename Fr _ _ _ _ => F₁₀
    rename News _ _ _ _ => N₁₀
    refine use_leaf_t (c_filemode (x := (κ : Int) * 4096 + k)) B F₁₀ X N₁₀ T rfl (by decide) (by decide) trivial ?_
    rintro v h₁₁ tk₁₁ F₁₁ N₁₁ _ ⟨u₄, rfl⟩
    clear F₁₀ N₁₀
    rw [row_mkS]
    k_steps
    refine .inl ?_
    refine use_ctr_t (c_takes (row := rowL ((κ : Int) * 4096 + k)) (rowL_len _) htl hSO) B F₁₁ X N₁₁ TL₃ (.cons (fun r hr => (off1 r hr).1) (.cons (fun r hr => (off1 r hr).2.1) (.cons (fun r hr => (off1 r hr).2.2) (.cons (hot₃ _ (.head _)) (.cons (hot₃ _ (.tail _ (.head _))) (.cons (hot₃ _ (.tail _ (.tail _ (.head _)))) (.cons (hot₃ _ (.tail _ (.tail _ (.tail _ (.head _))))) (.cons (hot₃ _ (.tail _ (.tail _ (.tail _ (.tail _ (.head _)))))) .base)))))))) T rfl (by decide) (by decide)
      ⟨(N₁₁ _ (.tail _ (.tail _ (.tail _ (.tail _ (.head _)))))).1, fun hm => by obtain ⟨r, hr, e⟩ := List.mem_map.mp hm; exact hot₃ _ (.tail _ (.head _)) r hr e⟩ ?_
    rintro v h₁₃ tk₁₃ tb₄ F₁₃ N₁₃ TL₄ TO₄ htb₄ rfl
    exact ⟨_, _, tb₄, rfl, rfl, F₁₃, N₁₃, TL₄, fun q hq => (htb₄ q hq).imp id fun h => ⟨_, N₁₁, h⟩⟩
  case fin =>
    intro tb₃ TL₃ hot₃
    have eG : takesF (rowL ((κ : Int) * 4096 + (G : Int))) ts = true := by rw [hmode, hG']; simp
    have eA : takesF (rowL ((κ : Int) * 4096 + (A : Int))) ts = true := by rw [show (κ : Int) * 4096 + (A : Int) = ((κ * 4096 + A : Nat) : Int) from by push_cast; rfl, hA']; simp
    have eO : takesF (rowL ((κ : Int) * 4096 + (O : Int))) ts = decide (O = G ∨ O = A) := by rw [show (κ : Int) * 4096 + (O : Int) = ((κ * 4096 + O : Nat) : Int) from by push_cast; rfl, hO']
    simp only [List.map_cons, List.map_nil]
    rw [eG, eA, eO]
    clear eG eA eO hG' hA' hO' hmode TL oa1 oa2 oa3 hot htb hA hG
    by_cases hOG : O = G
    · rw [decide_eq_true (.inl hOG)]
      have m1 : EqI (O : Int) (G : Int) := congrArg Int.ofNat hOG
      clear hOG
      k_steps
      refine .inl ?_
      rename Fr _ _ _ _ => F₃₀
      rename News _ _ _ _ => N₃₀
      obtain ⟨pt1, pt2, pt3, cds, rfl, _, _, _, _⟩ := TL₃.of
      refine eq3b (News.isList N₃₀ (.tail _ (.head _))) (News.isList N₃₀ (.head _)) (show callerA.units + 3 < cLine by decide) ?_
      exact good_end (fun _ => rfl) (law_post scr) F₃₀ ⟨GrownAt.of N₃₀ (mem7 (.head _)), GrownAt.of N₃₀ (mem7 (.tail _ (.head _))), GrownAt.of N₃₀ (mem7 (.tail _ (.tail _ (.head _)))), trivial⟩ (hgb (.of_eq chg)) rfl
    · by_cases hOA : O = A
      · rw [decide_eq_true (.inr hOA)]
        have m1 : NeI (O : Int) (G : Int) := fun e => hOG (Int.ofNat.inj e)
        have m2 : EqI (O : Int) (A : Int) := congrArg Int.ofNat hOA
        clear hOG hOA
        k_steps
        refine .inl ?_
        rename Fr _ _ _ _ => F₃₀
        rename News _ _ _ _ => N₃₀
        obtain ⟨pt1, pt2, pt3, cds, rfl, _, _, _, _⟩ := TL₃.of
        refine eq3b (News.isList N₃₀ (.tail _ (.head _))) (News.isList N₃₀ (.head _)) (show callerA.units + 3 < cLine by decide) ?_
        exact good_end (fun _ => rfl) (law_post scr) F₃₀ ⟨GrownAt.of N₃₀ (mem7 (.head _)), GrownAt.of N₃₀ (mem7 (.tail _ (.head _))), GrownAt.of N₃₀ (mem7 (.tail _ (.tail _ (.head _)))), trivial⟩ (hgb (.of_eq chg)) rfl
      · rw [decide_eq_false (fun h => h.elim hOG hOA)]
        have m1 : NeI (O : Int) (G : Int) := fun e => hOG (Int.ofNat.inj e)
        have m2 : NeI (O : Int) (A : Int) := fun e => hOA (Int.ofNat.inj e)
        clear hOG hOA
        k_steps
        refine .inl ?_
        rename Fr _ _ _ _ => F₃₀
        rename News _ _ _ _ => N₃₀
        obtain ⟨pt1, pt2, pt3, cds, rfl, _, _, _, _⟩ := TL₃.of
        refine eq3b (News.isList N₃₀ (.tail _ (.head _))) (News.isList N₃₀ (.head _)) (show callerA.units + 3 < cLine by decide) ?_
        exact good_end (fun _ => rfl) (law_post scr) F₃₀ ⟨GrownAt.of N₃₀ (mem7 (.head _)), GrownAt.of N₃₀ (mem7 (.tail _ (.head _))), GrownAt.of N₃₀ (mem7 (.tail _ (.tail _ (.head _)))), trivial⟩ (hgb (.of_eq chg)) rfl)⟩
end
end Mine
end
theorem PySem.Challenge.cw_ik0125_01_holds : PySem.Challenge.rw_ik0125_01.Holds := by
  exact Mine.lw
