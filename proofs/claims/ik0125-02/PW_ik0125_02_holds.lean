import PyProof.Rows.All
import Wide.All
import OpenK.AllK
import Wide.FinOn
import PySem.Challenge.RW_ik0125_02
set_option Elab.async false
section
open PySem PySem.W PyProof.Rows PySem.Calls
namespace Mine
set_option maxRecDepth 100000
set_option maxHeartbeats 4000000

/-- no exception leaves -/
abbrev NoE : Value → Shared → Prop := fun _ _ => False

section
variable {prog : Program} {w : World} {A : Around} {s : Shared} {env : Env} {R : Result → Shared → Prop} {target test iter : PySem.Expr} {body orelse : List Stmt} {pos : Pos} {it : Value}

theorem noE {α : Type} {M : Model} {t : Sem α} {Q : α → Shared → Prop} {E : Value → Shared → Prop} (h : wpAny M A t Q NoE s) : wpAny M A t Q E s :=
  wpAny_mono h (fun _ _ x => x) fun _ _ x => x.elim

theorem while_turn
    (h : wpAny (model prog w) A (isTrue test env (eval test env)) (fun b s₂ =>
      if b then wpAny (model prog w) A (execs body env) (fun f s₃ => match f with
          | .next | .cont => codeAny (model prog w) A (.whileLoop test body orelse env) R s₃
          | .brk => R (.ok .next) s₃
          | .ret v => R (.ok (.ret v)) s₃) NoE s₂
      else wpAny (model prog w) A (execs orelse env) (fun f s₃ => R (.ok f) s₃) NoE s₂) NoE s) :
    codeAny (model prog w) A (.whileLoop test body orelse env) R s := by
  refine codeAny_of_tree ?_
  show wpAny _ A ((whileTurn test body orelse env).onRaise (fun x => do noteFrame x env; theTreesLotGoes x)) _ _ s
  refine wpAny_noted (noE ?_)
  simp only [whileTurn]
  refine wpAny_bind (wpAny_mono h (fun b s₂ h₂ => ?_) fun _ _ h' => h')
  cases b with
  | false =>
    simp only [Bool.false_eq_true, if_false] at h₂ ⊢
    exact wpAny_bind (wpAny_mono h₂ (fun f s₃ h₃ => wpAny_pure h₃) fun _ _ h' => h')
  | true =>
    simp only [if_true] at h₂ ⊢
    refine wpAny_bind (wpAny_mono h₂ (fun f s₃ h₃ => ?_) fun _ _ h' => h')
    cases f with
    | next => exact wpAny_pure ⟨rfl, h₃⟩
    | cont => exact wpAny_pure ⟨rfl, h₃⟩
    | brk => exact wpAny_pure h₃
    | ret v => exact wpAny_pure h₃

theorem for_turn
    (h : wpAny (model prog w) A (pyNext it) (fun r s₁ => match r with
      | none => wpAny (model prog w) A (execs orelse env) (fun f s₃ => R (.ok f) s₃) NoE s₁
      | some v => wpAny (model prog w) A (letOwnedTupleGo target it v) (fun _ s₂ => wpAny (model prog w) A (assign target env v) (fun _ s₂ => wpAny (model prog w) A (execs body env) (fun f s₃ => match f with
          | .next | .cont => codeAny (model prog w) A (.forLoop target it body orelse env) R s₃
          | .brk => R (.ok .next) s₃
          | .ret v => R (.ok (.ret v)) s₃) NoE s₂) NoE s₂) NoE s₁) NoE s) :
    codeAny (model prog w) A (.forLoop target it body orelse env) R s := by
  refine codeAny_of_tree ?_
  show wpAny _ A ((forTurn target it body orelse env).onRaise (fun x => do noteFrame x env; theTreesLotGoes x)) _ _ s
  refine wpAny_noted (noE ?_)
  simp only [forTurn]
  refine wpAny_bind (wpAny_standAt (wpAny_bind (wpAny_onRaise (wpAny_mono h (fun r s₁ h₁ => ?_) fun _ _ h' => h'.elim))))
  cases r with
  | none => exact wpAny_pure ⟨rfl, codeAny_block (noE h₁)⟩
  | some v =>
    refine wpAny_bind (wpAny_mono h₁ (fun _ s₂ h₂ => ?_) fun _ _ h' => h')
    refine wpAny_bind (wpAny_mono h₂ (fun _ s₂ h₂ => wpAny_bind (wpAny_mono h₂ (fun f s₃ h₃ => ?_) fun _ _ h' => h')) fun _ _ h' => h')
    cases f with
    | next => exact wpAny_pure ⟨rfl, h₃⟩
    | cont => exact wpAny_pure ⟨rfl, h₃⟩
    | brk => exact wpAny_pure h₃
    | ret v => exact wpAny_pure h₃

/-- what a loop's end hands on -/
abbrev Out (Q : Flow → Shared → Prop) : Result → Shared → Prop := fun r s' => match r with | .ok f => Q f s' | .error _ => False

theorem exec_while {M : Model} {Q : Flow → Shared → Prop} (h : codeAny M A (.whileLoop test body orelse env) (Out Q) s) :
    wpAny M A (exec (.While test body orelse pos) env) Q NoE s :=
  wpAny_While (codeAny_mono h fun r s' x => by cases r with | ok f => exact x | error e => exact x.elim)

theorem exec_for {M : Model} {Q : Flow → Shared → Prop}
    (h : wpAny M A (eval iter env) (fun x s₁ => wpAny M A (pyIter x) (fun it s₂ => codeAny M A (.forLoop target it body orelse env) (Out Q) s₂) NoE s₁) NoE s)
    (hs : ∀ x, foldedSetIterable iter env x = pure x := by intro _; rfl) :
    wpAny M A (exec (.For target iter body orelse pos) env) Q NoE s :=
  wpAny_For (wpAny_mono h (fun x s₁ h₁ => wpAny_mono h₁ (fun it s₂ h₂ => codeAny_mono h₂ fun r s' x => by cases r with | ok f => exact x | error e => exact x.elim) fun _ _ x => x) fun _ _ x => x) hs
end

/-- the three code tables of the text, and the code objects that they name -/
def GoodT (codes : List (Addr × Obj)) (q : Nat → Str) (t : Array Value) : Prop :=
  TriplesOk t.toList ∧ ∀ pos v, codeAmong pos t.toList = some v → ∃ c oc vs tk, v = .ref c ∧ (c, oc) ∈ codes ∧ oc.data = .fields vs ∧ vs[1]? = some (.str (q pos.line) tk)

structure TabL (P₁ P₂ P₃ : Addr) (q₁ q₂ q₃ : Nat → Str) (tabs : List (Addr × Obj)) : Prop where
  of : ∃ t₁ t₂ t₃ codes, tabs = (P₁, tabObj t₁) :: (P₂, tabObj t₂) :: (P₃, tabObj t₃) :: codes ∧ GoodT codes q₁ t₁ ∧ GoodT codes q₂ t₂ ∧ GoodT codes q₃ t₃ ∧
    ∀ p ∈ codes, p.1 ≠ P₁ ∧ p.1 ≠ P₂ ∧ p.1 ≠ P₃

def StayT (tabs : List (Addr × Obj)) (h h' : Heap) : Prop := ∀ b o, b ∉ tabs.map (·.1) → h.get? b = some o → h'.get? b = some o
/-- tables behind a call: each entry is at its place, old or new -/
def NewT (tabs tabs' : List (Addr × Obj)) (h h' : Heap) : Prop := ∀ p ∈ tabs', h'.get? p.1 = some p.2 ∧ (p.1 ∈ tabs.map (·.1) ∨ h.objs.size ≤ p.1)

/-- news = own ++ tabs, own's objects are no tables and no code objects -/
inductive TailOf (tabs : List (Addr × Obj)) : List (Addr × Obj) → (List (Addr × Obj) → List (Addr × Obj)) → Prop
  | base : TailOf tabs tabs fun t => t
  | cons {p : Addr × Obj} {l : List (Addr × Obj)} {f : List (Addr × Obj) → List (Addr × Obj)} : (∀ r ∈ tabs, r.1 ≠ p.1) → TailOf tabs l f → TailOf tabs (p :: l) fun t => p :: f t

theorem TailOf.tabs {tabs news : List (Addr × Obj)} {f : List (Addr × Obj) → List (Addr × Obj)} (h : TailOf tabs news f) : ∀ p ∈ tabs, p ∈ news := by
  induction h with
  | base => exact fun _ h => h
  | cons _ _ ih => exact fun p hp => .tail _ (ih p hp)

theorem TailOf.news {tabs news : List (Addr × Obj)} {f : List (Addr × Obj) → List (Addr × Obj)} (h : TailOf tabs news f) {h₀ hp hp' : Heap} {L : Addr} (N : News h₀ L hp news) (st : StayT tabs hp hp')
    {tabs' : List (Addr × Obj)} (N' : News h₀ L hp' tabs') : News h₀ L hp' (f tabs') := by
  induction h with
  | base => exact N'
  | @cons p l f hn _ ih =>
    intro q hq
    rcases List.mem_cons.mp hq with rfl | hq
    · have := N q (.head _)
      refine ⟨st _ _ (fun hm => ?_) this.1, this.2⟩
      obtain ⟨r, hr, e⟩ := List.mem_map.mp hm
      exact hn r hr e
    · exact ih (fun r hr => N r (.tail _ hr)) q hq

theorem TailOf.next {tabs tabs' news : List (Addr × Obj)} {f : List (Addr × Obj) → List (Addr × Obj)} {n : Nat} (h : TailOf tabs news f) (hn : ∀ q ∈ news, q.1 < n) (ht : ∀ q ∈ tabs', q.1 ∈ tabs.map (·.1) ∨ n ≤ q.1) : TailOf tabs' (f tabs') f := by
  induction h with
  | base => exact .base
  | @cons p l f hp _ ih =>
    refine .cons (fun r hr => ?_) (ih fun q hq => hn q (.tail _ hq))
    rcases ht r hr with e | e
    · obtain ⟨q, hq, e'⟩ := List.mem_map.mp e
      exact e' ▸ hp q hq
    · exact Nat.ne_of_gt (Nat.lt_of_lt_of_le (hn p (.head _)) e)

theorem newT_news {h₀ h h' : Heap} {L : Addr} {m : Str → Option Value} {tabs tabs' : List (Addr × Obj)} (F : Fr h₀ L h m) (N : News h₀ L h tabs) (n : NewT tabs tabs' h h') : News h₀ L h' tabs' := fun p hp => by
  obtain ⟨e, o⟩ := n p hp
  refine ⟨e, ?_⟩
  rcases o with o | o
  · obtain ⟨r, hr, e'⟩ := List.mem_map.mp o
    exact e' ▸ (N r hr).2
  · refine ⟨Nat.ne_of_gt (Nat.lt_of_lt_of_le F.ns.lt o), Heap.get?_none_of_le (Nat.le_trans ?_ o)⟩
    exact Nat.le_trans F.above (Nat.le_of_lt F.ns.lt)

theorem stay_fr {h₀ h h' : Heap} {L : Addr} {m : Str → Option Value} {tabs : List (Addr × Obj)} (F : Fr h₀ L h m) (N : News h₀ L h tabs) (st : StayT tabs h h') : Fr h₀ L h' m := by
  obtain ⟨oL, es, ep, hL, r⟩ := F.ns
  refine ⟨⟨oL, es, ep, st _ _ (fun q => ?_) hL, r⟩, fun b o e => st _ _ (fun q => ?_) (F.keep b o e), F.above⟩
  · obtain ⟨p, hp, e⟩ := List.mem_map.mp q
    exact (N p hp).2.1 e
  · obtain ⟨p, hp, e'⟩ := List.mem_map.mp q
    have := (N p hp).2.2
    rw [e', e] at this; cases this

section
variable {prog : Program} {w : World} {A₀ A : Around} {s : Shared} {base h₀ : Heap} {outer : List Env} {L : Addr} {m : Str → Option Value} {env : Env} {tabs : List (Addr × Obj)} {K : Frag}
  {R : Result → Shared → Prop} {name qual : Str} {params : Arguments} {body : List Stmt} {scope : Scope} {cl : List (Str × Addr)} {dV kV doc pm cdv ct oc : Value} {an od : Option Addr} {osl : Array (Option Value)} {f : Addr} {args : Args} {binds : List (Str × Value)}
  {p : Program} {loose : List Str} {mean : ExcName → Option Value} {mg mb : Str → Option Value}

/-- a call of a def of the top: the tables alone are laid aside, all else is the ground -/
theorem call_ground (B : Below A₀ base outer h₀) (F : Fr h₀ L s.heap m) (X₀ : K.In h₀) (N : News h₀ L s.heap tabs) (T : Top p loose mean mg mb h₀) (hA : A.frames = some (env :: outer)) (hf : env.frame = some L) (hke : env.scope.kind = .function)
    (ho : K.lookup f = some ⟨oc, od, .func (fnOf name qual params body scope dV kV doc pm an cdv ct), osl⟩) (hcd : codeIn K cdv qual = true) (hroom : A.depth < recursionLimit)
    (hbind : BindsTo s (fnOf name qual params body scope dV kV doc pm an cdv ct) args binds) (hloc : ∀ y ∈ binds, scope.names.lookup y.1 = some .local)
    (h : ∀ g L' h₁, g = hideAll s.heap (tabs.map (·.1)) → StayT tabs s.heap g → L' = s.heap.objs.size → g.objs.size ≤ L' → Fr g L' h₁ (fun y => binds.reverse.lookup y) → News g L' h₁ tabs → Below A base (env :: outer) g → K.In g → Top p loose mean mg mb g →
      wpAny (model prog w) (A.deeper (envOf qual scope L' f cdv)) (execs body (envOf qual scope L' f cdv))
        (fun fl s' => R (.ok (.ret (match fl with | .ret v => v | _ => .none))) s') NoE
        { s with heap := h₁, toks := s.toks + binds.length })
    (hco : scope.isCoroutine = false) (hgen : scope.isGenerator = false) (hk : scope.kind = .function)
    (hcell : ∀ x ∈ scope.names, x.2 ≠ .cell) : codeAny (model prog w) A (.call (.ref f) args) R s := by
  have X := X₀.keeps F.keep
  obtain ⟨FG, BG, st, lv⟩ := groundX (R := R) B F N hA hf hke
  refine codeAny_call_def (fd := fnOf name qual params body scope dV kV doc pm an cdv ct) (body := body) (binds := binds) hroom (X _ _ ho) rfl (T.nolimit.keeps F.keep) (codeRec_of X hcd) rfl hbind hcell hloc (fun h₁ hns hk₁ => ?_) hco hgen hk
  exact noE (h (hideAll s.heap (tabs.map (·.1))) s.heap.objs.size h₁ rfl (fun b o hb e => hideAll_get _ e hb) rfl (Nat.le_of_eq (hideAll_size _ _)) ⟨hns, fun b o e => hk₁ b o (of_hideAll _ e), Nat.le_of_eq (hideAll_size _ _)⟩
    (fun p hp => ⟨hk₁ _ _ (N p hp).1, Nat.ne_of_lt (Heap.lt_size (N p hp).1), hideAll_none _ (List.mem_map_of_mem hp)⟩) BG (X₀.keeps fun b o e => st b o e) (T.keeps fun b o e => st b o e))
end

section
variable {prog : Program} {w : World} {A₀ A : Around} {s : Shared} {base h₀ : Heap} {outer : List Env} {L : Addr} {m : Str → Option Value} {env : Env} {tabs : List (Addr × Obj)} {K : Frag}
  {R : Result → Shared → Prop} {name qual : Str} {params : Arguments} {body : List Stmt} {scope : Scope} {dV kV doc pm cdv ct oc : Value} {an od : Option Addr} {osl : Array (Option Value)} {f : Addr} {args : Args} {binds : List (Str × Value)}
  {p : Program} {loose : List Str} {mean : ExcName → Option Value} {mg mb : Str → Option Value}
/-- the same of a def with captured locals -/
theorem call_groundC (B : Below A₀ base outer h₀) (F : Fr h₀ L s.heap m) (X₀ : K.In h₀) (N : News h₀ L s.heap tabs) (T : Top p loose mean mg mb h₀) (hA : A.frames = some (env :: outer)) (hf : env.frame = some L) (hke : env.scope.kind = .function)
    (ho : K.lookup f = some ⟨oc, od, .func (fnOf name qual params body scope dV kV doc pm an cdv ct), osl⟩) (hcd : codeIn K cdv qual = true) (hroom : A.depth < recursionLimit)
    (hbind : BindsTo s (fnOf name qual params body scope dV kV doc pm an cdv ct) args binds) (hkind : (binds.all fun y => scope.names.lookup y.1 == some .local || scope.names.lookup y.1 == some .cell) = true)
    (hnd : ((cellsFrom 0 scope.names []).map (·.1)).Nodup)
    (h : ∀ g L' h₁ tk cells, g = hideAll s.heap (tabs.map (·.1)) → StayT tabs s.heap g → L' = s.heap.objs.size → Fr g L' h₁ (bindL (envOfC qual scope L' f cdv).kindOf binds fun _ => none) → News g L' h₁ (cells ++ tabs) → (∀ q ∈ tabs, q.1 < L') →
      CellsAre (bindC (envOfC qual scope L' f cdv).kindOf binds fun _ => none) (cellsFrom (L' + 1) scope.names []) cells → Below A base (env :: outer) g → K.In g → Top p loose mean mg mb g →
      wpAny (model prog w) (A.deeper (envOfC qual scope L' f cdv)) (execs body (envOfC qual scope L' f cdv))
        (fun fl s' => R (.ok (.ret (match fl with | .ret v => v | _ => .none))) s') NoE
        { s with heap := h₁, toks := tk })
    (hco : scope.isCoroutine = false) (hgen : scope.isGenerator = false) (hk : scope.kind = .function) : codeAny (model prog w) A (.call (.ref f) args) R s := by
  have X := X₀.keeps F.keep
  obtain ⟨FG, BG, st, lv⟩ := groundX (R := R) B F N hA hf hke
  refine codeAny_call_function hroom (X _ _ ho) rfl hco hgen rfl (codeRec_of X hcd) (hbind _ _ _ _ ?_)
  refine wpAny_newFunctionEnv_cells hk (kindsX hkind _) fun env' he s' x => ?_
  subst he
  refine ⟨(T.nolimit.keeps F.keep).keeps x.toInCall.keep, codeAny_func ?_⟩
  obtain ⟨h₁, tk, rfl, _⟩ := x.done
  have hk₁ := x.toInCall.keep
  have habove := x.above
  obtain ⟨cells, NC, Y⟩ := Cl.news (h₀ := s.heap) (Nat.le_refl _) fun n c hm => ⟨x.cell n c (lookup_of_mem_nodup (cellsFrom_names scope.names 0 (s.heap.objs.size + 1) [] [] rfl ▸ hnd) hm), x.above n c hm⟩
  refine noE (h (hideAll s.heap (tabs.map (·.1))) s.heap.objs.size h₁ tk cells rfl (fun b o hb e => hideAll_get _ e hb) rfl ⟨x.toInCall.ns, fun b o e => hk₁ b o (of_hideAll _ e), Nat.le_of_eq (hideAll_size _ _)⟩ (fun p hp => ?_) (fun q hq => ?_) Y BG (X₀.keeps fun b o e => st b o e) (T.keeps fun b o e => st b o e))
  · rcases List.mem_append.mp hp with hp | hp
    · refine ⟨(NC p hp).1, (NC p hp).2.1, ?_⟩
      cases q : (hideAll s.heap (tabs.map (·.1))).get? p.1 with
      | none => rfl
      | some o => have := of_hideAll _ q; rw [(NC p hp).2.2] at this; cases this
    · exact ⟨hk₁ _ _ (N p hp).1, Nat.ne_of_lt (Heap.lt_size (N p hp).1), hideAll_none _ (List.mem_map_of_mem hp)⟩
  · exact Heap.lt_size (N q hq).1
end

/-- the end of a def's own walk: what the caller is told -/
theorem ends_stay {g h : Heap} {L' : Addr} {m' : Str → Option Value} {h₁ : Heap} {tabs : List (Addr × Obj)} (st : StayT tabs h₁ g) (F : Fr g L' h m') : StayT tabs h₁ h := fun b o hb e => F.keep b o (st b o hb e)
theorem ends_same {g h h₁ : Heap} {L' : Addr} {tabs : List (Addr × Obj)} (N : News g L' h tabs) : NewT tabs tabs h₁ h := fun p hp => ⟨(N p hp).1, .inl (List.mem_map_of_mem hp)⟩
end Mine
end
section
open PySem PySem.W PyProof.Rows PySem.Calls
namespace Mine
set_option maxRecDepth 100000
set_option maxHeartbeats 1000000
theorem xor_low (X S : Nat) : X ^^^ (X / 2 ^ S * 2 ^ S) = X % 2 ^ S := by
  apply Nat.eq_of_testBit_eq
  intro i
  rw [Nat.testBit_xor, Nat.testBit_mod_two_pow, Nat.testBit_mul_two_pow, Nat.testBit_div_two_pow]
  by_cases h : S ≤ i
  · have h2 : ¬ i < S := by omega
    simp [h, h2]
  · have h2 : i < S := by omega
    simp [h, h2]
theorem xor_and_add : ∀ a b : Nat, (a ^^^ b) + 2 * (a &&& b) = a + b := by
  intro a
  induction a using Nat.strongRecOn with
  | ind a ih =>
    intro b
    by_cases h0 : a = 0
    · subst h0; simp
    · have h := ih (a / 2) (by omega) (b / 2)
      have e1 : (a ^^^ b) / 2 = a / 2 ^^^ b / 2 := Nat.xor_div_two
      have e2 : (a &&& b) / 2 = a / 2 &&& b / 2 := Nat.and_div_two
      have e3 := Nat.xor_mod_two_pow (a := a) (b := b) (n := 1)
      have e4 := Nat.and_mod_two_pow (a := a) (b := b) (n := 1)
      rw [← e1, ← e2] at h
      rw [Nat.pow_one] at e3 e4
      rcases Nat.mod_two_eq_zero_or_one a with x | x <;> rcases Nat.mod_two_eq_zero_or_one b with y | y <;> rw [x, y] at e3 e4 <;> simp only [Nat.xor_self, Nat.zero_xor, Nat.xor_zero, Nat.and_self, Nat.zero_and, Nat.and_zero] at e3 e4 <;> omega
theorem bitXor_nat (a b : Nat) : Builtin.bitXor (a : Int) (b : Int) = ((a ^^^ b : Nat) : Int) := by
  rw [bitXor_and, bitAnd_pp (by omega) (by omega), Int.toNat_natCast, Int.toNat_natCast]
  have := xor_and_add a b
  omega
theorem fdiv_pow (X S : Nat) : (X : Int).fdiv (2 ^ S) = ((X / 2 ^ S : Nat) : Int) := by
  rw [Int.fdiv_eq_ediv_of_nonneg _ (by exact_mod_cast Nat.zero_le (2 ^ S))]
  push_cast
  rfl
section
variable {prog : Program} {w : World} {A : Around} {E : Value → Shared → Prop} {s : Shared} {Q : Value → Shared → Prop} {t u : Tok}
theorem rshift_mid {Lo k : Nat} {i j : Int} (hi : i = (Lo : Int)) (hj : j = (Lo : Int) + k) (h : Q (.int ((Lo : Int) + ((k / 2 : Nat) : Int)) s.toks) { s with toks := s.toks + 1 }) : wpAny (model prog w) A (binaryOp .RShift (.int (i + j) t) (.int 1 u)) Q E s := by
  subst hi hj
  refine rshift_int (by decide) ?_
  have e : ((Lo : Int) + ((Lo : Int) + k)).fdiv (2 ^ Int.toNat 1) = (Lo : Int) + ((k / 2 : Nat) : Int) := by
    show ((Lo : Int) + ((Lo : Int) + k)).fdiv 2 = _
    rw [Int.fdiv_eq_ediv_of_nonneg _ (by decide)]
    omega
  rw [e]; exact h
theorem mul_sh {Lo k N : Nat} {i j : Int} (hi : i = (Lo : Int)) (hj : j = (Lo : Int) + ((k / 2 : Nat) : Int)) (hN : N ≤ 1000000) (hk : k ≤ 1000000) (h : Q (.int ((k / 2 * N : Nat) : Int) s.toks) { s with toks := s.toks + 1 }) : wpAny (model prog w) A (binaryOp .Mult (.int (j - i) t) (.int (N : Int) u)) Q E s := by
  subst hi hj
  have e : ((Lo : Int) + ((k / 2 : Nat) : Int) - (Lo : Int)) = ((k / 2 : Nat) : Int) := by omega
  rw [e]
  have e2 : ((k / 2 : Nat) : Int) * (N : Int) = ((k / 2 * N : Nat) : Int) := by push_cast; rfl
  refine mul_int (by rw [e2]; exact h) (IntMulOk.of_left (intBits_le_64 (by omega) (by omega)))
theorem rshift_nat {X S : Nat} (h : Q (.int ((X / 2 ^ S : Nat) : Int) s.toks) { s with toks := s.toks + 1 }) : wpAny (model prog w) A (binaryOp .RShift (.int (X : Int) t) (.int (S : Int) u)) Q E s := by
  refine rshift_int (by omega) ?_
  rw [Int.toNat_natCast, fdiv_pow]; exact h
theorem lshift_nat {X S : Nat} (hX : X < 18446744073709551616) (hS : S ≤ 1000000) (h : Q (.int ((X * 2 ^ S : Nat) : Int) s.toks) { s with toks := s.toks + 1 }) : wpAny (model prog w) A (binaryOp .LShift (.int (X : Int) t) (.int (S : Int) u)) Q E s := by
  refine lshift_int_small (by omega) (by omega) (by simpa using hX) ?_
  rw [Int.toNat_natCast]
  have e : ((X : Int) * 2 ^ S) = ((X * 2 ^ S : Nat) : Int) := by push_cast; rfl
  rw [e]; exact h
theorem xor_nat {X S : Nat} (h : Q (.int ((X % 2 ^ S : Nat) : Int) s.toks) { s with toks := s.toks + 1 }) : wpAny (model prog w) A (binaryOp .BitXor (.int (X : Int) t) (.int ((X / 2 ^ S * 2 ^ S : Nat) : Int) u)) Q E s := by
  refine xor_int ?_
  rw [bitXor_nat, xor_low]; exact h
end
end Mine
end
section
open PySem PySem.W PyProof.Rows PySem.Calls
namespace Mine
set_option maxRecDepth 100000
set_option maxHeartbeats 1000000
section
variable {prog : Program} {w : World} {A : Around} {E : Value → Shared → Prop} {s : Shared}
theorem str_sub_at {value slice : PySem.Expr} {P : Str} {t u : Tok} {i : Int} {k c : Nat} {Q : Value → Shared → Prop} (hi : i = (k : Int)) (hl : P.length ≤ 10000) (hc : P.cps[k]? = some c) (h : Q (.str ⟨#[c]⟩ s.toks) { s with toks := s.toks + 1 })
    (hs : subscripted slice false (.str P t) (.int i u) = operate [.str P t, .int i u] (getItem (.str P t) (.int i u)) := by with_unfolding_all rfl) :
    wpAny (model prog w) A (subscriptTail value slice (.str P t) (.int i u)) Q E s := by
  have hk : k < P.length := (Array.getElem?_eq_some_iff.mp hc).1
  subst hi
  refine tail_any (typeIs_str s P t) F.slot_str_getitem.lookup (PySem.P.getItem_str ?_ ?_ h) hs
  · simp; omega
  · have e : seqIndex? (k : Int) P.length = some k := by
      unfold seqIndex?
      have h0 : ¬ ((k : Int) < 0) := by omega
      have h1 : (k : Int) < (P.length : Int) := by omega
      simp [h0, h1]
    rw [e]; exact hc
/-- the signs of a piece stand at i -/
structure TokAt (P : Str) (i : Nat) (tok : List Nat) : Prop where
  «at» : ∀ d c, tok[d]? = some c → P.cps[i + d]? = some c
theorem str_tok {value slice : PySem.Expr} {P : Str} {t u : Tok} {j : Int} {i d c : Nat} {tok : List Nat} {Q : Value → Shared → Prop} (hT : TokAt P i tok) (hj : j = (i : Int) + (d : Int)) (hc : tok[d]? = some c) (hl : P.length ≤ 10000) (h : Q (.str ⟨#[c]⟩ s.toks) { s with toks := s.toks + 1 })
    (hs : subscripted slice false (.str P t) (.int j u) = operate [.str P t, .int j u] (getItem (.str P t) (.int j u)) := by with_unfolding_all rfl) :
    wpAny (model prog w) A (subscriptTail value slice (.str P t) (.int j u)) Q E s := str_sub_at (k := i + d) (by omega) hl (hT.at d c hc) h hs
end
end Mine
end
section
open PySem PySem.W PyProof.Rows PySem.Calls
namespace Mine
set_option maxRecDepth 100000
set_option maxHeartbeats 1000000
section
variable {prog : Program} {w : World} {A : Around} {E : Value → Shared → Prop} {s : Shared} {d : Addr} {f : Int → Option Value}
theorem gm_translate {x : Str} {t : Tok} {pl : Sem Bool} {Q : Value × List Value → Shared → Prop} (h : Q (.builtin "str.translate", [.str x t]) s) : wpAny (model prog w) A (getMethod (.str x t) "translate" pl) Q E s := by
  with_reducible exact GM.of (.str x t) (typeIs_str _ _ _) F.slot_str_translate F.type_str_translate GM.noRef h
theorem sub_KeyError : isSubtype (.type "KeyError") (.type "LookupError") = pure true := by rw [isSubtype_type]; kernel_rfl
theorem look_none {c : Nat} {Q : Builtin.Str.Mapped → Shared → Prop} (hm : s.heap.MapOf (intKind prog w) d f) (hf : f (c : Int) = none) (hd : (d == sysModules) = false) (hh : A.handled = none)
    (h : ∀ h' tk, (∀ b o, s.heap.get? b = some o → h'.get? b = some o) → Q .keep { s with heap := h', toks := tk }) : wpAny (model prog w) A (Builtin.Str.tableLookup (.ref d) c) Q E s := by
  unfold Builtin.Str.tableLookup
  refine wpAny_bind (wpAny_attempt (wpAny_bind (wpAny_mkInt ?_)))
  refine wpAny_getItem_missing_of (knd := intKind prog w) (k := (c : Int)) (key := .int c s.toks) (by simp [intKind, Value.isInt]) hd hh hm hf fun h' e he => ?_
  obtain ⟨ob, t, e1, e2, e3⟩ := he.there
  refine wpAny_bind (wpAny_isInstance (T := "KeyError") (b := true) ⟨ob, e1, e2⟩ sub_KeyError ?_)
  exact wpAny_bind (wpAny_rule (wpAny_pure (h _ _ he.keeps)))
theorem look_text {c : Nat} {x : Str} {u : Tok} {Q : Builtin.Str.Mapped → Shared → Prop} (hm : s.heap.MapOf (intKind prog w) d f) (hf : f (c : Int) = some (.str x u))
    (h : ∀ tk, Q (.text x) { s with toks := tk }) : wpAny (model prog w) A (Builtin.Str.tableLookup (.ref d) c) Q E s := by
  unfold Builtin.Str.tableLookup
  refine wpAny_bind (wpAny_attempt (wpAny_bind (wpAny_mkInt ?_)))
  refine wpAny_getItem_of (knd := intKind prog w) (k := (c : Int)) (key := .int c s.toks) (by simp [intKind, Value.isInt]) hm hf ?_
  refine wpAny_bind (wpAny_of_eq (a := none) rfl ?_)
  refine wpAny_bind (wpAny_of_eq (a := some x) rfl ?_)
  exact wpAny_pure (h _)
/-- the pieces of a text of one sign -/
def IP (c : Nat) (s : Shared) (out : Str) : List Nat → (List Str × Nat × Bool × List (Nat × Option Nat) × Bool) → Shared → Prop
  | [x], b, s' => x = c ∧ b = ([], 0, true, [], false) ∧ s' = s
  | [], b, s' => b.1 = [out] ∧ b.2.1 = out.length ∧ ∃ h' tk, s' = { s with heap := h', toks := tk } ∧ ∀ b o, s.heap.get? b = some o → h'.get? b = some o
  | _, _, _ => False
theorem ret_one {x : Str} {Q : Value → Shared → Prop} (hx : x.length ≤ sizeLine) (h : Q (.str x s.toks) { s with toks := s.toks + 1 }) :
    wpAny (model prog w) A (retStr ⟨List.foldl (fun acc (p : Str) => acc ++ p.cps) #[] [x].reverse⟩) (fun fin s' => ∃ v, fin = Fin.done (Flow.ret v) ∧ Q v s') E s := by
  have e : (⟨List.foldl (fun acc (p : Str) => acc ++ p.cps) #[] [x].reverse⟩ : Str) = x := by simp
  rw [e]
  unfold retStr
  exact wpAny_bind (wpAny_mkStr (wpAny_pure ⟨_, rfl, h⟩) hx)
theorem translate_keep {c : Nat} {t : Tok} {Q : Value → Shared → Prop} (hc : c < 128) (hm : s.heap.MapOf (intKind prog w) d f) (hf : f (c : Int) = none) (hd : (d == sysModules) = false) (hh : A.handled = none)
    (h : ∀ h' tk t', (∀ b o, s.heap.get? b = some o → h'.get? b = some o) → Q (.str ⟨#[c]⟩ t') { s with heap := h', toks := tk }) : wpAny (model prog w) A (call (.builtin "str.translate") [.str ⟨#[c]⟩ t, .ref d]) Q E s := by
  refine wpAny_call_entry F.slot_str_translate (typeIs_str _ _ _) F.entry_str_translate ?_ (F.args_str_translate_2 _ _)
  unfold Builtin.«str.translate»
  refine wpAny_bind (wpAny_of_eq (a := (Value.str ⟨#[c]⟩ t, (⟨#[c]⟩ : Str), Value.ref d)) rfl ?_)
  dsimp only
  rw [if_neg (show ¬ (((⟨#[c]⟩ : Str).length == 0) = true) from Bool.false_ne_true)]
  have e : (#[c].all fun x => decide (x < 128)) = true := by simp [hc]
  rw [e]
  refine wpAny_bind (forIn_array_ _ (IP c s ⟨#[c]⟩) _ ?turn ?fin #[c] _ ⟨rfl, rfl, rfl⟩)
  case turn =>
    intro x rest b s' hI
    match rest, hI with
    | [], hI =>
      obtain ⟨rfl, rfl, rfl⟩ := hI
      dsimp only
      rw [if_neg (by decide), if_pos rfl]
      refine wpAny_bind (look_none hm hf hd hh fun h' tk hk => ?_)
      dsimp only
      refine wpAny_bind (wpAny_pure ?_)
      dsimp only
      exact wpAny_pure ⟨rfl, rfl, h', tk, rfl, hk⟩
  case fin =>
    rintro b s' ⟨e1, e2, h', tk, rfl, hk⟩
    rw [e1, e2, if_neg (show ¬ (Builtin.Str.tooLong (⟨#[c]⟩ : Str).length = true) from by rw [show (⟨#[c]⟩ : Str).length = 1 from rfl]; decide)]
    exact ret_one (by show 1 ≤ _; rw [sizeLine_eq]; decide) (h h' _ _ hk)
theorem translate_text {c : Nat} {t u : Tok} {x : Str} {Q : Value → Shared → Prop} (hc : c < 128) (hm : s.heap.MapOf (intKind prog w) d f) (hf : f (c : Int) = some (.str x u)) (hx : x.length = 2)
    (h : ∀ h' tk t', (∀ b o, s.heap.get? b = some o → h'.get? b = some o) → Q (.str x t') { s with heap := h', toks := tk }) : wpAny (model prog w) A (call (.builtin "str.translate") [.str ⟨#[c]⟩ t, .ref d]) Q E s := by
  refine wpAny_call_entry F.slot_str_translate (typeIs_str _ _ _) F.entry_str_translate ?_ (F.args_str_translate_2 _ _)
  unfold Builtin.«str.translate»
  refine wpAny_bind (wpAny_of_eq (a := (Value.str ⟨#[c]⟩ t, (⟨#[c]⟩ : Str), Value.ref d)) rfl ?_)
  dsimp only
  rw [if_neg (show ¬ (((⟨#[c]⟩ : Str).length == 0) = true) from Bool.false_ne_true)]
  have e : (#[c].all fun x => decide (x < 128)) = true := by simp [hc]
  rw [e]
  refine wpAny_bind (forIn_array_ _ (IP c s x) _ ?turn ?fin #[c] _ ⟨rfl, rfl, rfl⟩)
  case turn =>
    intro y rest b s' hI
    match rest, hI with
    | [], hI =>
      obtain ⟨rfl, rfl, rfl⟩ := hI
      dsimp only
      rw [if_neg (by decide), if_pos rfl]
      refine wpAny_bind (look_text hm hf fun tk => ?_)
      dsimp only
      rw [if_neg (by rw [hx]; exact Bool.false_ne_true)]
      dsimp only
      refine wpAny_bind (wpAny_pure ?_)
      dsimp only
      refine wpAny_bind (wpAny_rule ?_)
      rw [if_neg (by decide)]
      refine wpAny_bind (look_text (s := { s' with toks := tk }) hm hf fun tk => ?_)
      dsimp only
      exact wpAny_pure ⟨rfl, by simp, _, _, rfl, fun _ _ x => x⟩
  case fin =>
    rintro b s' ⟨e1, e2, h', tk, rfl, hk⟩
    rw [e1, e2, hx, if_neg (by decide)]
    exact ret_one (by rw [hx, sizeLine_eq]; decide) (h h' _ _ hk)
end
end Mine
end
section
open PySem PySem.W PyProof.Rows PySem.Calls Builtin Builtin.ObjectAttr
namespace Mine
set_option maxRecDepth 100000
set_option maxHeartbeats 1000000
theorem kind_append : builtinKind "list.append" = some .method := by decide +kernel
theorem md_get : typeLookup (.type "method_descriptor") "__get__" = pure (some (.builtin "method_descriptor.__get__")) := by rw [typeLookup_type, builtinLookup_eq_fast]; kernel_rfl
theorem md_set : typeLookup (.type "method_descriptor") "__set__" = pure none := by rw [typeLookup_type, builtinLookup_eq_fast]; kernel_rfl
theorem md_del : typeLookup (.type "method_descriptor") "__delete__" = pure none := by rw [typeLookup_type, builtinLookup_eq_fast]; kernel_rfl
def boundApp (a : Addr) : Obj := { cls := .type "builtin_function_or_method", data := .fields #[.builtin "list.append", .ref a] }
theorem slot_mdget : Slot "method_descriptor" "__get__" "method_descriptor.__get__" :=
  .of (owner := "method_descriptor") (n := "__get__") (by rw [typeLookup_type, builtinLookup_eq_fast]; kernel_rfl) (by decide +kernel) (by decide +kernel) (by decide +kernel)
    (by first | exact .inl (by decide +kernel) | exact .inr (by decide +kernel)) (by rw [isSubtype_type]; kernel_rfl)
theorem entry_mdget : entryFor table "method_descriptor.__get__" = some Builtin.«method_descriptor.__get__» := entryFor_of_tree (by kernel_rfl)
theorem args_mdget (a b c : Value) : argsOk "method_descriptor.__get__" ⟨[a, b, c], []⟩ := by unfold argsOk; kernel_rfl
theorem owner_app : (kfb_private% "ownerAndName") "list.append" = ("list", "append") := by first | decide +kernel | kernel_rfl
theorem nameClass_app : (kfb_private% "nameAndClass") (.builtin "list.append") = pure (Str.ofString "append", .type "list") := by
  show pure (Str.ofString ((kfb_private% "ownerAndName") "list.append").2, Value.type ((kfb_private% "ownerAndName") "list.append").1) = _
  rw [owner_app]
theorem run_get {M : Model} {A : Around} {E : Value → Shared → Prop} {s : Shared} {a : Addr} {P : Fin → Shared → Prop} (hT : s.TypeIs (.ref a) "list") (h : P (.done (.ret (.ref s.heap.objs.size))) { s with heap := s.heap.push (boundApp a) }) :
    wpAny M A (Builtin.«method_descriptor.__get__» ⟨[.builtin "list.append", .ref a, .type "list"], []⟩) P E s := by
  unfold Builtin.«method_descriptor.__get__»
  refine wpAny_bind (wpAny_of_eq (a := (.builtin "list.append", some (.ref a), some (.type "list"))) (by first | rfl | kernel_rfl) ?_)
  dsimp only
  rw [if_neg (by decide +kernel)]
  show wpAny M A ((kfb_private% "checkInstance") (.builtin "list.append") (.ref a) >>= fun _ => newFields "builtin_function_or_method" [.builtin "list.append", .ref a] >>= ret) P E s
  refine wpAny_bind ?_
  show wpAny M A ((kfb_private% "nameAndClass") (.builtin "list.append") >>= _) _ E s
  rw [nameClass_app]
  refine wpAny_bind (wpAny_pure ?_)
  refine wpAny_bind (wpAny_isInstance (T := "list") (b := true) hT (by rw [isSubtype_type]; kernel_rfl) ?_)
  exact wpAny_pure (wpAny_bind (wpAny_newObj_type (wpAny_pure h)))
theorem type_app : typeOf (.builtin "list.append") = pure (.type "method_descriptor") := F.type_list_append
theorem getAttr_append {prog : Program} {w : World} {A : Around} {E : Value → Shared → Prop} {s : Shared} {a : Addr} {xs : Array Value} {k : Nat} {Q : Value → Shared → Prop}
    (hx : s.heap.get? a = some (PySem.W.listOf xs k)) 
    (h : Q (.ref s.heap.objs.size) { s with heap := s.heap.push (boundApp a), toks := s.toks + 1 }) :
    wpAny (model prog w) A (getAttr (.ref a) "append" true) Q E s := by
  obtain ⟨hp, g, d, tk, os⟩ := s
  have hT : ∀ tk', (⟨hp, g, d, tk', os⟩ : Shared).TypeIs (.ref a) "list" := fun _ => ⟨_, hx, rfl⟩
  have f3 := F.slot_list_getattribute.lookup
  have f4 := F.slot_list_getattribute.bind (.ref a)
  have f5 := am_list_getattr_none
  have f6 := F.slot_list_append.lookup
  have f7 := md_get
  have f8 := md_set
  have f9 := md_del
  unfold getAttr getAttrBy
  repeat (any_goals (first | assumption | exact hT _ | ((with_reducible show wpAny _ _ (call (Value.builtin "list.__getattribute__") _) _ _ _); refine wpAny_call_entry F.slot_list_getattribute (hT _) am_entry_list_getattribute ?_ (F.args_list_getattribute_2 _ _)) | wp_step))
  repeat (any_goals (first | assumption | exact hT _ | (rw [kind_append]; dsimp only) | ((with_reducible show wpAny _ _ (call (Value.builtin "method_descriptor.__get__") _) _ _ _); refine wpAny_call_entry slot_mdget type_app entry_mdget (run_get (hT _) ?_) (args_mdget _ _ _)) | wp_step))
  refine ⟨_, rfl, wpAny_pure ⟨_, rfl, ?_⟩⟩
  exact handed_on rfl h
def sigApp (full : String) : Manifest.Signature := ⟨.oneArg, full, "append", .self, [⟨"object", .posOnly, true⟩]⟩
theorem sig_app : Manifest.signature? "list.append" = some (sigApp "list.append") := by
  rw [signature?_of (id := "list.append") (n := ['d', 'n', 'e', 'p', 'p', 'a']) (o := ['t', 's', 'i', 'l']) (by kernel_rfl) F.owner_list]; kernel_rfl
theorem args_app {a : Addr} {x : Value} : Bind.checkArgs "list.append" (sigApp "list.append") ⟨[.ref a, x], []⟩ = pure () := by kernel_rfl
theorem last_app : Bind.lastOf "list.append" = "append" := by decide +kernel
theorem last_list : Bind.lastOf "list" = "list" := by decide +kernel
theorem sub_list_module : isSubtype (.type "list") (.type "module") = pure false := by rw [isSubtype_type]; kernel_rfl
theorem sub_list_type : isSubtype (.type "list") (.type "type") = pure false := by rw [isSubtype_type]; kernel_rfl
theorem check_app {M : Model} {A : Around} {E : Value → Shared → Prop} {s : Shared} {a : Addr} {x : Value} {xs : Array Value} {k : Nat} {Q : Unit → Shared → Prop} (hx : s.heap.get? a = some (PySem.W.listOf xs k)) (h : Q () s) : wpAny M A (checkBoundCall "list.append" ⟨[.ref a, x], []⟩) Q E s := by
  have hT : s.TypeIs (.ref a) "list" := ⟨_, hx, rfl⟩
  unfold checkBoundCall
  rw [sig_app, kind_append]
  dsimp only
  rw [if_neg (by decide)]
  refine wpAny_bind (wpAny_isInstance (T := "list") (b := false) hT sub_list_module ?_)
  rw [if_neg (by decide +kernel)]
  unfold isType
  refine wpAny_bind ?_
  dsimp only
  refine wpAny_bind (AutoSeq1.wpAny_loadPart' hx ?_)
  refine wpAny_pure ?_
  refine KFB.if_not rfl ?_
  refine wpAny_bind (wpAny_typeOf hT ?_)
  dsimp only
  rw [last_list, last_app]
  refine wpAny_of_eq (a := ()) ?_ h
  exact args_app
theorem quiet_app {as : Args} : (Code.builtin "list.append" as).quiet = true := Code.quiet_builtin _ (by decide +kernel)
theorem push_seq (its : Array Value) (n : Nat) (x : Value) : Obj.mapSeq (·.push x) (PySem.W.listOf its n) = PySem.W.listOf (its.push x) (n + 1) := by simp [Obj.mapSeq, PySem.W.listOf]
section
variable {prog : Program} {w : World} {A : Around} {E : Value → Shared → Prop} {s : Shared} {h₀ : Heap} {L : Addr} {m : PySem.Str → Option Value} {news news' : List (Addr × Obj)} {a q : Addr} {its : Array Value} {n : Nat} {x : Value} {Q : Value → Shared → Prop}
theorem call_boundApp (F : Fr h₀ L s.heap m) (N : News h₀ L s.heap news) (hq : s.heap.get? q = some (boundApp a)) (U : Upd a (PySem.W.listOf its n) (PySem.W.listOf (its.push x) (n + 1)) news news') (hz : its.size ≤ sizeLine)
    (h : ∀ h', Fr h₀ L h' m → News h₀ L h' news' → Q .none { s with heap := h' }) : wpAny (model prog w) A (call (.ref q) [x]) Q E s := by
  obtain ⟨pre, post, rfl, rfl, u1, u2⟩ := U.split
  have z := N (a, PySem.W.listOf its n) (List.mem_append.mpr (.inr (.head _)))
  refine wpAny_call (codeAny_of_tree ?_)
  show wpAny _ A.in1 (callAny (.ref q) ⟨[x], []⟩) _ _ s
  simp only [callAny]
  refine wpAny_bind (wpAny_load hq ?_)
  simp only [boundApp, show (Value.type "builtin_function_or_method" == Value.type "method" || Value.type "builtin_function_or_method" == Value.type "builtin_function_or_method" || Value.type "builtin_function_or_method" == Value.type "method-wrapper") = true by decide, if_true]
  refine KFB.if_so (by decide) ?_
  refine wpAny_bind (check_app z.1 ?_)
  refine wpAny_bind (wpAny_pure (wpAny_pure ?_))
  refine ⟨quiet_app, codeAny_builtin PySem.F.entry_list_append ?_⟩
  show wpAny _ _ (updateSeq a (·.push x) >>= fun _ => ret .none) _ _ s
  refine wpAny_bind (wpAny_updateSeq z.1 rfl (wpAny_pure ?_))
  refine h _ (F.change (Heap.SameBut.update ..) z.2.1 z.2.2) (N.setIn u1 u2 (Heap.SameBut.update ..) ?_)
  rw [Heap.get?_update_self _ z.1 (by rw [push_seq]; rfl), push_seq]
theorem getAttr_app_L (F : Fr h₀ L s.heap m) (N : News h₀ L s.heap news) (hm : (a, PySem.W.listOf its n) ∈ news)
    (h : ∀ q h', Fr h₀ L h' m → News h₀ L h' ((q, boundApp a) :: news) → (∀ p ∈ news, p.1 < q) → Q (.ref q) { s with heap := h', toks := s.toks + 1 }) : wpAny (model prog w) A (getAttr (.ref a) "append" true) Q E s :=
  getAttr_append (N _ hm).1 (h _ _ (F.push _) (News.push F N _) fun p hp => Heap.lt_size (N p hp).1)
def AppAt (u a : Addr) (h : Heap) : Prop := h.get? u = some (boundApp a)
theorem appAt_of (N : News h₀ L s.heap news) (hm : (q, boundApp a) ∈ news) : AppAt q a s.heap := (N _ hm).1
theorem callWith_appF {pos : Pos} {u : Addr} {args : List (Bool × Sem Value)} (hplain : args.any (·.1) = false)
    (h : wpAny (model prog w) A (evalArgs (.ref u) true args []) (fun x s₁ => AppAt u a s₁.heap ∧ wpAny (model prog w) A (call (.ref u) ([] ++ x.pos) x.kw) Q E s₁) E s) : wpAny (model prog w) A (callWith pos (.ref u) [] args []) Q E s := by
  unfold callWith
  refine wpAny_bind (wpAny_holding (wpAny_mono h (fun x s₁ h₁ => wpAny_bind (wpAny_standAt ?_)) fun _ _ x => x))
  obtain ⟨ho, hcall⟩ := h₁
  simp only [hplain, List.any_nil, Bool.or_false]
  refine wpAny_bind (m := keeperOf (.ref u)) ?_
  unfold keeperOf
  refine wpAny_bind (wpAny_load ho ?_)
  simp only [boundApp, show (Value.type "builtin_function_or_method" != Value.type "method") = true by decide, show (Value.type "builtin_function_or_method" == Value.type "builtin_function_or_method" || Value.type "builtin_function_or_method" == Value.type "method-wrapper") = true by decide, if_true]
  refine wpAny_pure ?_
  exact wpAny_bind (wpAny_mono hcall (fun r s₂ hr => wpAny_bind (wpAny_holding (wpAny_point (wpAny_pure hr)))) fun _ _ x => x)
theorem callWith_app {pos : Pos} {u : Addr} {env : Env} {e : PySem.Expr} {rest : List PySem.Expr} (_N : News h₀ L s.heap news) (_hm : (u, boundApp a) ∈ news)
    (h : wpAny (model prog w) A (spliced (backTo pos (starEach (e :: rest) env))) (fun vs s₁ => AppAt u a s₁.heap ∧ wpAny (model prog w) A (call (.ref u) ([] ++ vs)) Q E s₁) E s)
    (he : starEach (e :: rest) env = (false, PySem.eval e env) :: starEach rest env := by rfl) (hplain : (backTo pos (starEach rest env)).any (·.1) = false := by rfl) :
    wpAny (model prog w) A (callWith pos (.ref u) [] (backTo pos (starEach (e :: rest) env)) []) Q E s := by
  rw [he] at h ⊢
  refine callWith_appF (a := a) (by show (false || (backTo pos (starEach rest env)).any (·.1)) = false; rw [hplain]; rfl) ?_
  exact evalArgs_plain h
end
end Mine
end
section
open PySem PySem.W PyProof.Rows PySem.Calls
open AutoSeq1 (wpAny_loadPart')
namespace Mine
set_option maxRecDepth 100000
set_option maxHeartbeats 1000000

theorem allLt_ne {d : Addr} : ∀ {l : List (Addr × Obj)}, AllLt d l → ∀ p ∈ l, p.1 ≠ d
  | [], _, _, hq => by cases hq
  | p :: r, h, q, hq => by
    rcases List.mem_cons.mp hq with rfl | hq
    · exact Nat.ne_of_lt h.1
    · exact allLt_ne h.2 q hq

section
variable {h₀ h h' : Heap} {L : Addr} {m : Str → Option Value} {news : List (Addr × Obj)}
/-- one object of the ledger turns, more may be made -/
theorem led_set {d : Addr} {o o' : Obj} {r : List (Addr × Obj)} (F : Fr h₀ L h m) (N : News h₀ L h ((d, o) :: r)) (hr : ∀ p ∈ r, p.1 ≠ d) (hs : Heap.ExtBut d h h') (ho : h'.get? d = some o') :
    Fr h₀ L h' m ∧ News h₀ L h' ((d, o') :: r) := by
  have hd := N _ (.head _)
  refine ⟨⟨F.ns.extBut hs (Ne.symm hd.2.1), fun b ob e => hs b ob (fun q => ?_) (F.keep b ob e), F.above⟩, fun p hp => ?_⟩
  · rw [q, hd.2.2] at e; cases e
  · rcases List.mem_cons.mp hp with rfl | hp
    · exact ⟨ho, hd.2⟩
    · have := N p (.tail _ hp)
      exact ⟨hs _ _ (hr p hp) this.1, this.2⟩
theorem led_ext (F : Fr h₀ L h m) (N : News h₀ L h news) (hs : ∀ b o, h.get? b = some o → h'.get? b = some o) : Fr h₀ L h' m ∧ News h₀ L h' news :=
  ⟨⟨F.ns.keeps hs, fun b o e => hs _ _ (F.keep b o e), F.above⟩, fun p hp => ⟨hs _ _ (N p hp).1, (N p hp).2⟩⟩
theorem led_new {d : Addr} {o : Obj} (F : Fr h₀ L h m) (N : News h₀ L h' news) (hd : h.objs.size ≤ d) (ho : h'.get? d = some o) : News h₀ L h' ((d, o) :: news) := fun p hp => by
  rcases List.mem_cons.mp hp with rfl | hp
  · exact ⟨ho, Nat.ne_of_gt (Nat.lt_of_lt_of_le F.ns.lt hd), Heap.get?_none_of_le (Nat.le_trans F.above (Nat.le_trans (Nat.le_of_lt F.ns.lt) hd))⟩
  · exact N p hp
theorem led_lt (N : News h₀ L h news) {d : Addr} (hd : h.objs.size ≤ d) : ∀ p ∈ news, p.1 < d := fun p hp => Nat.lt_of_lt_of_le (Heap.lt_size (N p hp).1) hd
end

/-- a tuple iterator at its place -/
def TI (o : Obj) (t : Addr) (i : Nat) : Prop := o.cls = .type "tuple_iterator" ∧ o.data = .fields #[.ref t, .int i 0]
def tupIt (t : Addr) (i : Nat) : Obj := { cls := .type "tuple_iterator", data := .fields #[.ref t, .int i 0] }
def enumObj (it : Addr) (i : Int) (old : Value) : Obj := { cls := .type "enumerate", dict := none, data := .fields #[.none, .bool false, .ref it, rawInt i, .none, old], slots := #[] }

theorem meets_enum_tup (l : Addr) (items : Array Value) (n : Nat) (dct : Option Addr) (sl : Array (Option Value)) :
    Meets (Builtin.«enumerate.__new__» ⟨[.type "enumerate", .ref l], []⟩) (fun _ R s => s.heap.get? l = some { cls := .type "tuple", dict := dct, data := .seq items n, slots := sl } ∧
      R (.ok (.ret (.ref (s.heap.push (tupIt l 0)).objs.size)))
        { s with heap := (s.heap.push (tupIt l 0)).push (enumObj s.heap.objs.size 0 .none) }) :=
  .of_wp fun prog w A R s h => by
    obtain ⟨hp, g, d, tk, os⟩ := s; obtain ⟨hl, h⟩ := h
    have hsub := sub_enumerate
    have hL : Heap.IsTuple (Shared.heap ⟨hp, g, d, tk, os⟩) l items := ⟨_, hl, rfl, n, rfl⟩
    wp_walk using wpAny_loadPart' hl
    refine wpAny_stack_any fun st => wpAny_pure ?_
    split
    · rename_i c _ _ _ _ _
      cases (c == Value.type "enumerate")
      · wp_walk using wpAny_loadPart' hl, wpAny_pyIter_tuple hL
        exact ⟨_, rfl, h⟩
      · wp_walk using wpAny_loadPart' hl, wpAny_pyIter_tuple hL
        exact ⟨_, rfl, h⟩
    · wp_walk using wpAny_loadPart' hl, wpAny_pyIter_tuple hL
      exact ⟨_, rfl, h⟩

section
variable {prog : Program} {w : World} {A : Around} {E : Value → Shared → Prop} {s : Shared}
theorem call_enum_tup {h₀ : Heap} {L : Addr} {m : Str → Option Value} {news : List (Addr × Obj)} {l : Addr} {items : Array Value} {Q : Value → Shared → Prop} (Fm : Fr h₀ L s.heap m) (N : News h₀ L s.heap news) (hL : h₀.IsTuple l items)
    (h : ∀ h' it e, Fr h₀ L h' m → News h₀ L h' ((e, enumObj it 0 .none) :: (it, tupIt l 0) :: news) → (∀ p ∈ news, p.1 < it) → it < e → Q (.ref e) { s with heap := h' }) :
    wpAny (model prog w) A (call (.type "enumerate") [.ref l]) Q E s := by
  obtain ⟨⟨c, dct, dt, sl⟩, hl, hc, n, hd⟩ := hL
  replace hl := Fm.keep _ _ hl
  replace hc : c = .type "tuple" := hc
  replace hd : dt = .seq items n := hd
  subst hc hd
  refine callType_new F.called_enumerate (by decide) (F.typeCall_enumerate_1 _) (F.newCall_enumerate_1 _) (fun obj => F.args_object_init_2 obj _) F.entry_enumerate_new
    (meets_enum_tup l items n dct sl) ⟨hl, ?_⟩
  have hz : (s.heap.push (tupIt l 0)).objs.size = s.heap.objs.size + 1 := Heap.size_push ..
  show _ ∧ _
  rw [hz]
  have he : ((s.heap.push (tupIt l 0)).push (enumObj s.heap.objs.size 0 .none)).get? (s.heap.objs.size + 1) = some (enumObj s.heap.objs.size 0 .none) := by
    have := Heap.get?_push_size (s.heap.push (tupIt l 0)) (o := enumObj s.heap.objs.size 0 .none) rfl
    rw [hz] at this; exact this
  refine ⟨⟨_, he, rfl⟩, ?_⟩
  have K : ∀ b o, s.heap.get? b = some o → ((s.heap.push (tupIt l 0)).push (enumObj s.heap.objs.size 0 .none)).get? b = some o := fun b o x => Heap.get?_push_of_some _ (Heap.get?_push_of_some _ x)
  obtain ⟨Fm', N'⟩ := led_ext Fm N K
  exact h _ s.heap.objs.size (s.heap.objs.size + 1) Fm' (led_new Fm (led_new Fm N' (Nat.le_refl _) (Heap.get?_push_of_some _ (Heap.get?_push_size _ rfl))) (Nat.le_succ _) he) (led_lt N (Nat.le_refl _)) (Nat.lt_succ_self _)

theorem nextOf_tup {it t : Addr} {i : Nat} {items} {x : Value} {Q : Value → Shared → Prop} (hit : s.heap.IsTupleIter it t i)
    (ht : s.heap.IsTuple t items) (hx : items[i]? = some x)
    (hQ : ∀ h', h'.IsTupleIter it t (i + 1) → Heap.SameBut it s.heap h' → Q x { s with heap := h' }) :
    wpAny (model prog w) A (Builtin.SmallTypes.nextOf (.ref it)) Q E s := by
  obtain ⟨o, ho, hc, hd⟩ := id hit
  obtain ⟨ol, hol, _, nl, hdl⟩ := ht
  unfold Builtin.SmallTypes.nextOf
  refine wpAny_bind (wpAny_callSpecial?_slot (name := Str.ofString "__next__") hit.typeIs F.slot_tuple_iterator_next
    (wpAny_call_entry F.slot_tuple_iterator_next hit.typeIs F.entry_tuple_iterator_next ?_ (F.args_tuple_iterator_next_1 _)))
  show wpAny _ _ (field (.ref it) 0 >>= _) _ _ s
  refine wpAny_bind (wpAny_field ho hd (x := .ref t) rfl ?_)
  show wpAny _ _ (if (Value.ref t == Value.none) = true then _ else _) _ _ s
  rw [if_neg (show ¬ ((Value.ref t == Value.none) = true) from Bool.false_ne_true)]
  show wpAny _ _ (field (.ref it) 1 >>= _) _ _ s
  refine wpAny_bind (wpAny_field ho hd (x := .int i 0) rfl ?_)
  show wpAny _ _ (seqItems? (.ref t) >>= _) _ _ s
  refine wpAny_bind (wpAny_seqItems hol hdl ?_)
  simp only [Int.toNat_natCast, hx]
  refine wpAny_bind (wpAny_setField ho hd (by simp) (wpAny_pure ⟨x, rfl, wpAny_pure (hQ _ ?_ (Heap.SameBut.update ..))⟩))
  exact ⟨_, Heap.get?_update_self _ ho (Obj.isFreed_of_fields (Obj.data_mapFields hd _)), (Obj.cls_mapFields ..).trans hc, by
    rw [Obj.data_mapFields hd]; simp [rawInt]⟩

abbrev enumOut (it : Addr) (i : Int) (item : Value) (a : Addr) : Obj := { cls := .type "enumerate", dict := none, data := .fields #[rawInt a, .bool false, .ref it, rawInt i, .none, item], slots := #[] }

theorem next_enum {e it l : Addr} {i : Nat} {items : Array Value} {x old : Value} {Q : Option Value → Shared → Prop}
    (he : s.heap.get? e = some (enumObj it i old)) (hit : s.heap.IsTupleIter it l i) (hl : s.heap.IsTuple l items) (hx : items[i]? = some x) (hne : e ≠ it)
    (hQ : ∀ h', h'.get? e = some (enumOut it ((i : Int) + 1) x s.heap.objs.size) → h'.IsTupleIter it l (i + 1) →
      h'.get? s.heap.objs.size = some { cls := .type "tuple", data := .seq #[.int i s.toks, x] } →
      (∀ b o, b ≠ e → b ≠ it → s.heap.get? b = some o → h'.get? b = some o) → Q (some (.ref s.heap.objs.size)) { s with heap := h', toks := s.toks + 1 }) :
    wpAny (model prog w) A (pyNext (.ref e)) Q E s := by
  have hT : s.TypeIs (.ref e) "enumerate" := ⟨_, he, rfl⟩
  unfold pyNext
  refine wpAny_bind (wpAny_attempt (wpAny_callSpecial?_slot (name := Str.ofString "__next__") hT F.slot_enumerate_next
    (wpAny_call_entry F.slot_enumerate_next hT F.entry_enumerate_next ?_ (F.args_enumerate_next_1 _))))
  obtain ⟨hp, g, d, tk, os⟩ := s
  show wpAny _ _ (field (.ref e) 2 >>= _) _ _ _
  refine wpAny_bind (wpAny_field he rfl (x := .ref it) rfl ?_)
  refine wpAny_bind (nextOf_tup hit hl hx fun h₁ hit₁ hs₁ => ?_)
  replace hs₁ : Heap.SameBut it hp h₁ := hs₁
  have he₁ : h₁.get? e = some (enumObj it i old) := (hs₁.2 e hne).trans he
  show wpAny _ _ (field (.ref e) 3 >>= _) _ _ ⟨h₁, g, d, tk, os⟩
  refine wpAny_bind (wpAny_field he₁ rfl (x := rawInt i) rfl ?_)
  show wpAny _ _ (field (.ref e) 4 >>= _) _ _ ⟨h₁, g, d, tk, os⟩
  refine wpAny_bind (wpAny_field he₁ rfl (x := .none) rfl ?_)
  show wpAny _ _ (mkInt i >>= _) _ _ ⟨h₁, g, d, tk, os⟩
  refine wpAny_bind (wpAny_mkInt ?_)
  show wpAny _ _ (setField (.ref e) 3 (rawInt ((i : Int) + 1)) >>= _) _ _ ⟨h₁, g, d, tk + 1, os⟩
  refine wpAny_bind (wpAny_setField_rec he₁ (by simp) fun h₂ he₂ hs₂ => ?_)
  replace hs₂ : Heap.SameBut e h₁ h₂ := hs₂
  replace he₂ : h₂.get? e = some (enumObj it ((i : Int) + 1) old) := he₂
  show wpAny _ _ (setField (.ref e) 4 .none >>= _) _ _ ⟨h₂, g, d, tk + 1, os⟩
  refine wpAny_bind (wpAny_setField_rec he₂ (by simp) fun h₃ he₃ hs₃ => ?_)
  replace hs₃ : Heap.SameBut e h₂ h₃ := hs₃
  replace he₃ : h₃.get? e = some (enumObj it ((i : Int) + 1) old) := he₃
  show wpAny _ _ (newTuple [.int i tk, x] >>= _) _ _ ⟨h₃, g, d, tk + 1, os⟩
  refine wpAny_bind (wpAny_newTuple ?_)
  have he₄ : (h₃.push { cls := .type "tuple", data := .seq #[.int i tk, x] }).get? e = some (enumObj it ((i : Int) + 1) old) := Heap.get?_push_of_some _ he₃
  generalize hh₄ : h₃.push { cls := .type "tuple", data := .seq #[.int i tk, x] } = h₄ at he₄
  have hsz : h₃.objs.size = hp.objs.size := by rw [hs₃.1, hs₂.1, hs₁.1]
  have hel : e < hp.objs.size := Heap.lt_size he
  have ht₄ : h₄.get? hp.objs.size = some { cls := .type "tuple", data := .seq #[.int i tk, x] } := by rw [← hh₄, ← hsz]; exact Heap.get?_push_size _ rfl
  have hk₄ : ∀ b o, b ≠ e → b ≠ it → hp.get? b = some o → h₄.get? b = some o := fun b o hbe hbi hb => by
    rw [← hh₄]; exact Heap.get?_push_of_some _ (hs₃.extBut b o hbe (hs₂.extBut b o hbe (hs₁.extBut b o hbi hb)))
  have hit₄ : h₄.IsTupleIter it l (i + 1) := by
    rw [← hh₄]; obtain ⟨o, ho, r⟩ := (hit₁.extBut hs₂.extBut (Ne.symm hne)).extBut hs₃.extBut (Ne.symm hne); exact ⟨o, Heap.get?_push_of_some _ ho, r⟩
  show wpAny _ _ (Builtin.SmallTypes.ownedTupleIsFree (.ref e) >>= _) _ _ ⟨h₄, g, d, tk + 1, os⟩
  rw [hsz]
  refine wpAny_bind ?_
  unfold Builtin.SmallTypes.ownedTupleIsFree
  refine wpAny_bind (wpAny_field he₄ rfl (x := .none) rfl (wpAny_pure ?_))
  simp only [if_true]
  refine wpAny_bind (wpAny_rule ?_)
  refine wpAny_bind (wpAny_field he₄ rfl (x := old) rfl ?_)
  refine wpAny_bind (wpAny_setField_rec he₄ (by simp) fun h₅ he₅ hs₅ => ?_)
  replace hs₅ : Heap.SameBut e h₄ h₅ := hs₅
  replace he₅ : h₅.get? e = some (enumObj it ((i : Int) + 1) x) := he₅
  show wpAny _ _ (Builtin.SmallTypes.ownedTupleHandOut (.ref e) (.ref hp.objs.size) >>= _) _ _ ⟨h₅, g, d, tk + 1, os⟩
  refine wpAny_bind ?_
  unfold Builtin.SmallTypes.ownedTupleHandOut
  refine wpAny_bind (wpAny_setField_rec he₅ (by simp) fun h₆ he₆ hs₆ => ?_)
  replace hs₆ : Heap.SameBut e h₅ h₆ := hs₆
  replace he₆ : h₆.get? e = some (enumOut it ((i : Int) + 1) x hp.objs.size) := he₆
  refine wpAny_setField_rec he₆ (by simp) fun h₇ he₇ hs₇ => ?_
  replace hs₇ : Heap.SameBut e h₆ h₇ := hs₇
  replace he₇ : h₇.get? e = some (enumOut it ((i : Int) + 1) x hp.objs.size) := he₇
  refine wpAny_bind (wpAny_letGo (wpAny_pure ⟨_, rfl, wpAny_pure (hQ h₇ he₇ ?_ ?_ ?_)⟩))
  · exact ((hit₄.extBut hs₅.extBut (Ne.symm hne)).extBut hs₆.extBut (Ne.symm hne)).extBut hs₇.extBut (Ne.symm hne)
  · exact hs₇.extBut _ _ (Nat.ne_of_gt hel) (hs₆.extBut _ _ (Nat.ne_of_gt hel) (hs₅.extBut _ _ (Nat.ne_of_gt hel) ht₄))
  · exact fun b o hbe hbi hb => hs₇.extBut b o hbe (hs₆.extBut b o hbe (hs₅.extBut b o hbe (hk₄ b o hbe hbi hb)))

theorem nextOf_tup_end {it t : Addr} {i : Nat} {items} {Q : Value → Shared → Prop} (hh : A.handled = none)
    (hit : s.heap.IsTupleIter it t i) (ht : s.heap.IsTuple t items) (hx : items[i]? = none)
    (hE : ∀ h' e, Heap.ExtBut it s.heap h' → (∃ o, h'.get? e = some o ∧ o.cls = .type "StopIteration") → E (.ref e) { s with heap := h' }) :
    wpAny (model prog w) A (Builtin.SmallTypes.nextOf (.ref it)) Q E s := by
  obtain ⟨o, ho, hc, hd⟩ := id hit
  obtain ⟨ol, hol, _, nl, hdl⟩ := ht
  unfold Builtin.SmallTypes.nextOf
  refine wpAny_bind (wpAny_callSpecial?_slot (name := Str.ofString "__next__") hit.typeIs F.slot_tuple_iterator_next
    (wpAny_call_entry F.slot_tuple_iterator_next hit.typeIs F.entry_tuple_iterator_next ?_ (F.args_tuple_iterator_next_1 _)))
  show wpAny _ _ (field (.ref it) 0 >>= _) _ _ s
  refine wpAny_bind (wpAny_field ho hd (x := .ref t) rfl ?_)
  show wpAny _ _ (if (Value.ref t == Value.none) = true then _ else _) _ _ s
  rw [if_neg (show ¬ ((Value.ref t == Value.none) = true) from Bool.false_ne_true)]
  show wpAny _ _ (field (.ref it) 1 >>= _) _ _ s
  refine wpAny_bind (wpAny_field ho hd (x := .int i 0) rfl ?_)
  show wpAny _ _ (seqItems? (.ref t) >>= _) _ _ s
  refine wpAny_bind (wpAny_seqItems hol hdl ?_)
  simp only [Int.toNat_natCast, hx]
  refine wpAny_bind (wpAny_rule (wpAny_bind (wpAny_setField ho hd (by simp) ?_)))
  show wpAny _ _ (newExc (.type "StopIteration") [] >>= _) _ _ _
  refine wpAny_bind ?_
  simp only [newExc, newTuple]
  refine wpAny_bind (wpAny_newObj_type ?_ (by size_fits))
  refine wpAny_bind (m := firstArgMember _ _) (wpAny_of_eq (a := Value.none) (by first | rfl | (simp only [firstArgMember]; rfl)) ?_)
  refine wpAny_newObj_type ?_ (by size_fits)
  simp only [raiseNew]
  refine wpAny_bind (wpAny_handled ?_)
  rw [show A.in1.handled = none from hh]
  refine wpAny_bind (wpAny_pure (wpAny_throw ?_))
  exact hE _ _ (((Heap.SameBut.update ..).extBut.push _).push _) ⟨_, Heap.get?_push_size _ rfl, rfl⟩

theorem next_enum_end {e it l : Addr} {i : Nat} {items : Array Value} {old : Value} {Q : Option Value → Shared → Prop} (hh : A.handled = none)
    (he : s.heap.get? e = some (enumObj it i old)) (hit : s.heap.IsTupleIter it l i) (hl : s.heap.IsTuple l items) (hx : items[i]? = none)
    (hQ : ∀ h', Heap.ExtBut it s.heap h' → Q none { s with heap := h' }) : wpAny (model prog w) A (pyNext (.ref e)) Q E s := by
  have hT : s.TypeIs (.ref e) "enumerate" := ⟨_, he, rfl⟩
  unfold pyNext
  refine wpAny_bind (wpAny_attempt (wpAny_callSpecial?_slot (name := Str.ofString "__next__") hT F.slot_enumerate_next
    (wpAny_call_entry F.slot_enumerate_next hT F.entry_enumerate_next ?_ (F.args_enumerate_next_1 _))))
  show wpAny _ _ (field (.ref e) 2 >>= _) _ _ _
  refine wpAny_bind (wpAny_field he rfl (x := .ref it) rfl ?_)
  refine wpAny_bind (nextOf_tup_end hh hit hl hx fun h' x he' hx' => ?_)
  obtain ⟨o, ho, hc⟩ := hx'
  refine wpAny_bind (wpAny_isInstance (T := "StopIteration") (b := true) ⟨o, ho, hc⟩ isSubtype_stop ?_)
  exact wpAny_pure (hQ _ he')
end

section
variable {prog : Program} {w : World} {A : Around} {s : Shared} {env : Env} {h₀ : Heap} {m : Str → Option Value} {rest : List (Addr × Obj)}

/-- two names from a tuple -/
theorem assign_two {E : Value → Shared → Prop} {x y : Str} {p₁ p₂ p₃ : Pos} {k : Nat} {t : Addr} {v₁ v₂ : Value} {news : List (Addr × Obj)} {Q : Unit → Shared → Prop} (hh : A.handled = none)
    (hkx : env.kindOf x = some .local) (hky : env.kindOf y = some .local) (hp : (env.scope.kind == .class || (env.scope.kind == .module && env.locals != env.globals)) = false)
    (Fm : Fr h₀ env.locals s.heap m) (N : News h₀ env.locals s.heap news) (ht : s.heap.IsTuple t #[v₁, v₂])
    (h : ∀ h', Fr h₀ env.locals h' (fun z => if z = y then some v₂ else if z = x then some v₁ else m z) → News h₀ env.locals h' news → Q () { s with heap := h', toks := s.toks + 2 }) :
    wpAny (model prog w) A (assign (.Tuple [.Name x p₁, .Name y p₂] k p₃) env (.ref t)) Q E s := by
  refine wpAny_assign_Tuple hh ht rfl rfl fun h₃ hx₃ => ?_
  have K : ∀ b o, s.heap.get? b = some o → h₃.get? b = some o := fun b o e => hx₃ b o (Nat.ne_of_lt (Heap.lt_size e)) e
  obtain ⟨F₃, N₃⟩ := led_ext Fm N K
  show wpAny _ A (do holding [v₂] (assign (.Name x p₁) env v₁); do holding [] (assign (.Name y p₂) env v₂); pure ()) _ _ _
  refine wpAny_bind (wpAny_holding (wpAny_assign_Name (wpAny_storeName_local hkx F₃.ns (fun h₄ hn₄ hs₄ => ?_) hp)))
  refine wpAny_bind (wpAny_holding (wpAny_assign_Name (wpAny_storeName_local hky hn₄ (fun h₅ hn₅ hs₅ => wpAny_pure ?_) hp)))
  exact h h₅ ((F₃.set hn₄ hs₄).set hn₅ hs₅) ((N₃.set hs₄).set hs₅)

theorem forEnum_turn {R : Result → Shared → Prop} {xi xv : Str} {pi pv pt : Pos} {x1 : Nat} {body orelse : List Stmt} {e it l : Addr} {items : Array Value} {i : Nat} {old : Value} {o : Obj}
    (hh : A.handled = none) (hxi : env.kindOf xi = some .local) (hxv : env.kindOf xv = some .local)
    (hp : (env.scope.kind == .class || (env.scope.kind == .module && env.locals != env.globals)) = false)
    (Fm : Fr h₀ env.locals s.heap m) (N : News h₀ env.locals s.heap ((e, enumObj it i old) :: (it, o) :: rest)) (hei : e ≠ it) (hr : ∀ p ∈ rest, p.1 ≠ e ∧ p.1 ≠ it) (hT : TI o l i) (hl : h₀.IsTuple l items)
    (item : ∀ x, items[i]? = some x → ∀ h' tk tki o', TI o' l (i + 1) → Fr h₀ env.locals h' (fun z => if z = xv then some x else if z = xi then some (.int i tki) else m z) →
      News h₀ env.locals h' ((e, enumObj it ((i + 1 : Nat) : Int) x) :: (it, o') :: rest) →
      wpAny (model prog w) A (execs body env) (fun f s₃ => match f with
          | .next | .cont => codeAny (model prog w) A (.forLoop (.Tuple [.Name xi pi, .Name xv pv] x1 pt) (.ref e) body orelse env) R s₃
          | .brk => R (.ok .next) s₃
          | .ret v => R (.ok (.ret v)) s₃) NoE { s with heap := h', toks := tk })
    (fin : items[i]? = none → ∀ h' tk, Fr h₀ env.locals h' m → News h₀ env.locals h' rest → wpAny (model prog w) A (execs orelse env) (fun f s₃ => R (.ok f) s₃) NoE { s with heap := h', toks := tk }) :
    codeAny (model prog w) A (.forLoop (.Tuple [.Name xi pi, .Name xv pv] x1 pt) (.ref e) body orelse env) R s := by
  have he := N _ (.head _)
  have hi := N _ (.tail _ (.head _))
  have hit : s.heap.IsTupleIter it l i := ⟨o, hi.1, hT⟩
  have hl' : s.heap.IsTuple l items := let ⟨o, a, r⟩ := hl; ⟨o, Fm.keep _ _ a, r⟩
  have hsz := Heap.lt_size he.1
  refine for_turn ?_
  cases hx : items[i]? with
  | none =>
    refine next_enum_end hh he.1 hit hl' hx fun h' hs => ?_
    have := led_set Fm (fun p hp => N p (.tail _ hp) : News h₀ env.locals s.heap ((it, o) :: rest)) (fun p hp => (hr p hp).2) (h' := h') (o' := o) hs
    refine fin hx h' _ ⟨Fm.ns.extBut hs (Ne.symm hi.2.1), fun b ob eb => hs b ob (fun q => ?_) (Fm.keep b ob eb), Fm.above⟩ fun p hp => ?_
    · rw [q, hi.2.2] at eb; cases eb
    · have := N p (.tail _ (.tail _ hp))
      exact ⟨hs _ _ (hr p hp).2 this.1, this.2⟩
  | some x =>
    refine next_enum he.1 hit hl' hx hei fun h₁ he₁ hit₁ ht₁ hk₁ => ?_
    have hlt : e < s.heap.objs.size := hsz
    refine wpAny_letOwnedTupleGo_enum (item := x) (i := (i : Int) + 1) he₁ fun h₂ he₂ hs₂ => ?_
    replace hs₂ : Heap.SameBut e h₁ h₂ := hs₂
    have ht₂ : h₂.IsTuple s.heap.objs.size #[.int i s.toks, x] := ⟨_, (hs₂.2 _ (Nat.ne_of_gt hlt)).trans ht₁, rfl, _, rfl⟩
    obtain ⟨o', ho', hT'⟩ := hit₁
    have ho₂ : h₂.get? it = some o' := (hs₂.2 it (Ne.symm hei)).trans ho'
    have K : ∀ b ob, b ≠ e → b ≠ it → s.heap.get? b = some ob → h₂.get? b = some ob := fun b ob h1 h2 eb => hs₂.extBut b ob h1 (hk₁ b ob h1 h2 eb)
    have F₂ : Fr h₀ env.locals h₂ m := by
      obtain ⟨oL, es, ep, hL, r⟩ := Fm.ns
      refine ⟨⟨oL, es, ep, K _ _ (Ne.symm he.2.1) (Ne.symm hi.2.1) hL, r⟩, fun b ob eb => K b ob (fun q => ?_) (fun q => ?_) (Fm.keep b ob eb), Fm.above⟩
      · rw [q, he.2.2] at eb; cases eb
      · rw [q, hi.2.2] at eb; cases eb
    have N₂ : News h₀ env.locals h₂ ((e, enumObj it ((i + 1 : Nat) : Int) x) :: (it, o') :: rest) := fun p hp => by
      rcases List.mem_cons.mp hp with rfl | hp
      · refine ⟨?_, he.2⟩
        have : ((i + 1 : Nat) : Int) = (i : Int) + 1 := by push_cast; rfl
        rw [this]; exact he₂
      · rcases List.mem_cons.mp hp with rfl | hp
        · exact ⟨ho₂, hi.2⟩
        · have q := N p (.tail _ (.tail _ hp))
          have l1 := hr p hp
          exact ⟨K _ _ l1.1 l1.2 q.1, q.2⟩
    refine assign_two hh hxi hxv hp F₂ N₂ ht₂ fun h₃ F₃ N₃ => ?_
    exact item x hx h₃ _ s.toks o' hT' F₃ N₃

theorem letOwned_tup {elts : List Expr} {x1 : Nat} {pos : Pos} {it a l : Addr} {i : Nat} {o : Obj} {Q : Unit → Shared → Prop} (ho : s.heap.get? it = some o) (hT : TI o l i) (h : Q () s) :
    wpAny (model prog w) A (letOwnedTupleGo (.Tuple elts x1 pos) (.ref it) (.ref a)) Q NoE s := by
  obtain ⟨c, d, dt, sl⟩ := o
  obtain ⟨hc, hd⟩ := hT
  replace hc : c = .type "tuple_iterator" := hc
  replace hd : dt = .fields #[.ref l, .int i 0] := hd
  subst hc hd
  unfold letOwnedTupleGo
  refine wpAny_bind (wpAny_load ho ?_)
  show wpAny _ A (if (["enumerate", "zip", "dict_itemiterator", "dict_reverseitemiterator", "odict_iterator", "itertools.zip_longest", "itertools.pairwise"].contains "tuple_iterator" && _) = true then _ else _) Q NoE s
  rw [if_neg (by simp)]
  exact wpAny_pure h

theorem forTup2_turn {R : Result → Shared → Prop} {xi xv : Str} {pi pv pt : Pos} {x1 : Nat} {body orelse : List Stmt} {it l : Addr} {items : Array Value} {i : Nat} {o : Obj}
    (hh : A.handled = none) (hxi : env.kindOf xi = some .local) (hxv : env.kindOf xv = some .local)
    (hp : (env.scope.kind == .class || (env.scope.kind == .module && env.locals != env.globals)) = false)
    (Fm : Fr h₀ env.locals s.heap m) (N : News h₀ env.locals s.heap ((it, o) :: rest)) (hr : ∀ p ∈ rest, p.1 ≠ it) (hT : TI o l i) (hl : h₀.IsTuple l items)
    (item : ∀ x, items[i]? = some x → ∃ a v₁ v₂, x = .ref a ∧ h₀.IsTuple a #[v₁, v₂] ∧ ∀ h' tk o', TI o' l (i + 1) → Fr h₀ env.locals h' (fun z => if z = xv then some v₂ else if z = xi then some v₁ else m z) →
      News h₀ env.locals h' ((it, o') :: rest) →
      wpAny (model prog w) A (execs body env) (fun f s₃ => match f with
          | .next | .cont => codeAny (model prog w) A (.forLoop (.Tuple [.Name xi pi, .Name xv pv] x1 pt) (.ref it) body orelse env) R s₃
          | .brk => R (.ok .next) s₃
          | .ret v => R (.ok (.ret v)) s₃) NoE { s with heap := h', toks := tk })
    (fin : items[i]? = none → ∀ h' tk, Fr h₀ env.locals h' m → News h₀ env.locals h' rest → wpAny (model prog w) A (execs orelse env) (fun f s₃ => R (.ok f) s₃) NoE { s with heap := h', toks := tk }) :
    codeAny (model prog w) A (.forLoop (.Tuple [.Name xi pi, .Name xv pv] x1 pt) (.ref it) body orelse env) R s := by
  have hi := N _ (.head _)
  have hit : s.heap.IsTupleIter it l i := ⟨o, hi.1, hT⟩
  have hl' : s.heap.IsTuple l items := let ⟨o, a, r⟩ := hl; ⟨o, Fm.keep _ _ a, r⟩
  refine for_turn ?_
  cases hx : items[i]? with
  | none =>
    refine wpAny_pyNext_tuple_end hh hit hl' hx fun h' hs => ?_
    refine fin hx h' _ ⟨Fm.ns.extBut hs (Ne.symm hi.2.1), fun b ob eb => hs b ob (fun q => ?_) (Fm.keep b ob eb), Fm.above⟩ fun p hp => ?_
    · rw [q, hi.2.2] at eb; cases eb
    · have := N p (.tail _ hp)
      exact ⟨hs _ _ (hr p hp) this.1, this.2⟩
  | some x =>
    refine wpAny_pyNext_tuple_item hit hl' hx fun h₁ hit₁ hs₁ => ?_
    obtain ⟨a, v₁, v₂, rfl, ha, go⟩ := item x hx
    obtain ⟨o', ho', hT'⟩ := hit₁
    obtain ⟨F₁, N₁⟩ := led_set Fm N hr (Heap.SameBut.extBut hs₁) ho'
    refine letOwned_tup (N₁ _ (.head _)).1 hT' ?_
    refine assign_two hh hxi hxv hp F₁ N₁ (let ⟨o, b, r⟩ := ha; ⟨o, F₁.keep _ _ b, r⟩) fun h₃ F₃ N₃ => ?_
    exact go h₃ _ o' hT' F₃ N₃

theorem iter_tup {E : Value → Shared → Prop} {M : Str → Option Value} {L t : Addr} {items : Array Value} {news : List (Addr × Obj)} {Q : Value → Shared → Prop} (Fm : Fr h₀ L s.heap M) (N : News h₀ L s.heap news) (hl : h₀.IsTuple t items)
    (h : ∀ h' it, Fr h₀ L h' M → News h₀ L h' ((it, tupIt t 0) :: news) → (∀ p ∈ news, p.1 < it) → Q (.ref it) { s with heap := h' }) : wpAny (model prog w) A (pyIter (.ref t)) Q E s := by
  refine wpAny_pyIter_tuple (let ⟨o, a, r⟩ := hl; ⟨o, Fm.keep _ _ a, r⟩ : s.heap.IsTuple t items) ?_
  have K : ∀ b o, s.heap.get? b = some o → (s.heap.push (tupIt t 0)).get? b = some o := fun b o e => Heap.get?_push_of_some _ e
  obtain ⟨F', N'⟩ := led_ext Fm N K
  exact h _ _ F' (led_new Fm N' (Nat.le_refl _) (Heap.get?_push_size _ rfl)) (led_lt N (Nat.le_refl _))

/-- what a turn of a loop by an invariant hands on -/
def LP (h₀ : Heap) (L : Addr) (s : Shared) (its : List (Addr × Obj)) (off : List Addr) (R : Result → Shared → Prop) (Jn : (Str → Option Value) → List (Addr × Obj) → Prop) (f : Flow) (s₃ : Shared) : Prop :=
  match f with
  | .next | .cont => ∃ h' tk m' rest', s₃ = { s with heap := h', toks := tk } ∧ Fr h₀ L h' m' ∧ News h₀ L h' (its ++ rest') ∧ (∀ p ∈ rest', p.1 ∉ off) ∧ Jn m' rest'
  | .brk => R (.ok .next) s₃
  | .ret v => R (.ok (.ret v)) s₃

theorem forEnum_ind {R : Result → Shared → Prop} {xi xv : Str} {pi pv pt : Pos} {x1 : Nat} {body orelse : List Stmt} {e it l : Addr} {items : Array Value}
    (J : Nat → (Str → Option Value) → List (Addr × Obj) → Prop)
    (hh : A.handled = none) (hxi : env.kindOf xi = some .local) (hxv : env.kindOf xv = some .local)
    (hp : (env.scope.kind == .class || (env.scope.kind == .module && env.locals != env.globals)) = false) (hei : e ≠ it) (hl : h₀.IsTuple l items)
    (step : ∀ i x m rest h' tk tki o', items[i]? = some x → J i m rest → (∀ p ∈ rest, p.1 ∉ [e, it]) → Fr h₀ env.locals h' (fun z => if z = xv then some x else if z = xi then some (.int i tki) else m z) →
      News h₀ env.locals h' ((e, enumObj it ((i + 1 : Nat) : Int) x) :: (it, o') :: rest) →
      wpAny (model prog w) A (execs body env) (LP h₀ env.locals s [(e, enumObj it ((i + 1 : Nat) : Int) x), (it, o')] [e, it] R (J (i + 1))) NoE { s with heap := h', toks := tk })
    (fin : ∀ m rest h' tk, J items.size m rest → (∀ p ∈ rest, p.1 ∉ [e, it]) → Fr h₀ env.locals h' m → News h₀ env.locals h' rest → wpAny (model prog w) A (execs orelse env) (fun f s₃ => R (.ok f) s₃) NoE { s with heap := h', toks := tk }) :
    ∀ (n i : Nat) (h' : Heap) (tk : Nat) (m : Str → Option Value) (rest : List (Addr × Obj)) (old : Value) (o : Obj), items.size - i = n → i ≤ items.size → J i m rest → (∀ p ∈ rest, p.1 ∉ [e, it]) → TI o l i → Fr h₀ env.locals h' m →
      News h₀ env.locals h' ((e, enumObj it i old) :: (it, o) :: rest) →
      codeAny (model prog w) A (.forLoop (.Tuple [.Name xi pi, .Name xv pv] x1 pt) (.ref e) body orelse env) R { s with heap := h', toks := tk } := by
  intro n
  induction n with
  | zero =>
    intro i h' tk m rest old o hn hi hJ hr hT Fm N
    have hi' : i = items.size := by omega
    subst hi'
    refine forEnum_turn hh hxi hxv hp Fm N hei (fun p hp => by simpa using hr p hp) hT hl (fun x hx => ?_) fun _ h₁ tk₁ F₁ N₁ => fin m rest h₁ tk₁ hJ hr F₁ N₁
    simp at hx
  | succ n ih =>
    intro i h' tk m rest old o hn hi hJ hr hT Fm N
    refine forEnum_turn hh hxi hxv hp Fm N hei (fun p hp => by simpa using hr p hp) hT hl (fun x hx h₁ tk₁ tki o' hT' F₁ N₁ => ?_) fun hx => ?_
    · refine wpAny_mono (step i x m rest h₁ tk₁ tki o' hx hJ hr F₁ N₁) (fun f s₃ y => ?_) fun _ _ y => y
      have fin' : ∀ s₃, LP h₀ env.locals s [(e, enumObj it ((i + 1 : Nat) : Int) x), (it, o')] [e, it] R (J (i + 1)) .next s₃ → codeAny (model prog w) A (.forLoop (.Tuple [.Name xi pi, .Name xv pv] x1 pt) (.ref e) body orelse env) R s₃ := by
        rintro s₃ ⟨h₂, tk₂, m₂, rest₂, rfl, F₂, N₂, hr₂, hJ₂⟩
        exact ih (i + 1) h₂ tk₂ m₂ rest₂ x o' (by omega) (by omega) hJ₂ hr₂ hT' F₂ N₂
      cases f with
      | next => exact fin' _ y
      | cont => exact fin' _ y
      | brk => exact y
      | ret v => exact y
    · exfalso
      have : items.size ≤ i := by simpa using hx
      omega

theorem forTup2_ind {R : Result → Shared → Prop} {xi xv : Str} {pi pv pt : Pos} {x1 : Nat} {body orelse : List Stmt} {it l : Addr} {items : Array Value}
    (J : Nat → (Str → Option Value) → List (Addr × Obj) → Prop) (P : Nat → Value → Value → Prop)
    (hh : A.handled = none) (hxi : env.kindOf xi = some .local) (hxv : env.kindOf xv = some .local)
    (hp : (env.scope.kind == .class || (env.scope.kind == .module && env.locals != env.globals)) = false) (hl : h₀.IsTuple l items)
    (hrow : ∀ (i : Nat) (x : Value), items[i]? = some x → ∃ a v₁ v₂, x = .ref a ∧ h₀.IsTuple a #[v₁, v₂] ∧ P i v₁ v₂)
    (step : ∀ (i : Nat) (v₁ v₂ : Value) m rest h' tk o', i < items.size → P i v₁ v₂ → J i m rest → (∀ p ∈ rest, p.1 ∉ [it]) → Fr h₀ env.locals h' (fun z => if z = xv then some v₂ else if z = xi then some v₁ else m z) →
      News h₀ env.locals h' ((it, o') :: rest) →
      wpAny (model prog w) A (execs body env) (LP h₀ env.locals s [(it, o')] [it] R (J (i + 1))) NoE { s with heap := h', toks := tk })
    (fin : ∀ m rest h' tk, J items.size m rest → (∀ p ∈ rest, p.1 ∉ [it]) → Fr h₀ env.locals h' m → News h₀ env.locals h' rest → wpAny (model prog w) A (execs orelse env) (fun f s₃ => R (.ok f) s₃) NoE { s with heap := h', toks := tk }) :
    ∀ (n i : Nat) (h' : Heap) (tk : Nat) (m : Str → Option Value) (rest : List (Addr × Obj)) (o : Obj), items.size - i = n → i ≤ items.size → J i m rest → (∀ p ∈ rest, p.1 ∉ [it]) → TI o l i → Fr h₀ env.locals h' m →
      News h₀ env.locals h' ((it, o) :: rest) →
      codeAny (model prog w) A (.forLoop (.Tuple [.Name xi pi, .Name xv pv] x1 pt) (.ref it) body orelse env) R { s with heap := h', toks := tk } := by
  intro n
  induction n with
  | zero =>
    intro i h' tk m rest o hn hi hJ hr hT Fm N
    have hi' : i = items.size := by omega
    subst hi'
    refine forTup2_turn hh hxi hxv hp Fm N (fun p hp => by simpa using hr p hp) hT hl (fun x hx => ?_) fun _ h₁ tk₁ F₁ N₁ => fin m rest h₁ tk₁ hJ hr F₁ N₁
    simp at hx
  | succ n ih =>
    intro i h' tk m rest o hn hi hJ hr hT Fm N
    refine forTup2_turn hh hxi hxv hp Fm N (fun p hp => by simpa using hr p hp) hT hl (fun x hx => ?_) fun hx => ?_
    · obtain ⟨a, v₁, v₂, rfl, ha, hP⟩ := hrow i x hx
      refine ⟨a, v₁, v₂, rfl, ha, fun h₁ tk₁ o' hT' F₁ N₁ => ?_⟩
      refine wpAny_mono (step i v₁ v₂ m rest h₁ tk₁ o' (by omega) hP hJ hr F₁ N₁) (fun f s₃ y => ?_) fun _ _ y => y
      have fin' : ∀ s₃, LP h₀ env.locals s [(it, o')] [it] R (J (i + 1)) .next s₃ → codeAny (model prog w) A (.forLoop (.Tuple [.Name xi pi, .Name xv pv] x1 pt) (.ref it) body orelse env) R s₃ := by
        rintro s₃ ⟨h₂, tk₂, m₂, rest₂, rfl, F₂, N₂, hr₂, hJ₂⟩
        exact ih (i + 1) h₂ tk₂ m₂ rest₂ o' (by omega) (by omega) hJ₂ hr₂ hT' F₂ N₂
      cases f with
      | next => exact fin' _ y
      | cont => exact fin' _ y
      | brk => exact y
      | ret v => exact y
    · exfalso
      have : items.size ≤ i := by simpa using hx
      omega
end
end Mine
end
section
open PySem PySem.W PyProof.Rows PySem.Calls
namespace Mine
set_option maxRecDepth 100000
set_option maxHeartbeats 1000000

theorem among_snoc {pos : Pos} {line col : Nat} {c : Value} (l : List Value) (h : TriplesOk l) :
    codeAmong pos (l ++ [rawInt line, rawInt col, c]) = (codeAmong pos l).or (if (line : Int) == pos.line && (col : Int) == pos.col then some c else none) := by
  fun_induction TriplesOk l with
  | case1 => simp [codeAmong, rawInt]
  | case2 a b c d e rest ih =>
    simp only [List.cons_append, codeAmong]
    split
    · rfl
    · exact ih h
  | case3 l h1 h2 => exact h.elim
theorem triples_snoc {line col : Nat} {c : Value} (l : List Value) (h : TriplesOk l) : TriplesOk (l ++ [rawInt line, rawInt col, c]) := by
  fun_induction TriplesOk l with
  | case1 => simp [TriplesOk, rawInt]
  | case2 a b c d e rest ih =>
    simp only [List.cons_append, TriplesOk]
    exact ih h
  | case3 l h1 h2 => exact h.elim
theorem GoodT.mono {codes codes' : List (Addr × Obj)} {q : Nat → Str} {t : Array Value} (G : GoodT codes q t) (hs : ∀ p ∈ codes, p ∈ codes') : GoodT codes' q t :=
  ⟨G.1, fun pos v e => let ⟨c, oc, vs, tk, a, b, r⟩ := G.2 pos v e; ⟨c, oc, vs, tk, a, hs _ b, r⟩⟩
theorem updF_same {d : Addr} {o : Obj} {l : List (Addr × Obj)} {g : Obj → List (Addr × Obj)} (U : UpdF d o l g) : g o = l := by
  obtain ⟨pre, post, e1, e2, _, _⟩ := U.split
  rw [e2, e1]
theorem updF_mem {d : Addr} {o : Obj} {l : List (Addr × Obj)} {g : Obj → List (Addr × Obj)} (U : UpdF d o l g) : (d, o) ∈ l := by
  obtain ⟨pre, post, e1, e2, _, _⟩ := U.split
  rw [e1]; exact List.mem_append_right _ (.head _)

section
variable {M : Model} {A : Around} {E : Value → Shared → Prop} {s : Shared} {h₀ : Heap} {L a c P : Addr} {m mg mb : Str → Option Value} {cn : Str} {cs : Scope} {ccd : Value} {cl : List (Str × Addr)} {news : List (Addr × Obj)} {g : Obj → List (Addr × Obj)}
  {p : Program} {loose : List Str} {mean : ExcName → Option Value} {name qual : Str} {params : Arguments} {body : List Stmt} {scope : Scope} {ps : Array Value} {pos : Pos} {firstLine : Nat} {clos : List (Str × Addr)} {codes : List (Addr × Obj)} {q : Nat → Str}

theorem nest_any {Q : Value → Shared → Prop} (F : Fr h₀ L s.heap m) (N : News h₀ L s.heap news) (T : Top p loose mean mg mb h₀) (C : CodeHd h₀ c P) (hcd : ccd = .ref c) (U : UpdF P (tabObj ps) news g)
    (G : GoodT codes q ps) (hcod : ∀ p ∈ codes, p ∈ news) (hcodP : ∀ p ∈ codes, p.1 ≠ P) (hq : qual = q pos.line) (hcl : closureFor scope (envX cn cs L a ccd cl) = pure clos)
    (h : ∀ f c' oc vs t ctv doc h' tk ps' codes', Fr h₀ L h' m → News h₀ L h' ((f, fnMade name qual params body scope clos doc ((mg "__name__").getD .none) c' ctv) :: g (tabObj ps')) → News h₀ L h' codes' → GoodT codes' q ps' →
      (c', oc) ∈ codes' → oc.data = .fields vs → vs[1]? = some (.str qual t) → (∀ p ∈ codes, p ∈ codes') → (∀ p ∈ codes', p ∈ codes ∨ ∀ r ∈ news, r.1 < p.1) → (∀ r ∈ news, r.1 < f) → (∀ r ∈ codes', r.1 < f) → Q (.ref f) { s with heap := h', toks := tk }) :
    wpAny M A (makeFunction name qual params (.stmts body) scope (envX cn cs L a ccd cl) [] [] [] pos firstLine) Q E s := by
  cases hf : codeAmong pos ps.toList with
  | none =>
    refine nest_K F N T C hcd U G.1 hf hcl fun f c' oc vs t ctv doc h' tk F' N' hd hv hlt hlf => ?_
    have Nc : News h₀ L h' codes := fun r hr => by
      have h1 := hcod r hr
      obtain ⟨pre, post, e1, e2, _, _⟩ := U.split
      refine N' r (.tail _ (.tail _ ?_))
      rw [e2]
      rw [e1] at h1
      rcases List.mem_append.mp h1 with h1 | h1
      · exact List.mem_append_left _ h1
      · rcases List.mem_cons.mp h1 with rfl | h1
        · exact absurd rfl (hcodP _ hr)
        · exact List.mem_append_right _ (.tail _ h1)
    refine h f c' oc vs t ctv doc h' tk (ps ++ #[rawInt pos.line, rawInt pos.col, .ref c']) ((c', oc) :: codes) F' (fun r hr => ?_) (fun r hr => ?_) ⟨?_, fun pos' v e => ?_⟩ (.head _) hd hv (fun r hr => .tail _ hr) (fun r hr => ?_) (fun r hr => Nat.lt_trans (hlt r hr) hlf) (fun r hr => ?_)
    · rcases List.mem_cons.mp hr with rfl | hr
      · exact N' _ (.head _)
      · exact N' _ (.tail _ (.tail _ hr))
    · rcases List.mem_cons.mp hr with rfl | hr
      · exact N' _ (.tail _ (.head _))
      · exact Nc r hr
    · rw [Array.toList_append]; exact triples_snoc _ G.1
    · rw [Array.toList_append] at e
      have e' := (among_snoc (pos := pos') (line := pos.line) (col := pos.col) (c := .ref c') ps.toList G.1).symm.trans e
      cases hp : codeAmong pos' ps.toList with
      | some v' =>
        rw [hp] at e'
        have e2 : v' = v := Option.some.inj e'
        subst e2
        obtain ⟨c₂, oc₂, vs₂, tk₂, a1, a2, a3⟩ := G.2 pos' v' hp
        exact ⟨c₂, oc₂, vs₂, tk₂, a1, .tail _ a2, a3⟩
      | none =>
        rw [hp, Option.none_or] at e'
        split at e'
        · rename_i hl
          obtain rfl := Option.some.inj e'
          simp only [Bool.and_eq_true, beq_iff_eq] at hl
          have hline : pos.line = pos'.line := by exact_mod_cast hl.1
          exact ⟨c', oc, vs, t, rfl, .head _, hd, by rw [← hline, ← hq]; exact hv⟩
        · cases e'
    · rcases List.mem_cons.mp hr with rfl | hr
      · exact .inr hlt
      · exact .inl hr
    · rcases List.mem_cons.mp hr with rfl | hr
      · exact hlf
      · exact Nat.lt_trans (hlt r (hcod r hr)) hlf
  | some v =>
    obtain ⟨c', oc, vs, tk₀, rfl, hm, hd, hv⟩ := G.2 pos v hf
    refine nestHit_K F N T C hcd (updF_mem U) G.1 hf hcl fun f ctv doc h' tk F' N' hlt => ?_
    refine h f c' oc vs tk₀ ctv doc h' tk ps codes F' (by rw [updF_same U]; exact N') (fun r hr => N' r (.tail _ (hcod r hr))) G hm hd (by rw [hq]; exact hv) (fun _ x => x) (fun _ x => .inl x) hlt fun r hr => hlt r (hcod r hr)
end
end Mine
namespace Mine
theorem named_of {h₀ h : Heap} {L f : Addr} {o : Obj} {news : List (Addr × Obj)} (N : News h₀ L h ((f, o) :: news)) : ∃ fo, fo = o ∧ News h₀ L h ((f, fo) :: news) := ⟨o, rfl, N⟩
theorem rep_fold (v : Value) : ∀ (k : Nat) (acc : Array Value), List.foldl (fun x1 x2 => x1 ++ x2) acc (List.replicate k #[v]) = acc ++ (List.replicate k v).toArray
  | 0, acc => by simp
  | k + 1, acc => by
    rw [List.replicate_succ, List.foldl_cons, rep_fold v k, List.replicate_succ]
    apply Array.ext'
    simp
section
variable {prog : Program} {w : World} {A₀ A : Around} {s : Shared} {base h₀ : Heap} {outer : List Env} {L : Addr} {m : Str → Option Value} {env : Env} {tabs : List (Addr × Obj)} {K : Frag}
  {R : Result → Shared → Prop} {name qual : Str} {params : Arguments} {body : List Stmt} {scope : Scope} {cl : List (Str × Addr)} {dV kV doc pm cdv ct : Value} {fo : Obj} {an : Option Addr} {f : Addr} {args : Args} {binds : List (Str × Value)}
  {p : Program} {loose : List Str} {mean : ExcName → Option Value} {mg mb : Str → Option Value}
/-- a call of a def made in the call: its object lies in the heap at hand -/
theorem call_groundF (B : Below A₀ base outer h₀) (F : Fr h₀ L s.heap m) (X₀ : K.In h₀) (N : News h₀ L s.heap tabs) (T : Top p loose mean mg mb h₀) (hA : A.frames = some (env :: outer)) (hf : env.frame = some L) (hke : env.scope.kind = .function)
    (ho : s.heap.get? f = some fo) (hd : fo.data = .func (fnX name qual params body scope cl dV kV doc pm an cdv ct)) (hcd : s.heap.CodeRec cdv qual) (hroom : A.depth < recursionLimit)
    (hbind : BindsTo s (fnX name qual params body scope cl dV kV doc pm an cdv ct) args binds) (hloc : ∀ y ∈ binds, scope.names.lookup y.1 = some .local)
    (h : ∀ g L' h₁, StayT tabs s.heap g → L' = s.heap.objs.size → Fr g L' h₁ (fun y => binds.reverse.lookup y) → News g L' h₁ tabs → Below A base (env :: outer) g → K.In g → Top p loose mean mg mb g →
      wpAny (model prog w) (A.deeper (envX qual scope L' f cdv cl)) (execs body (envX qual scope L' f cdv cl))
        (fun fl s' => R (.ok (.ret (match fl with | .ret v => v | _ => .none))) s') NoE
        { s with heap := h₁, toks := s.toks + binds.length })
    (hco : scope.isCoroutine = false) (hgen : scope.isGenerator = false) (hk : scope.kind = .function)
    (hcell : ∀ x ∈ scope.names, x.2 ≠ .cell) : codeAny (model prog w) A (.call (.ref f) args) R s := by
  obtain ⟨FG, BG, st, lv⟩ := groundX (R := R) B F N hA hf hke
  refine codeAny_call_def (fd := fnX name qual params body scope cl dV kV doc pm an cdv ct) (body := body) (binds := binds) hroom ho hd (T.nolimit.keeps F.keep) hcd rfl hbind hcell hloc (fun h₁ hns hk₁ => ?_) hco hgen hk
  exact noE (h (hideAll s.heap (tabs.map (·.1))) s.heap.objs.size h₁ (fun b o hb e => hideAll_get _ e hb) rfl ⟨hns, fun b o e => hk₁ b o (of_hideAll _ e), Nat.le_of_eq (hideAll_size _ _)⟩
    (fun p hp => ⟨hk₁ _ _ (N p hp).1, Nat.ne_of_lt (Heap.lt_size (N p hp).1), hideAll_none _ (List.mem_map_of_mem hp)⟩) BG (X₀.keeps fun b o e => st b o e) (T.keeps fun b o e => st b o e))
end
section
variable {M : Model} {A : Around} {E : Value → Shared → Prop} {s : Shared} {h₀ : Heap} {L a : Addr} {m : Str → Option Value} {cn : Str} {cs : Scope} {ccd : Value} {cl : List (Str × Addr)}
  {x : Str} {pos : Pos} {v : Value} {Q : Value → Shared → Prop} {c : Addr} {o : Obj}
theorem nameX_G (F : Fr h₀ L s.heap m) (hc : cl.lookup x = some c) (ho : h₀.get? c = some o) (hd : o.data = .cell (some v)) (h : Q v s)
    (hk : cs.kind = .function := by rfl) (hx : (envX cn cs L a ccd cl).kindOf x = some .free := by rfl) (hb : (x == ("__debug__" : Str)) = false := by decide) (hn : (x == ("__classdict__" : Str)) = false := by decide) :
    wpAny M A (eval (.Name x pos) (envX cn cs L a ccd cl)) Q E s := wpAny_Name (wpAny_loadName_free hk hx hc ⟨o, F.keep _ _ ho, hd⟩ h hn) hb
end
end Mine
namespace Mine
section
variable {prog : Program} {w : World} {A : Around} {E : Value → Shared → Prop} {s : Shared} {h₀ : Heap} {L : Addr} {m : Str → Option Value} {news : List (Addr × Obj)}
theorem mul_one {l : Addr} {v : Value} {k : Nat} {x : Int} {u : Tok} {Q : Value → Shared → Prop}
    (Fm : Fr h₀ L s.heap m) (N : News h₀ L s.heap news) (hm : (l, PySem.W.listOf #[v] k) ∈ news) (hlo : 0 ≤ x) (hhi : x ≤ 1000)
    (h : ∀ l' h', Fr h₀ L h' m → News h₀ L h' ((l', PySem.W.listOf (List.replicate x.toNat v).toArray 0) :: news) → (∀ p ∈ news, p.1 < l') → Q (.ref l') { s with heap := h' }) :
    wpAny (model prog w) A (binaryOp .Mult (.ref l) (.int x u)) Q E s := by
  refine mul_list Fm N (N _ hm).1 (by omega) (by omega) (by simp; omega) fun h₁ F₁ N₁ => ?_
  rw [show (#[v] : Array Value).isEmpty = false from rfl, rep_fold] at N₁
  simp only [Bool.false_eq_true, if_false, Array.empty_append] at N₁
  exact h _ h₁ F₁ N₁ (led_lt N (Nat.le_refl _))
end
end Mine
namespace Mine
inductive SufOf (t : List (Addr × Obj)) : List (Addr × Obj) → (List (Addr × Obj) → List (Addr × Obj)) → Prop
  | base : SufOf t t fun x => x
  | cons {p : Addr × Obj} {l : List (Addr × Obj)} {f : List (Addr × Obj) → List (Addr × Obj)} : SufOf t l f → SufOf t (p :: l) fun x => p :: f x
theorem SufOf.swap {t t' news : List (Addr × Obj)} {f : List (Addr × Obj) → List (Addr × Obj)} (S : SufOf t news f) {h₀ h : Heap} {L : Addr} (N : News h₀ L h news) (Nt : News h₀ L h t') : News h₀ L h (f t') := by
  induction S with
  | base => exact Nt
  | cons _ ih =>
    intro q hq
    rcases List.mem_cons.mp hq with rfl | hq
    · exact N _ (.head _)
    · exact ih (fun r hr => N r (.tail _ hr)) q hq
theorem SufOf.mem {t news : List (Addr × Obj)} {f : List (Addr × Obj) → List (Addr × Obj)} (S : SufOf t news f) : ∀ p ∈ t, p ∈ news := by
  induction S with
  | base => exact fun _ h => h
  | cons _ ih => exact fun p hp => .tail _ (ih p hp)
end Mine
namespace Mine
section
variable {prog : Program} {w : World} {A₀ : Around} {s : Shared} {base h₀ : Heap} {outer : List Env} {L a₀ : Addr} {m : Str → Option Value} {tabs : List (Addr × Obj)} {K : Frag} {dp un : Nat} {gd : Option (List Code)} {cn : Str} {cs : Scope} {ccd : Value} {cl₀ : List (Str × Addr)}
  {Q E : Value → Shared → Prop} {name qual : Str} {params : Arguments} {body : List Stmt} {scope : Scope} {cl : List (Str × Addr)} {dV kV doc pm cdv ct : Value} {fo : Obj} {an : Option Addr} {f : Addr} {vs : List Value} {binds : List (Str × Value)}
  {p : Program} {loose : List Str} {mean : ExcName → Option Value} {mg mb : Str → Option Value}
theorem call_inner (B : Below A₀ base outer h₀) (F : Fr h₀ L s.heap m) (X₀ : K.In h₀) (N : News h₀ L s.heap tabs) (T : Top p loose mean mg mb h₀) (hke : cs.kind = .function)
    (ho : s.heap.get? f = some fo) (hd : fo.data = .func (fnX name qual params body scope cl dV kV doc pm an cdv ct)) (hcd : s.heap.CodeRec cdv qual) (hroom : dp < recursionLimit)
    (hbind : BindsTo s (fnX name qual params body scope cl dV kV doc pm an cdv ct) ⟨vs, []⟩ binds) (hloc : ∀ y ∈ binds, scope.names.lookup y.1 = some .local)
    (h : ∀ (A₁ : Around) (outer₁ : List Env) g L' h₁ tk, StayT tabs s.heap g → L' = s.heap.objs.size → Fr g L' h₁ (fun y => binds.reverse.lookup y) → News g L' h₁ tabs → Below A₁ base outer₁ g → K.In g → Top p loose mean mg mb g →
      wpAny (model prog w) (ktrTop (dp + 1) (un + 3) gd qual scope L' f cdv cl outer₁) (execs body (envX qual scope L' f cdv cl))
        (fun fl s' => Q (match fl with | .ret v => v | _ => .none) s') NoE
        { s with heap := h₁, toks := tk })
    (hco : scope.isCoroutine = false) (hgen : scope.isGenerator = false) (hk : scope.kind = .function)
    (hcell : ∀ x ∈ scope.names, x.2 ≠ .cell) : wpAny (model prog w) (ktrTop dp un gd cn cs L a₀ ccd cl₀ outer) (call (.ref f) vs) Q E s :=
  wpAny_call (call_groundF B F X₀ N T rfl rfl hke ho hd hcd hroom hbind hloc (fun g L' h₁ st e F' N' B' X' T' => h _ _ g L' h₁ _ st e F' N' B' X' T') hco hgen hk hcell)
end
end Mine
end
section
open PySem PySem.W PyProof.Rows PySem.Calls
namespace Mine
set_option maxRecDepth 100000
set_option maxHeartbeats 1000000
section
variable {prog : Program} {w : World} {A : Around} {s : Shared} {env : Env} {h₀ : Heap}
/-- a for loop over any iterator, one name, by an invariant -/
theorem forW_ind {R : Result → Shared → Prop} {xv : Str} {pv : Pos} {body orelse : List Stmt} {I : Addr} {fp : List Addr} {n : Nat} {P : Nat → Value → Prop} {St : Nat → Heap → Prop}
    (W : Walks prog w A I fp [I] n P St) (OK : Nat → Obj → Prop) (D : Heap → Prop) (J : Nat → (Str → Option Value) → List (Addr × Obj) → Prop)
    (hfold : ∀ i h o, i ≤ n → h.get? I = some o → OK i o → D h → St i h) (hun : ∀ i h, St i h → ∃ o, h.get? I = some o ∧ OK i o)
    (hD : ∀ i m rest h, J i m rest → Fr h₀ env.locals h m → News h₀ env.locals h rest → D h)
    (hxv : env.kindOf xv = some .local)
    (hp : (env.scope.kind == .class || (env.scope.kind == .module && env.locals != env.globals)) = false)
    (step : ∀ i v m rest h' tk o', i < n → P i v → J i m rest → (∀ p ∈ rest, p.1 ∉ [I]) → Fr h₀ env.locals h' (fun z => if z = xv then some v else m z) →
      News h₀ env.locals h' ((I, o') :: rest) →
      wpAny (model prog w) A (execs body env) (LP h₀ env.locals s [(I, o')] [I] R (J (i + 1))) NoE { s with heap := h', toks := tk })
    (fin : ∀ m rest h' tk, J n m rest → (∀ p ∈ rest, p.1 ∉ [I]) → Fr h₀ env.locals h' m → News h₀ env.locals h' rest → wpAny (model prog w) A (execs orelse env) (fun f s₃ => R (.ok f) s₃) NoE { s with heap := h', toks := tk }) :
    ∀ (k i : Nat) (h' : Heap) (tk : Nat) (m : Str → Option Value) (rest : List (Addr × Obj)) (o : Obj), n - i = k → i ≤ n → J i m rest → (∀ p ∈ rest, p.1 ∉ [I]) → OK i o → Fr h₀ env.locals h' m →
      News h₀ env.locals h' ((I, o) :: rest) →
      codeAny (model prog w) A (.forLoop (.Name xv pv) (.ref I) body orelse env) R { s with heap := h', toks := tk } := by
  intro k
  induction k with
  | zero =>
    intro i h' tk m rest o hn hi hJ hr hO Fm N
    have hi' : i = n := by omega
    subst hi'
    have hI := N _ (.head _)
    have N' : News h₀ env.locals h' rest := fun p hp => N p (.tail _ hp)
    refine for_turn (W.done _ _ _ (hfold _ _ o hi hI.1 hO (hD _ _ _ _ hJ Fm N')) fun h₁ tk₁ hk₁ => ?_)
    refine fin m rest h₁ _ hJ hr ⟨?_, fun b ob eb => hk₁ b ob (fun q => ?_) (Fm.keep b ob eb), Fm.above⟩ fun p hp => ?_
    · obtain ⟨oL, es, ep, hL, r⟩ := Fm.ns
      exact ⟨oL, es, ep, hk₁ _ _ (by simpa using Ne.symm hI.2.1) hL, r⟩
    · simp at q; rw [q, hI.2.2] at eb; cases eb
    · have := N' p hp
      exact ⟨hk₁ _ _ (hr p hp) this.1, this.2⟩
  | succ k ih =>
    intro i h' tk m rest o hn hi hJ hr hO Fm N
    have hI := N _ (.head _)
    have N' : News h₀ env.locals h' rest := fun p hp => N p (.tail _ hp)
    have hin : i < n := by omega
    refine for_turn (W.item i _ _ _ hin (hfold _ _ o hi hI.1 hO (hD _ _ _ _ hJ Fm N')) fun v h₁ tk₁ hP hst hk₁ => ?_)
    refine wpAny_pure ?_
    obtain ⟨o', ho', hO'⟩ := hun _ _ hst
    have F₁ : Fr h₀ env.locals h₁ m := by
      refine ⟨?_, fun b ob eb => hk₁ b ob (fun q => ?_) (Fm.keep b ob eb), Fm.above⟩
      · obtain ⟨oL, es, ep, hL, r⟩ := Fm.ns
        exact ⟨oL, es, ep, hk₁ _ _ (by simpa using Ne.symm hI.2.1) hL, r⟩
      · simp at q; rw [q, hI.2.2] at eb; cases eb
    have N₁ : News h₀ env.locals h₁ ((I, o') :: rest) := fun p hp => by
      rcases List.mem_cons.mp hp with rfl | hp
      · exact ⟨ho', hI.2⟩
      · have := N' p hp
        exact ⟨hk₁ _ _ (hr p hp) this.1, this.2⟩
    refine wpAny_assign_Name (wpAny_storeName_local hxv F₁.ns (fun h₂ hn₂ hs₂ => ?_) hp)
    refine wpAny_mono (step i v m rest h₂ _ o' hin hP hJ hr (F₁.set hn₂ hs₂) (N₁.set hs₂)) (fun f s₃ y => ?_) fun _ _ y => y
    have fin' : ∀ s₃, LP h₀ env.locals s [(I, o')] [I] R (J (i + 1)) .next s₃ → codeAny (model prog w) A (.forLoop (.Name xv pv) (.ref I) body orelse env) R s₃ := by
      rintro s₃ ⟨h₃, tk₃, m₃, rest₃, rfl, F₃, N₃, hr₃, hJ₃⟩
      exact ih (i + 1) h₃ tk₃ m₃ rest₃ o' (by omega) (by omega) hJ₃ hr₃ hO' F₃ N₃
    cases f with
    | next => exact fin' _ y
    | cont => exact fin' _ y
    | brk => exact y
    | ret v => exact y
def lstIt (t : Addr) (i : Nat) : Obj := { cls := .type "list_iterator", data := .fields #[.ref t, .int i 0] }
theorem iter_list {E : Value → Shared → Prop} {M : Str → Option Value} {L t : Addr} {items : Array Value} {news : List (Addr × Obj)} {Q : Value → Shared → Prop} (Fm : Fr h₀ L s.heap M) (N : News h₀ L s.heap news) (hl : s.heap.IsList t items)
    (h : ∀ h' it, Fr h₀ L h' M → News h₀ L h' ((it, lstIt t 0) :: news) → (∀ p ∈ news, p.1 < it) → Q (.ref it) { s with heap := h' }) : wpAny (model prog w) A (pyIter (.ref t)) Q E s := by
  refine wpAny_pyIter_list hl ?_
  have K : ∀ b o, s.heap.get? b = some o → (s.heap.push (lstIt t 0)).get? b = some o := fun b o e => Heap.get?_push_of_some _ e
  obtain ⟨F', N'⟩ := led_ext Fm N K
  exact h _ _ F' (led_new Fm N' (Nat.le_refl _) (Heap.get?_push_size _ rfl)) (led_lt N (Nat.le_refl _))
/-- a for loop over a list that stays -/
theorem forList_ind {R : Result → Shared → Prop} {xv : Str} {pv : Pos} {body orelse : List Stmt} {I l : Addr} {items : Array Value}
    (J : Nat → (Str → Option Value) → List (Addr × Obj) → Prop) (hh : A.handled = none) (hne : l ≠ I)
    (hD : ∀ i m rest h, J i m rest → Fr h₀ env.locals h m → News h₀ env.locals h rest → h.IsList l items)
    (hxv : env.kindOf xv = some .local)
    (hp : (env.scope.kind == .class || (env.scope.kind == .module && env.locals != env.globals)) = false)
    (step : ∀ i v m rest h' tk o', i < items.size → items[i]? = some v → J i m rest → (∀ p ∈ rest, p.1 ∉ [I]) → Fr h₀ env.locals h' (fun z => if z = xv then some v else m z) →
      News h₀ env.locals h' ((I, o') :: rest) →
      wpAny (model prog w) A (execs body env) (LP h₀ env.locals s [(I, o')] [I] R (J (i + 1))) NoE { s with heap := h', toks := tk })
    (fin : ∀ m rest h' tk, J items.size m rest → (∀ p ∈ rest, p.1 ∉ [I]) → Fr h₀ env.locals h' m → News h₀ env.locals h' rest → wpAny (model prog w) A (execs orelse env) (fun f s₃ => R (.ok f) s₃) NoE { s with heap := h', toks := tk })
    (h' : Heap) (tk : Nat) (m : Str → Option Value) (rest : List (Addr × Obj)) (hJ : J 0 m rest) (hr : ∀ p ∈ rest, p.1 ∉ [I]) (Fm : Fr h₀ env.locals h' m) (N : News h₀ env.locals h' ((I, lstIt l 0) :: rest)) :
      codeAny (model prog w) A (.forLoop (.Name xv pv) (.ref I) body orelse env) R { s with heap := h', toks := tk } :=
  forW_ind (Walks.list hh I l hne items) (fun i o => o.cls = .type "list_iterator" ∧ o.data = .fields #[.ref l, .int (i : Int) 0]) (fun h => h.IsList l items) J
    (fun i h o _ e1 e2 e3 => ⟨⟨o, e1, e2⟩, e3⟩) (fun i h x => let ⟨⟨o, a, b⟩, _⟩ := x; ⟨o, a, b⟩) hD hxv hp step fin items.size 0 h' tk m rest _ rfl (Nat.zero_le _) hJ hr ⟨rfl, rfl⟩ Fm N
/-- a while loop by an invariant over its turns -/
theorem while_ind {R : Result → Shared → Prop} {test : PySem.Expr} {body orelse : List Stmt} (n : Nat) (J : Nat → (Str → Option Value) → List (Addr × Obj) → Prop)
    (step : ∀ k m rest h' tk, k < n → J k m rest → Fr h₀ env.locals h' m → News h₀ env.locals h' rest →
      wpAny (model prog w) A (isTrue test env (eval test env)) (fun b s₂ => b = true ∧ wpAny (model prog w) A (execs body env) (LP h₀ env.locals s [] [] R (J (k + 1))) NoE s₂) NoE { s with heap := h', toks := tk })
    (fin : ∀ m rest h' tk, J n m rest → Fr h₀ env.locals h' m → News h₀ env.locals h' rest →
      wpAny (model prog w) A (isTrue test env (eval test env)) (fun b s₂ => b = false ∧ wpAny (model prog w) A (execs orelse env) (fun f s₃ => R (.ok f) s₃) NoE s₂) NoE { s with heap := h', toks := tk }) :
    ∀ (j k : Nat) (h' : Heap) (tk : Nat) (m : Str → Option Value) (rest : List (Addr × Obj)), n - k = j → k ≤ n → J k m rest → Fr h₀ env.locals h' m → News h₀ env.locals h' rest →
      codeAny (model prog w) A (.whileLoop test body orelse env) R { s with heap := h', toks := tk } := by
  intro j
  induction j with
  | zero =>
    intro k h' tk m rest hj hk hJ Fm N
    have : k = n := by omega
    subst this
    refine while_turn (wpAny_mono (fin m rest h' tk hJ Fm N) (fun b s₂ hb => ?_) fun _ _ y => y)
    obtain ⟨rfl, hb⟩ := hb
    exact hb
  | succ j ih =>
    intro k h' tk m rest hj hk hJ Fm N
    refine while_turn (wpAny_mono (step k m rest h' tk (by omega) hJ Fm N) (fun b s₂ hb => ?_) fun _ _ y => y)
    obtain ⟨rfl, hb⟩ := hb
    refine wpAny_mono hb (fun f s₃ y => ?_) fun _ _ y => y
    have fin' : ∀ s₃, LP h₀ env.locals s [] [] R (J (k + 1)) .next s₃ → codeAny (model prog w) A (.whileLoop test body orelse env) R s₃ := by
      rintro s₃ ⟨h₃, tk₃, m₃, rest₃, rfl, F₃, N₃, _, hJ₃⟩
      exact ih (k + 1) h₃ tk₃ m₃ rest₃ (by omega) (by omega) hJ₃ F₃ N₃
    cases f with
    | next => exact fin' _ y
    | cont => exact fin' _ y
    | brk => exact y
    | ret v => exact y
/-- an empty list, with its place above the frame -/
theorem newList_D {E : Value → Shared → Prop} {M : Str → Option Value} {L : Addr} {news : List (Addr × Obj)} {Q : Value → Shared → Prop} (Fm : Fr h₀ L s.heap M) (N : News h₀ L s.heap news)
    (h : ∀ D h', Fr h₀ L h' M → News h₀ L h' ((D, PySem.W.listOf #[] 0) :: news) → (∀ p ∈ news, p.1 < D) → L < D → Q (.ref D) { s with heap := h' }) : wpAny (model prog w) A (newList []) Q E s :=
  wpAny_newList (h _ _ (Fm.push _) (News.push Fm N _) (fun p hp => Heap.lt_size (N p hp).1) Fm.ns.lt)
end
end Mine
end
section
open PySem PySem.W PyProof.Rows PySem.Calls
namespace Mine
set_option maxRecDepth 100000
set_option maxHeartbeats 1000000
theorem lk_obj_new : typeLookup (.type "object") "__new__" = pure (some (.builtin "object.__new__")) := by rw [typeLookup_type, builtinLookup_eq_fast]; kernel_rfl
theorem mro_obj : mroOf (.type "object") = pure [.type "object"] := by kernel_rfl
theorem made_obj : Bind.madeBy (.type "object") = pure (some "object.__new__") := madeBy_type mro_obj lk_obj_new (by decide +kernel)
theorem called_object : TypeCalled "object" "object.__new__" "object.__init__" :=
  ⟨by decide +kernel, by decide +kernel, ⟨_, _, mro_obj⟩, made_obj, by decide +kernel, by rw [isSubtype_type]; kernel_rfl, F.slot_object_init⟩
theorem typeCall_obj : checkTypeCall "object" ⟨[], []⟩ = pure () := by kernel_rfl
theorem newCall_obj : checkBuiltinCall "object.__new__" ⟨[.type "object"], []⟩ = pure () := by kernel_rfl
theorem madeHere_obj : Bind.madeHere "object.__new__" (.type "object") = pure () := by
  unfold Bind.madeHere
  have e : Bind.staticBase (.type "object") = pure (.type "object") := by first | rfl | kernel_rfl
  rw [e]
  simp only [pure_bind, made_obj]
  first | rfl | kernel_rfl | (simp; rfl)
theorem ltAll_ne {d : Addr} {l : List (Addr × Obj)} (h : ∀ p ∈ l, p.1 < d) : ∀ p ∈ l, p.1 ≠ d := fun p hp => Nat.ne_of_lt (h p hp)
def plainObj : Obj := { cls := .type "object", data := .plain }
theorem meets_obj_new : Meets (Builtin.«object.__new__» ⟨[.type "object"], []⟩) (fun _ R s => R (.ok (.ret (.ref s.heap.objs.size))) { s with heap := s.heap.push plainObj }) :=
  .of_wp fun prog w A R s h => by
    unfold Builtin.«object.__new__»
    have hm := madeHere_obj
    wp_walk
    exact ⟨_, rfl, h⟩
section
variable {prog : Program} {w : World} {A : Around} {E : Value → Shared → Prop} {s : Shared}
theorem call_object {h₀ : Heap} {L : Addr} {m : Str → Option Value} {news : List (Addr × Obj)} {Q : Value → Shared → Prop} (Fm : Fr h₀ L s.heap m) (N : News h₀ L s.heap news)
    (h : ∀ S h', Fr h₀ L h' m → News h₀ L h' ((S, plainObj) :: news) → (∀ p ∈ news, p.1 < S) → Q (.ref S) { s with heap := h' }) :
    wpAny (model prog w) A (call (.type "object") []) Q E s := by
  refine callType_meets (Q₁ := fun obj s₁ => s₁.TypeIs obj "object" ∧ Q obj s₁) called_object typeCall_obj newCall_obj F.objNew.entry F.entry_object_init meets_obj_new ?_ fun obj s₁ hq => ?_
  · refine ⟨⟨_, Heap.get?_push_size _ rfl, rfl⟩, ?_⟩
    exact h _ _ (Fm.push _) (News.push Fm N _) fun p hp => Heap.lt_size (N p hp).1
  · refine ⟨hq.1, F.args_object_init_1 obj, fun _ R s => s.TypeIs obj "object" ∧ R (.ok (.ret .none)) s, ?_, hq.1, rfl, hq.2⟩
    exact Meets.of_wp fun prog w A R s hs => wpAny_pure ⟨_, rfl, hs.2⟩
end
end Mine
end
section
open PySem PySem.W PyProof.Rows PySem.Calls
namespace Mine
set_option maxRecDepth 100000
set_option maxHeartbeats 1000000
theorem off1_mem {D : Addr} : ∀ {l : List (Addr × Obj)}, LCg.Off1 D l → ∀ p ∈ l, p.1 ≠ D
  | [], _, _, h => nomatch h
  | _ :: _, x, p, h => by
    rcases List.mem_cons.mp h with rfl | h
    · exact x.1
    · exact off1_mem x.2 p h
theorem tailOf_off {tabs l : List (Addr × Obj)} {g : List (Addr × Obj) → List (Addr × Obj)} (h : TailOf tabs l g) : ∀ own, l = own ++ tabs → (∀ t, g t = own ++ t) → ∀ p ∈ own, ∀ r ∈ tabs, r.1 ≠ p.1 := by
  induction h with
  | base =>
    intro own e _
    have : own = [] := by
      have := congrArg List.length e
      rw [List.length_append] at this
      exact List.length_eq_zero_iff.mp (by omega)
    subst this
    intro p hp; cases hp
  | @cons q l f hq _ ih =>
    intro own e hg
    cases own with
    | nil => have := hg []; cases this
    | cons q' own =>
      obtain ⟨rfl, e'⟩ := List.cons.inj e
      intro p hp
      rcases List.mem_cons.mp hp with rfl | hp
      · exact hq
      · exact ih own e' (fun t => (List.cons.inj (hg t)).2) p hp
theorem tailOf_app {tabs : List (Addr × Obj)} : ∀ {own : List (Addr × Obj)}, (∀ p ∈ own, ∀ r ∈ tabs, r.1 ≠ p.1) → TailOf tabs (own ++ tabs) fun t => own ++ t
  | [], _ => .base
  | p :: l, h => .cons (h p (.head _)) (tailOf_app fun q hq => h q (.tail _ hq))
section
variable {prog : Program} {w : World} {A : Around} {h₀ : Heap} {L : Addr} {m : Str → Option Value} {env : Env} {elt : Expr} {x : Str} {scope : Scope} {cl : List (Str × Addr)} {s : Shared} {S : List (Addr × Obj) → Prop} {P : Nat → Value → Prop} {Fin : List Value → List (Addr × Obj) → Prop}
theorem comp_tabs {n : Nat} {ks : List Int} (g : Int → Int) (own : List (Addr × Obj)) (TL : List (Addr × Obj) → Prop) (hS : ∀ l, S l) (hks : ks.length = n) (hP : ∀ i v, i < n → P i v → ∃ k t, ks[i]? = some k ∧ v = .int k t)
    (turn : ∀ k t I oI C oC D m₂ ys h tk (E' : Value → Shared → Prop) tb, k ∈ ks → LCg.NsObj oC m₂ → m₂ x = some (.int k t) → Fr h₀ L h m → News h₀ L h ((I, oI) :: (C, oC) :: (D, LCg.lst ys) :: (own ++ tb)) → TL tb →
      (∀ r ∈ tb, r.1 ≠ I ∧ r.1 ≠ C ∧ r.1 ≠ D) → (∀ p ∈ own, ∀ r ∈ tb, r.1 ≠ p.1) → LCg.Off3 I C D own → ((@Ne Nat I C) ∧ (@Ne Nat I D) ∧ (@Ne Nat C D)) →
      wpAny (model prog w) A (eval elt (compEnvC scope cl C env)) (fun y s₂ => ∃ h' tk' tb' t', s₂ = { s with heap := h', toks := tk' } ∧ y = .int (g k) t' ∧ Fr h₀ L h' m ∧ News h₀ L h' ((I, oI) :: (C, oC) :: (D, LCg.lst ys) :: (own ++ tb')) ∧ TL tb' ∧
        (∀ q ∈ tb', q.1 ∈ tb.map (·.1) ∨ h.objs.size ≤ q.1)) E' { s with heap := h, toks := tk })
    (fin : ∀ ys tb, IntsAre ys (ks.map g) → TL tb → (∀ p ∈ own, ∀ r ∈ tb, r.1 ≠ p.1) → Fin ys (own ++ tb)) : ∀ tb, TL tb → (∀ p ∈ own, ∀ r ∈ tb, r.1 ≠ p.1) → LCg.CompRest prog w A h₀ L m env elt x scope cl s S P Fin n 0 [] (own ++ tb) := by
  have key : ∀ (j i : Nat) (ys : List Value) tb, i + j = n → IntsAre ys ((ks.take i).map g) → TL tb → (∀ p ∈ own, ∀ r ∈ tb, r.1 ≠ p.1) → LCg.CompRest prog w A h₀ L m env elt x scope cl s S P Fin j i ys (own ++ tb) := by
    intro j
    induction j with
    | zero =>
      intro i ys tb hi hy hTL hot
      have e : i = ks.length := by omega
      subst e
      rw [List.take_length] at hy
      exact LCg.CompRest.zero (fin ys tb hy hTL hot)
    | succ j ih =>
      intro i ys tb hi hy hTL hot
      refine LCg.CompRest.succ ?_
      intro v I oI C oC D m₂ h tk E' hv hC hx F N off ne
      obtain ⟨k, t, hk, hv'⟩ := hP i v (by omega) hv
      rw [hv'] at hx
      have offm := off.mem
      refine wpAny_mono (turn k t I oI C oC D m₂ ys h tk E' tb (List.mem_of_getElem? hk) hC hx F N hTL (fun r hr => offm r (List.mem_append_right _ hr)) hot (.of fun p hp => offm p (List.mem_append_left _ hp)) ne) (fun y s₂ hq => ?_) fun _ _ e => e
      obtain ⟨h', tk', tb', t', rfl, rfl, F', N', hTL', htb⟩ := hq
      have zI := Heap.lt_size (N _ (.head _)).1
      have zC := Heap.lt_size (N _ (.tail _ (.head _))).1
      have zD := Heap.lt_size (N _ (.tail _ (.tail _ (.head _)))).1
      have hot' : ∀ p ∈ own, ∀ r ∈ tb', r.1 ≠ p.1 := by
        intro p hp r hr
        rcases htb r hr with e | e
        · obtain ⟨q, hq, e⟩ := List.mem_map.mp e
          exact e ▸ hot p hp q hq
        · exact Nat.ne_of_gt (Nat.lt_of_lt_of_le (Heap.lt_size (N p (.tail _ (.tail _ (.tail _ (List.mem_append_left _ hp))))).1) e)
      refine ⟨h', tk', own ++ tb', rfl, F', N', .of fun p hp => ?_, hS _, ?_⟩
      · rcases List.mem_append.mp hp with hp | hp
        · exact offm p (List.mem_append_left _ hp)
        · rcases htb p hp with e | e
          · obtain ⟨q, hq, e⟩ := List.mem_map.mp e
            exact e ▸ offm q (List.mem_append_right _ hq)
          · exact ⟨Nat.ne_of_gt (Nat.lt_of_lt_of_le zI e), Nat.ne_of_gt (Nat.lt_of_lt_of_le zC e), Nat.ne_of_gt (Nat.lt_of_lt_of_le zD e)⟩
      · refine ih (i + 1) _ tb' (by omega) ?_ hTL' hot'
        rw [List.take_add_one, hk]
        simpa using IntsAre.append hy (.cons (g k) t' .nil)
  exact fun tb => key n 0 [] tb (by omega) (by simp only [List.take_zero, List.map_nil]; exact .nil)
end
end Mine
end
section
open PySem PySem.W PyProof.Rows PySem.Calls
namespace Mine
theorem str_ext {a b : Str} (h : a.cps.toList = b.cps.toList) : a = b := by
  cases a; cases b; congr 1; exact Array.ext' h
theorem app_cps (a b : Str) : (a ++ b).cps.toList = a.cps.toList ++ b.cps.toList := by
  show (a.cps ++ b.cps).toList = _
  simp
theorem join_cps (ys : List Str) : (Txt.join (Str.ofString "") ys).cps.toList = (ys.map fun y => y.cps.toList).flatten := by
  show (Builtin.Str.glued (Str.ofString "") ys).cps.toList = _
  rw [StrLaws.glued_eq_join]
  induction ys with
  | nil => rfl
  | cons x r ih =>
    cases r with
    | nil => simp [Str.join]
    | cons y r =>
      rw [Str.join, app_cps, app_cps, ih]
      · have : (Str.ofString "").cps.toList = [] := by decide +kernel
        rw [this]; simp
      · simp
theorem len_cps (a : Str) : a.length = a.cps.toList.length := by simp [Str.length]
theorem flat_len {B : Nat} : ∀ {ys : List Str}, (∀ y ∈ ys, y.length ≤ B) → ((ys.map fun y => y.cps.toList).flatten).length ≤ B * ys.length
  | [], _ => by simp
  | y :: ys, h => by
    have h1 := h y (.head _)
    have h2 := flat_len (ys := ys) fun y hy => h y (.tail _ hy)
    rw [len_cps] at h1
    simp only [List.map_cons, List.flatten_cons, List.length_append, List.length_cons]
    rw [Nat.mul_add, Nat.mul_one]; omega
theorem join_len {B : Nat} {ys : List Str} (h : ∀ y ∈ ys, y.length ≤ B) : (Txt.join (Str.ofString "") ys).length ≤ B * ys.length := by
  rw [len_cps, join_cps]; exact flat_len h
theorem sum_len {B : Nat} : ∀ {ys : List Str}, (∀ y ∈ ys, y.length ≤ B) → (ys.map (·.length)).sum ≤ B * ys.length
  | [], _ => by simp
  | y :: ys, h => by
    have h1 := h y (.head _)
    have h2 := sum_len (ys := ys) fun y hy => h y (.tail _ hy)
    simp only [List.map_cons, List.sum_cons, List.length_cons]
    rw [Nat.mul_add, Nat.mul_one]; omega
theorem emp_len : (Str.ofString "").length = 0 := by decide +kernel
abbrev mkS (l : List Nat) : Str := ⟨l.toArray⟩
theorem mkS_app (a b : List Nat) : mkS a ++ mkS b = mkS (a ++ b) := by apply str_ext; rw [app_cps]
theorem mkS_len (a : List Nat) : (mkS a).length = a.length := by simp [Str.length]
theorem of_mkS (x : Str) : x = mkS x.cps.toList := by apply str_ext; simp
theorem mkS_inj {a b : List Nat} (h : mkS a = mkS b) : a = b := by
  have := congrArg (fun s : Str => s.cps.toList) h; simpa using this
theorem sl_ss {l : List Nat} {i j : Int} (h : 0 ≤ i ∧ i ≤ j ∧ j ≤ l.length) : Txt.slice (mkS l) (some i) (some j) = mkS ((l.drop i.toNat).take (j - i).toNat) := by
  have := slice_closes (x := mkS l) (i := i) (j := j) (by simpa using h)
  simpa using this
theorem sl_ns {l : List Nat} {j : Int} (h : 0 ≤ j ∧ j ≤ l.length) : Txt.slice (mkS l) none (some j) = mkS (l.take j.toNat) := by
  have := slice_closes_to (x := mkS l) (j := j) (by simpa using h)
  simpa using this
theorem sl_sn {l : List Nat} {i : Int} (h : 0 ≤ i ∧ i ≤ l.length) : Txt.slice (mkS l) (some i) none = mkS (l.drop i.toNat) := by
  have := slice_from_eq (x := mkS l) (i := i) (b := l.length) h.1 (by rw [mkS_len]; exact h.2) (by rw [mkS_len])
  rw [this]
  simp only [mkS]
  rw [List.take_of_length_le]
  simp; omega
theorem sl_neg {l : List Nat} {i : Int} (h : i < 0 ∧ -(l.length : Int) ≤ i) : Txt.slice (mkS l) (some i) none = mkS (l.drop (i + l.length).toNat) := by
  have := slice_closes_from_neg (x := mkS l) (i := i) (a := i + l.length) (b := l.length) h.1 (by rw [mkS_len]; exact h.2) (by rw [mkS_len]) (by rw [mkS_len])
  have := eq_of_beq this
  rw [this]
  simp only [mkS]
  rw [List.take_of_length_le]
  simp; omega
section
variable {prog : Program} {w : World} {A : Around} {E : Value → Shared → Prop} {s : Shared} {value slice : Expr} {x z : Str} {t : Tok} {h₀ : Heap} {L : Addr} {m : Str → Option Value} {news : List (Addr × Obj)} {Q : Value → Shared → Prop}
theorem slz_ns {j : Int} {uj : Tok} (hF : Fr h₀ L s.heap m) (hN : News h₀ L s.heap news) (hz : Txt.slice x none (some j) = z) (hsz : x.length ≤ 10000) (h : ∀ h' t' k, Fr h₀ L h' m → News h₀ L h' news → Q (.str z t') { s with heap := h', toks := k })
    (hs : subscripted slice false (.str x t) (.ref s.heap.objs.size) = operate [.ref s.heap.objs.size, .str x t] (getItem (.str x t) (.ref s.heap.objs.size)) := by with_unfolding_all rfl)
    (ht : ∀ r, letTemporaryGo value (.str x t) r = pure () := by intro _; with_unfolding_all rfl) :
    wpAny (model prog w) A (subscriptTail value slice (.str x t) (.ref s.heap.objs.size)) Q E { s with heap := s.heap.push { cls := .type "slice", data := .fields #[.none, .int j uj, .none] } } := by
  subst hz; exact slice_strN_ns hF hN h hs ht (by rw [sizeLine_eq]; omega)
theorem slz_sn {i : Int} {ui : Tok} (hF : Fr h₀ L s.heap m) (hN : News h₀ L s.heap news) (hz : Txt.slice x (some i) none = z) (hsz : x.length ≤ 10000) (h : ∀ h' t' k, Fr h₀ L h' m → News h₀ L h' news → Q (.str z t') { s with heap := h', toks := k })
    (hs : subscripted slice false (.str x t) (.ref s.heap.objs.size) = operate [.ref s.heap.objs.size, .str x t] (getItem (.str x t) (.ref s.heap.objs.size)) := by with_unfolding_all rfl)
    (ht : ∀ r, letTemporaryGo value (.str x t) r = pure () := by intro _; with_unfolding_all rfl) :
    wpAny (model prog w) A (subscriptTail value slice (.str x t) (.ref s.heap.objs.size)) Q E { s with heap := s.heap.push { cls := .type "slice", data := .fields #[.int i ui, .none, .none] } } := by
  subst hz; exact slice_strN_sn hF hN h hs ht (by rw [sizeLine_eq]; omega)
theorem slz_ss {i j : Int} {ui uj : Tok} (hF : Fr h₀ L s.heap m) (hN : News h₀ L s.heap news) (hz : Txt.slice x (some i) (some j) = z) (hsz : x.length ≤ 10000) (h : ∀ h' t' k, Fr h₀ L h' m → News h₀ L h' news → Q (.str z t') { s with heap := h', toks := k })
    (hs : subscripted slice false (.str x t) (.ref s.heap.objs.size) = operate [.ref s.heap.objs.size, .str x t] (getItem (.str x t) (.ref s.heap.objs.size)) := by with_unfolding_all rfl)
    (ht : ∀ r, letTemporaryGo value (.str x t) r = pure () := by intro _; with_unfolding_all rfl) :
    wpAny (model prog w) A (subscriptTail value slice (.str x t) (.ref s.heap.objs.size)) Q E { s with heap := s.heap.push { cls := .type "slice", data := .fields #[.int i ui, .int j uj, .none] } } := by
  subst hz; exact slice_strN_ss hF hN h hs ht (by rw [sizeLine_eq]; omega)
end
end Mine
end
section
open PySem PySem.W PyProof.Rows
namespace Mine
-- the top's run by the library's own quick twins, chosen by name
def gEnds (imp : (String → Option Builtin) → Program → World → Nat → Shared → Thread → Option Shared) (fen : Program → Shared → Option Shared)
    (run : (String → Option Builtin) → Program → World → Nat → Option Value → Nat → Shared → Thread → Option Shared) (tb : String → Option Builtin) (nsm : Heap → Addr → Str → Option Value)
    (st : Program → Shared × Thread) (p : Program) (w : World) (N : Nat) : Option Shared :=
  ((imp tb (opening p) w N (st (opening p)).1 (st (opening p)).2).bind (fen p)).bind fun s₀ =>
    match s₀.heap.isNs mainGlobals && s₀.gens.size == 0 with
    | true => (run tb p w s₀.heap.objs.size (nsm s₀.heap mainGlobals "__annotations__") N s₀ (topStub p)).bind fun s₁ => match staticsOk (importedModules p.main.body) s₀.heap s₁.heap && namesBound p s₁.heap && gensDone s₁ && laidKept s₀.heap s₁.heap with
      | true => some s₁
      | false => none
    | false => none
theorem g_ends (p : Program) (w : World) (N : Nat) : openEnds treeTable p w N = gEnds importEnds fenceModules? topRun treeTable (fun h v x => h.nsMap v x) start p w N := by
  unfold openEnds fencedOpening gEnds
  congr 1
theorem q_ends (p : Program) (w : World) (N : Nat) : openEnds treeTable p w N =
    gEnds Fast.tw10274390034422433532 Fast.tw14289696077712309145 Fast.tw14082659384304107361 Fast.tw14364793385576792824 (fun h v x => h.nsMap v x) Fast.tw1435165496053646825 p w N := by
  rw [g_ends, ← Fast.te10274390034422433532, ← Fast.te14289696077712309145, ← Fast.te14082659384304107361, ← Fast.te14364793385576792824, ← Fast.te1435165496053646825]
theorem q_top {p q : Program} {loose : List Str} {Xt : Shared → Bool} {α : Type} {Yf : Shared → α} {N : Nat} {g0 : Bool} {w : World} {r}
    (h : (gEnds Fast.tw10274390034422433532 Fast.tw14289696077712309145 Fast.tw14082659384304107361 Fast.tw14364793385576792824 (fun h v x => h.nsMap v x) Fast.tw1435165496053646825 p w N).map
      (fun s => (Fast.tw4187177175401517315 q loose (importedModules p.main.body) Xt g0 s, Yf s)) = some r) :
    (openEnds treeTable p w N).map (fun s => (openSeen q loose (importedModules p.main.body) Xt g0 s, Yf s)) = some r := by
  rw [q_ends, ← h, ← Fast.te4187177175401517315]
end Mine
end
section
open PySem PySem.W PyProof.Rows
namespace Mine
set_option maxRecDepth 100000
set_option maxHeartbeats 8000000
-- what the law says of itself, by the library's quick twin chosen by name (made here anew, the twin of the program's text weighs 4 MB)
theorem said_law : PySem.Challenge.rw_ik0125_02.wellSaid = true := by rw [Fast.te9446332074065402090]; kernel_rfl
-- the head without pieces: the equation of the top is left as a part of the walk's goal, and is shown below by the kernel, a pair of the world's rows at a time
section
local macro_rules | `(tactic| o_law) => `(tactic| refine holds_law said_law fun said => ?_)
local macro_rules
  | `(tactic| refine $e:term) => do
    match e with
    | `($_:ident $args*) =>
      if args.size > 15 then `(tactic| (refine ($e); (case' hl => refine And.left (b := ?both_b) ?both); (case' hc => exact And.right ?both)))
      else Lean.Macro.throwUnsupported
    | _ => Lean.Macro.throwUnsupported
open_top hd for PySem.Challenge.rw_ik0125_02
end
abbrev TopEq {Q : World → Prop} {b c : Prop} (_ : (∀ w, Q w) ∧ b → c) (w : World) : Prop := Q w
theorem top_ff (w : World) : TopEq hd ((w.withFollow "comprehension-iter-twice" false).withFollow "special-get-raises" false) := q_top (by kernel_rfl)
theorem top_ft (w : World) : TopEq hd ((w.withFollow "comprehension-iter-twice" false).withFollow "special-get-raises" true) := q_top (by kernel_rfl)
theorem top_tf (w : World) : TopEq hd ((w.withFollow "comprehension-iter-twice" true).withFollow "special-get-raises" false) := q_top (by kernel_rfl)
theorem top_tt (w : World) : TopEq hd ((w.withFollow "comprehension-iter-twice" true).withFollow "special-get-raises" true) := q_top (by kernel_rfl)
theorem top_all (w : World) : TopEq hd w :=
  byRow2 "special-get-raises" (P := fun w => TopEq hd w)
    (byRow2 "comprehension-iter-twice" (P := fun w => TopEq hd (w.withFollow "special-get-raises" false)) top_ff top_tf)
    (byRow2 "comprehension-iter-twice" (P := fun w => TopEq hd (w.withFollow "special-get-raises" true)) top_ft top_tt) w
end Mine
end
section
open PySem PySem.W PyProof.Rows PySem.Calls
namespace Mine
set_option maxRecDepth 100000
set_option maxHeartbeats 4000000
theorem fill : (fun (_ : OpenLaw) (_ : Params → Frag) => True) PySem.Challenge.rw_ik0125_02 hd.heap_1 := by k_fill; trivial
abbrev prog := PySem.Challenge.rw_ik0125_02.row.prog
def qA (line : Nat) : Str := if line = 137 then Str.ofString "_translate.<locals>.<genexpr>" else Str.ofString "_translate.<locals>.<lambda>"
def qB (_ : Nat) : Str := Str.ofString "_digits2int.<locals>.inner"
def qC (_ : Nat) : Str := Str.ofString "_int2digits.<locals>.inner"
abbrev TabL3 (tabs : List (Addr × Obj)) : Prop := TabL 99 54 47 qA qB qC tabs

structure Ctr (w : World) (f : Addr) (d u : Nat) (vs : List Value) (Pre : List (Addr × Obj) → Heap → Prop) (Post : Heap → Heap → Value → Prop) : Prop where
  run : ∀ {p : Program} {loose : List Str} {mean : ExcName → Option Value} {mg mb : Str → Option Value} {dp un : Nat} {gd : Option (List Code)} {cn : Str} {cs : Scope} {a : Addr} {ccd : Value} {cl : List (Str × Addr)} {outer : List Env} {A₀ : Around} {base h₀ : Heap} {L : Addr} {m : Str → Option Value} {tabs : List (Addr × Obj)} {s : Shared} {Q E : Value → Shared → Prop},
    Below A₀ base outer h₀ → Fr h₀ L s.heap m → (hd.heap_1 w.params).In h₀ → News h₀ L s.heap tabs → TabL3 tabs → Top p loose mean mg mb h₀ → cs.kind = .function →
    dp + d < recursionLimit → un + u < cLine → Pre tabs s.heap →
    (∀ v h' tk' tabs', StayT tabs s.heap h' → NewT tabs tabs' s.heap h' → TabL3 tabs' → Post s.heap h' v → Q v { s with heap := h', toks := tk' }) →
      wpAny (model prog w) (ktrTop dp un gd cn cs L a ccd cl outer) (call (.ref f) vs) Q E s

theorem use_ctr {w : World} {f : Addr} {d u : Nat} {vs : List Value} {Pre : List (Addr × Obj) → Heap → Prop} {Post : Heap → Heap → Value → Prop} {p : Program} {loose : List Str} {mean : ExcName → Option Value} {mg mb : Str → Option Value} {dp un : Nat} {gd : Option (List Code)} {cn : Str} {cs : Scope} {a : Addr} {ccd : Value} {cl : List (Str × Addr)} {outer : List Env} {A₀ : Around} {base h₀ : Heap} {L : Addr} {m : Str → Option Value} {tabs news : List (Addr × Obj)} {g : List (Addr × Obj) → List (Addr × Obj)} {s : Shared} {Q E : Value → Shared → Prop}
    (C : Ctr w f d u vs Pre Post) (B : Below A₀ base outer h₀) (F : Fr h₀ L s.heap m) (X : (hd.heap_1 w.params).In h₀) (N : News h₀ L s.heap news) (TL : TabL3 tabs) (TO : TailOf tabs news g) (T : Top p loose mean mg mb h₀) (hk : cs.kind = .function)
    (hd : dp + d < recursionLimit) (hu : un + u < cLine) (hpre : Pre tabs s.heap)
    (h : ∀ v h' tk' tabs', Fr h₀ L h' m → News h₀ L h' (g tabs') → TabL3 tabs' → TailOf tabs' (g tabs') g → (∀ q ∈ tabs', q.1 ∈ tabs.map (·.1) ∨ s.heap.objs.size ≤ q.1) → Post s.heap h' v → Q v { s with heap := h', toks := tk' }) :
    wpAny (model prog w) (ktrTop dp un gd cn cs L a ccd cl outer) (call (.ref f) vs) Q E s :=
  have N₀ : News h₀ L s.heap tabs := fun q hq => N q (TO.tabs q hq)
  C.run B F X N₀ TL T hk hd hu hpre fun v h' tk' tabs' st n TL' ps => h v h' tk' tabs' (stay_fr F N₀ st) (TO.news N st (newT_news F N₀ n)) TL' (TO.next (fun q hq => Heap.lt_size (N q hq).1) fun q hq => (n q hq).2) (fun q hq => (n q hq).2) ps

/-- a def whose body makes no table: its walk -/
theorem ctr_plain {w : World} {f : Addr} {d u : Nat} {vs : List Value} {Pre : List (Addr × Obj) → Heap → Prop} {Post : Heap → Heap → Value → Prop} {name qual : Str} {params : Arguments} {body : List Stmt} {scope : Scope} {dV kV doc pm cdv ct oc : Value} {an od : Option Addr} {osl : Array (Option Value)} {binds : List (Str × Value)}
    (ho : (hd.heap_1 w.params).lookup f = some ⟨oc, od, .func (fnOf name qual params body scope dV kV doc pm an cdv ct), osl⟩) (hcd : codeIn (hd.heap_1 w.params) cdv qual = true)
    (hd1 : 1 ≤ d)
    (hbind : ∀ s, BindsTo s (fnOf name qual params body scope dV kV doc pm an cdv ct) ⟨vs, []⟩ binds) (hloc : ∀ y ∈ binds, scope.names.lookup y.1 = some .local)
    (hco : scope.isCoroutine = false) (hgen : scope.isGenerator = false) (hk : scope.kind = .function) (hcell : ∀ x ∈ scope.names, x.2 ≠ .cell)
    (h : ∀ (p : Program) (loose : List Str) (mean : ExcName → Option Value) (mg mb : Str → Option Value) (dp un : Nat) (gd : Option (List Code)) (outer : List Env) (A₀ : Around) (base g₀ g : Heap) (L : Addr) (tabs : List (Addr × Obj)) (s : Shared) (Q : Value → Shared → Prop),
      dp + d ≤ recursionLimit → un + u ≤ cLine + 3 → g₀.objs.size ≤ L → (∀ b o, b ∉ tabs.map (·.1) → g₀.get? b = some o → g.get? b = some o) →
      Fr g L s.heap (fun y => binds.reverse.lookup y) → News g L s.heap tabs → TabL3 tabs → Below A₀ base outer g → (hd.heap_1 w.params).In g → Top p loose mean mg mb g → Pre tabs g₀ →
      (∀ v h' tk' m' tabs', Fr g L h' m' → News g L h' tabs' → TabL3 tabs' → (∀ p ∈ tabs', p.1 ∈ tabs.map (·.1) ∨ L ≤ p.1) → Post g₀ h' v → Q v { s with heap := h', toks := tk' }) →
      wpAny (model prog w) (ktrTop dp un gd qual scope L f cdv [] outer) (execs body (envX qual scope L f cdv []))
        (fun fl s' => Q (match fl with | .ret v => v | _ => .none) s') NoE s) : Ctr w f d u vs Pre Post := by
  constructor
  intro p loose mean mg mb dp un gd cn cs a ccd cl outer A₀ base h₀ L m tabs s Q E B F X N TL T hk' hd hu hpre hret
  refine wpAny_call ?_
  refine call_ground B F X N T rfl rfl hk' ho hcd ?_ (hbind s) hloc (fun g L' h₁ eg st e0 e1 F' N' B' X' T' => ?_) hco hgen hk hcell
  · show dp < recursionLimit; omega
  subst e0
  refine h p loose mean mg mb (dp + 1) (un + 3) gd _ _ base s.heap g s.heap.objs.size tabs _ (fun v s' => Q v s') ?_ ?_ (Nat.le_refl _) st F' N' TL B' X' T' hpre ?_
  · omega
  · omega
  · intro v h' tk' m' tabs' F'' N'' TL' ht ps
    exact hret v h' tk' tabs' (fun b o hb e => F''.keep b o (st b o hb e)) (fun p hp => ⟨(N'' p hp).1, ht p hp⟩) TL' ps

/-- a def whose locals are captured -/
theorem ctr_cells {w : World} {f : Addr} {d u : Nat} {vs : List Value} {Pre : List (Addr × Obj) → Heap → Prop} {Post : Heap → Heap → Value → Prop} {name qual : Str} {params : Arguments} {body : List Stmt} {scope : Scope} {dV kV doc pm cdv ct oc : Value} {an od : Option Addr} {osl : Array (Option Value)} {binds : List (Str × Value)}
    (ho : (hd.heap_1 w.params).lookup f = some ⟨oc, od, .func (fnOf name qual params body scope dV kV doc pm an cdv ct), osl⟩) (hcd : codeIn (hd.heap_1 w.params) cdv qual = true)
    (hd1 : 1 ≤ d)
    (hbind : ∀ s, BindsTo s (fnOf name qual params body scope dV kV doc pm an cdv ct) ⟨vs, []⟩ binds) (hkind : (binds.all fun y => scope.names.lookup y.1 == some .local || scope.names.lookup y.1 == some .cell) = true)
    (hnd : ((cellsFrom 0 scope.names []).map (·.1)).Nodup)
    (hco : scope.isCoroutine = false) (hgen : scope.isGenerator = false) (hk : scope.kind = .function)
    (h : ∀ (p : Program) (loose : List Str) (mean : ExcName → Option Value) (mg mb : Str → Option Value) (dp un : Nat) (gd : Option (List Code)) (outer : List Env) (A₀ : Around) (base g₀ g : Heap) (L : Addr) (tabs cells : List (Addr × Obj)) (s : Shared) (Q : Value → Shared → Prop),
      dp + d ≤ recursionLimit → un + u ≤ cLine + 3 → g₀.objs.size = L → (∀ b o, b ∉ tabs.map (·.1) → g₀.get? b = some o → g.get? b = some o) →
      Fr g L s.heap (bindL (envOfC qual scope L f cdv).kindOf binds fun _ => none) → News g L s.heap (cells ++ tabs) → (∀ q ∈ tabs, q.1 < L) → CellsAre (bindC (envOfC qual scope L f cdv).kindOf binds fun _ => none) (cellsFrom (L + 1) scope.names []) cells →
      TabL3 tabs → Below A₀ base outer g → (hd.heap_1 w.params).In g → Top p loose mean mg mb g → Pre tabs g₀ →
      (∀ v h' tk' m' tabs', Fr g L h' m' → News g L h' tabs' → TabL3 tabs' → (∀ p ∈ tabs', p.1 ∈ tabs.map (·.1) ∨ L ≤ p.1) → Post g₀ h' v → Q v { s with heap := h', toks := tk' }) →
      wpAny (model prog w) (ktrTop dp un gd qual scope L f cdv (cellsFrom (L + 1) scope.names []) outer) (execs body (envX qual scope L f cdv (cellsFrom (L + 1) scope.names [])))
        (fun fl s' => Q (match fl with | .ret v => v | _ => .none) s') NoE s) : Ctr w f d u vs Pre Post := by
  constructor
  intro p loose mean mg mb dp un gd cn cs a ccd cl outer A₀ base h₀ L m tabs s Q E B F X N TL T hk' hd hu hpre hret
  refine wpAny_call ?_
  refine call_groundC B F X N T rfl rfl hk' ho hcd ?_ (hbind s) hkind hnd (fun g L' h₁ tk cells eg st e0 F' N' hlt Y B' X' T' => ?_) hco hgen hk
  · show dp < recursionLimit; omega
  subst e0
  refine h p loose mean mg mb (dp + 1) (un + 3) gd _ _ base s.heap g s.heap.objs.size tabs cells { s with heap := h₁, toks := tk } (fun v s' => Q v s') ?_ ?_ rfl st F' N' hlt Y TL B' X' T' hpre ?_
  · omega
  · omega
  · intro v h' tk' m' tabs' F'' N'' TL' ht ps
    exact hret v h' tk' tabs' (fun b o hb e => F''.keep b o (st b o hb e)) (fun p hp => ⟨(N'' p hp).1, ht p hp⟩) TL' ps

/-- a leaf: it touches no table; all that was stays -/
structure CtrL (w : World) (f : Addr) (d u : Nat) (vs : List Value) (Pre : Heap → Prop) (Post : Heap → Heap → Value → Prop) : Prop where
  run : ∀ {p : Program} {loose : List Str} {mean : ExcName → Option Value} {mg mb : Str → Option Value} {dp un : Nat} {gd : Option (List Code)} {cn : Str} {cs : Scope} {a : Addr} {ccd : Value} {cl : List (Str × Addr)} {outer : List Env} {A₀ : Around} {base h₀ : Heap} {L : Addr} {m : Str → Option Value} {s : Shared} {Q E : Value → Shared → Prop},
    Below A₀ base outer h₀ → Fr h₀ L s.heap m → (hd.heap_1 w.params).In h₀ → Top p loose mean mg mb h₀ → cs.kind = .function →
    dp + d < recursionLimit → un + u < cLine → Pre s.heap →
    (∀ v h' tk', (∀ b o, s.heap.get? b = some o → h'.get? b = some o) → Post s.heap h' v → Q v { s with heap := h', toks := tk' }) →
      wpAny (model prog w) (ktrTop dp un gd cn cs L a ccd cl outer) (call (.ref f) vs) Q E s

theorem use_leaf {w : World} {f : Addr} {d u : Nat} {vs : List Value} {Pre : Heap → Prop} {Post : Heap → Heap → Value → Prop} {p : Program} {loose : List Str} {mean : ExcName → Option Value} {mg mb : Str → Option Value} {dp un : Nat} {gd : Option (List Code)} {cn : Str} {cs : Scope} {a : Addr} {ccd : Value} {cl : List (Str × Addr)} {outer : List Env} {A₀ : Around} {base h₀ : Heap} {L : Addr} {m : Str → Option Value} {news : List (Addr × Obj)} {s : Shared} {Q E : Value → Shared → Prop}
    (C : CtrL w f d u vs Pre Post) (B : Below A₀ base outer h₀) (F : Fr h₀ L s.heap m) (X : (hd.heap_1 w.params).In h₀) (N : News h₀ L s.heap news) (T : Top p loose mean mg mb h₀) (hk : cs.kind = .function)
    (hd : dp + d < recursionLimit) (hu : un + u < cLine) (hpre : Pre s.heap)
    (h : ∀ v h' tk', Fr h₀ L h' m → News h₀ L h' news → (∀ b o, s.heap.get? b = some o → h'.get? b = some o) → Post s.heap h' v → Q v { s with heap := h', toks := tk' }) :
    wpAny (model prog w) (ktrTop dp un gd cn cs L a ccd cl outer) (call (.ref f) vs) Q E s :=
  C.run B F X T hk hd hu hpre fun v h' tk' st ps => h v h' tk' ⟨F.ns.keeps st, fun b o e => st _ _ (F.keep b o e), F.above⟩ (fun q hq => ⟨st _ _ (N q hq).1, (N q hq).2⟩) st ps

theorem ctr_leaf {w : World} {f : Addr} {d u : Nat} {vs : List Value} {Pre : Heap → Prop} {Post : Heap → Heap → Value → Prop} {name qual : Str} {params : Arguments} {body : List Stmt} {scope : Scope} {dV kV doc pm cdv ct oc : Value} {an od : Option Addr} {osl : Array (Option Value)} {binds : List (Str × Value)}
    (ho : (hd.heap_1 w.params).lookup f = some ⟨oc, od, .func (fnOf name qual params body scope dV kV doc pm an cdv ct), osl⟩) (hcd : codeIn (hd.heap_1 w.params) cdv qual = true)
    (hd1 : 1 ≤ d)
    (hbind : ∀ s, BindsTo s (fnOf name qual params body scope dV kV doc pm an cdv ct) ⟨vs, []⟩ binds) (hloc : ∀ y ∈ binds, scope.names.lookup y.1 = some .local)
    (hco : scope.isCoroutine = false) (hgen : scope.isGenerator = false) (hk : scope.kind = .function) (hcell : ∀ x ∈ scope.names, x.2 ≠ .cell)
    (h : ∀ (p : Program) (loose : List Str) (mean : ExcName → Option Value) (mg mb : Str → Option Value) (dp un : Nat) (gd : Option (List Code)) (outer : List Env) (A₀ : Around) (base g : Heap) (L : Addr) (s : Shared) (Q : Value → Shared → Prop),
      dp + d ≤ recursionLimit → un + u ≤ cLine + 3 → g.objs.size ≤ L →
      Fr g L s.heap (fun y => binds.reverse.lookup y) → News g L s.heap [] → Below A₀ base outer g → (hd.heap_1 w.params).In g → Top p loose mean mg mb g → Pre g →
      (∀ v h' tk' m', Fr g L h' m' → Post g h' v → Q v { s with heap := h', toks := tk' }) →
      wpAny (model prog w) (ktrTop dp un gd qual scope L f cdv [] outer) (execs body (envX qual scope L f cdv []))
        (fun fl s' => Q (match fl with | .ret v => v | _ => .none) s') NoE s) : CtrL w f d u vs Pre Post := by
  constructor
  intro p loose mean mg mb dp un gd cn cs a ccd cl outer A₀ base h₀ L m s Q E B F X T hk' hd hu hpre hret
  refine wpAny_call ?_
  refine call_ground (tabs := []) B F X News.nil T rfl rfl hk' ho hcd ?_ (hbind s) hloc (fun g L' h₁ eg st e0 e1 F' N' B' X' T' => ?_) hco hgen hk hcell
  · show dp < recursionLimit; omega
  subst e0
  replace eg : g = s.heap := eg
  subst eg
  refine h p loose mean mg mb (dp + 1) (un + 3) gd _ _ base s.heap s.heap.objs.size _ (fun v s' => Q v s') (by omega) (by omega) (Nat.le_refl _) F' N' B' X' T' hpre ?_
  intro v h' tk' m' F'' ps
  exact hret v h' tk' F''.keep ps
end Mine
end
section
open PySem PySem.W PyProof.Rows PySem.Calls
namespace Mine
local macro_rules | `(tactic| walk_at "no such key") => `(tactic| skip)
theorem fresh_DV_2 : True := by (w_top off); trivial
set_option maxRecDepth 100000
set_option maxHeartbeats 4000000
theorem fill_DV_2 : (fun (_ : OpenLaw) (_ : Params → Frag) => True) PySem.Challenge.rw_ik0125_02 hd.heap_1 := by k_fill; trivial
theorem intBits_le {a : Int} {k : Nat} (ha : 0 ≤ a) (h : a < 2 ^ k) : Builtin.Int.intBits a ≤ k := by
  unfold Builtin.Int.intBits
  by_cases h0 : a = 0
  · simp [h0]
  · rw [if_neg (by simpa using h0)]
    have hn : a.natAbs < 2 ^ k := by
      have e : ((a.natAbs : Nat) : Int) = a := Int.natAbs_of_nonneg ha
      have : ((a.natAbs : Nat) : Int) < ((2 ^ k : Nat) : Int) := by rw [e]; simpa using h
      exact_mod_cast this
    exact (Nat.log2_lt (by omega)).mpr hn
theorem c_div2n1n {w : World} {a b n : Int} {ta tb tn : Tok} (ha : 0 ≤ a) (ha2 : a < 18446744073709551616) (hb : 0 < b) (hb2 : b < 1073741824) (hn : 0 ≤ n) : CtrL w 38 1 8 [.int a ta, .int b tb, .int n tn] (fun _ => True)
    (fun g h v => ∃ l t₁ t₂, v = .ref l ∧ g.objs.size ≤ l ∧ h.IsTuple l #[.int (a.fdiv b) t₁, .int (a.fmod b) t₂]) := by
  have hbl : Builtin.Int.intBits a ≤ 64 := intBits_le ha ha2
  k_dflt (refine' ctr_leaf (binds := [(Str.ofString "a", .int a ta), (Str.ofString "b", .int b tb), (Str.ofString "n", .int n tn)]) ?k6 ?k7 ?k1 ?k9 ?kB ?c2 ?c3 ?c4 ?c5 ?_; (case k6 => k_is); (case k7 => k_is); (case k1 => decide); (case k9 => intro s; exact BindsTo.of_eq rfl); (case kB => exact locs rfl); (case c2 => exact rfl); (case c3 => exact rfl); (case c4 => exact rfl); (case c5 => decide))
  intro p loose mean mg mb dp un gd outer A₀ base g L s Q hd hu hL F N B X T hpre hret
  try dsimp only [List.reverse_cons, List.reverse_nil, List.nil_append, List.cons_append] at F
  have hb0 : b ≠ 0 := by omega
  k_steps
  all_goals first | (exfalso; omega) | skip
  rename Fr _ _ _ _ => F₂
  rename News _ _ _ _ => N₂
  exact hret _ _ _ _ F₂ ⟨_, _, _, rfl, Nat.le_trans hL (Nat.le_of_lt F.ns.lt), ⟨_, (N₂ _ (.head _)).1, rfl, _, rfl⟩⟩
end Mine
end
section
open PySem PySem.W PyProof.Rows PySem.Calls
namespace Mine
local macro_rules | `(tactic| walk_at "no such key") => `(tactic| skip)
theorem fresh_ES_2 : True := by (w_top off); trivial
set_option maxRecDepth 100000
set_option maxHeartbeats 4000000
theorem fill_ES_2 : (fun (_ : OpenLaw) (_ : Params → Frag) => True) PySem.Challenge.rw_ik0125_02 hd.heap_1 := by k_fill; trivial
def keysOk (es : Array DictEntry) : Bool := es.toList.all fun e => match e.key with | .int k _ => e.hash == hashInt k | _ => false
theorem keysOk_of {prog : Program} {w : World} {es : Array DictEntry} (h : keysOk es = true) : KeysOf (intKind prog w) es := by
  intro e he
  have := List.all_eq_true.mp h e (Array.mem_def.mp he)
  cases hk : e.key with
  | int k t => rw [hk] at this; exact ⟨k, by simp [intKind, Value.isInt], show e.hash = hashInt k from by simpa using this⟩
  | _ => rw [hk] at this; cases this
theorem esc_map {w : World} {h : Heap} (X : (hd.heap_1 w.params).In h) : ∃ f, h.MapOf (intKind prog w) 87 f ∧ (∀ c ∈ [114, 119, 120, 115, 83, 116, 84], f ((c : Nat) : Int) = none) ∧ ∃ u, f ((45 : Nat) : Int) = some (.str ⟨#[92, 45]⟩ u) := by
  refine ⟨_, ⟨_, _, _, X _ _ (by k_is), ⟨rfl, rfl, rfl⟩, rfl, keysOk_of (by kernel_rfl), fun k => rfl⟩, ?_, ?_⟩
  · intro c hc
    simp only [List.mem_cons, List.not_mem_nil, or_false] at hc
    rcases hc with rfl | rfl | rfl | rfl | rfl | rfl | rfl <;> kernel_rfl
  · exact ⟨474, by kernel_rfl⟩
def escF (c : Nat) : Str := if c = 45 then ⟨#[92, 45]⟩ else ⟨#[c]⟩
local macro_rules | `(tactic| walk_at "getMethod str") => `(tactic| (with_reducible refine gm_translate ?_))
theorem c_escape {w : World} {c : Nat} {t : Tok} (hc : c ∈ [114, 119, 120, 115, 83, 116, 84, 45]) : CtrL w 97 3 40 [.str ⟨#[c]⟩ t] (fun _ => True) (fun _ _ v => ∃ u, v = .str (escF c) u) := by
  k_dflt (refine' ctr_leaf (binds := [(Str.ofString "pattern", .str ⟨#[c]⟩ t)]) ?k6 ?k7 ?k1 ?k9 ?kB ?c2 ?c3 ?c4 ?c5 ?_; (case k6 => k_is); (case k7 => k_is); (case k1 => decide); (case k9 => intro s; exact BindsTo.of_eq rfl); (case kB => exact locs rfl); (case c2 => exact rfl); (case c3 => exact rfl); (case c4 => exact rfl); (case c5 => decide))
  intro p loose mean mg mb dp un gd outer A₀ base g L s Q hd hu hL F N B X T hpre hret
  try dsimp only [List.reverse_cons, List.reverse_nil, List.nil_append, List.cons_append] at F
  k_steps
  rename Fr _ _ _ _ => F₂
  obtain ⟨f, hm, h1, u, h2⟩ := esc_map (X.keeps F₂.keep)
  by_cases h45 : c = 45
  · subst h45
    refine translate_text (by decide) hm h2 rfl fun h' tk' t' hk => ?_
    exact hret _ _ _ _ (F₂.keeps hk) ⟨t', rfl⟩
  · refine translate_keep (by simp only [List.mem_cons, List.not_mem_nil, or_false] at hc; omega) hm (h1 c (by simp only [List.mem_cons, List.not_mem_nil, or_false] at hc ⊢; omega)) rfl rfl fun h' tk' t' hk => ?_
    exact hret _ _ _ _ (F₂.keeps hk) ⟨t', by unfold escF; rw [if_neg h45]⟩
end Mine
end
section
open PySem PySem.W PyProof.Rows PySem.Calls
namespace Mine
theorem fresh_I2_2 : True := by (w_top off); trivial
set_option maxRecDepth 100000
set_option maxHeartbeats 4000000
theorem fill_I2_2 : (fun (_ : OpenLaw) (_ : Params → Frag) => True) PySem.Challenge.rw_ik0125_02 hd.heap_1 := by k_fill; trivial
local macro_rules | `(tactic| tb_rel) => `(tactic| first | exact SufOf.base | (refine' SufOf.cons ?a; (case a => tb_rel)))
local macro_rules | `(tactic| k_all) => `(tactic| first | assumption | exact allLt_ne (by assumption))
/-- the digit i of X, N bits each -/
def dig (N X i : Nat) : Nat := X / 2 ^ (N * i) % 2 ^ N
def PutD (N k X Lo : Nat) (ns ns' : List Int) : Prop := ns'.length = ns.length ∧ ∀ i, ns'[i]? = if Lo ≤ i ∧ i < Lo + k then some ((dig N X (i - Lo) : Nat) : Int) else ns[i]?

theorem dig_low {N X k i : Nat} (h : i < k) : dig N (X % 2 ^ (k * N)) i = dig N X i := by
  unfold dig
  have e1 : k * N = N * i + N * (k - i) := by
    rw [← Nat.mul_add, Nat.mul_comm k N]
    congr 1; omega
  rw [e1, Nat.pow_add, Nat.mod_mul_right_div_self]
  have e2 : N * (k - i) = N + N * (k - i - 1) := by
    obtain ⟨j, hj⟩ : ∃ j, k - i = 1 + j := ⟨k - i - 1, by omega⟩
    rw [hj, Nat.mul_add, Nat.mul_one, Nat.add_sub_cancel_left]
  rw [e2, Nat.pow_add, Nat.mod_mul_right_mod]
theorem dig_high {N X k i : Nat} : dig N (X / 2 ^ (k * N)) i = dig N X (k + i) := by
  unfold dig
  rw [Nat.div_div_eq_div_mul, ← Nat.pow_add, Nat.mul_add, Nat.mul_comm k N]
theorem put_one {N X Lo : Nat} {ns : List Int} (hX : X < 2 ^ (N * 1)) (h : Lo + 1 ≤ ns.length) : PutD N 1 X Lo ns (ns.set Lo (X : Int)) := by
  refine ⟨by simp, fun i => ?_⟩
  rw [List.getElem?_set]
  by_cases e : Lo = i
  · subst e
    have : dig N X 0 = X := by
      unfold dig
      simp only [Nat.mul_zero, Nat.pow_zero, Nat.div_one]
      exact Nat.mod_eq_of_lt (by simpa using hX)
    rw [if_pos rfl, if_pos (by omega), if_pos (by omega), Nat.sub_self, this]
  · rw [if_neg e, if_neg (by omega)]
theorem put_two {N X Lo k k₁ k₂ : Nat} {ns ns₁ ns₂ : List Int} (hk : k = k₁ + k₂) (h₁ : PutD N k₁ (X % 2 ^ (k₁ * N)) Lo ns ns₁) (h₂ : PutD N k₂ (X / 2 ^ (k₁ * N)) (Lo + k₁) ns₁ ns₂) : PutD N k X Lo ns ns₂ := by
  subst hk
  refine ⟨h₂.1.trans h₁.1, fun i => ?_⟩
  rw [h₂.2, h₁.2]
  by_cases a : i < Lo
  · rw [if_neg (by omega), if_neg (by omega), if_neg (by omega)]
  by_cases b : i < Lo + k₁
  · rw [if_neg (by omega), if_pos (by omega), if_pos (by omega), dig_low (by omega)]
  by_cases c : i < Lo + k₁ + k₂
  · rw [if_pos (by omega), if_pos (by omega), dig_high]
    congr 4; omega
  · rw [if_neg (by omega), if_neg (by omega), if_neg (by omega)]
structure RecI (w : World) (f l : Addr) (N : Nat) (G : Heap → Prop) (k : Nat) : Prop where
  run : ∀ {X Lo : Nat} {x lo hi : Int} {tx tl th : Tok} {p : Program} {loose : List Str} {mean : ExcName → Option Value} {mg mb : Str → Option Value} {dp un : Nat} {gd : Option (List Code)} {cn : Str} {cs : Scope} {a : Addr} {ccd : Value} {cl : List (Str × Addr)} {outer : List Env} {A₀ : Around} {base h₀ : Heap} {L : Addr} {m : Str → Option Value} {s : Shared} {Q E : Value → Shared → Prop} {vs : List Value} {ns : List Int} {ep : Nat},
    Below A₀ base outer h₀ → Fr h₀ L s.heap m → (hd.heap_1 w.params).In h₀ → News h₀ L s.heap [(l, PySem.W.listOf vs.toArray ep)] → Top p loose mean mg mb h₀ → cs.kind = .function → G s.heap →
    x = (X : Int) → lo = (Lo : Int) → hi = (Lo : Int) + (k : Int) → IntsAre vs ns → Lo + k ≤ ns.length → ns.length ≤ 64 → X < 2 ^ (N * k) → X < 18446744073709551616 → 1 ≤ k → dp + k < recursionLimit → un + 8 * k + 16 < cLine →
    (∀ h' tk' vs' ns' ep', IntsAre vs' ns' → PutD N k X Lo ns ns' → StayT [(l, PySem.W.listOf vs.toArray ep)] s.heap h' → News h₀ L h' [(l, PySem.W.listOf vs'.toArray ep')] → Fr h₀ L h' m → Q .none { s with heap := h', toks := tk' }) →
      wpAny (model prog w) (ktrTop dp un gd cn cs L a ccd cl outer) (call (.ref f) [.int x tx, .int lo tl, .int hi th]) Q E s

theorem fnAt_of {h₀ h : Heap} {L f : Addr} {m : Str → Option Value} {fo : Obj} (F : Fr h₀ L h m) (g : h₀.get? f = some fo) (hf : ∃ fd, fo.data = .func fd) : FnAt f h := by
  obtain ⟨oc, od, dt, sl⟩ := fo
  obtain ⟨fd, e⟩ := hf
  replace e : dt = .func fd := e
  subst e
  exact ⟨oc, od, fd, sl, F.keep _ _ g⟩
theorem fnAt_news {h₀ h : Heap} {L f : Addr} {fo : Obj} {news : List (Addr × Obj)} (N : News h₀ L h ((f, fo) :: news)) (hf : ∃ fd, fo.data = .func fd) : FnAt f h := by
  obtain ⟨oc, od, dt, sl⟩ := fo
  obtain ⟨fd, e⟩ := hf
  replace e : dt = .func fd := e
  subst e
  exact ⟨oc, od, fd, sl, (N _ (.head _)).1⟩
local macro_rules | `(tactic| walk_at "callWith ref") => `(tactic| (k_here; k_dflt (refine' callWith_F ?k1 ?_; (case k1 => first | exact fnAt_news (by assumption) (by assumption) | exact fnAt_of (by k_asm) (by assumption) (by assumption)); k_whole)))
local macro_rules | `(tactic| walk_at "And") => `(tactic| ((with_reducible show FnAt _ _ ∧ _); refine ⟨by first | exact fnAt_news (by assumption) (by assumption) | exact fnAt_of (by k_asm) (by assumption) (by assumption), ?_⟩; try dsimp only [List.nil_append, List.cons_append]))
local macro_rules | `(tactic| walk_at "ite") => `(tactic| first | refine ite_pos (by (try simp only [decide_eq_true_eq, beq_iff_eq, bne_iff_ne, ne_eq]); omega) ?_ | refine ite_neg (by (try simp only [decide_eq_true_eq, beq_iff_eq, bne_iff_ne, ne_eq]); omega) ?_)
local macro_rules | `(tactic| walk_at "binaryOp RShift int int") => `(tactic| (k_here; first | ((with_reducible refine' rshift_mid ?h1 ?h2 ?_); (case h1 => with_reducible assumption); (case h2 => with_reducible assumption)) | (with_reducible refine rshift_nat ?_)))
local macro_rules | `(tactic| walk_at "binaryOp Mult int int") => `(tactic| (k_here; ((with_reducible refine' mul_sh ?h1 ?h2 ?h3 ?h4 ?_); (case h1 => with_reducible assumption); (case h2 => rfl); (case h3 => omega); (case h4 => omega))))
local macro_rules | `(tactic| walk_at "binaryOp LShift int int") => `(tactic| (k_here; ((with_reducible refine' lshift_nat ?h1 ?h2 ?_); (case h1 => with_reducible assumption); (case h2 => with_reducible assumption))))
local macro_rules | `(tactic| walk_at "binaryOp BitXor int int") => `(tactic| (k_here; (with_reducible refine xor_nat ?_)))
local macro_rules | `(tactic| walk_at "eval Name") => `(tactic| (k_here; k_dflt (refine' nameX_G ?F ?c ?o ?d ?_ ?a ?b; (case F => k_asm); (case a => rfl); (case b => rfl); (case c => rfl); (case o => assumption); (case d => assumption); k_whole)))
def numD (N A : Nat) : Nat := (Builtin.Int.intBits (A : Int) + N - 1) / N
theorem numD_zero (N : Nat) (h : 1 ≤ N) : numD N 0 = 0 := by
  unfold numD
  rw [show Builtin.Int.intBits ((0 : Nat) : Int) = 0 from rfl]
  exact Nat.div_eq_of_lt (by omega)
theorem numD_pos {N A : Nat} (h : 1 ≤ N) (hA : A ≠ 0) : 1 ≤ numD N A := by
  unfold numD
  have : 1 ≤ Builtin.Int.intBits (A : Int) := by
    unfold Builtin.Int.intBits
    rw [if_neg (by simp; exact hA)]
    omega
  exact (Nat.le_div_iff_mul_le (by omega)).mpr (by omega)
theorem numD_lt {N A : Nat} (h : 1 ≤ N) : A < 2 ^ (N * numD N A) := by
  have h1 : A < 2 ^ Builtin.Int.intBits (A : Int) := by
    unfold Builtin.Int.intBits
    split
    · rename_i e
      simp at e
      subst e
      decide
    · rw [Int.natAbs_natCast]; exact Nat.lt_log2_self
  refine Nat.lt_of_lt_of_le h1 (Nat.pow_le_pow_right (by omega) ?_)
  unfold numD
  have := Nat.div_add_mod (Builtin.Int.intBits (A : Int) + N - 1) N
  have h2 := Nat.mod_lt (Builtin.Int.intBits (A : Int) + N - 1) (show N > 0 by omega)
  omega
theorem ints_rep (t : Tok) : ∀ k, IntsAre (List.replicate k (.int 0 t)) (List.replicate k 0)
  | 0 => .nil
  | k + 1 => .cons 0 t (ints_rep t k)
theorem put_all {N K A : Nat} {ns : List Int} (h : PutD N K A 0 (List.replicate K 0) ns) : ns = (List.range K).map fun i => ((dig N A i : Nat) : Int) := by
  apply List.ext_getElem?
  intro i
  rw [h.2 i]
  simp only [Nat.zero_le, true_and, Nat.zero_add, Nat.sub_zero, List.getElem?_map]
  by_cases c : i < K
  · rw [if_pos c, List.getElem?_range c]; rfl
  · rw [if_neg c, List.getElem?_eq_none (by simp; omega), List.getElem?_eq_none (by simp; omega)]; rfl
theorem news_stay1 {h₀ h h' : Heap} {L l f : Addr} {o o' fo : Obj} {rest : List (Addr × Obj)} (N : News h₀ L h ((f, fo) :: (l, o) :: rest)) (hf : f ≠ l) (hl : ∀ p ∈ rest, p.1 ≠ l) (st : StayT [(l, o)] h h') (N' : News h₀ L h' [(l, o')]) :
    News h₀ L h' ((f, fo) :: (l, o') :: rest) := by
  intro q hq
  rcases List.mem_cons.mp hq with rfl | hq
  · exact ⟨st _ _ (by simpa using hf) (N _ (.head _)).1, (N _ (.head _)).2⟩
  rcases List.mem_cons.mp hq with rfl | hq
  · exact N' _ (.head _)
  · have := N q (.tail _ (.tail _ hq))
    exact ⟨st _ _ (by simpa using hl q hq) this.1, this.2⟩
theorem c_int2digits {w : World} {A N : Nat} {ta tn : Tok} (hA : A < 18446744073709551616) (hN1 : 1 ≤ N) (hN2 : N ≤ 64) : Ctr w 52 80 600 [.int (A : Int) ta, .int (N : Int) tn] (fun _ _ => True)
    (fun g h v => ∃ l vs ep, v = .ref l ∧ g.objs.size ≤ l ∧ h.get? l = some (PySem.W.listOf vs.toArray ep) ∧ IntsAre vs ((List.range (numD N A)).map fun i => ((dig N A i : Nat) : Int))) := by
  have hbl : Builtin.Int.intBits (A : Int) ≤ 64 := intBits_le (by omega) (by omega)
  k_dflt (refine' ctr_cells (binds := [(Str.ofString "a", .int (A : Int) ta), (Str.ofString "n", .int (N : Int) tn)]) ?k6 ?k7 ?k1 ?k9 ?kB ?kD ?c2 ?c3 ?c4 ?_; (case k6 => k_is); (case k7 => k_is); (case k1 => decide); (case k9 => intro s; exact BindsTo.of_eq rfl); (case kB => exact rfl); (case kD => decide +kernel); (case c2 => exact rfl); (case c3 => exact rfl); (case c4 => exact rfl))
  intro p loose mean mg mb dp un gd outer A₀ base g₀ g L tabs cells s Q hd hu hL st F NN hlt Y TL B X T hpre hret
  obtain ⟨oI, oA, oN, rfl, dI, dA, dN⟩ := CellsAre.three Y
  replace dI : oI.data = .cell none := dI
  replace dA : oA.data = .cell none := dA
  replace dN : oN.data = .cell (some (.int (N : Int) tn)) := dN
  clear Y
  dsimp only [List.cons_append, List.nil_append] at NN
  obtain ⟨t₁, t₂, t₃, codes, rfl, G₁, G₂, G₃, hcod⟩ := TL.of
  have hcL : ∀ p ∈ codes, p.1 < L := fun p hp => hlt p (.tail _ (.tail _ (.tail _ hp)))
  have hc0 : ∀ p ∈ codes, p.1 ≠ 47 := fun p hp => (hcod p hp).2.2
  have hc1 : ∀ p ∈ codes, p.1 ≠ L + 1 := fun p hp => Nat.ne_of_lt (Nat.lt_succ_of_lt (hcL p hp))
  have hc2 : ∀ p ∈ codes, p.1 ≠ L + 1 + 1 := fun p hp => Nat.ne_of_lt (Nat.lt_succ_of_lt (Nat.lt_succ_of_lt (hcL p hp)))
  have hc3 : ∀ p ∈ codes, p.1 ≠ L + 1 + 1 + 1 := fun p hp => Nat.ne_of_lt (Nat.lt_succ_of_lt (Nat.lt_succ_of_lt (Nat.lt_succ_of_lt (hcL p hp))))
  have q1 := ltN (hlt _ (.head _))
  have q2 := ltN (hlt _ (.tail _ (.head _)))
  have q3 := ltN (hlt _ (.tail _ (.tail _ (.head _))))
  dsimp only at q1 q2 q3
  k_steps
  have hKe : ((Builtin.Int.intBits (A : Int) : Int) + (N : Int) - 1).fdiv (N : Int) = ((numD N A : Nat) : Int) := by
    unfold numD
    rw [Int.fdiv_eq_ediv_of_nonneg _ (by omega)]
    have : ((Builtin.Int.intBits (A : Int) : Int) + (N : Int) - 1) = ((Builtin.Int.intBits (A : Int) + N - 1 : Nat) : Int) := by omega
    rw [this]
    rfl
  have hK64 : numD N A ≤ 64 := by
    unfold numD
    exact Nat.div_le_of_le_mul (by omega)
  rw [hKe]
  rename Fr _ _ _ _ => F₂
  rename News _ _ _ _ => N₂
  refine mul_one F₂ N₂ (.head _) (by omega) (by omega) ?_
  intro l h₃ F₃ N₃ l₃
  k_lt l₃
  clear N₂ F₂
  k_steps
  k_dflt (refine' nestDef_K ?d0 ?k0 ?a0 ?_; (case d0 => exact rfl); (case k0 => exact rfl); (case a0 => exact rfl))
  rename_i h₄ oA' F₄ N₄ dA'
  have hC : CodeHd g 51 47 := codeHd_of_K X (by kernel_rfl)
  k_dflt (refine' nest_any (q := qC) (codes := codes) F₄ N₄ T hC ?cd ?U G₃ ?m1 (fun p hp => (hcod p hp).2.2) ?hq ?cl ?_; (case cd => exact rfl); (case U => k_updF); (case m1 => (intro pp hpp; repeat (first | exact hpp | refine List.Mem.tail _ ?_))); (case hq => kernel_rfl); (case cl => exact rfl))
  intro f c' oc cvs ctk ctv doc h₅ tk₅ ps' codes' F₅ N₅ Nc₅ G₅ hcm hcdat hcv hsub hnew hlf hlfc
  try dsimp only at N₅
  have N₆ := SufOf.swap (t := codes) (t' := codes') (by tb_rel) N₅ Nc₅
  try dsimp only at N₆
  obtain ⟨fo, hfo, N₆⟩ := named_of N₆
  k_lt hlf
  have hcn : ∀ q, (∀ p ∈ codes, p.1 ≠ q) → q < l → ∀ p ∈ codes', p.1 ≠ q := fun q h1 h2 p hp => by
    rcases hnew p hp with h | h
    · exact h1 p h
    · exact Nat.ne_of_gt (Nat.lt_trans h2 (h _ (.head _)))
  clear N₅ Nc₅
  have e0 : ∀ p ∈ codes', p.1 ≠ l := fun p hp => by
    rcases hnew p hp with h | h
    · exact Nat.ne_of_lt (Nat.lt_trans (hcL p h) (Nat.lt_trans (Nat.lt_succ_self _) l₃.2.2.2.1))
    · exact Nat.ne_of_gt (h _ (.head _))
  have e1 : ∀ p ∈ codes', p.1 ≠ L + 1 + 1 + 1 := hcn _ hc3 l₃.2.1
  have e2 : ∀ p ∈ codes', p.1 ≠ L + 1 + 1 := hcn _ hc2 l₃.2.2.1
  have e3 : ∀ p ∈ codes', p.1 ≠ L + 1 := hcn _ hc1 l₃.2.2.2.1
  k_dflt (refine' storeX_C ?F ?N ?c ?U ?d ?_ ?a ?b; (case a => rfl); (case b => rfl); (case F => k_asm); (case N => k_asm); (case c => rfl); (case U => k_updF); (case d => k_asm))
  intro h₆ oi F₆ N₆ hoi
  try dsimp only at N₆
  obtain ⟨G, hG⟩ : ∃ G : Heap → Prop, G = fun h => h.get? f = some fo ∧ h.get? (L + 1 + 1 + 1) = some oi ∧ h.get? (L + 1 + 1) = some oA' ∧ h.get? (L + 1) = some oN ∧ h.get? c' = some oc := ⟨_, rfl⟩
  have hfd : ∃ fd, fo.data = .func fd := ⟨_, by rw [hfo]⟩
  have hI₀ := ints_rep s.toks (numD N A)
  rw [Int.toNat_natCast] at N₆
  have hlr : (List.replicate (numD N A) (Value.int 0 s.toks)).length = numD N A := List.length_replicate
  generalize List.replicate (numD N A) (Value.int 0 s.toks) = vs₀ at N₆ hI₀ hlr
  have key : ∀ k : Nat, RecI w f l N G k := by
    clear hret N₆ F₆ TL
    intro k
    induction k using Nat.strongRecOn with
    | ind k ih =>
      constructor
      intro X Lo xi lo hi tx tl th p' loose' mean' mg' mb' dp' un' gd' cn' cs' a' ccd' cl' outer' A₀' base' h₀' L' m' s' Q' E' vs ns ep B' F' X' N' T' hk' hG' hxi hlo hhi hI hLo hlen hX hX64 hk1 hd' hu' hret'
      subst hxi
      rw [hG] at hG'
      obtain ⟨g1, g2, g3, g4, g5⟩ := hG'
      have hcr : s'.heap.CodeRec (.ref c') _ := ⟨c', oc, cvs, ctk, rfl, g5, hcdat, hcv⟩
      k_dflt (refine' call_inner (binds := [(Str.ofString "x", .int (X : Int) tx), (Str.ofString "L", .int lo tl), (Str.ofString "R", .int hi th)]) B' F' X' N' T' hk' g1 (by rw [hfo]) hcr ?room ?kb ?kl ?_ ?c2 ?c3 ?c4 ?c5; (case room => omega); (case kb => exact BindsTo.of_eq rfl); (case kl => exact locs rfl); (case c2 => exact rfl); (case c3 => exact rfl); (case c4 => exact rfl); (case c5 => decide))
      clear B' X' T'
      intro A₁ outer₁ g₂ L₂ h₇ tk₇ st₂ eL₂ F₇ N₇ B₂ X₂ T₂
      have gF : g₂.get? f = some fo := st₂ _ _ (by simp; exact Nat.ne_of_gt hlf.1) g1
      have gI : g₂.get? (L + 1 + 1 + 1) = some oi := st₂ _ _ (by simp; exact Nat.ne_of_lt l₃.2.1) g2
      have gA : g₂.get? (L + 1 + 1) = some oA' := st₂ _ _ (by simp; exact Nat.ne_of_lt l₃.2.2.1) g3
      have gN : g₂.get? (L + 1) = some oN := st₂ _ _ (by simp; exact Nat.ne_of_lt l₃.2.2.2.1) g4
      have gC : g₂.get? c' = some oc := st₂ _ _ (by simp; exact e0 _ hcm) g5
      have hvl : vs.length = ns.length := IntsAre.length hI
      by_cases hk : k = 1
      · subst hk
        k_steps
        rename Fr _ _ _ _ => F₈
        rename News _ _ _ _ => N₈
        rename IntsAre _ _ => hI₈
        refine hret' _ _ _ _ _ hI₈ ?_ (fun b o hb e => F₈.keep b o (st₂ b o hb e)) (fun p hp => ⟨(N₈ p hp).1, by
          cases hp with
          | head => exact (N' _ (.head _)).2
          | tail _ hp => cases hp⟩) ?_
        · subst hlo
          rw [Int.toNat_natCast]
          exact put_one hX hLo
        · exact stay_fr F' N' (fun b o hb e => F₈.keep b o (st₂ b o hb e))
      · have hX1 : X / 2 ^ (k / 2 * N) < 18446744073709551616 := Nat.lt_of_le_of_lt (Nat.div_le_self _ _) hX64
        have hS : k / 2 * N ≤ 1000000 := Nat.le_trans (Nat.mul_le_mul (show k / 2 ≤ 64 by omega) hN2) (by decide)
        k_steps
        rename Fr _ _ _ _ => F₈
        rename News _ _ _ _ => N₈
        refine (ih (k / 2) (by omega)).run B₂ F₈ X₂ N₈ T₂ rfl (by rw [hG]; exact ⟨F₈.keep _ _ gF, F₈.keep _ _ gI, F₈.keep _ _ gA, F₈.keep _ _ gN, F₈.keep _ _ gC⟩) rfl hlo rfl hI (by omega) hlen ?hX ?hX6 (by omega) (by omega) (by omega) ?_
        case hX => rw [Nat.mul_comm N]; exact Nat.mod_lt _ (Nat.two_pow_pos _)
        case hX6 => exact Nat.lt_of_le_of_lt (Nat.mod_le _ _) hX64
        intro h₉ tk₉ vs₉ ns₉ ep₉ hI₉ hP₉ st₉ N₉ F₉
        have hl₉ : ns₉.length = ns.length := hP₉.1
        clear st₉ N₈ F₈
        k_steps
        rename Fr _ _ _ _ => F₈
        rename News _ _ _ _ => N₈
        refine (ih (k - k / 2) (by omega)).run (Lo := Lo + k / 2) B₂ F₈ X₂ N₈ T₂ rfl (by rw [hG]; exact ⟨F₈.keep _ _ gF, F₈.keep _ _ gI, F₈.keep _ _ gA, F₈.keep _ _ gN, F₈.keep _ _ gC⟩) rfl ?hlo ?hhi hI₉ (by omega) (by omega) ?hX hX1 (by omega) (by omega) (by omega) ?_
        case hlo => omega
        case hhi => omega
        case hX =>
          refine Nat.div_lt_of_lt_mul ?_
          rw [← Nat.pow_add, Nat.mul_comm (k / 2), ← Nat.mul_add]
          rwa [show k / 2 + (k - k / 2) = k by omega]
        intro h₁₀ tk₁₀ vs₁₀ ns₁₀ ep₁₀ hI₁₀ hP₁₀ st₁₀ N₁₀ F₁₀
        clear st₁₀ N₈ F₈
        k_steps
        refine hret' _ _ _ _ _ hI₁₀ (put_two (by omega) hP₉ hP₁₀) (fun b o hb e => F₁₀.keep b o (st₂ b o hb e)) (fun p hp => ⟨(N₁₀ p hp).1, by
          cases hp with
          | head => exact (N' _ (.head _)).2
          | tail _ hp => cases hp⟩) (stay_fr F' N' (fun b o hb e => F₁₀.keep b o (st₂ b o hb e)))
  have hls : vs₀.toArray.size = numD N A := hlr
  have TL' : TabL3 ((99, tabObj t₁) :: (54, tabObj t₂) :: (47, tabObj ps') :: codes') := ⟨t₁, t₂, ps', codes', rfl, G₁.mono hsub, G₂.mono hsub, G₅, fun p hp =>
    ⟨hcn 99 (fun p hp => (hcod p hp).1) l₃.2.2.2.2.1 p hp, hcn 54 (fun p hp => (hcod p hp).2.1) l₃.2.2.2.2.2.1 p hp, hcn 47 (fun p hp => (hcod p hp).2.2) l₃.2.2.2.2.2.2.1 p hp⟩⟩
  have ht : ∀ p ∈ (99, tabObj t₁) :: (54, tabObj t₂) :: (47, tabObj ps') :: codes', p.1 ∈ ((99, tabObj t₁) :: (54, tabObj t₂) :: (47, tabObj t₃) :: codes).map (·.1) ∨ L ≤ p.1 := by
    intro p hp
    rcases List.mem_cons.mp hp with rfl | hp
    · exact .inl (by simp)
    rcases List.mem_cons.mp hp with rfl | hp
    · exact .inl (by simp)
    rcases List.mem_cons.mp hp with rfl | hp
    · exact .inl (by simp)
    rcases hnew p hp with h | h
    · exact .inl (by simp only [List.map_cons]; exact .tail _ (.tail _ (.tail _ (List.mem_map_of_mem h))))
    · exact .inr (Nat.le_trans (Nat.le_add_right L 1) (Nat.le_of_lt (h _ (.tail _ (.tail _ (.tail _ (.tail _ (.head _))))))))
  have hLl : g₀.objs.size ≤ l := by
    rw [hL]
    exact Nat.le_of_lt (Nat.lt_trans (Nat.lt_succ_self _) l₃.2.2.2.1)
  clear F₅ F₄ N₄
  k_steps
  · rename_i hA0
    have hA0' : A ≠ 0 := fun e => hA0 (by rw [e]; rfl)
    rename Fr _ _ _ _ => F₈
    rename News _ _ _ _ => N₈
    refine (key (numD N A)).run (Lo := 0) B F₈ X (fun p hp => by cases hp with | head => exact N₈ _ (.tail _ (.head _)) | tail _ hp => cases hp) T rfl
      (by rw [hG]; exact ⟨(N₈ _ (.head _)).1, (N₈ _ (.tail _ (.tail _ (.tail _ (.head _))))).1, (N₈ _ (.tail _ (.tail _ (.tail _ (.tail _ (.head _)))))).1, (N₈ _ (.tail _ (.tail _ (.tail _ (.tail _ (.tail _ (.head _))))))).1, (N₈ _ (.tail _ (.tail _ (.tail _ (.tail _ (.tail _ (.tail _ (.tail _ (.tail _ (.tail _ hcm)))))))))).1⟩) rfl ?lo ?hi hI₀ (by simp) (by simp; omega) (numD_lt hN1) hA (numD_pos hN1 hA0') (by omega) (by omega) ?_
    case lo => rfl
    case hi => omega
    intro h₉ tk₉ vs₉ ns₉ ep₉ hI₉ hP₉ st₉ N₉ F₉
    have hns := put_all hP₉
    have N₁₀ := news_stay1 N₈ (Nat.ne_of_gt hlf.1) (List.forall_mem_cons.mpr ⟨Nat.ne_of_lt l₃.1, List.forall_mem_cons.mpr ⟨Nat.ne_of_lt l₃.2.1, List.forall_mem_cons.mpr ⟨Nat.ne_of_lt l₃.2.2.1, List.forall_mem_cons.mpr ⟨Nat.ne_of_lt l₃.2.2.2.1, List.forall_mem_cons.mpr ⟨Nat.ne_of_lt l₃.2.2.2.2.1, List.forall_mem_cons.mpr ⟨Nat.ne_of_lt l₃.2.2.2.2.2.1, List.forall_mem_cons.mpr ⟨Nat.ne_of_lt l₃.2.2.2.2.2.2.1, e0⟩⟩⟩⟩⟩⟩⟩) st₉ N₉
    clear N₈ F₈ N₉ hlr hls
    k_steps
    exact hret _ _ _ _ _ (by k_asm) (fun p hp => N₁₀ p (.tail _ (.tail _ (.tail _ (.tail _ (.tail _ (.tail _ hp))))))) TL' ht ⟨l, vs₉, ep₉, rfl, hLl, (N₁₀ _ (.tail _ (.head _))).1, hns ▸ hI₉⟩
  · rename_i hA0
    have hA0' : A = 0 := by omega
    rename Fr _ _ _ _ => F₈
    rename News _ _ _ _ => N₈
    refine hret _ _ _ _ _ F₈ (fun p hp => N₈ p (.tail _ (.tail _ (.tail _ (.tail _ (.tail _ (.tail _ hp))))))) TL' ht ⟨l, vs₀, 0, rfl, hLl, (N₈ _ (.tail _ (.head _))).1, ?_⟩
    subst hA0'
    rw [numD_zero N hN1] at hI₀ ⊢
    exact hI₀
end Mine
end
section
open PySem PySem.W PyProof.Rows PySem.Calls
namespace Mine
theorem fresh_D2_2 : True := by (w_top off); trivial
set_option maxRecDepth 100000
set_option maxHeartbeats 4000000
theorem fill_D2_2 : (fun (_ : OpenLaw) (_ : Params → Frag) => True) PySem.Challenge.rw_ik0125_02 hd.heap_1 := by k_fill; trivial
local macro_rules | `(tactic| tb_rel) => `(tactic| first | exact SufOf.base | (refine' SufOf.cons ?a; (case a => tb_rel)))
local macro_rules | `(tactic| k_all) => `(tactic| first | assumption | exact allLt_ne (by assumption))
def und (N : Nat) : List Nat → Nat
  | [] => 0
  | d :: ds => d + 2 ^ N * und N ds
theorem und_append (N : Nat) : ∀ a b : List Nat, und N (a ++ b) = und N a + 2 ^ (a.length * N) * und N b
  | [], b => by simp [und]
  | d :: a, b => by
    rw [List.cons_append, und, und, und_append N a b, List.length_cons, Nat.add_mul, Nat.one_mul, Nat.pow_add, Nat.mul_add]
    rw [Nat.mul_comm (2 ^ (a.length * N)) (2 ^ N), Nat.mul_assoc]; omega
theorem und_lt {N : Nat} : ∀ {ds : List Nat}, (∀ d ∈ ds, d < 2 ^ N) → und N ds < 2 ^ (N * ds.length)
  | [], _ => by simp [und]
  | d :: ds, h => by
    have h1 := h d (.head _)
    have h2 := und_lt (ds := ds) fun d hd => h d (.tail _ hd)
    rw [und, List.length_cons, Nat.mul_add, Nat.mul_one, Nat.add_comm (N * ds.length), Nat.pow_add]
    have : 2 ^ N * und N ds ≤ 2 ^ N * (2 ^ (N * ds.length) - 1) := Nat.mul_le_mul_left _ (by omega)
    rw [Nat.mul_sub, Nat.mul_one] at this
    have h3 : 2 ^ N ≤ 2 ^ N * 2 ^ (N * ds.length) := Nat.le_mul_of_pos_right _ (Nat.two_pow_pos _)
    omega
theorem seg_split {N : Nat} {ds : List Nat} {Lo k : Nat} (h : Lo + k ≤ ds.length) : und N ((ds.drop Lo).take k) = und N ((ds.drop (Lo + k / 2)).take (k - k / 2)) * 2 ^ (k / 2 * N) + und N ((ds.drop Lo).take (k / 2)) := by
  have e : (ds.drop Lo).take k = (ds.drop Lo).take (k / 2) ++ (ds.drop (Lo + k / 2)).take (k - k / 2) := by
    have : k = k / 2 + (k - k / 2) := by omega
    conv => lhs; rw [this, List.take_add]
    rw [List.drop_drop]
  rw [e, und_append, List.length_take, List.length_drop, Nat.min_eq_left (by omega), Nat.mul_comm (2 ^ _)]
  omega
theorem seg_lt {N : Nat} {ds : List Nat} (hd : ∀ d ∈ ds, d < 2 ^ N) (hl : N * ds.length ≤ 64) (a b : Nat) (hb : b < ds.length) : und N ((ds.drop a).take b) < 18446744073709551616 := by
  by_cases hN : N = 0
  · subst hN
    have := und_lt (N := 0) (ds := (ds.drop a).take b) (fun d h => hd d (List.mem_of_mem_drop (List.mem_of_mem_take h)))
    rw [Nat.zero_mul] at this; omega
  refine Nat.lt_of_lt_of_le (und_lt (fun d h => hd d (List.mem_of_mem_drop (List.mem_of_mem_take h)))) ?_
  refine Nat.le_trans (Nat.pow_le_pow_right (by omega) ?_) (show 2 ^ 64 ≤ 18446744073709551616 by decide)
  refine Nat.le_trans (Nat.mul_le_mul_left N ?_) hl
  rw [List.length_take]; omega
theorem ints_at {vs : List Value} {ns : List Int} (h : IntsAre vs ns) : ∀ (i : Nat) (n : Int), ns[i]? = some n → ∃ t, vs[i]? = some (.int n t) := by
  induction h with
  | nil => intro i n e; simp at e
  | cons m t _ ih =>
    intro i n e
    cases i with
    | zero => simp at e; subst e; exact ⟨t, rfl⟩
    | succ i => exact ih i n (by simpa using e)

theorem take_one {N : Nat} {ds : List Nat} {Lo : Nat} (h : Lo + 1 ≤ ds.length) : und N ((ds.drop Lo).take 1) = ds[Lo] := by
  rw [List.drop_eq_getElem_cons h]
  simp only [List.take_succ_cons, List.take_zero, und, Nat.mul_zero, Nat.add_zero]
structure RecD (w : World) (f : Addr) (N : Nat) (ds : List Nat) (G : Heap → Prop) (k : Nat) : Prop where
  run : ∀ {Lo : Nat} {lo hi : Int} {tl th : Tok} {p : Program} {loose : List Str} {mean : ExcName → Option Value} {mg mb : Str → Option Value} {dp un : Nat} {gd : Option (List Code)} {cn : Str} {cs : Scope} {a : Addr} {ccd : Value} {cl : List (Str × Addr)} {outer : List Env} {A₀ : Around} {base h₀ : Heap} {L : Addr} {m : Str → Option Value} {s : Shared} {Q E : Value → Shared → Prop},
    Below A₀ base outer h₀ → Fr h₀ L s.heap m → (hd.heap_1 w.params).In h₀ → Top p loose mean mg mb h₀ → cs.kind = .function → G s.heap →
    lo = (Lo : Int) → hi = (Lo : Int) + (k : Int) → Lo + k ≤ ds.length → 1 ≤ k → dp + k < recursionLimit → un + 8 * k + 16 < cLine →
    (∀ h' tk' t, (∀ b o, s.heap.get? b = some o → h'.get? b = some o) → Q (.int ((und N ((ds.drop Lo).take k) : Nat) : Int) t) { s with heap := h', toks := tk' }) →
      wpAny (model prog w) (ktrTop dp un gd cn cs L a ccd cl outer) (call (.ref f) [.int lo tl, .int hi th]) Q E s
section
variable {prog : Program} {w : World} {A : Around} {E : Value → Shared → Prop} {s : Shared} {h₀ : Heap} {L l : Addr} {m : Str → Option Value} {vs : List Value} {ep : Nat}
theorem truthy_gl {Q : Bool → Shared → Prop} (F : Fr h₀ L s.heap m) (g : h₀.get? l = some (PySem.W.listOf vs.toArray ep)) (hz : vs.length ≤ 64) (h : Q (decide (0 < vs.length)) { s with toks := s.toks + 1 + 1 }) : wpAny (model prog w) A (truthy (.ref l)) Q E s :=
  wpAny_truthy_list (PySem.IsL.isList (n := ep) (F.keep _ _ g)) (by simp; omega) (by
    have e : (!vs.toArray.isEmpty) = decide (0 < vs.length) := by cases vs <;> simp
    rw [e]; exact h)
theorem len_gl {Q : Value → Shared → Prop} {n : Nat} (F : Fr h₀ L s.heap m) (g : h₀.get? l = some (PySem.W.listOf vs.toArray ep)) (hn : vs.length = n) (hz : n ≤ 64) (h : Q (.int (n : Nat) (s.toks + 1)) { s with toks := s.toks + 1 + 1 }) : wpAny (model prog w) A (call (.builtin "len") [.ref l]) Q E s := by
  subst hn
  exact Calls.call_len_list (PySem.IsL.isList (n := ep) (F.keep _ _ g)) (by simp; omega) h
theorem sub_gl {value slice : PySem.Expr} {k : Int} {u : Tok} {v : Value} {Q : Value → Shared → Prop} (F : Fr h₀ L s.heap m) (g : h₀.get? l = some (PySem.W.listOf vs.toArray ep)) (h0 : 0 ≤ k) (h1 : k < 64) (hx : vs[k.toNat]? = some v) (h : Q v s)
    (hs : subscripted slice false (.ref l) (.int k u) = operate [.ref l, .int k u] (getItem (.ref l) (.int k u)) := by with_unfolding_all rfl) :
    wpAny (model prog w) A (subscriptTail value slice (.ref l) (.int k u)) Q E s :=
  have hl := PySem.IsL.isList (n := ep) (F.keep _ _ g)
  tail_any hl.typeIs slot_list_getitem.lookup (wpAny_getItem_list hl h0 (by omega) (by simpa using hx) h) hs
end
local macro_rules | `(tactic| walk_at "truthy ref") => `(tactic| (k_here; k_dflt (refine truthy_gl (by k_asm) (by assumption) (by omega) ?_)))
local macro_rules | `(tactic| walk_at "call builtin:len") => `(tactic| (k_here; k_dflt (refine len_gl (by k_asm) (by assumption) (by assumption) (by omega) ?_)))
local macro_rules | `(tactic| walk_at "subscriptTail") => `(tactic| (k_here; k_dflt (refine sub_gl (by k_asm) (by assumption) (by omega) (by omega) (by assumption) ?_)))
local macro_rules | `(tactic| walk_at "callWith ref") => `(tactic| (k_here; k_dflt (refine' callWith_F ?k1 ?_; (case k1 => first | exact fnAt_news (by assumption) (by assumption) | exact fnAt_of (by k_asm) (by assumption) (by assumption)); k_whole)))
local macro_rules | `(tactic| walk_at "And") => `(tactic| ((with_reducible show FnAt _ _ ∧ _); refine ⟨by first | exact fnAt_news (by assumption) (by assumption) | exact fnAt_of (by k_asm) (by assumption) (by assumption), ?_⟩; try dsimp only [List.nil_append, List.cons_append]))
local macro_rules | `(tactic| walk_at "ite") => `(tactic| first | refine ite_pos (by (try simp only [decide_eq_true_eq, beq_iff_eq, bne_iff_ne, ne_eq]); omega) ?_ | refine ite_neg (by (try simp only [decide_eq_true_eq, beq_iff_eq, bne_iff_ne, ne_eq]); omega) ?_)
local macro_rules | `(tactic| walk_at "binaryOp RShift int int") => `(tactic| (k_here; first | ((with_reducible refine' rshift_mid ?h1 ?h2 ?_); (case h1 => with_reducible assumption); (case h2 => with_reducible assumption)) | (with_reducible refine rshift_nat ?_)))
local macro_rules | `(tactic| walk_at "binaryOp Mult int int") => `(tactic| (k_here; ((with_reducible refine' mul_sh ?h1 ?h2 ?h3 ?h4 ?_); (case h1 => with_reducible assumption); (case h2 => rfl); (case h3 => omega); (case h4 => omega))))
local macro_rules | `(tactic| walk_at "binaryOp LShift int int") => `(tactic| (k_here; ((with_reducible refine' lshift_nat ?h1 ?h2 ?_); (case h1 => with_reducible assumption); (case h2 => with_reducible assumption))))
local macro_rules | `(tactic| walk_at "eval Name") => `(tactic| (k_here; k_dflt (refine' nameX_G ?F ?c ?o ?d ?_ ?a ?b; (case F => k_asm); (case a => rfl); (case b => rfl); (case c => rfl); (case o => assumption); (case d => assumption); k_whole)))

theorem c_digits2int {w : World} {N : Nat} {l : Addr} {ep : Nat} {vs : List Value} {ds : List Nat} {tn : Tok} (hN1 : 1 ≤ N) (hI : IntsAre vs (ds.map fun (d : Nat) => (d : Int))) (hdig : ∀ d ∈ ds, d < 2 ^ N) (hlen : N * ds.length ≤ 64) :
    Ctr w 59 80 600 [.ref l, .int (N : Int) tn] (fun tabs h => h.get? l = some (PySem.W.listOf vs.toArray ep) ∧ l ∉ tabs.map (·.1)) (fun g h v => ∃ t, v = .int ((und N ds : Nat) : Int) t) := by
  have hl64 : ds.length ≤ 64 := Nat.le_trans (Nat.le_mul_of_pos_left _ (by omega)) hlen
  have hN2 : ds ≠ [] → N ≤ 64 := fun h => Nat.le_trans (Nat.le_mul_of_pos_right _ (List.length_pos_iff.mpr h)) hlen
  have hvl : vs.length = ds.length := by have := IntsAre.length hI; simpa using this
  k_dflt (refine' ctr_cells (binds := [(Str.ofString "digits", .ref l), (Str.ofString "n", .int (N : Int) tn)]) ?k6 ?k7 ?k1 ?k9 ?kB ?kD ?c2 ?c3 ?c4 ?_; (case k6 => k_is); (case k7 => k_is); (case k1 => decide); (case k9 => intro s; exact BindsTo.of_eq rfl); (case kB => exact rfl); (case kD => decide +kernel); (case c2 => exact rfl); (case c3 => exact rfl); (case c4 => exact rfl))
  intro p loose mean mg mb dp un gd outer A₀ base g₀ g L tabs cells s Q hd hu hL st F NN hlt Y TL B X T hpre hret
  obtain ⟨oI, oN, oD, rfl, dI, dN, dD⟩ := CellsAre.three Y
  replace dI : oI.data = .cell none := dI
  replace dD : oD.data = .cell (some (.ref l)) := dD
  replace dN : oN.data = .cell (some (.int (N : Int) tn)) := dN
  clear Y
  dsimp only [List.cons_append, List.nil_append] at NN
  have gl : g.get? l = some (PySem.W.listOf vs.toArray ep) := st _ _ hpre.2 hpre.1
  obtain ⟨t₁, t₂, t₃, codes, rfl, G₁, G₂, G₃, hcod⟩ := TL.of
  have hcL : ∀ p ∈ codes, p.1 < L := fun p hp => hlt p (.tail _ (.tail _ (.tail _ hp)))
  have hc0 : ∀ p ∈ codes, p.1 ≠ 54 := fun p hp => (hcod p hp).2.1
  have hc1 : ∀ p ∈ codes, p.1 ≠ L + 1 := fun p hp => Nat.ne_of_lt (Nat.lt_succ_of_lt (hcL p hp))
  have hc2 : ∀ p ∈ codes, p.1 ≠ L + 1 + 1 := fun p hp => Nat.ne_of_lt (Nat.lt_succ_of_lt (Nat.lt_succ_of_lt (hcL p hp)))
  have hc3 : ∀ p ∈ codes, p.1 ≠ L + 1 + 1 + 1 := fun p hp => Nat.ne_of_lt (Nat.lt_succ_of_lt (Nat.lt_succ_of_lt (Nat.lt_succ_of_lt (hcL p hp))))
  have q1 := ltN (hlt _ (.head _))
  have q2 := ltN (hlt _ (.tail _ (.head _)))
  have q3 := ltN (hlt _ (.tail _ (.tail _ (.head _))))
  dsimp only at q1 q2 q3
  k_steps
  k_dflt (refine' nestDef_K ?d0 ?k0 ?a0 ?_; (case d0 => exact rfl); (case k0 => exact rfl); (case a0 => exact rfl))
  have hC : CodeHd g 58 54 := codeHd_of_K X (by kernel_rfl)
  k_dflt (refine' nest_any (q := qB) (codes := codes) F NN T hC ?cd ?U G₂ ?m1 (fun p hp => (hcod p hp).2.1) ?hq ?cl ?_; (case cd => exact rfl); (case U => k_updF); (case m1 => (intro pp hpp; repeat (first | exact hpp | refine List.Mem.tail _ ?_))); (case hq => kernel_rfl); (case cl => exact rfl))
  intro f c' oc cvs ctk ctv doc h₅ tk₅ ps' codes' F₅ N₅ Nc₅ G₅ hcm hcdat hcv hsub hnew hlf hlfc
  try dsimp only at N₅
  have N₆ := SufOf.swap (t := codes) (t' := codes') (by tb_rel) N₅ Nc₅
  try dsimp only at N₆
  obtain ⟨fo, hfo, N₆⟩ := named_of N₆
  k_lt hlf
  have hcn : ∀ q, (∀ p ∈ codes, p.1 ≠ q) → q < L + 1 + 1 + 1 → ∀ p ∈ codes', p.1 ≠ q := fun q h1 h2 p hp => by
    rcases hnew p hp with h | h
    · exact h1 p h
    · exact Nat.ne_of_gt (Nat.lt_trans h2 (h _ (.head _)))
  have e1 : ∀ p ∈ codes', p.1 ≠ L + 1 + 1 + 1 := fun p hp => by
    rcases hnew p hp with h | h
    · exact hc3 p h
    · exact Nat.ne_of_gt (h _ (.head _))
  have e2 : ∀ p ∈ codes', p.1 ≠ L + 1 + 1 := hcn _ hc2 (Nat.lt_succ_self _)
  have e3 : ∀ p ∈ codes', p.1 ≠ L + 1 := hcn _ hc1 (Nat.lt_succ_of_lt (Nat.lt_succ_self _))
  k_dflt (refine' storeX_C ?F ?N ?c ?U ?d ?_ ?a ?b; (case a => rfl); (case b => rfl); (case F => k_asm); (case N => k_asm); (case c => rfl); (case U => k_updF); (case d => k_asm))
  intro h₆ oi F₆ N₆ hoi
  try dsimp only at N₆
  obtain ⟨G, hG⟩ : ∃ G : Heap → Prop, G = fun h => h.get? f = some fo ∧ h.get? (L + 1 + 1 + 1) = some oi ∧ h.get? (L + 1 + 1) = some oN ∧ h.get? (L + 1) = some oD ∧ h.get? c' = some oc ∧ h.get? l = some (PySem.W.listOf vs.toArray ep) := ⟨_, rfl⟩
  have hfd : ∃ fd, fo.data = .func fd := ⟨_, by rw [hfo]⟩
  clear N₅ Nc₅
  have key : ∀ k : Nat, RecD w f N ds G k := by
    clear hret N₆ F₆ TL F₅ F NN
    intro k
    induction k using Nat.strongRecOn with
    | ind k ih =>
      constructor
      intro Lo lo hi tl th p' loose' mean' mg' mb' dp' un' gd' cn' cs' a' ccd' cl' outer' A₀' base' h₀' L' m' s' Q' E' B' F' X' T' hk' hG' hlo hhi hLo hk1 hd' hu' hret'
      rw [hG] at hG'
      obtain ⟨g1, g2, g3, g4, g5, g6⟩ := hG'
      have hcr : s'.heap.CodeRec (.ref c') _ := ⟨c', oc, cvs, ctk, rfl, g5, hcdat, hcv⟩
      k_dflt (refine' call_inner (tabs := []) (binds := [(Str.ofString "L", .int lo tl), (Str.ofString "R", .int hi th)]) B' F' X' News.nil T' hk' g1 (by rw [hfo]) hcr ?room ?kb ?kl ?_ ?c2 ?c3 ?c4 ?c5; (case room => omega); (case kb => exact BindsTo.of_eq rfl); (case kl => exact locs rfl); (case c2 => exact rfl); (case c3 => exact rfl); (case c4 => exact rfl); (case c5 => decide))
      clear B' X' T' F'
      intro A₁ outer₁ g₂ L₂ h₇ tk₇ st₂ eL₂ F₇ N₇ B₂ X₂ T₂
      have gF : g₂.get? f = some fo := st₂ _ _ (by simp) g1
      have gI : g₂.get? (L + 1 + 1 + 1) = some oi := st₂ _ _ (by simp) g2
      have gN : g₂.get? (L + 1 + 1) = some oN := st₂ _ _ (by simp) g3
      have gD : g₂.get? (L + 1) = some oD := st₂ _ _ (by simp) g4
      have gC : g₂.get? c' = some oc := st₂ _ _ (by simp) g5
      have gl₂ : g₂.get? l = some (PySem.W.listOf vs.toArray ep) := st₂ _ _ (by simp) g6
      by_cases hk : k = 1
      · subst hk
        obtain ⟨t₀, hx⟩ := ints_at hI Lo ((ds[Lo]'(by omega) : Nat) : Int) (by rw [List.getElem?_map, List.getElem?_eq_getElem (by omega)]; rfl)
        have hx' : vs[lo.toNat]? = some (.int ((ds[Lo]'(by omega) : Nat) : Int) t₀) := by rw [hlo, Int.toNat_natCast]; exact hx
        k_steps
        rename Fr _ _ _ _ => F₈
        rw [take_one hLo] at hret'
        exact hret' _ _ _ (fun b o hb => F₈.keep _ _ (st₂ b o (by simp) hb))
      · have hN64 : N ≤ 64 := hN2 (by intro e; rw [e] at hLo; simp at hLo; omega)
        have hS : k / 2 * N ≤ 1000000 := Nat.le_trans (Nat.mul_le_mul (show k / 2 ≤ 64 by omega) hN64) (by decide)
        k_steps
        rename Fr _ _ _ _ => F₈
        refine (ih (k - k / 2) (by omega)).run (Lo := Lo + k / 2) B₂ F₈ X₂ T₂ rfl (by rw [hG]; exact ⟨F₈.keep _ _ gF, F₈.keep _ _ gI, F₈.keep _ _ gN, F₈.keep _ _ gD, F₈.keep _ _ gC, F₈.keep _ _ gl₂⟩) ?hlo ?hhi (by omega) (by omega) (by omega) (by omega) ?_
        case hlo => omega
        case hhi => omega
        intro h₉ tk₉ t₉ st₉
        have F₉ := F₈.keeps st₉
        clear F₈
        have hX1 : und N ((ds.drop (Lo + k / 2)).take (k - k / 2)) < 18446744073709551616 := seg_lt hdig hlen _ _ (by omega)
        k_steps
        rename Fr _ _ _ _ => F₈
        refine (ih (k / 2) (by omega)).run (Lo := Lo) B₂ F₈ X₂ T₂ rfl (by rw [hG]; exact ⟨F₈.keep _ _ gF, F₈.keep _ _ gI, F₈.keep _ _ gN, F₈.keep _ _ gD, F₈.keep _ _ gC, F₈.keep _ _ gl₂⟩) hlo ?hhi (by omega) (by omega) (by omega) (by omega) ?_
        case hhi => omega
        intro h₁₀ tk₁₀ t₁₀ st₁₀
        have F₁₀ := F₈.keeps st₁₀
        clear F₈
        k_steps
        have e : ((und N ((ds.drop (Lo + k / 2)).take (k - k / 2)) * 2 ^ (k / 2 * N) : Nat) : Int) + ((und N ((ds.drop Lo).take (k / 2)) : Nat) : Int) = ((und N ((ds.drop Lo).take k) : Nat) : Int) := by
          rw [seg_split hLo]; push_cast; rfl
        rw [e]
        exact hret' _ _ _ (fun b o hb => F₁₀.keep _ _ (st₂ b o (by simp) hb))
  have TL' : TabL3 ((99, tabObj t₁) :: (54, tabObj ps') :: (47, tabObj t₃) :: codes') := ⟨t₁, ps', t₃, codes', rfl, G₁.mono hsub, G₅, G₃.mono hsub, fun p hp =>
    ⟨hcn 99 (fun p hp => (hcod p hp).1) (Nat.lt_succ_of_lt (Nat.lt_succ_of_lt (Nat.lt_succ_of_lt q1))) p hp, hcn 54 (fun p hp => (hcod p hp).2.1) (Nat.lt_succ_of_lt (Nat.lt_succ_of_lt (Nat.lt_succ_of_lt q2))) p hp, hcn 47 (fun p hp => (hcod p hp).2.2) (Nat.lt_succ_of_lt (Nat.lt_succ_of_lt (Nat.lt_succ_of_lt q3))) p hp⟩⟩
  have ht : ∀ p ∈ (99, tabObj t₁) :: (54, tabObj ps') :: (47, tabObj t₃) :: codes', p.1 ∈ ((99, tabObj t₁) :: (54, tabObj t₂) :: (47, tabObj t₃) :: codes).map (·.1) ∨ L ≤ p.1 := by
    intro p hp
    rcases List.mem_cons.mp hp with rfl | hp
    · exact .inl (by simp)
    rcases List.mem_cons.mp hp with rfl | hp
    · exact .inl (by simp)
    rcases List.mem_cons.mp hp with rfl | hp
    · exact .inl (by simp)
    rcases hnew p hp with h | h
    · exact .inl (by simp only [List.map_cons]; exact .tail _ (.tail _ (.tail _ (List.mem_map_of_mem h))))
    · exact .inr (Nat.le_trans (Nat.le_add_right L 1) (Nat.le_of_lt (h _ (.tail _ (.tail _ (.head _))))))
  clear F₅
  k_steps
  · rename Fr _ _ _ _ => F₈
    rename News _ _ _ _ => N₈
    refine (key ds.length).run (Lo := 0) B F₈ X T rfl
      (by rw [hG]; exact ⟨(N₈ _ (.head _)).1, (N₈ _ (.tail _ (.head _))).1, (N₈ _ (.tail _ (.tail _ (.head _)))).1, (N₈ _ (.tail _ (.tail _ (.tail _ (.head _))))).1, (N₈ _ (.tail _ (.tail _ (.tail _ (.tail _ (.tail _ (.tail _ (.tail _ hcm)))))))).1, F₈.keep _ _ gl⟩) ?lo ?hi (by omega) (by omega) (by omega) (by omega) ?_
    case lo => rfl
    case hi => omega
    intro h₉ tk₉ t₉ st₉
    have F₉ := F₈.keeps st₉
    have N₉ : News _ _ h₉ _ := fun p hp => ⟨st₉ _ _ (N₈ p hp).1, (N₈ p hp).2⟩
    clear N₈ F₈
    k_steps
    refine hret _ _ _ _ _ F₉ (fun p hp => N₉ p (.tail _ (.tail _ (.tail _ (.tail _ hp))))) TL' ht ⟨t₉, by rw [List.drop_zero, List.take_length]⟩
  · rename Fr _ _ _ _ => F₈
    rename News _ _ _ _ => N₈
    have : ds = [] := List.eq_nil_of_length_eq_zero (by omega)
    subst this
    exact hret _ _ _ _ _ F₈ (fun p hp => N₈ p (.tail _ (.tail _ (.tail _ (.tail _ hp))))) TL' ht ⟨_, rfl⟩
end Mine
end
section
open PySem PySem.W PyProof.Rows PySem.Calls
namespace Mine
theorem fresh_FMb_2 : True := by (w_top off); trivial
set_option maxRecDepth 100000
set_option maxHeartbeats 4000000
theorem fillFM : (fun (_ : OpenLaw) (_ : Params → Frag) => True) PySem.Challenge.rw_ik0125_02 hd.heap_1 := by k_fill; trivial
theorem c_S_IFMT {w : World} {x : Int} {t : Tok} : CtrL w 118 1 8 [.int x t] (fun _ => True) (fun _ _ v => ∃ t', v = .int (Builtin.bitAnd x 61440) t') := by
  k_dflt (refine' ctr_leaf (binds := [(Str.ofString "mode", .int x t)]) ?k6 ?k7 ?k1 ?k9 ?kB ?c2 ?c3 ?c4 ?c5 ?_; (case k6 => k_is); (case k7 => k_is); (case k1 => decide); (case k9 => intro s; exact BindsTo.of_eq rfl); (case kB => exact locs rfl); (case c2 => exact rfl); (case c3 => exact rfl); (case c4 => exact rfl); (case c5 => decide))
  intro p loose mean mg mb dp un gd outer A₀ base g L s Q hd hu hL F N B X T hpre hret
  try dsimp only [List.reverse_cons, List.reverse_nil, List.nil_append, List.cons_append] at F
  k_steps
  all_goals exact hret _ _ _ _ (by k_asm) ⟨_, rfl⟩

abbrev chS (c : Nat) : Str := ⟨#[c]⟩
inductive Rows (h : Heap) : List Value → List (Int × Nat) → Prop
  | nil : Rows h [] []
  | cons {a : Addr} {b : Int} {tb : Tok} {c : Nat} {tc : Tok} {vs : List Value} {ps : List (Int × Nat)} : h.IsTuple a #[.int b tb, .str (chS c) tc] → Rows h vs ps → Rows h (.ref a :: vs) ((b, c) :: ps)
inductive Tabs (h : Heap) : List Value → List (List (Int × Nat)) → Prop
  | nil : Tabs h [] []
  | cons {T : Addr} {vs : List Value} {ps : List (Int × Nat)} {r : List Value} {rs : List (List (Int × Nat))} : h.IsTuple T vs.toArray → Rows h vs ps → Tabs h r rs → Tabs h (.ref T :: r) (ps :: rs)
theorem ktup {K : Frag} {h : Heap} {a : Addr} {l : List Value} {n : Nat} {dd : Option Addr} {sl : Array (Option Value)} (X : K.In h) (hl : K.lookup a = some ⟨.type "tuple", dd, .seq l.toArray n, sl⟩) : h.IsTuple a l.toArray := ⟨_, X _ _ hl, rfl, n, rfl⟩
theorem kpair {K : Frag} {h : Heap} {a : Addr} {b : Int} {tb : Tok} {c : Nat} {tc : Tok} {n : Nat} {dd : Option Addr} {sl : Array (Option Value)} (X : K.In h) (hl : K.lookup a = some ⟨.type "tuple", dd, .seq #[.int b tb, .str (chS c) tc] n, sl⟩) : h.IsTuple a #[.int b tb, .str (chS c) tc] := ⟨_, X _ _ hl, rfl, n, rfl⟩
theorem Rows.len {h : Heap} {vs : List Value} {ps : List (Int × Nat)} (r : Rows h vs ps) : vs.length = ps.length := by
  induction r with
  | nil => rfl
  | cons _ _ ih => simp [ih]
theorem Rows.get {h : Heap} {vs : List Value} {ps : List (Int × Nat)} (r : Rows h vs ps) : ∀ {j : Nat} {y : Value}, vs[j]? = some y → ∃ a b tb c tc, y = .ref a ∧ ps[j]? = some (b, c) ∧ h.IsTuple a #[.int b tb, .str (chS c) tc] := by
  induction r with
  | nil => intro j y e; simp at e
  | cons ht _ ih =>
    intro j y e
    cases j with
    | zero => simp at e; subst e; exact ⟨_, _, _, _, _, rfl, rfl, ht⟩
    | succ j => exact ih (by simpa using e)
theorem Tabs.len {h : Heap} {l : List Value} {r : List (List (Int × Nat))} (t : Tabs h l r) : l.length = r.length := by
  induction t with
  | nil => rfl
  | cons _ _ _ ih => simp [ih]
theorem Tabs.get {h : Heap} {l : List Value} {r : List (List (Int × Nat))} (t : Tabs h l r) : ∀ {k : Nat} {x : Value}, l[k]? = some x → ∃ T vs ps, x = .ref T ∧ h.IsTuple T vs.toArray ∧ Rows h vs ps ∧ r[k]? = some ps := by
  induction t with
  | nil => intro k x e; simp at e
  | cons h1 h2 _ ih =>
    intro k x e
    cases k with
    | zero => simp at e; subst e; exact ⟨_, _, _, rfl, h1, h2, rfl⟩
    | succ k => exact ih (by simpa using e)
def tblS : List (List (Int × Nat)) := [[(40960, 108), (49152, 115), (32768, 45), (24576, 98), (16384, 100), (8192, 99), (4096, 112)], [(256, 114)], [(128, 119)], [(2112, 115), (2048, 83), (64, 120)], [(32, 114)], [(16, 119)], [(1032, 115), (1024, 83), (8, 120)], [(4, 114)], [(2, 119)], [(513, 116), (512, 84), (1, 120)]]
theorem fm_tabs {w : World} {h : Heap} (X : (hd.heap_1 w.params).In h) : Tabs h [.ref 126, .ref 128, .ref 130, .ref 134, .ref 136, .ref 138, .ref 142, .ref 144, .ref 146, .ref 150] tblS := by
  exact (Tabs.cons (ktup X (a := 126) (by k_is)) (Rows.cons (kpair X (a := 119) (by k_is)) (Rows.cons (kpair X (a := 120) (by k_is)) (Rows.cons (kpair X (a := 121) (by k_is)) (Rows.cons (kpair X (a := 122) (by k_is)) (Rows.cons (kpair X (a := 123) (by k_is)) (Rows.cons (kpair X (a := 124) (by k_is)) (Rows.cons (kpair X (a := 125) (by k_is)) Rows.nil)))))))
    (Tabs.cons (ktup X (a := 128) (by k_is)) (Rows.cons (kpair X (a := 127) (by k_is)) Rows.nil)
    (Tabs.cons (ktup X (a := 130) (by k_is)) (Rows.cons (kpair X (a := 129) (by k_is)) Rows.nil)
    (Tabs.cons (ktup X (a := 134) (by k_is)) (Rows.cons (kpair X (a := 131) (by k_is)) (Rows.cons (kpair X (a := 132) (by k_is)) (Rows.cons (kpair X (a := 133) (by k_is)) Rows.nil)))
    (Tabs.cons (ktup X (a := 136) (by k_is)) (Rows.cons (kpair X (a := 135) (by k_is)) Rows.nil)
    (Tabs.cons (ktup X (a := 138) (by k_is)) (Rows.cons (kpair X (a := 137) (by k_is)) Rows.nil)
    (Tabs.cons (ktup X (a := 142) (by k_is)) (Rows.cons (kpair X (a := 139) (by k_is)) (Rows.cons (kpair X (a := 140) (by k_is)) (Rows.cons (kpair X (a := 141) (by k_is)) Rows.nil)))
    (Tabs.cons (ktup X (a := 144) (by k_is)) (Rows.cons (kpair X (a := 143) (by k_is)) Rows.nil)
    (Tabs.cons (ktup X (a := 146) (by k_is)) (Rows.cons (kpair X (a := 145) (by k_is)) Rows.nil)
    (Tabs.cons (ktup X (a := 150) (by k_is)) (Rows.cons (kpair X (a := 147) (by k_is)) (Rows.cons (kpair X (a := 148) (by k_is)) (Rows.cons (kpair X (a := 149) (by k_is)) Rows.nil)))
    Tabs.nil))))))))))
theorem fm_top {w : World} {h : Heap} (X : (hd.heap_1 w.params).In h) : h.IsTuple 151 ([.ref 126, .ref 128, .ref 130, .ref 134, .ref 136, .ref 138, .ref 142, .ref 144, .ref 146, .ref 150] : List Value).toArray := ktup X (by k_is)
def hitF (P : Int → Bool) (d : Nat) (l : List (Int × Nat)) : Nat := match l.find? (fun p => P p.1) with | some p => p.2 | none => d
def testF (mode : Int) (k : Nat) (b : Int) : Bool := if k = 0 then Builtin.bitAnd mode 61440 == b else Builtin.bitAnd mode b == b
def dfltF (k : Nat) : Nat := if k = 0 then 63 else 45
def signF (mode : Int) (k : Nat) : Nat := hitF (testF mode k) (dfltF k) (tblS.getD k [])
theorem strsAre_snoc {vs : List Value} {ys : List Str} {y : Str} {t : Tok} (h : StrsAre vs ys) : StrsAre (vs ++ [.str y t]) (ys ++ [y]) := by
  induction h with
  | nil => exact .cons _ _ .nil
  | cons a b _ ih => exact .cons a b ih

local macro_rules | `(tactic| walk_at "exec For Tuple Call cons nil") => `(tactic| (refine exec_for ?_))
local macro_rules | `(tactic| walk_at "exec For Tuple Name cons cons") => `(tactic| (refine exec_for ?_))
local macro_rules | `(tactic| walk_at "eval Name") => `(tactic| (k_here; k_dflt (refine' nameX_L ?F ?v ?_ ?a ?b; (case F => k_asm); (case a => rfl); (case b => rfl); (case v => first | exact rfl | assumption); k_whole)))
local macro_rules | `(tactic| walk_at "call ref") => `(tactic| (k_here; (with_reducible show wpAny _ _ (call (Value.ref 118) _) _ _ _); k_dflt (refine' use_leaf c_S_IFMT ?k1 ?k2 ?k3 ?k4 ?k5 ?k6 ?k7 ?k8 ?k9 ?_; (case k1 => k_asm); (case k2 => k_asm); (case k3 => k_asm); (case k4 => k_asm); (case k5 => k_asm); (case k6 => rfl); (case k7 => omega); (case k8 => omega); (case k9 => trivial)); intro v9 h9 tk9 F9 N9 _ ps9; obtain ⟨t9, e9⟩ := ps9; subst e9))

theorem strsAre_len {vs : List Value} {ys : List Str} (h : StrsAre vs ys) : vs.length = ys.length := by
  induction h with
  | nil => rfl
  | cons a b _ ih => simp [ih]
theorem hit_none {P : Int → Bool} {d : Nat} {ps : List (Int × Nat)} (h : ∀ p ∈ ps, P p.1 = false) : hitF P d ps = d := by
  unfold hitF
  rw [List.find?_eq_none.mpr (fun p hp => by simp [h p hp])]
theorem hit_some {P : Int → Bool} {d : Nat} : ∀ {ps : List (Int × Nat)} {j : Nat} {b : Int} {c : Nat}, (∀ p ∈ ps.take j, P p.1 = false) → ps[j]? = some (b, c) → P b = true → hitF P d ps = c
  | [], _, _, _, _, e, _ => by simp at e
  | q :: ps, 0, b, c, _, e, hb => by simp at e; subst e; unfold hitF; simp [List.find?_cons, hb]
  | q :: ps, j + 1, b, c, h, e, hb => by
    have h0 : P q.1 = false := h q (by simp)
    have := hit_some (d := d) (ps := ps) (j := j) (fun p hp => h p (by simp [hp])) (by simpa using e) hb
    unfold hitF at this ⊢
    rw [List.find?_cons, h0]
    exact this
theorem take_snoc {ps : List (Int × Nat)} {j : Nat} {b : Int} {c : Nat} {P : Int → Bool} (h : ∀ p ∈ ps.take j, P p.1 = false) (e : ps[j]? = some (b, c)) (hb : P b = false) : ∀ p ∈ ps.take (j + 1), P p.1 = false := fun p hp => by
  rw [List.take_add_one, e] at hp
  rcases List.mem_append.mp hp with hp | hp
  · exact h p hp
  · simp at hp; subst hp; exact hb
theorem sumLen (l : List Nat) (f : Nat → Nat) : ((l.map fun k => chS (f k)).map (·.length)).sum = l.length := by
  induction l with
  | nil => rfl
  | cons a l ih => simp only [List.map_cons, List.sum_cons, List.length_cons, ih]; show 1 + l.length = _; omega
theorem c_filemode {w : World} {x : Int} {t : Tok} : CtrL w 158 2 16 [.int x t] (fun _ => True) (fun _ _ v => ∃ t', v = .str (Txt.join (Str.ofString "") ((List.range 10).map fun k => chS (signF x k))) t') := by
  k_dflt (refine' ctr_leaf (binds := [(Str.ofString "mode", .int x t)]) ?k6 ?k7 ?k1 ?k9 ?kB ?c2 ?c3 ?c4 ?c5 ?_; (case k6 => k_is); (case k7 => k_is); (case k1 => decide); (case k9 => intro s; exact BindsTo.of_eq rfl); (case kB => exact locs rfl); (case c2 => exact rfl); (case c3 => exact rfl); (case c4 => exact rfl); (case c5 => decide))
  intro p loose mean mg mb dp un gd outer A₀ base g L s Q hd hu hL F N B X T hpre hret
  try dsimp only [List.reverse_cons, List.reverse_nil, List.nil_append, List.cons_append] at F
  k_steps
  rename_i pl h₁ l₁ h₂ F₂ N₂
  generalize htk0 : tk = tk0
  clear htk0 tk
  refine call_enum_tup F₂ N₂ (fm_top X) ?_
  intro h₃ it e F₃ N₃ l₂ l₃
  have hpe : pl < it := l₂ _ (.head _)
  refine wpAny_pyIter_enum (N₃ _ (.head _)).1 ?_
  refine forEnum_ind (s := { s with heap := h₃, toks := tk0 }) (J := fun k m rest => m (Str.ofString "mode") = some (.int x t) ∧ m (Str.ofString "perm") = some (.ref pl) ∧ ∃ vs n, rest = [(pl, PySem.W.listOf vs n)] ∧ StrsAre vs.toList ((List.range k).map fun k => chS (signF x k)))
    rfl rfl rfl rfl (Nat.ne_of_gt l₃) (fm_top X) ?step ?fin 10 0 h₃ tk0 _ _ .none (tupIt 151 0) rfl (by decide) ⟨rfl, rfl, _, _, rfl, .nil⟩ (fun q hq => ?off) ⟨rfl, rfl⟩ F₃ N₃
  case off =>
    simp only [List.mem_singleton] at hq
    subst hq
    simp only [List.mem_cons, List.not_mem_nil, or_false, not_or]
    exact ⟨Nat.ne_of_lt (Nat.lt_trans hpe l₃), Nat.ne_of_lt hpe⟩
  case fin =>
    rintro m rest h' tk ⟨hm1, hm2, vs, n, rfl, hs⟩ hoff F₄ N₄
    clear F₂ N₂ F₃ N₃
    k_steps
    refine join_list ⟨_, (N₄ _ (.head _)).1, rfl, _, rfl⟩ hs ?_ fun t' k => hret _ _ _ _ F₄ ⟨_, rfl⟩
    rw [sumLen]
    simp
    decide
  case step =>
    rintro i y m rest h' tk tki o' hy ⟨hm1, hm2, vs, n, rfl, hs⟩ hoff F₄ N₄
    obtain ⟨T', vs', ps, rfl, hT', hrows, hps⟩ := (fm_tabs X).get (by simpa using hy)
    clear F₂ N₂ F₃ N₃
    k_steps
    refine iter_tup F₄ N₄ hT' ?_
    intro h₅ it' F₅ N₅ l₅
    clear F₄ N₄
    have q1 := ltN (l₅ _ (.head _))
    have q2 := ltN (l₅ _ (.tail _ (.head _)))
    have q3 := ltN (l₅ _ (.tail _ (.tail _ (.head _))))
    have q4 := ltN hpe
    have q5 := ltN l₃
    dsimp only at q1 q2 q3
    have hvs : vs.size ≤ sizeLine := by
      have := strsAre_len hs
      have hi : i < 10 := by have := (Array.getElem?_eq_some_iff.mp hy).1; simpa using this
      simp at this
      rw [sizeLine_eq]; omega
    have hdone : ∀ (c : Nat) (tc : Tok) (h₆ : Heap) (tk₆ : Nat) (m₆ : Str → Option Value), c = signF x i → m₆ (Str.ofString "mode") = some (.int x t) → m₆ (Str.ofString "perm") = some (.ref pl) → Fr g L h₆ m₆ →
        News g L h₆ [(e, enumObj it ((i + 1 : Nat) : Int) (.ref T')), (it, o'), (pl, PySem.W.listOf (vs.push (.str (chS c) tc)) (n + 1))] →
        LP g L { s with heap := h₃, toks := tk0 } [(e, enumObj it ((i + 1 : Nat) : Int) (.ref T')), (it, o')] [e, it] (fun _ _ => False) (fun m rest => m (Str.ofString "mode") = some (.int x t) ∧ m (Str.ofString "perm") = some (.ref pl) ∧ ∃ vs n, rest = [(pl, PySem.W.listOf vs n)] ∧ StrsAre vs.toList ((List.range (i + 1)).map fun k => chS (signF x k))) .next { s with heap := h₆, toks := tk₆ } := by
      rintro c tc h₆ tk₆ m₆ rfl e1 e2 F₆ N₆
      refine ⟨_, _, _, [(pl, PySem.W.listOf (vs.push (.str (chS (signF x i)) tc)) (n + 1))], rfl, F₆, N₆, (fun q hq => by simp only [List.mem_singleton] at hq; subst hq; exact hoff (pl, PySem.W.listOf vs n) (.head _)), e1, e2, _, _, rfl, ?_⟩
      rw [Array.toList_push, List.range_succ, List.map_append]
      exact strsAre_snoc hs
    have hsign : signF x i = hitF (testF x i) (dfltF i) ps := by unfold signF; rw [List.getD_eq_getElem?_getD, hps]; rfl
    refine forTup2_ind (s := { s with heap := h₅, toks := tk }) (P := fun j v₁ v₂ => ∃ b tb c tc, v₁ = .int b tb ∧ v₂ = .str (chS c) tc ∧ ps[j]? = some (b, c))
      (J := fun j m rest => m (Str.ofString "mode") = some (.int x t) ∧ m (Str.ofString "perm") = some (.ref pl) ∧ m (Str.ofString "index") = some (.int i tki) ∧
        rest = [(e, enumObj it ((i + 1 : Nat) : Int) (.ref T')), (it, o'), (pl, PySem.W.listOf vs n)] ∧ ∀ b ∈ ps.take j, testF x i b.1 = false)
      rfl rfl rfl rfl hT' ?hrow ?step2 ?fin2 vs'.length 0 h₅ tk (fun z => if z = Str.ofString "table" then some (.ref T') else if z = Str.ofString "index" then some (.int (i : Int) tki) else m z) _ (tupIt T' 0) (by simp) (Nat.zero_le _) ⟨hm1, hm2, rfl, rfl, fun b hb => by simp at hb⟩ (fun q hq => by simpa using Nat.ne_of_lt (l₅ q hq)) ⟨rfl, rfl⟩ F₅ N₅
    case hrow =>
      intro j y hy'
      obtain ⟨a, b, tb, c, tc, e1, e2, e3⟩ := hrows.get (by simpa using hy')
      exact ⟨a, _, _, e1, e3, b, tb, c, tc, rfl, rfl, e2⟩
    case fin2 =>
      rintro m₇ rest h₇ tk₇ ⟨a1, a2, a3, rfl, a4⟩ hoff₇ F₇ N₇
      clear F₅ N₅
      k_steps
      · have hlen : ps.take vs'.toArray.size = ps := List.take_of_length_le (by rw [List.size_toArray, hrows.len]; exact Nat.le_refl _)
        rw [hlen] at a4
        refine hdone 63 _ _ _ _ ?_ a1 a2 (by k_asm) (by k_asm)
        rw [hsign, hit_none a4, dfltF, if_pos (by omega)]
      · have hlen : ps.take vs'.toArray.size = ps := List.take_of_length_le (by rw [List.size_toArray, hrows.len]; exact Nat.le_refl _)
        rw [hlen] at a4
        refine hdone 45 _ _ _ _ ?_ a1 a2 (by k_asm) (by k_asm)
        rw [hsign, hit_none a4, dfltF, if_neg (by omega)]
    case step2 =>
      rintro j v₁ v₂ m₇ rest h₇ tk₇ o₇ hj ⟨b, tb, c, tc, rfl, rfl, hpj⟩ ⟨a1, a2, a3, rfl, a4⟩ hoff₇ F₇ N₇
      clear F₅ N₅
      k_steps
      all_goals (rename Fr _ _ _ _ => F₈; rename News _ _ _ _ => N₈)
      · refine wpAny_execs_nil (hdone c tc _ _ _ ?_ ?a1 ?a2 F₈ (fun p hp => N₈ p (.tail _ hp)))
        case a1 => exact a1
        case a2 => exact a2
        rw [hsign]
        refine (hit_some a4 hpj ?_).symm
        simp [testF, *]
        try omega
      · refine ⟨_, _, _, [(e, enumObj it ((i + 1 : Nat) : Int) (.ref T')), (it, o'), (pl, PySem.W.listOf vs n)], rfl, F₈, N₈, hoff₇, a1, a2, a3, rfl, take_snoc a4 hpj ?_⟩
        simp [testF, *]
        try omega
      · refine wpAny_execs_nil (hdone c tc _ _ _ ?_ ?a1 ?a2 F₈ (fun p hp => N₈ p (.tail _ hp)))
        case a1 => exact a1
        case a2 => exact a2
        rw [hsign]
        refine (hit_some a4 hpj ?_).symm
        simp [testF, *]
        try omega
      · refine ⟨_, _, _, [(e, enumObj it ((i + 1 : Nat) : Int) (.ref T')), (it, o'), (pl, PySem.W.listOf vs n)], rfl, F₈, N₈, hoff₇, a1, a2, a3, rfl, take_snoc a4 hpj ?_⟩
        simp [testF, *]
        try omega
end Mine
end
section
open PySem PySem.W PyProof.Rows PySem.Calls
namespace Mine
theorem fresh_DP_2 : True := by (w_top off); trivial
set_option maxRecDepth 100000
set_option maxHeartbeats 4000000
theorem fill_DP_2 : (fun (_ : OpenLaw) (_ : Params → Frag) => True) PySem.Challenge.rw_ik0125_02 hd.heap_1 := by k_fill; trivial
local macro_rules | `(tactic| k_all) => `(tactic| first | assumption | exact allLt_ne (by assumption))
theorem show_me {P : Prop} (h : P ∨ False) : P := h.elim id False.elim
local macro_rules | `(tactic| walk_at "exec For Name Call cons nil") => `(tactic| (refine show_me ?_))
theorem hd_zero {N A K : Nat} (h : A < 2 ^ (N * K)) : A / 2 ^ (N * (K - 0)) = 0 := Nat.div_eq_of_lt (by simpa using h)
theorem hd_succ {N A K i : Nat} (h : i < K) : A / 2 ^ (N * (K - (i + 1))) = A / 2 ^ (N * (K - i)) * 2 ^ N + dig N A (K - 1 - i) := by
  have e : K - i = (K - 1 - i) + 1 := by omega
  have e2 : K - (i + 1) = K - 1 - i := by omega
  rw [e, e2, Nat.mul_add, Nat.mul_one, Nat.pow_add, ← Nat.div_div_eq_div_mul]
  unfold dig
  have := Nat.div_add_mod (A / 2 ^ (N * (K - 1 - i))) (2 ^ N)
  rw [Nat.mul_comm] at this
  exact this.symm
theorem hd_end {N A K : Nat} : A / 2 ^ (N * (K - K)) = A := by simp
theorem dig_lt (N A i : Nat) : dig N A i < 2 ^ N := Nat.mod_lt _ (Nat.two_pow_pos N)
theorem div_step {H M d D : Nat} (hD : 0 < D) (hd : d < M) : (H * M + d) % D = (H % D * M + d) % D ∧ (H * M + d) / D = H / D * M + (H % D * M + d) / D ∧ (H % D * M + d) / D < M := by
  have e : H * M + d = D * (H / D * M) + (H % D * M + d) := by
    have := Nat.div_add_mod H D
    calc H * M + d = (D * (H / D) + H % D) * M + d := by rw [this]
      _ = _ := by rw [Nat.add_mul, Nat.mul_assoc, Nat.add_assoc]
  refine ⟨by rw [e, Nat.mul_add_mod], by rw [e, Nat.mul_add_div hD], ?_⟩
  rw [Nat.div_lt_iff_lt_mul hD]
  have h1 := Nat.mod_lt H hD
  have h2 : (H % D + 1) * M ≤ D * M := Nat.mul_le_mul_right _ h1
  rw [Nat.add_mul, Nat.one_mul] at h2
  rw [Nat.mul_comm M D]
  omega
theorem numD_mul {N A k : Nat} (h : 1 ≤ N) (hA : A < 2 ^ k) : numD N A * N ≤ k + N - 1 := by
  unfold numD
  have h1 : Builtin.Int.intBits (A : Int) ≤ k := intBits_le (by omega) (by exact_mod_cast hA)
  have := Nat.div_mul_le_self (Builtin.Int.intBits (A : Int) + N - 1) N
  omega
theorem ints_snoc {vs : List Value} {ns : List Int} (h : IntsAre vs ns) (n : Int) (t : Tok) : IntsAre (vs ++ [.int n t]) (ns ++ [n]) := by
  induction h with
  | nil => exact .cons _ _ .nil
  | cons m u _ ih => exact .cons _ _ ih
local macro_rules | `(tactic| walk_at "binaryOp LShift int int") => `(tactic| (k_here; ((with_reducible refine' lshift_nat ?h1 ?h2 ?_); (case h1 => with_reducible assumption); (case h2 => omega))))
local macro_rules | `(tactic| walk_at "eval Name") => `(tactic| (k_here; k_dflt (refine' nameX_L ?F ?v ?_ ?a ?b; (case F => k_asm); (case a => rfl); (case b => rfl); (case v => first | exact rfl | assumption); k_whole)))
theorem c_divmod_pos {w : World} {A D : Nat} {ta tb : Tok} (hA : A < 4294967296) (hB0 : 0 < D) (hB : D < 1073741824) : Ctr w 66 90 700 [.int (A : Int) ta, .int (D : Int) tb] (fun _ _ => True)
    (fun g h v => ∃ l t₁ t₂, v = .ref l ∧ g.objs.size ≤ l ∧ h.IsTuple l #[.int ((A / D : Nat) : Int) t₁, .int ((A % D : Nat) : Int) t₂]) := by
  k_dflt (refine' ctr_plain (binds := [(Str.ofString "a", .int (A : Int) ta), (Str.ofString "b", .int (D : Int) tb)]) ?k6 ?k7 ?k1 ?k9 ?kB ?c2 ?c3 ?c4 ?c5 ?_; (case k6 => k_is); (case k7 => k_is); (case k1 => decide); (case k9 => intro s; exact BindsTo.of_eq rfl); (case kB => exact locs rfl); (case c2 => exact rfl); (case c3 => exact rfl); (case c4 => exact rfl); (case c5 => decide))
  intro p loose mean mg mb dp un gd outer A₀ base g₀ g L tabs s Q hd hu hL st F NN TL B X T hpre hret
  try dsimp only [List.reverse_cons, List.reverse_nil, List.nil_append, List.cons_append] at F
  obtain ⟨N, hN⟩ : ∃ N, N = Builtin.Int.intBits (D : Int) := ⟨_, rfl⟩
  have hN2 : N ≤ 30 := by rw [hN]; exact intBits_le (by omega) (by show (D : Int) < 1073741824; omega)
  have hN1 : 1 ≤ N := by
    rw [hN]; unfold Builtin.Int.intBits
    rw [if_neg (by simp; omega)]; omega
  k_steps
  rw [← hN]
  rename Fr _ _ _ _ => F₂
  rename News _ _ _ _ => N₂
  rw [← hN] at F₂
  refine use_ctr (c_int2digits (A := A) (N := N) (by omega) hN1 (by omega)) B F₂ X N₂ TL .base T rfl (by omega) (by omega) trivial ?_
  intro v h₃ tk₃ tabs' F₃ N₃ TL' TO' ht' ps
  obtain ⟨l, vs, ep, rfl, hl, hlo, hI⟩ := ps
  have N₄ := led_new F₂ N₃ hl hlo
  have htA : ∀ q ∈ tabs', q.1 ∈ tabs.map (·.1) ∨ L ≤ q.1 := fun q hq => (ht' q hq).imp id fun h => Nat.le_trans (Nat.le_of_lt F₂.ns.lt) h
  have hLl : L ≤ l := Nat.le_trans (Nat.le_of_lt F₂.ns.lt) hl
  clear N₂ F₂
  k_steps
  refine .inl ?_
  refine exec_for ?_
  rename_i ql h₅ lql h₆ F₆ N₆
  k_steps
  rename_i I h₇ F₇ N₇ lI
  refine wpAny_pyIter_revIter ⟨_, (N₇ _ (.head _)).1, rfl, rfl⟩ ?_
  have hK : numD N A * N ≤ 64 := by
    have := numD_mul (N := N) (A := A) (k := 32) hN1 (by simpa using hA)
    omega
  have hvl : vs.length = numD N A := by have := IntsAre.length hI; simpa using this
  refine forW_ind (s := { s with heap := h₇, toks := tk }) (Walks.listRev rfl I l (Nat.ne_of_lt lI.2.1) vs.toArray)
    (fun i o => o.cls = .type "list_reverseiterator" ∧ o.data = .fields #[.ref l, rawInt ((vs.toArray.size : Int) - 1 - (i : Int))]) (fun h => h.IsList l vs.toArray)
    (fun i m rest => m (Str.ofString "n") = some (.int (N : Int) s.toks) ∧ m (Str.ofString "b") = some (.int (D : Int) tb) ∧ (∃ t, m (Str.ofString "r") = some (.int ((A / 2 ^ (N * (numD N A - i)) % D : Nat) : Int) t)) ∧
      m (Str.ofString "q_digits") = some (.ref ql) ∧ ∃ (vq : Array Value) (qs : List Nat) (n : Nat), rest = (ql, PySem.W.listOf vq n) :: (l, PySem.W.listOf vs.toArray ep) :: tabs' ∧ IntsAre vq.toList (qs.map fun (q : Nat) => (q : Int)) ∧ qs.length = i ∧ (∀ q ∈ qs, q < 2 ^ N) ∧ und N qs.reverse = A / 2 ^ (N * (numD N A - i)) / D)
    ?fold ?un ?D rfl rfl ?step ?fin vs.toArray.size 0 _ _ _ _ _ rfl (Nat.zero_le _) ?J0 ?off ?ok F₇ N₇
  case fold => rintro i h o hi e1 ⟨e2, e3⟩ e4; exact ⟨hi, ⟨_, e1, e2, e3⟩, e4⟩
  case un => rintro i h ⟨_, ⟨o, h1, h2, h3⟩, _⟩; exact ⟨o, h1, h2, h3⟩
  case D =>
    rintro i m rest h ⟨_, _, _, _, vq, qs, n, rfl, _⟩ F' N'
    exact PySem.IsL.isList (n := ep) (N' _ (.tail _ (.head _))).1
  case off =>
    intro q hq
    simp only [List.mem_singleton]
    rcases List.mem_cons.mp hq with rfl | hq
    · exact Nat.ne_of_lt lI.1
    rcases List.mem_cons.mp hq with rfl | hq
    · exact Nat.ne_of_lt lI.2.1
    · exact allLt_ne lI.2.2 q hq
  case ok => exact ⟨rfl, by simp [revObj]⟩
  case J0 =>
    rw [hd_zero (numD_lt hN1), Nat.zero_mod, Nat.zero_div]
    exact ⟨rfl, rfl, ⟨_, rfl⟩, rfl, #[], [], 0, rfl, .nil, rfl, by simp, rfl⟩
  case step =>
    rintro i v m rest h' tk o' hi hP ⟨jn, jb, ⟨tr, jr⟩, jq, vq, qs, n, rfl, hIq, hlq, hq, hu'⟩ hoff F₈ N₈
    change Fr g L h' _ at F₈
    change News g L h' _ at N₈
    have hiK : i < numD N A := by rw [← hvl]; exact hi
    obtain ⟨td, hv⟩ : ∃ td, v = .int ((dig N A (numD N A - 1 - i) : Nat) : Int) td := by
      obtain ⟨td, e⟩ := ints_at hI (numD N A - 1 - i) ((dig N A (numD N A - 1 - i) : Nat) : Int) (by rw [List.getElem?_map, List.getElem?_range (by omega)]; rfl)
      have hP' : vs[vs.length - 1 - i]? = some v := by simpa using hP
      rw [hvl, e] at hP'
      exact ⟨td, (Option.some.inj hP').symm⟩
    subst hv
    have hr30 : A / 2 ^ (N * (numD N A - i)) % D < D := Nat.mod_lt _ hB0
    have hr64 : A / 2 ^ (N * (numD N A - i)) % D < 18446744073709551616 := by omega
    obtain ⟨s1, s2, s3⟩ := div_step (H := A / 2 ^ (N * (numD N A - i))) hB0 (dig_lt N A (numD N A - 1 - i))
    rw [← hd_succ hiK] at s1 s2
    k_steps
    rename Fr _ _ _ _ => F₉
    rename News _ _ _ _ => N₉
    have eX : ((A / 2 ^ (N * (numD N A - i)) % D * 2 ^ N : Nat) : Int) + ((dig N A (numD N A - 1 - i) : Nat) : Int) = ((A / 2 ^ (N * (numD N A - i)) % D * 2 ^ N + dig N A (numD N A - 1 - i) : Nat) : Int) := by push_cast; rfl
    rw [eX]
    generalize hX : A / 2 ^ (N * (numD N A - i)) % D * 2 ^ N + dig N A (numD N A - 1 - i) = Xn at s1 s2 s3 ⊢
    have hXlt : Xn < 1152921504606846977 := by
      have h1 := (Nat.div_lt_iff_lt_mul hB0).mp s3
      have h2 : 2 ^ N ≤ 1073741824 := Nat.pow_le_pow_right (n := 2) (by omega) hN2
      have h3 : 2 ^ N * D ≤ 1073741824 * 1073741824 := Nat.mul_le_mul h2 (by omega)
      omega
    have q1 : ((Xn : Nat) : Int).fdiv (D : Int) = ((Xn / D : Nat) : Int) := by rw [Int.fdiv_eq_ediv_of_nonneg _ (by omega)]; rfl
    have q2 : ((Xn : Nat) : Int).fmod (D : Int) = ((Xn % D : Nat) : Int) := by rw [Int.fmod_eq_emod_of_nonneg _ (by omega)]; rfl
    refine use_leaf (c_div2n1n (a := (Xn : Int)) (b := (D : Int)) (n := (N : Int)) (by omega) (by omega) (by omega) (by omega) (by omega)) B F₉ X N₉ T rfl (by omega) (by omega) trivial ?_
    rintro v h₁₀ tk₁₀ F₁₀ N₁₀ st₁₀ ⟨t, u₁, u₂, rfl, hlt, hT⟩
    rw [q1, q2, ← s1] at hT
    clear F₉ N₉ st₁₀
    refine assign_two rfl rfl rfl rfl F₁₀ N₁₀ hT ?_
    intro h₁₁ F₁₁ N₁₁
    change Fr g L h₁₁ _ at F₁₁
    change News g L h₁₁ _ at N₁₁
    clear F₁₀ N₁₀
    have hqz : vq.size = i := by have := IntsAre.length hIq; simp at this; omega
    have hK64 : numD N A ≤ 64 := Nat.le_trans (Nat.le_mul_of_pos_right _ (by omega)) hK
    have hvs : vq.size ≤ sizeLine := by rw [sizeLine_eq]; omega
    have z1 := ltN lI.1
    have z2 := ltN lI.2.1
    have z3 := ltN lql.1
    k_steps
    rename Fr _ _ _ _ => F₁₂
    rename News _ _ _ _ => N₁₂
    refine ⟨_, _, _, (ql, PySem.W.listOf (vq.push (.int ((Xn / D : Nat) : Int) u₁)) (n + 1)) :: (l, PySem.W.listOf vs.toArray ep) :: tabs', rfl, F₁₂, N₁₂, ?_, jn, jb, ⟨_, rfl⟩, jq, _, qs ++ [Xn / D], _, rfl, ?_, by simp [hlq], ?_, ?_⟩
    · intro q hq
      rcases List.mem_cons.mp hq with rfl | hq
      · exact hoff (ql, PySem.W.listOf vq n) (.head _)
      · exact hoff q (.tail _ hq)
    · rw [Array.toList_push, List.map_append]
      exact ints_snoc hIq _ _
    · intro q hq'
      rcases List.mem_append.mp hq' with h | h
      · exact hq q h
      · simp at h; subst h; exact s3
    · rw [List.reverse_append, List.reverse_singleton, List.singleton_append, und, hu', s2]
      rw [Nat.mul_comm (2 ^ N)]; omega
  case fin =>
    rintro m rest h' tk ⟨jn, jb, ⟨tr, jr⟩, jq, vq, qs, n, rfl, hIq, hlq, hq, hu'⟩ hoff F₈ N₈
    change Fr g L h' _ at F₈
    change News g L h' _ at N₈
    have hsz : vs.toArray.size = numD N A := by simpa using hvl
    rw [hsz] at jr hlq hu'
    rw [hd_end] at jr hu'
    have hvs : vq.toList.length ≤ sizeLine := by
      have := IntsAre.length hIq
      have hK64 : numD N A ≤ 64 := Nat.le_trans (Nat.le_mul_of_pos_right _ (by omega)) hK
      rw [sizeLine_eq]; simp at this ⊢; omega
    have z3 := ltN lql.1
    clear F₇ N₇
    k_steps
    refine' kl_reverse ?kF ?kN ?ke ?kU ?kz ?_
    case kF => k_asm
    case kN => k_asm
    case ke => exact rfl
    case kU => k_upd
    case kz => exact hvs
    intro h₉ F₉ N₉
    k_steps
    rename Fr _ _ _ _ => F₁₀
    rename News _ _ _ _ => N₁₀
    have N₁₁ : News g L _ ((ql, PySem.W.listOf vq.toList.reverse.toArray n) :: tabs') := fun q hq => by
      rcases List.mem_cons.mp hq with rfl | hq
      · exact N₁₀ _ (.head _)
      · exact N₁₀ _ (.tail _ (.tail _ hq))
    clear N₁₀
    have hIr : IntsAre vq.toList.reverse (qs.reverse.map fun (d : Nat) => (d : Int)) := by rw [List.map_reverse]; exact hIq.reverse
    refine use_ctr (c_digits2int (N := N) (l := ql) (ep := n) (ds := qs.reverse) hN1 hIr (fun d hd => hq d (List.mem_reverse.mp hd)) ?len) B F₁₀ X N₁₁ TL' (.cons (allLt_ne lql.2) .base) T rfl (by omega) (by omega) ⟨(N₁₁ _ (.head _)).1, ?mem⟩ ?_
    case len => rw [List.length_reverse, hlq, Nat.mul_comm]; exact hK
    case mem =>
      intro hm
      obtain ⟨p, hp, e⟩ := List.mem_map.mp hm
      exact allLt_ne lql.2 p hp e
    rintro v h₁₂ tk₁₂ tabs₂ F₁₂ N₁₂ TL₂ TO₂ ht₂ ⟨tq, rfl⟩
    rw [hu']
    have htB : ∀ q ∈ tabs₂, q.1 ∈ tabs.map (·.1) ∨ L ≤ q.1 := fun q hq => by
      rcases ht₂ q hq with h | h
      · obtain ⟨r, hr, e⟩ := List.mem_map.mp h
        exact e ▸ htA r hr
      · exact .inr (Nat.le_trans (Nat.le_of_lt F₁₀.ns.lt) h)
    clear N₁₁ F₁₀
    k_steps
    rename_i D' h₁₄ F₁₄ N₁₄ lD
    exact hret _ _ _ _ tabs₂ F₁₄ (fun q hq => N₁₄ q (.tail _ (.tail _ hq))) TL₂ htB ⟨D', tq, tr, rfl, Nat.le_trans hL (Nat.le_trans hLl (Nat.le_of_lt (Nat.lt_trans lql.1 lD.1))), _, (N₁₄ _ (.head _)).1, rfl, _, rfl⟩
end Mine
end
section
open PySem PySem.W PyProof.Rows PySem.Calls
namespace Mine
theorem fresh_ID_2 : True := by (w_top off); trivial
set_option maxRecDepth 100000
set_option maxHeartbeats 4000000
theorem fill_ID_2 : (fun (_ : OpenLaw) (_ : Params → Frag) => True) PySem.Challenge.rw_ik0125_02 hd.heap_1 := by k_fill; trivial
local macro_rules | `(tactic| k_all) => `(tactic| first | assumption | exact allLt_ne (by assumption))
local macro_rules | `(tactic| walk_at "ite") => `(tactic| first | refine ite_pos (by (try simp only [decide_eq_true_eq, beq_iff_eq, bne_iff_ne, ne_eq]); omega) ?_ | refine ite_neg (by (try simp only [decide_eq_true_eq, beq_iff_eq, bne_iff_ne, ne_eq]); omega) ?_)
theorem c_int_divmod_n {w : World} {A D : Nat} {a : Int} {ta tb : Tok} (ha : a = (A : Int)) (hA : A < 4294967296) (hB0 : 0 < D) (hB : D < 1073741824) : Ctr w 73 92 710 [.int a ta, .int (D : Int) tb] (fun _ _ => True)
    (fun g h v => ∃ l t₁ t₂, v = .ref l ∧ g.objs.size ≤ l ∧ h.IsTuple l #[.int ((A / D : Nat) : Int) t₁, .int ((A % D : Nat) : Int) t₂]) := by
  subst ha
  k_dflt (refine' ctr_plain (binds := [(Str.ofString "a", .int (A : Int) ta), (Str.ofString "b", .int (D : Int) tb)]) ?k6 ?k7 ?k1 ?k9 ?kB ?c2 ?c3 ?c4 ?c5 ?_; (case k6 => k_is); (case k7 => k_is); (case k1 => decide); (case k9 => intro s; exact BindsTo.of_eq rfl); (case kB => exact locs rfl); (case c2 => exact rfl); (case c3 => exact rfl); (case c4 => exact rfl); (case c5 => decide))
  intro p loose mean mg mb dp un gd outer A₀ base g₀ g L tabs s Q hd hu hL st F NN TL B X T hpre hret
  try dsimp only [List.reverse_cons, List.reverse_nil, List.nil_append, List.cons_append] at F
  k_steps
  rename Fr _ _ _ _ => F₂
  rename News _ _ _ _ => N₂
  refine use_ctr (c_divmod_pos hA hB0 hB) B F₂ X N₂ TL .base T rfl (by omega) (by omega) trivial ?_
  rintro v h₃ tk₃ tabs' F₃ N₃ TL' TO' ht' ⟨l, t₁, t₂, rfl, hl, hT⟩
  exact hret _ _ _ _ tabs' F₃ N₃ TL' (fun q hq => (ht' q hq).imp id fun h => Nat.le_trans (Nat.le_of_lt F₂.ns.lt) h) ⟨l, t₁, t₂, rfl, Nat.le_trans hL (Nat.le_trans (Nat.le_of_lt F₂.ns.lt) hl), hT⟩
theorem divz {a : Int} {D : Nat} (ha : a < 0) (hD : 0 < D) : a.fdiv D = Builtin.bitNot (((-1 - a).toNat / D : Nat) : Int) ∧ a.fmod D = (D : Int) + Builtin.bitNot (((-1 - a).toNat % D : Nat) : Int) := by
  obtain ⟨n, rfl⟩ : ∃ n : Nat, a = -1 - (n : Int) := ⟨(-1 - a).toNat, by omega⟩
  have e : (-1 - (-1 - (n : Int))).toNat = n := by omega
  rw [e]
  have h1 := Nat.div_add_mod n D
  have h2 := Nat.mod_lt n hD
  generalize n / D = q at *
  generalize n % D = r at *
  have h3 : (-1 - (n : Int)) = (D : Int) * (-1 - (q : Int)) + ((D : Int) - 1 - r) := by
    rw [← h1]; push_cast; rw [Int.mul_sub]; omega
  unfold Builtin.bitNot
  rw [Int.fdiv_eq_ediv_of_nonneg _ (by omega), Int.fmod_eq_emod_of_nonneg _ (by omega)]
  have hq : (-1 - (n : Int)) / (D : Int) = -1 - (q : Int) := by
    rw [h3, Int.add_comm, Int.add_mul_ediv_left _ _ (by omega), Int.ediv_eq_zero_of_lt (by omega) (by omega)]; omega
  have hm : (-1 - (n : Int)) % (D : Int) = (D : Int) - 1 - r := by
    rw [h3, Int.add_comm, Int.add_mul_emod_self_left, Int.emod_eq_of_lt (by omega) (by omega)]
  rw [hq, hm]
  omega
theorem c_int_divmod_z {w : World} {a : Int} {D : Nat} {ta tb : Tok} (ha : a < 0) (hA : -4294967296 ≤ a) (hB0 : 0 < D) (hB : D < 1073741824) : Ctr w 73 94 730 [.int a ta, .int (D : Int) tb] (fun _ _ => True)
    (fun g h v => ∃ l t₁ t₂, v = .ref l ∧ g.objs.size ≤ l ∧ h.IsTuple l #[.int (a.fdiv D) t₁, .int (a.fmod D) t₂]) := by
  k_dflt (refine' ctr_plain (binds := [(Str.ofString "a", .int a ta), (Str.ofString "b", .int (D : Int) tb)]) ?k6 ?k7 ?k1 ?k9 ?kB ?c2 ?c3 ?c4 ?c5 ?_; (case k6 => k_is); (case k7 => k_is); (case k1 => decide); (case k9 => intro s; exact BindsTo.of_eq rfl); (case kB => exact locs rfl); (case c2 => exact rfl); (case c3 => exact rfl); (case c4 => exact rfl); (case c5 => decide))
  intro p loose mean mg mb dp un gd outer A₀ base g₀ g L tabs s Q hd hu hL st F NN TL B X T hpre hret
  try dsimp only [List.reverse_cons, List.reverse_nil, List.nil_append, List.cons_append] at F
  k_steps
  rename Fr _ _ _ _ => F₂
  rename News _ _ _ _ => N₂
  refine use_ctr (c_int_divmod_n (A := (-1 - a).toNat) (by unfold Builtin.bitNot; omega) (by omega) hB0 hB) B F₂ X N₂ TL .base T rfl (by omega) (by omega) trivial ?_
  rintro v h₃ tk₃ tabs' F₃ N₃ TL' TO' ht' ⟨l, t₁, t₂, rfl, hl, hT⟩
  have htA : ∀ q ∈ tabs', q.1 ∈ tabs.map (·.1) ∨ L ≤ q.1 := fun q hq => (ht' q hq).imp id fun h => Nat.le_trans (Nat.le_of_lt F₂.ns.lt) h
  obtain ⟨o, ho, _⟩ := id hT
  have hLl : L ≤ l := Nat.le_trans (Nat.le_of_lt F₂.ns.lt) hl
  have N₅ := led_new F₂ N₃ hl ho
  clear N₂ F₂ N₃
  refine assign_two rfl rfl rfl rfl F₃ N₅ hT ?_
  intro h₄ F₄ N₄
  change Fr g L h₄ _ at F₄
  change News g L h₄ _ at N₄
  clear F₃ N₅
  k_steps
  rename_i D' h₆ F₆ N₆ lD
  obtain ⟨e1, e2⟩ := divz (D := D) ha hB0
  rw [← e1, ← e2] at N₆
  exact hret _ _ _ _ tabs' F₆ (fun q hq => N₆ q (.tail _ (.tail _ hq))) TL' htA ⟨D', _, _, rfl, Nat.le_trans hL (Nat.le_trans hLl (Nat.le_of_lt lD.1)), _, (N₆ _ (.head _)).1, rfl, _, rfl⟩
end Mine
end
section
open PySem PySem.W PyProof.Rows PySem.Calls
namespace Mine
theorem fresh_TS_2 : True := by (w_top off); trivial
set_option maxRecDepth 100000
set_option maxHeartbeats 4000000
theorem fill_TS_2 : (fun (_ : OpenLaw) (_ : Params → Frag) => True) PySem.Challenge.rw_ik0125_02 hd.heap_1 := by k_fill; trivial
local macro_rules | `(tactic| k_all) => `(tactic| first | assumption | exact allLt_ne (by assumption))
theorem show_me2 {P : Prop} (h : P ∨ False) : P := h.elim id False.elim
local macro_rules | `(tactic| walk_at "exec While Compare cons nil") => `(tactic| (refine show_me2 ?_))
local macro_rules | `(tactic| walk_at "exec While") => `(tactic| (refine show_me2 ?_))
local macro_rules | `(tactic| walk_at "newList") => `(tactic| (k_here; (with_reducible show wpAny _ _ (newList []) _ _ _); k_dflt (refine' newList_D ?F ?N ?_; (case F => k_asm); (case N => k_asm)); intro D' h' F' N' l1 lL; (try k_lt l1); (try k_sweep)))
local macro_rules | `(tactic| walk_at "getAttr ref") => `(tactic| (k_here; k_dflt (refine' getAttr_app_L ?F ?N ?m ?_; (case F => k_asm); (case N => k_asm); (case m => k_mem)); intro q' h' F' N' l1; (try k_lt l1); (try k_sweep)))
local macro_rules | `(tactic| walk_at "callWith ref") => `(tactic| (k_here; k_dflt (refine' callWith_app ?N ?m ?_; (case N => k_asm); (case m => k_mem); k_whole)))
local macro_rules | `(tactic| walk_at "And") => `(tactic| ((with_reducible show AppAt _ _ _ ∧ _); k_dflt (refine ⟨appAt_of (by k_asm) (by k_mem), ?_⟩); (try dsimp only [List.nil_append, List.cons_append])))
local macro_rules | `(tactic| walk_at "call ref") => `(tactic| (k_here; k_dflt (refine' call_boundApp ?F ?N ?q ?U ?z ?_; (case F => k_asm); (case N => k_asm); (case q => first | assumption | exact appAt_of (by k_asm) (by k_mem)); (case U => k_upd); (case z => assumption)); intro h' F' N'; (try k_sweep)))
local macro_rules | `(tactic| walk_at "call builtin:len") => `(tactic| (k_here; (with_reducible show wpAny _ _ (call (Value.builtin _) [Value.str _ _]) _ _ _); k_dflt (refine PySem.P.len_str (by omega) ?_)))
local macro_rules | `(tactic| walk_at "subscriptTail Name Name str int") => `(tactic| (k_here; (with_reducible show wpAny _ _ (subscriptTail _ _ (Value.str _ _) (Value.int _ _)) _ _ _); k_dflt (first | (refine' str_tok (d := 0) ?hT ?hj ?hc ?hl ?_; (case hT => assumption); (case hj => omega); (case hc => exact rfl); (case hl => omega)) | (refine' str_tok (d := 1) ?hT ?hj ?hc ?hl ?_; (case hT => assumption); (case hj => omega); (case hc => exact rfl); (case hl => omega)) | (refine' str_tok (d := 2) ?hT ?hj ?hc ?hl ?_; (case hT => assumption); (case hj => omega); (case hc => exact rfl); (case hl => omega)) | (refine' str_tok (d := 3) ?hT ?hj ?hc ?hl ?_; (case hT => assumption); (case hj => omega); (case hc => exact rfl); (case hl => omega)))))
local macro_rules | `(tactic| walk_at "eval Name") => `(tactic| (k_here; k_dflt (refine' nameX_L ?F ?v ?_ ?a ?b; (case F => k_asm); (case a => rfl); (case b => rfl); (case v => first | exact rfl | assumption); k_whole)))
/-- a piece of a pattern, and what _translate hands on for it -/
inductive TokOk (S : Addr) : List Nat → Value → Prop
  | star : TokOk S [42] (.ref S)
  | sign (c : Nat) (u : Tok) (h : c ∈ [114, 119, 120, 115, 83, 116, 84, 45]) : TokOk S [c] (.str (escF c) u)
inductive ToksOk (S : Addr) : List (List Nat) → List Value → Prop
  | nil : ToksOk S [] []
  | cons {t : List Nat} {v : Value} {ts : List (List Nat)} {vs : List Value} : TokOk S t v → ToksOk S ts vs → ToksOk S (t :: ts) (v :: vs)
theorem ToksOk.snoc {S : Addr} {ts : List (List Nat)} {vs : List Value} {x : List Nat} {v : Value} (h : ToksOk S ts vs) (hx : TokOk S x v) : ToksOk S (ts ++ [x]) (vs ++ [v]) := by
  induction h with
  | nil => exact .cons hx .nil
  | cons a _ ih => exact .cons a ih
def JT (S : Addr) (P : Str) (ts : List (List Nat)) (t : Tok) (rl q : Addr) (tabs : List (Addr × Obj)) : Nat → (Str → Option Value) → List (Addr × Obj) → Prop :=
  fun k m rest => ∃ (i : Nat) (ti : Tok) (tn : Tok), m (Str.ofString "pat") = some (.str P t) ∧ m (Str.ofString "STAR") = some (.ref S) ∧ m (Str.ofString "res") = some (.ref rl) ∧ m (Str.ofString "add") = some (.ref q) ∧
      m (Str.ofString "i") = some (.int (i : Int) ti) ∧ m (Str.ofString "n") = some (.int (P.length : Int) tn) ∧ i = (ts.take k).flatten.length ∧ ∃ (its : Array Value) (ep : Nat), rest = (q, boundApp rl) :: (rl, PySem.W.listOf its ep) :: tabs ∧ ToksOk S (ts.take k) its.toList
theorem turn_end {S : Addr} {P : Str} {ts : List (List Nat)} {t : Tok} {rl q : Addr} {tabs : List (Addr × Obj)} {h₀ : Heap} {L : Addr} {s : Shared} {R : Result → Shared → Prop} {k i : Nat} {tk : Nat} {m : Str → Option Value} {h : Heap} {its : Array Value} {ep : Nat} {v : Value} {x : List Nat} {iv : Int} {ti tn : Tok}
    (F : Fr h₀ L h m) (N : News h₀ L h ((q, boundApp rl) :: (rl, PySem.W.listOf (its.push v) (ep + 1)) :: tabs)) (hmi : m (Str.ofString "i") = some (.int iv ti)) (hiv : iv = ((i + x.length : Nat) : Int)) (j1 : m (Str.ofString "pat") = some (.str P t)) (j2 : m (Str.ofString "STAR") = some (.ref S)) (j3 : m (Str.ofString "res") = some (.ref rl)) (j4 : m (Str.ofString "add") = some (.ref q))
    (j6 : m (Str.ofString "n") = some (.int (P.length : Int) tn)) (hk : k < ts.length) (htk : ts[k] = x) (hi : i = (ts.take k).flatten.length) (hto : ToksOk S (ts.take k) its.toList) (hx : TokOk S x v) :
    LP h₀ L s [] [] R (JT S P ts t rl q tabs (k + 1)) .next { s with heap := h, toks := tk } := by
  subst hiv
  refine ⟨h, tk, m, _, rfl, F, N, fun p hp h => by simp at h, i + x.length, ti, tn, j1, j2, j3, j4, hmi, j6, ?_, _, _, rfl, ?_⟩
  · rw [List.take_succ_eq_append_getElem hk, List.flatten_append, htk, hi]; simp
  · rw [Array.toList_push, List.take_succ_eq_append_getElem hk, htk]
    exact hto.snoc hx
theorem ToksOk.len {S : Addr} {ts : List (List Nat)} {vs : List Value} (h : ToksOk S ts vs) : vs.length = ts.length := by
  induction h with
  | nil => rfl
  | cons _ _ ih => simp [ih]
theorem tokAt_of {P : Str} {ts : List (List Nat)} {k : Nat} (hts : P.cps.toList = ts.flatten) (hk : k < ts.length) : TokAt P (ts.take k).flatten.length ts[k] := by
  constructor
  intro d c hc
  rw [← Array.getElem?_toList, hts]
  have e : ts.flatten = (ts.take k).flatten ++ (ts[k] ++ (ts.drop (k + 1)).flatten) := by
    conv => lhs; rw [← List.take_append_drop k ts, List.flatten_append, List.drop_eq_getElem_cons hk, List.flatten_cons]
  rw [e, List.getElem?_append_right (by omega), Nat.add_sub_cancel_left, List.getElem?_append_left (List.getElem?_eq_some_iff.mp hc).1]
  exact hc
theorem ToksOk.get {S : Addr} {ts : List (List Nat)} {vs : List Value} (h : ToksOk S ts vs) : ∀ {i : Nat} {x : List Nat}, ts[i]? = some x → ∃ v, vs[i]? = some v ∧ TokOk S x v := by
  induction h with
  | nil => intro i x e; simp at e
  | cons a _ ih =>
    intro i x e
    cases i with
    | zero => simp at e; subst e; exact ⟨_, rfl, a⟩
    | succ i => simpa using ih (by simpa using e)
theorem ToksOk.last {S : Addr} {ts : List (List Nat)} {k : Nat} {its : Array Value} (h : ToksOk S (ts.take k) its.toList) (hk0 : 0 < k) (hk : k ≤ ts.length) {c : Nat} (hc : c ≠ 42) (hp : ts[k - 1]? = some [c]) : ∃ x u, its[its.size - 1]? = some (.str x u) ∧ its.size = k := by
  have hl := h.len
  rw [List.length_take, Nat.min_eq_left hk] at hl
  have hs : its.size = k := by simpa using hl
  obtain ⟨v, hv, ht⟩ := h.get (i := k - 1) (x := [c]) (by rw [List.getElem?_take]; rw [if_pos (by omega)]; exact hp)
  cases ht with
  | sign c u hm => exact ⟨_, u, by rw [hs, ← Array.getElem?_toList]; exact hv, hs⟩
  | star => exact absurd rfl hc
section
variable {prog : Program} {w : World} {A : Around} {E : Value → Shared → Prop} {s : Shared} {h₀ : Heap} {L l : Addr} {m : Str → Option Value} {news : List (Addr × Obj)} {its : Array Value} {n : Nat}
theorem truthy_its {b : Bool} {Q : Bool → Shared → Prop} (N : News h₀ L s.heap news) (hm : (l, PySem.W.listOf its n) ∈ news) (hz : its.size ≤ sizeLine) (hb : (!its.isEmpty) = b) (h : Q b { s with toks := s.toks + 1 + 1 }) : wpAny (model prog w) A (truthy (.ref l)) Q E s := by
  subst hb
  exact wpAny_truthy_list (N.isList hm) (by rw [sizeLine_eq] at hz; omega) h
theorem last_its {value slice : PySem.Expr} {k : Int} {u : Tok} {v : Value} {Q : Value → Shared → Prop} (N : News h₀ L s.heap news) (hm : (l, PySem.W.listOf its n) ∈ news) (hz : its.size ≤ sizeLine) (hk : k = -1) (hx : its[its.size - 1]? = some v) (h : Q v s)
    (hs : subscripted slice false (.ref l) (.int k u) = operate [.ref l, .int k u] (getItem (.ref l) (.int k u)) := by with_unfolding_all rfl) :
    wpAny (model prog w) A (subscriptTail value slice (.ref l) (.int k u)) Q E s := by
  subst hk
  have h0 : 0 < its.size := by have := (Array.getElem?_eq_some_iff.mp hx).1; omega
  refine tail_any (N.isList hm).typeIs slot_list_getitem.lookup (wpAny_getItem_list_neg (N.isList hm) (by decide) (by omega) (by decide) ?_ h) hs
  rw [show ((-1 : Int) + its.size).toNat = its.size - 1 by omega]; exact hx
end
local macro_rules | `(tactic| walk_at "compareOp IsNot") => `(tactic| (k_here; (with_reducible show wpAny _ _ (compareOp CmpOp.IsNot (Value.str _ _) (Value.ref _)) _ _ _); k_dflt (refine wpAny_isNot_other (by rfl) (by intro x; cases x) ?_)))
local macro_rules | `(tactic| walk_at "truthy ref") => `(tactic| (k_here; k_dflt (refine' truthy_its ?N ?m ?z ?b ?_; (case N => k_asm); (case m => k_mem); (case z => assumption); (case b => assumption))))
local macro_rules | `(tactic| walk_at "subscriptTail") => `(tactic| (k_here; (with_reducible show wpAny _ _ (subscriptTail _ _ (Value.ref _) (Value.int _ _)) _ _ _); k_dflt (refine' last_its ?N ?m ?z ?k ?x ?_; (case N => k_asm); (case m => k_mem); (case z => assumption); (case k => rfl); (case x => assumption))))
theorem c_translate_ {w : World} {S : Addr} {P : Str} {ts : List (List Nat)} {t tq : Tok} (hP : P.length ≤ 100) (hn : ts.length ≤ 100) (hts : P.cps.toList = ts.flatten) (hok : ∀ k (hk : k < ts.length), (∃ c ∈ [114, 119, 120, 115, 83, 116, 84, 45], ts[k] = [c]) ∨ (ts[k] = [42] ∧ (k = 0 ∨ ∃ c, c ≠ 42 ∧ ts[k - 1]? = some [c]))) : Ctr w 104 20 200 [.str P t, .ref S, .str ⟨#[46]⟩ tq] (fun _ _ => True) (fun g h v => ∃ l vs ep, v = .ref l ∧ g.objs.size ≤ l ∧ h.get? l = some (PySem.W.listOf vs ep) ∧ ToksOk S ts vs.toList) := by
  k_dflt (refine' ctr_plain (binds := [(Str.ofString "pat", .str P t), (Str.ofString "STAR", .ref S), (Str.ofString "QUESTION_MARK", .str ⟨#[46]⟩ tq)]) ?k6 ?k7 ?k1 ?k9 ?kB ?c2 ?c3 ?c4 ?c5 ?_; (case k6 => k_is); (case k7 => k_is); (case k1 => decide); (case k9 => intro s; exact BindsTo.of_eq rfl); (case kB => exact locs rfl); (case c2 => exact rfl); (case c3 => exact rfl); (case c4 => exact rfl); (case c5 => decide))
  intro p loose mean mg mb dp un gd outer A₀ base g₀ g L tabs s Q hd hu hL st F NN TL B X T hpre hret
  try dsimp only [List.reverse_cons, List.reverse_nil, List.nil_append, List.cons_append] at F
  k_steps
  refine .inl ?_
  refine exec_while ?_
  rename_i rl h₁ lrl lL h₂ tk₁ q h₃ lq h₄ D' h₅ lD h₆ h₇ h₈ F₈ N₈
  refine while_ind (s := { s with heap := h₈, toks := tk }) ts.length (JT S P ts t rl q tabs)
    ?step ?fin ts.length 0 _ _ _ _ rfl (Nat.zero_le _) ?J0 F₈ (fun p hp => N₈ p (.tail _ hp))
  case J0 => exact ⟨0, _, _, rfl, rfl, rfl, rfl, rfl, rfl, by simp, _, _, rfl, by simpa using ToksOk.nil⟩
  case step =>
    rintro k m rest h' tk' hk ⟨i, ti, tn, j1, j2, j3, j4, j5, j6, hi, its, ep, rfl, hto⟩ F₉ N₉
    change Fr g L h' _ at F₉
    change News g L h' _ at N₉
    rcases hok k hk with ⟨c, hc, htk⟩ | ⟨htk, hprev⟩
    rotate_left
    · have hPc : TokAt P i [42] := by rw [hi, ← htk]; exact tokAt_of hts hk
      have hin : i < P.length := (Array.getElem?_eq_some_iff.mp (hPc.at 0 42 rfl)).1
      have hz : its.size ≤ sizeLine := by
        have := hto.len
        rw [List.length_take] at this
        rw [sizeLine_eq]; simp at this; omega
      have z1 := ltN lq.1
      clear F₈ N₈
      rcases Nat.eq_zero_or_pos k with hk0 | hk0
      · have hie : its = #[] := by
          subst hk0
          have := hto.len
          apply Array.ext'
          simpa using this
        subst hie
        have hb : (!(#[] : Array Value).isEmpty) = false := rfl
        k_steps
        · (rename News _ _ _ _ => N₁₂; exact (N₁₂ _ (.head _)).1)
        rename Fr _ _ _ _ => F₁₂
        rename News _ _ _ _ => N₁₂
        exact turn_end F₁₂ N₁₂ rfl rfl j1 j2 j3 j4 j6 hk htk hi hto .star
      · obtain ⟨c, hc42, hpc⟩ := hprev.resolve_left (by omega)
        obtain ⟨x, u, hx, hsz⟩ := hto.last hk0 (by omega) hc42 hpc
        have hb : (!its.isEmpty) = true := by
          cases h : its.isEmpty with
          | false => rfl
          | true => simp at h; subst h; simp at hsz; omega
        k_steps
        · (rename News _ _ _ _ => N₁₂; exact (N₁₂ _ (.head _)).1)
        rename Fr _ _ _ _ => F₁₂
        rename News _ _ _ _ => N₁₂
        exact turn_end F₁₂ N₁₂ rfl rfl j1 j2 j3 j4 j6 hk htk hi hto .star
    have hPc : TokAt P i [c] := by rw [hi, ← htk]; exact tokAt_of hts hk
    have hin : i < P.length := (Array.getElem?_eq_some_iff.mp (hPc.at 0 c rfl)).1
    have hz : its.size ≤ sizeLine := by
      have := hto.len
      rw [List.length_take] at this
      rw [sizeLine_eq]; simp at this; omega
    have z1 := ltN lq.1
    clear F₈ N₈
    simp only [List.mem_cons, List.not_mem_nil, or_false] at hc
    rcases hc with rfl | rfl | rfl | rfl | rfl | rfl | rfl | rfl
    · k_steps
      rename Fr _ _ _ _ => F₁₀
      rename News _ _ _ _ => N₁₀
      refine use_leaf (c_escape (c := 114) (by decide)) B F₁₀ X N₁₀ T rfl (by omega) (by omega) trivial ?_
      rintro v h₁₁ tk₁₁ F₁₁ N₁₁ _ ⟨u, rfl⟩
      clear F₁₀ N₁₀
      have hApp : AppAt q rl h₁₁ := (N₁₁ _ (.head _)).1
      k_steps
      any_goals exact hApp
      rename Fr _ _ _ _ => F₁₂
      rename News _ _ _ _ => N₁₂
      exact turn_end F₁₂ N₁₂ rfl rfl j1 j2 j3 j4 j6 hk htk hi hto (.sign 114 u (by decide))
    · k_steps
      rename Fr _ _ _ _ => F₁₀
      rename News _ _ _ _ => N₁₀
      refine use_leaf (c_escape (c := 119) (by decide)) B F₁₀ X N₁₀ T rfl (by omega) (by omega) trivial ?_
      rintro v h₁₁ tk₁₁ F₁₁ N₁₁ _ ⟨u, rfl⟩
      clear F₁₀ N₁₀
      have hApp : AppAt q rl h₁₁ := (N₁₁ _ (.head _)).1
      k_steps
      any_goals exact hApp
      rename Fr _ _ _ _ => F₁₂
      rename News _ _ _ _ => N₁₂
      exact turn_end F₁₂ N₁₂ rfl rfl j1 j2 j3 j4 j6 hk htk hi hto (.sign 119 u (by decide))
    · k_steps
      rename Fr _ _ _ _ => F₁₀
      rename News _ _ _ _ => N₁₀
      refine use_leaf (c_escape (c := 120) (by decide)) B F₁₀ X N₁₀ T rfl (by omega) (by omega) trivial ?_
      rintro v h₁₁ tk₁₁ F₁₁ N₁₁ _ ⟨u, rfl⟩
      clear F₁₀ N₁₀
      have hApp : AppAt q rl h₁₁ := (N₁₁ _ (.head _)).1
      k_steps
      any_goals exact hApp
      rename Fr _ _ _ _ => F₁₂
      rename News _ _ _ _ => N₁₂
      exact turn_end F₁₂ N₁₂ rfl rfl j1 j2 j3 j4 j6 hk htk hi hto (.sign 120 u (by decide))
    · k_steps
      rename Fr _ _ _ _ => F₁₀
      rename News _ _ _ _ => N₁₀
      refine use_leaf (c_escape (c := 115) (by decide)) B F₁₀ X N₁₀ T rfl (by omega) (by omega) trivial ?_
      rintro v h₁₁ tk₁₁ F₁₁ N₁₁ _ ⟨u, rfl⟩
      clear F₁₀ N₁₀
      have hApp : AppAt q rl h₁₁ := (N₁₁ _ (.head _)).1
      k_steps
      any_goals exact hApp
      rename Fr _ _ _ _ => F₁₂
      rename News _ _ _ _ => N₁₂
      exact turn_end F₁₂ N₁₂ rfl rfl j1 j2 j3 j4 j6 hk htk hi hto (.sign 115 u (by decide))
    · k_steps
      rename Fr _ _ _ _ => F₁₀
      rename News _ _ _ _ => N₁₀
      refine use_leaf (c_escape (c := 83) (by decide)) B F₁₀ X N₁₀ T rfl (by omega) (by omega) trivial ?_
      rintro v h₁₁ tk₁₁ F₁₁ N₁₁ _ ⟨u, rfl⟩
      clear F₁₀ N₁₀
      have hApp : AppAt q rl h₁₁ := (N₁₁ _ (.head _)).1
      k_steps
      any_goals exact hApp
      rename Fr _ _ _ _ => F₁₂
      rename News _ _ _ _ => N₁₂
      exact turn_end F₁₂ N₁₂ rfl rfl j1 j2 j3 j4 j6 hk htk hi hto (.sign 83 u (by decide))
    · k_steps
      rename Fr _ _ _ _ => F₁₀
      rename News _ _ _ _ => N₁₀
      refine use_leaf (c_escape (c := 116) (by decide)) B F₁₀ X N₁₀ T rfl (by omega) (by omega) trivial ?_
      rintro v h₁₁ tk₁₁ F₁₁ N₁₁ _ ⟨u, rfl⟩
      clear F₁₀ N₁₀
      have hApp : AppAt q rl h₁₁ := (N₁₁ _ (.head _)).1
      k_steps
      any_goals exact hApp
      rename Fr _ _ _ _ => F₁₂
      rename News _ _ _ _ => N₁₂
      exact turn_end F₁₂ N₁₂ rfl rfl j1 j2 j3 j4 j6 hk htk hi hto (.sign 116 u (by decide))
    · k_steps
      rename Fr _ _ _ _ => F₁₀
      rename News _ _ _ _ => N₁₀
      refine use_leaf (c_escape (c := 84) (by decide)) B F₁₀ X N₁₀ T rfl (by omega) (by omega) trivial ?_
      rintro v h₁₁ tk₁₁ F₁₁ N₁₁ _ ⟨u, rfl⟩
      clear F₁₀ N₁₀
      have hApp : AppAt q rl h₁₁ := (N₁₁ _ (.head _)).1
      k_steps
      any_goals exact hApp
      rename Fr _ _ _ _ => F₁₂
      rename News _ _ _ _ => N₁₂
      exact turn_end F₁₂ N₁₂ rfl rfl j1 j2 j3 j4 j6 hk htk hi hto (.sign 84 u (by decide))
    · k_steps
      rename Fr _ _ _ _ => F₁₀
      rename News _ _ _ _ => N₁₀
      refine use_leaf (c_escape (c := 45) (by decide)) B F₁₀ X N₁₀ T rfl (by omega) (by omega) trivial ?_
      rintro v h₁₁ tk₁₁ F₁₁ N₁₁ _ ⟨u, rfl⟩
      clear F₁₀ N₁₀
      have hApp : AppAt q rl h₁₁ := (N₁₁ _ (.head _)).1
      k_steps
      any_goals exact hApp
      rename Fr _ _ _ _ => F₁₂
      rename News _ _ _ _ => N₁₂
      exact turn_end F₁₂ N₁₂ rfl rfl j1 j2 j3 j4 j6 hk htk hi hto (.sign 45 u (by decide))
  case fin =>
    rintro m rest h' tk' ⟨i, ti, tn, j1, j2, j3, j4, j5, j6, hi, its, ep, rfl, hto⟩ F₉ N₉
    change Fr g L h' _ at F₉
    change News g L h' _ at N₉
    rw [List.take_length] at hi hto
    have hiP : i = P.length := by rw [hi, ← hts]; rfl
    subst hiP
    clear F₈ N₈
    k_steps
    · simp
    · exact hret _ _ _ _ tabs F₉ (fun p hp => N₉ p (.tail _ (.tail _ hp))) TL (fun p hp => .inl (List.mem_map_of_mem hp)) ⟨rl, its, ep, rfl, Nat.le_trans hL (Nat.le_of_lt lL), (N₉ _ (.tail _ (.head _))).1, hto⟩
end Mine
end
section
open PySem PySem.W PyProof.Rows PySem.Calls
namespace Mine
theorem fresh_JP_2 : True := by (w_top off); trivial
set_option maxRecDepth 100000
set_option maxHeartbeats 4000000
theorem fill_JP_2 : (fun (_ : OpenLaw) (_ : Params → Frag) => True) PySem.Challenge.rw_ik0125_02 hd.heap_1 := by k_fill; trivial
local macro_rules | `(tactic| k_all) => `(tactic| first | assumption | exact allLt_ne (by assumption))
theorem show_me3 {P : Prop} (h : P ∨ False) : P := h.elim id False.elim
local macro_rules | `(tactic| walk_at "exec While Compare cons nil") => `(tactic| (refine show_me3 ?_))
local macro_rules | `(tactic| walk_at "exec While") => `(tactic| (refine show_me3 ?_))
local macro_rules | `(tactic| walk_at "newList") => `(tactic| (k_here; (with_reducible show wpAny _ _ (newList []) _ _ _); k_dflt (refine' newList_D ?F ?N ?_; (case F => k_asm); (case N => k_asm)); intro D' h' F' N' l1 lL; (try k_lt l1); (try k_sweep)))
local macro_rules | `(tactic| walk_at "getAttr ref") => `(tactic| (k_here; k_dflt (refine' getAttr_app_L ?F ?N ?m ?_; (case F => k_asm); (case N => k_asm); (case m => k_mem)); intro q' h' F' N' l1; (try k_lt l1); (try k_sweep)))
local macro_rules | `(tactic| walk_at "callWith ref") => `(tactic| (k_here; k_dflt (refine' callWith_app ?N ?m ?_; (case N => k_asm); (case m => k_mem); k_whole)))
local macro_rules | `(tactic| walk_at "And") => `(tactic| ((with_reducible show AppAt _ _ _ ∧ _); k_dflt (refine ⟨appAt_of (by k_asm) (by k_mem), ?_⟩); (try dsimp only [List.nil_append, List.cons_append])))
local macro_rules | `(tactic| walk_at "call ref") => `(tactic| (k_here; k_dflt (refine' call_boundApp ?F ?N ?q ?U ?z ?_; (case F => k_asm); (case N => k_asm); (case q => first | assumption | exact appAt_of (by k_asm) (by k_mem)); (case U => k_upd); (case z => first | assumption | decide | (rw [sizeLine_eq]; simp))); intro h' F' N'; (try k_sweep)))
theorem loadX_L {M : Model} {A : Around} {E : Value → Shared → Prop} {s : Shared} {h₀ : Heap} {L a : Addr} {m : Str → Option Value} {cn : Str} {cs : Scope} {ccd : Value} {cl : List (Str × Addr)} {x : Str} {v : Value} {Q : Value → Shared → Prop} (F : Fr h₀ L s.heap m) (hv : m x = some v) (h : Q v s)
    (hk : cs.kind = .function := by rfl) (hx : (envX cn cs L a ccd cl).kindOf x = some .local := by rfl) :
    wpAny M A (loadName (envX cn cs L a ccd cl) x) Q E s := wpAny_loadName_local hk hx F.ns hv h
section
variable {prog : Program} {w : World} {A : Around} {E : Value → Shared → Prop} {s : Shared} {h₀ : Heap} {L l : Addr} {m : Str → Option Value} {vs : List Value} {ep : Nat}
theorem len_gv {Q : Value → Shared → Prop} {n : Nat} (F : Fr h₀ L s.heap m) (g : h₀.get? l = some (PySem.W.listOf vs.toArray ep)) (hn : vs.length = n) (hz : n ≤ 1000) (h : Q (.int (n : Nat) (s.toks + 1)) { s with toks := s.toks + 1 + 1 }) : wpAny (model prog w) A (call (.builtin "len") [.ref l]) Q E s := by
  subst hn
  exact Calls.call_len_list (PySem.IsL.isList (n := ep) (F.keep _ _ g)) (by simp; omega) h
theorem sub_gv {value slice : PySem.Expr} {k : Int} (i : Nat) {u : Tok} {v : Value} {Q : Value → Shared → Prop} (F : Fr h₀ L s.heap m) (g : h₀.get? l = some (PySem.W.listOf vs.toArray ep)) (hx : vs[i]? = some v) (hk : k = (i : Int)) (h1 : i < 1000) (h : Q v s)
    (hs : subscripted slice false (.ref l) (.int k u) = operate [.ref l, .int k u] (getItem (.ref l) (.int k u)) := by with_unfolding_all rfl) :
    wpAny (model prog w) A (subscriptTail value slice (.ref l) (.int k u)) Q E s := by
  subst hk
  have hl := PySem.IsL.isList (n := ep) (F.keep _ _ g)
  exact tail_any hl.typeIs slot_list_getitem.lookup (wpAny_getItem_list hl (by omega) (by omega) (by simpa using hx) h) hs
end
local macro_rules | `(tactic| walk_at "call builtin:len") => `(tactic| (k_here; (with_reducible show wpAny _ _ (call (Value.builtin _) [Value.ref _]) _ _ _); k_dflt (refine len_gv (by k_asm) (by assumption) (by assumption) (by omega) ?_)))
local macro_rules | `(tactic| walk_at "subscriptTail") => `(tactic| (k_here; (with_reducible show wpAny _ _ (subscriptTail _ _ (Value.ref _) (Value.int _ _)) _ _ _); k_dflt (first | refine sub_gv 0 (by k_asm) (by assumption) (by assumption) (by omega) (by omega) ?_ | refine sub_gv 1 (by k_asm) (by assumption) (by assumption) (by omega) (by omega) ?_ | (refine' sub_gv _ ?F ?g ?x ?k ?z ?_; (case F => k_asm); (case g => assumption); (case x => assumption); (case k => omega); (case z => omega)))))
local macro_rules | `(tactic| walk_at "compareOp IsNot") => `(tactic| (k_here; first | ((with_reducible show wpAny _ _ (compareOp CmpOp.IsNot (Value.str _ _) (Value.ref _)) _ _ _); k_dflt (refine wpAny_isNot_other (by rfl) (by intro x; cases x) ?_)) | (k_dflt (refine wpAny_isNot_ref_self ?_))))
local macro_rules | `(tactic| walk_at "compareOp Is") => `(tactic| (k_here; first | ((with_reducible show wpAny _ _ (compareOp CmpOp.Is (Value.str _ _) (Value.ref _)) _ _ _); k_dflt (refine wpAny_is_other (by rfl) (by intro x; cases x) ?_)) | (k_dflt (refine wpAny_is_ref_self ?_))))
local macro_rules | `(tactic| walk_at "eval Name") => `(tactic| (k_here; k_dflt (refine' nameX_L ?F ?v ?_ ?a ?b; (case F => k_asm); (case a => rfl); (case b => rfl); (case v => first | exact rfl | assumption); k_whole)))

local macro_rules | `(tactic| walk_at "ite") => `(tactic| first | refine ite_pos (by (try simp only [decide_eq_true_eq, beq_iff_eq, bne_iff_ne, ne_eq]); omega) ?_ | refine ite_neg (by (try simp only [decide_eq_true_eq, beq_iff_eq, bne_iff_ne, ne_eq]); omega) ?_)
local macro_rules | `(tactic| walk_at "loadName") => `(tactic| (k_here; k_dflt (refine' loadX_L ?F ?v ?_ ?a ?b; (case F => k_asm); (case a => rfl); (case b => rfl); (case v => first | exact rfl | assumption); k_whole)))
theorem strsAre_get {vs : List Value} {ys : List Str} (h : StrsAre vs ys) : ∀ {i : Nat} (hi : i < ys.length), ∃ t, vs[i]? = some (.str ys[i] t) := by
  induction h with
  | nil => intro i hi; simp at hi
  | cons y t _ ih =>
    intro i hi
    cases i with
    | zero => exact ⟨t, rfl⟩
    | succ i => simpa using ih (by simpa using hi)
theorem c_join2 {w : World} {S l : Addr} {ep : Nat} {vs : List Value} {ys : List Str} (hs : StrsAre vs ys) (hy : ∀ y ∈ ys, y.length ≤ 2) (hn1 : 1 ≤ ys.length) (hn2 : ys.length ≤ 100) :
    CtrL w 111 3 60 [.ref l, .ref S] (fun g => g.get? l = some (PySem.W.listOf (.ref S :: (vs ++ [.ref S])).toArray ep)) (fun _ _ v => ∃ t, v = .str (Str.ofString "(?s:(?>.*?" ++ Txt.join (Str.ofString "") ys ++ Str.ofString ").*)\\Z") t) := by
  k_dflt (refine' ctr_leaf (binds := [(Str.ofString "inp", .ref l), (Str.ofString "STAR", .ref S)]) ?k6 ?k7 ?k1 ?k9 ?kB ?c2 ?c3 ?c4 ?c5 ?_; (case k6 => k_is); (case k7 => k_is); (case k1 => decide); (case k9 => intro s; exact BindsTo.of_eq rfl); (case kB => exact locs rfl); (case c2 => exact rfl); (case c3 => exact rfl); (case c4 => exact rfl); (case c5 => decide))
  intro p loose mean mg mb dp un gd outer A₀ base g L s Q hd hu hL F NN B X T hpre hret
  try dsimp only [List.reverse_cons, List.reverse_nil, List.nil_append, List.cons_append] at F
  have hlv := strsAre_len hs
  obtain ⟨V, hV⟩ : ∃ V, V = Value.ref S :: (vs ++ [.ref S]) := ⟨_, rfl⟩
  rw [← hV] at hpre
  have hVn : V.length = ys.length + 2 := by rw [hV]; simp; omega
  have hV0 : V[0]? = some (.ref S) := by rw [hV]; rfl
  have hVv : ∀ i, i < ys.length → ∃ y t, y.length ≤ 2 ∧ V[i + 1]? = some (.str y t) ∧ vs[i]? = some (.str y t) := by
    intro i hi
    obtain ⟨t, ht⟩ := strsAre_get hs hi
    refine ⟨ys[i], t, hy _ (List.getElem_mem hi), ?_, ht⟩
    rw [hV, List.getElem?_cons_succ, List.getElem?_append_left (by omega)]; exact ht
  have hVl : V[ys.length + 1]? = some (.ref S) := by rw [hV, List.getElem?_cons_succ, List.getElem?_append_right (by omega), hlv]; simp
  have hV1 : ∃ y t, V[1]? = some (.str y t) := by obtain ⟨y, t, _, h, _⟩ := hVv 0 (by omega); exact ⟨y, t, h⟩
  obtain ⟨y1, t1, hV1⟩ := hV1
  k_steps
  refine .inl ?_
  refine exec_while (while_turn ?_)
  k_steps
  refine .inl ?_
  rename_i rl h₁ lrl lL h₂ tk₁ q h₃ lq h₄ D' h₅ lD h₆ h₇ h₈ F₈ N₈
  replace N₈ : News g L h₈ [(q, boundApp rl), (rl, PySem.W.listOf #[] 0)] := fun p hp => N₈ p (.tail _ hp)
  clear lD
  refine exec_while (while_turn ?_)
  k_steps
  refine .inl ?_
  rename_i h₉ tk₉ fl h₁₀ lL' lfl h₁₁ F₁₁ N₁₁
  have q1 := ltN lfl.1
  have q2 := ltN lfl.2
  have q3 := ltN lrl
  refine exec_while ?_
  refine while_ind (s := { s with heap := h₁₁, toks := tk }) ys.length (fun k m rest => ∃ (ti tn : Tok), m (Str.ofString "inp") = some (.ref l) ∧ m (Str.ofString "STAR") = some (.ref S) ∧ m (Str.ofString "res") = some (.ref rl) ∧ m (Str.ofString "add") = some (.ref q) ∧
      m (Str.ofString "i") = some (.int ((k : Int) + 1) ti) ∧ m (Str.ofString "n") = some (.int ((ys.length + 2 : Nat) : Int) tn) ∧ m (Str.ofString "fixed") = some (.ref fl) ∧ ∃ (its : Array Value) (ep' : Nat), rest = [(fl, PySem.W.listOf its ep'), (q, boundApp rl), (rl, PySem.W.listOf #[] 0)] ∧ its.toList = vs.take k)
    ?step ?fin ys.length 0 _ _ _ _ rfl (Nat.zero_le _) ?J0 F₁₁ N₁₁
  case J0 => exact ⟨_, _, rfl, rfl, rfl, rfl, rfl, rfl, rfl, _, _, rfl, rfl⟩
  case step =>
    rintro k m rest h' tk' hk ⟨ti, tn, j1, j2, j3, j4, j5, j6, j7, its, ep', rfl, hits⟩ F₁₂ N₁₂
    change Fr g L h' _ at F₁₂
    change News g L h' _ at N₁₂
    clear F₁₁ N₁₁
    obtain ⟨y, ty, hyl, hVk, hvk⟩ := hVv k hk
    have hz : its.size ≤ sizeLine := by
      have : its.toList.length = k := by rw [hits, List.length_take]; omega
      rw [sizeLine_eq]; simp at this; omega
    k_steps
    rename Fr _ _ _ _ => F₁₃
    rename News _ _ _ _ => N₁₃
    refine ⟨_, _, _, _, rfl, F₁₃, N₁₃, fun p hp h => by simp at h, _, _, j1, j2, j3, j4, rfl, j6, j7, _, _, rfl, ?_⟩
    rw [Array.toList_push, hits, List.take_add_one, hvk]; rfl
  case fin =>
    rintro m rest h' tk' ⟨ti, tn, j1, j2, j3, j4, j5, j6, j7, its, ep', rfl, hits⟩ F₁₂ N₁₂
    change Fr g L h' _ at F₁₂
    change News g L h' _ at N₁₂
    clear F₁₁ N₁₁
    rw [List.take_of_length_le (by omega)] at hits
    clear hV1
    k_steps
    refine join_list ⟨_, (N₁₂ _ (.head _)).1, rfl, _, rfl⟩ (hits ▸ hs) ?_ fun t' k' => ?_
    · have := sum_len hy
      rw [emp_len]; omega
    obtain ⟨Y, hY, hYl⟩ : ∃ Y, Y = Txt.join (Str.ofString "") ys ∧ Y.length ≤ 200 := ⟨_, rfl, Nat.le_trans (join_len hy) (by omega)⟩
    rw [← hY]
    have N₁₃ : News g L h' [(q, boundApp rl), (rl, PySem.W.listOf #[] 0)] := fun p hp => N₁₂ p (.tail _ hp)
    clear N₁₂
    k_steps
    · (rename News _ _ _ _ => N₁₂; exact (N₁₂ _ (.head _)).1)
    refine (while_turn ?_ : codeAny _ _ _ _ _)
    k_steps
    · (rename News _ _ _ _ => N₁₂; exact (N₁₂ _ (.head _)).1)
    rename Fr _ _ _ _ => F₁₄
    rename News _ _ _ _ => N₁₄
    have hB : ∀ y ∈ [Str.empty ++ "(?>.*?" ++ Y ++ ")", (".*" : Str)], y.length ≤ 220 := by
      intro y hy
      simp only [List.mem_cons, List.not_mem_nil, or_false] at hy
      rcases hy with rfl | rfl
      · rw [len_cps] at hYl ⊢
        simp only [app_cps, List.length_append]
        rw [show Str.empty.cps.toList.length = 0 by rfl, show (Str.ofString "(?>.*?").cps.toList.length = 6 by decide +kernel, show (Str.ofString ")").cps.toList.length = 1 by decide +kernel]
        omega
      · decide +kernel
    refine join_list (ys := [Str.empty ++ "(?>.*?" ++ Y ++ ")", ".*"]) ⟨_, (N₁₄ _ (.tail _ (.head _))).1, rfl, _, rfl⟩ (.cons _ _ (.cons _ _ .nil)) ?_ fun t₂ k₂ => ?_
    · have := sum_len (B := 220) (ys := [Str.empty ++ "(?>.*?" ++ Y ++ ")", ".*"]) hB
      rw [emp_len]; simp only [List.length_cons, List.length_nil] at this ⊢; omega
    obtain ⟨Z, hZ, hZl⟩ : ∃ Z, Z = Txt.join (Str.ofString "") [Str.empty ++ "(?>.*?" ++ Y ++ ")", ".*"] ∧ Z.length ≤ 440 := ⟨_, rfl, Nat.le_trans (join_len hB) (by simp)⟩
    rw [← hZ]
    k_steps
    rename Fr _ _ _ _ => F₁₅
    have e : (Str.empty ++ "(?s:" ++ Z ++ ")\\Z" : Str) = Str.ofString "(?s:(?>.*?" ++ Y ++ Str.ofString ").*)\\Z" := by
      apply str_ext
      rw [hZ]
      simp only [app_cps, join_cps, List.map_cons, List.map_nil, List.flatten_cons, List.flatten_nil]
      rw [show (Str.ofString "(?s:(?>.*?").cps.toList = (Str.ofString "(?s:").cps.toList ++ (Str.ofString "(?>.*?").cps.toList by decide +kernel, show (Str.ofString ").*)\\Z").cps.toList = (Str.ofString ")").cps.toList ++ (Str.ofString ".*").cps.toList ++ (Str.ofString ")\\Z").cps.toList by decide +kernel, show Str.empty.cps.toList = [] by rfl]
      simp only [List.nil_append, List.append_assoc, List.append_nil]
    rw [hY] at e
    exact hret _ _ _ _ F₁₅ ⟨_, congrArg (fun z => Value.str z _) e⟩
end Mine
end
section
open PySem PySem.W PyProof.Rows PySem.Calls
namespace Mine
theorem fresh_TT_2 : True := by (w_top off); trivial
set_option maxRecDepth 100000
set_option maxHeartbeats 4000000
theorem fill_TT_2 : (fun (_ : OpenLaw) (_ : Params → Frag) => True) PySem.Challenge.rw_ik0125_02 hd.heap_1 := by k_fill; trivial
theorem toksOk_split {S : Addr} {cs : List Nat} {vs : List Value} (hc : ∀ c ∈ cs, c ≠ 42) (h : ToksOk S ([42] :: (cs.map (fun c => [c]) ++ [[42]])) vs) : ∃ ms, vs = .ref S :: (ms ++ [.ref S]) ∧ StrsAre ms (cs.map escF) := by
  cases h with
  | cons h1 h2 =>
    have e1 : ∀ {v : Value}, TokOk S [42] v → v = .ref S := by
      intro v h
      generalize ht : [42] = x at h
      cases h with
      | sign c u hm => simp at ht; subst ht; simp at hm
      | star => rfl
    have e1' := e1 h1
    subst e1'
    refine (fun (k : ∀ (cs : List Nat) (vs : List Value), (∀ c ∈ cs, c ≠ 42) → ToksOk S (cs.map (fun c => [c]) ++ [[42]]) vs → ∃ ms, vs = ms ++ [.ref S] ∧ StrsAre ms (cs.map escF)) => ?_) ?_
    · obtain ⟨ms, rfl, hm⟩ := k cs _ hc h2
      exact ⟨ms, rfl, hm⟩
    · clear h2 h1 hc
      intro cs
      induction cs with
      | nil =>
        intro vs _ h
        cases h with
        | cons a b =>
          cases b
          have := e1 a; subst this
          exact ⟨[], rfl, .nil⟩
      | cons c cs ih =>
        intro vs hc h
        cases h with
        | cons a b =>
          obtain ⟨ms, rfl, hm⟩ := ih _ (fun c h => hc c (.tail _ h)) b
          generalize ht : [c] = x at a
          cases a with
          | sign d u hd => cases ht; exact ⟨_, rfl, .cons _ _ hm⟩
          | star => cases ht; exact absurd rfl (hc 42 (.head _))
theorem flat_ones : ∀ cs : List Nat, (cs.map fun c => [c]).flatten = cs
  | [] => rfl
  | c :: cs => by rw [List.map_cons, List.flatten_cons, flat_ones cs]; rfl
theorem star_toks {cs : List Nat} (hn1 : 1 ≤ cs.length) (hc : ∀ c ∈ cs, c ∈ [114, 119, 120, 115, 83, 116, 84, 45]) (k : Nat) (hk : k < ([42] :: (cs.map (fun c => [c]) ++ [[42]])).length) :
    (∃ c ∈ [114, 119, 120, 115, 83, 116, 84, 45], ([42] :: (cs.map (fun c => [c]) ++ [[42]]))[k] = [c]) ∨ (([42] :: (cs.map (fun c => [c]) ++ [[42]]))[k] = [42] ∧ (k = 0 ∨ ∃ c, c ≠ 42 ∧ ([42] :: (cs.map (fun c => [c]) ++ [[42]]))[k - 1]? = some [c])) := by
  have hlen : ([42] :: (cs.map (fun c => [c]) ++ [[42]])).length = cs.length + 2 := by simp
  rw [hlen] at hk
  rcases Nat.eq_zero_or_pos k with rfl | hk0
  · exact .inr ⟨rfl, .inl rfl⟩
  · obtain ⟨j, rfl⟩ : ∃ j, k = j + 1 := ⟨k - 1, by omega⟩
    by_cases hj : j < cs.length
    · refine .inl ⟨cs[j], hc _ (List.getElem_mem hj), ?_⟩
      rw [List.getElem_cons_succ, List.getElem_append_left (by simpa using hj), List.getElem_map]
    · have hj2 : j = cs.length := by omega
      subst hj2
      obtain ⟨i, hi⟩ : ∃ i, cs.length = i + 1 := ⟨cs.length - 1, by omega⟩
      have hi2 : i < cs.length := by omega
      refine .inr ⟨?_, .inr ⟨cs[i], ?_, ?_⟩⟩
      · rw [List.getElem_cons_succ, List.getElem_append_right (by simp)]; simp
      · have := hc _ (List.getElem_mem hi2)
        simp only [List.mem_cons, List.not_mem_nil, or_false] at this; omega
      · rw [Nat.add_sub_cancel, hi, List.getElem?_cons_succ, List.getElem?_append_left (by simpa using hi2), List.getElem?_map, List.getElem?_eq_getElem hi2]
        rfl
local macro_rules | `(tactic| k_all) => `(tactic| first | assumption | exact allLt_ne (by assumption))
local macro_rules | `(tactic| walk_at "call type:object") => `(tactic| (k_here; k_dflt (refine' call_object ?F ?N ?_; (case F => k_asm); (case N => k_asm)); intro S' h' F' N' l1))
theorem c_translate2 {w : World} {P : Str} {cs : List Nat} {t : Tok} (hP : P.cps.toList = 42 :: (cs ++ [42])) (hn1 : 1 ≤ cs.length) (hn : cs.length ≤ 50) (hc : ∀ c ∈ cs, c ∈ [114, 119, 120, 115, 83, 116, 84, 45]) :
    Ctr w 85 30 300 [.str P t] (fun _ _ => True) (fun _ _ v => ∃ t, v = .str (Str.ofString "(?s:(?>.*?" ++ Txt.join (Str.ofString "") (cs.map escF) ++ Str.ofString ").*)\\Z") t) := by
  k_dflt (refine' ctr_plain (binds := [(Str.ofString "pat", .str P t)]) ?k6 ?k7 ?k1 ?k9 ?kB ?c2 ?c3 ?c4 ?c5 ?_; (case k6 => k_is); (case k7 => k_is); (case k1 => decide); (case k9 => intro s; exact BindsTo.of_eq rfl); (case kB => exact locs rfl); (case c2 => exact rfl); (case c3 => exact rfl); (case c4 => exact rfl); (case c5 => decide))
  intro p loose mean mg mb dp un gd outer A₀ base g₀ g L tabs s Q hd hu hL st F NN TL B X T hpre hret
  try dsimp only [List.reverse_cons, List.reverse_nil, List.nil_append, List.cons_append] at F
  k_steps
  rename_i S h₁ l₁ h₂ F₂ N₂
  have hlt2 := F₂.ns.lt
  refine use_ctr (c_translate_ (S := S) (P := P) (ts := [42] :: (cs.map (fun c => [c]) ++ [[42]])) ?_ ?_ ?_ ?_) B F₂ X N₂ TL (.cons (ltAll_ne l₁) .base) T rfl (by omega) (by omega) trivial ?_
  rotate_right
  · rintro v h₃ tk₃ tabs' F₃ N₃ TL' TO' ht' ⟨l, vs, ep, rfl, hl, hlo, hto⟩
    have N₄ := led_new F₂ N₃ hl hlo
    k_steps
    rename Fr _ _ _ _ => F₅
    rename News _ _ _ _ => N₅
    obtain ⟨ms, hvs, hms⟩ := toksOk_split (fun c h => by have := hc c h; simp only [List.mem_cons, List.not_mem_nil, or_false] at this; omega) hto
    have hva : vs = (Value.ref S :: (ms ++ [.ref S])).toArray := by rw [← hvs]
    subst hva
    refine use_leaf (c_join2 (ep := ep) hms (fun y hy => ?_) (by simpa using hn1) (by simp; omega)) B F₅ X N₅ T rfl (by omega) (by omega) (N₅ _ (.head _)).1 ?_
    · obtain ⟨c, _, rfl⟩ := List.mem_map.mp hy
      unfold escF; split <;> simp [Str.length]
    · rintro v h₆ tk₆ F₆ N₆ _ ⟨t', rfl⟩
      exact hret _ _ _ _ tabs' F₆ (fun p hp => N₆ p (.tail _ (.tail _ hp))) TL' (fun q hq => (ht' q hq).imp id fun h => Nat.le_trans (Nat.le_of_lt hlt2) h) ⟨_, rfl⟩
  · have : P.length = cs.length + 2 := by rw [len_cps, hP]; simp
    omega
  · simp; omega
  · rw [hP, List.flatten_cons, List.flatten_append, flat_ones]; rfl
  · exact star_toks hn1 hc
end Mine
end
section
open PySem PySem.W PyProof.Rows PySem.Calls
namespace Mine
theorem fresh_LN_2 : True := by (w_top off); trivial
set_option maxRecDepth 100000
set_option maxHeartbeats 4000000
theorem fill_LN_2 : (fun (_ : OpenLaw) (_ : Params → Frag) => True) PySem.Challenge.rw_ik0125_02 hd.heap_1 := by k_fill; trivial
local macro_rules | `(tactic| k_all) => `(tactic| first | assumption | exact allLt_ne (by assumption))
def numF (ns : List Int) : Int := (ns.foldl (fun t c => t * 8 + c.fmod 8) 0)
local macro_rules | `(tactic| walk_at "eval Name") => `(tactic| (k_here; k_dflt (refine' nameX_L ?F ?v ?_ ?a ?b; (case F => k_asm); (case a => rfl); (case b => rfl); (case v => first | exact rfl | assumption); k_whole)))
theorem show_me4 {P : Prop} (h : P ∨ False) : P := h.elim id False.elim
local macro_rules | `(tactic| walk_at "exec For Name Name cons nil") => `(tactic| (refine show_me4 ?_))
local macro_rules | `(tactic| walk_at "exec For") => `(tactic| (refine show_me4 ?_))
theorem numF_bound (ns : List Int) : 0 ≤ numF ns ∧ numF ns < 8 ^ ns.length := by
  unfold numF
  rw [← List.foldr_reverse, ← List.length_reverse (as := ns)]
  generalize ns.reverse = r
  induction r with
  | nil => simp
  | cons c r ih =>
    rw [List.foldr_cons, List.length_cons]
    have h1 := Int.fmod_nonneg_of_pos c (show (0 : Int) < 8 by decide)
    have h2 := Int.fmod_lt_of_pos c (show (0 : Int) < 8 by decide)
    rw [Int.pow_succ]
    omega
theorem numF_snoc (ns : List Int) (c : Int) : numF (ns ++ [c]) = numF ns * 8 + c.fmod 8 := by
  unfold numF; rw [List.foldl_append]; rfl
theorem numF_lt {ns : List Int} (h : ns.length ≤ 4) : 0 ≤ numF ns ∧ numF ns < 4096 := by
  have := numF_bound ns
  refine ⟨this.1, Int.lt_of_lt_of_le this.2 ?_⟩
  have : ns.length = 0 ∨ ns.length = 1 ∨ ns.length = 2 ∨ ns.length = 3 ∨ ns.length = 4 := by omega
  rcases this with e | e | e | e | e <;> rw [e] <;> decide
theorem c_number {w : World} {l : Addr} {ep : Nat} {vs : List Value} {ns : List Int} (hI : IntsAre vs ns) (hn : ns.length ≤ 4) :
    CtrL w 165 2 16 [.ref l] (fun g => g.get? l = some (PySem.W.listOf vs.toArray ep)) (fun _ _ v => ∃ t, v = .int ((numF ns).fmod 511) t) := by
  k_dflt (refine' ctr_leaf (binds := [(Str.ofString "cells", .ref l)]) ?k6 ?k7 ?k1 ?k9 ?kB ?c2 ?c3 ?c4 ?c5 ?_; (case k6 => k_is); (case k7 => k_is); (case k1 => decide); (case k9 => intro s; exact BindsTo.of_eq rfl); (case kB => exact locs rfl); (case c2 => exact rfl); (case c3 => exact rfl); (case c4 => exact rfl); (case c5 => decide))
  intro p loose mean mg mb dp un gd outer A₀ base g L s Q hd hu hL F NN B X T hpre hret
  try dsimp only [List.reverse_cons, List.reverse_nil, List.nil_append, List.cons_append] at F
  k_steps
  refine .inl ?_
  refine exec_for ?_
  k_steps
  rename_i h₂ F₂ N₂
  have hvl : vs.length = ns.length := by have := IntsAre.length hI; simpa using this
  have gl := F₂.keep _ _ hpre
  have hlg := Heap.lt_size hpre
  refine iter_list F₂ N₂ (PySem.IsL.isList (n := ep) gl) ?_
  intro h₃ I F₃ N₃ lI
  have hIl : l ≠ I := by
    intro e
    have := (N₃ _ (.head _)).2.2
    rw [← e, hpre] at this; cases this
  clear F₂ N₂
  refine forList_ind (s := { s with heap := h₃, toks := s.toks + 1 + 1 }) (l := l) (items := vs.toArray)
    (fun i m rest => (∃ t, m (Str.ofString "total") = some (.int (numF (ns.take i)) t)) ∧ rest = [])
    rfl hIl ?D rfl rfl ?step ?fin _ _ _ _ ?J0 ?off F₃ N₃
  case D =>
    rintro i m rest h ⟨_, rfl⟩ F' N'
    exact PySem.IsL.isList (n := ep) (F'.keep _ _ hpre)
  case off => intro q hq; cases hq
  case J0 => exact ⟨⟨_, rfl⟩, rfl⟩
  case step =>
    rintro i v m rest h' tk' o' hi hP ⟨⟨tr, jr⟩, rfl⟩ hoff F₈ N₈
    change Fr g L h' _ at F₈
    change News g L h' _ at N₈
    clear F₃ N₃
    have hin : i < ns.length := by rw [← hvl]; simpa using hi
    obtain ⟨td, hv⟩ : ∃ td, v = .int ns[i] td := by
      obtain ⟨td, e⟩ := ints_at hI i ns[i] (List.getElem?_eq_getElem hin)
      have hP' : vs[i]? = some v := by simpa using hP
      rw [e] at hP'
      exact ⟨td, (Option.some.inj hP').symm⟩
    subst hv
    have hb := numF_lt (ns := ns.take i) (by rw [List.length_take]; omega)
    have hs := numF_snoc (ns.take i) ns[i]
    rw [← List.take_succ_eq_append_getElem hin] at hs
    generalize numF (ns.take i) = x at hb hs jr
    k_steps
    rename Fr _ _ _ _ => F₉
    rename News _ _ _ _ => N₉
    rw [← hs] at F₉
    exact ⟨_, _, _, [], rfl, F₉, N₉, hoff, ⟨_, rfl⟩, rfl⟩
  case fin =>
    rintro m rest h' tk' ⟨⟨tr, jr⟩, rfl⟩ hoff F₈ N₈
    change Fr g L h' _ at F₈
    change News g L h' _ at N₈
    clear F₃ N₃
    rw [List.take_of_length_le (by simp; omega)] at jr
    have hb := numF_lt (ns := ns) (by omega)
    k_steps
    exact hret _ _ _ _ F₈ ⟨_, rfl⟩
end Mine
end
section
open PySem PySem.W PyProof.Rows PySem.Calls
namespace Mine
theorem fresh_LP_2 : True := by (w_top off); trivial
set_option maxRecDepth 100000
set_option maxHeartbeats 4000000
theorem fill_LP_2 : (fun (_ : OpenLaw) (_ : Params → Frag) => True) PySem.Challenge.rw_ik0125_02 hd.heap_1 := by k_fill; trivial
local macro_rules | `(tactic| k_all) => `(tactic| first | assumption | exact allLt_ne (by assumption))
local macro_rules | `(tactic| walk_at "eval Name") => `(tactic| (k_here; k_dflt (refine' nameX_L ?F ?v ?_ ?a ?b; (case F => k_asm); (case a => rfl); (case b => rfl); (case v => first | exact rfl | assumption); k_whole)))
theorem show_me5 {P : Prop} (h : P ∨ False) : P := h.elim id False.elim
local macro_rules | `(tactic| walk_at "exec While Compare cons nil") => `(tactic| (refine show_me5 ?_))
local macro_rules | `(tactic| walk_at "exec While") => `(tactic| (refine show_me5 ?_))
local macro_rules | `(tactic| walk_at "call builtin:len") => `(tactic| (k_here; (with_reducible show wpAny _ _ (call (Value.builtin _) [Value.str _ _]) _ _ _); k_dflt (refine PySem.P.len_str (by omega) ?_)))
local macro_rules | `(tactic| walk_at "subscriptTail Name Name str int") => `(tactic| (k_here; (with_reducible show wpAny _ _ (subscriptTail _ _ (Value.str _ _) (Value.int _ _)) _ _ _); k_dflt (first | (refine' str_tok (d := 0) ?hT ?hj ?hc ?hl ?_; (case hT => assumption); (case hj => omega); (case hc => exact rfl); (case hl => omega)) | (refine' str_tok (d := 1) ?hT ?hj ?hc ?hl ?_; (case hT => assumption); (case hj => omega); (case hc => exact rfl); (case hl => omega)))))
local macro_rules | `(tactic| walk_at "subscriptTail Name Slice str ref") => `(tactic| (k_here; k_dflt (first
  | ((with_reducible show wpAny _ _ (subscriptTail _ (Expr.Slice none (some _) none _) _ _) _ _ _); refine' slz_ns (s := ⟨_, _, _, _, _⟩) ?F ?N ?z ?l ?_; (case F => k_asm); (case N => k_asm); (case z => assumption); (case l => omega))
  | ((with_reducible show wpAny _ _ (subscriptTail _ (Expr.Slice (some _) none none _) _ _) _ _ _); refine' slz_sn (s := ⟨_, _, _, _, _⟩) ?F ?N ?z ?l ?_; (case F => k_asm); (case N => k_asm); (case z => assumption); (case l => omega))); intro h' t' k' F' N'))
def escL (c : Nat) : List Nat := if c = 45 then [92, 45] else [c]
theorem escF_L (c : Nat) : escF c = mkS (escL c) := by unfold escF escL; split <;> rfl
def headL : List Nat := [40, 63, 115, 58, 40, 63, 62, 46, 42, 63]
def tailL : List Nat := [41, 46, 42, 41, 92, 90]
def midL (cs : List Nat) : List Nat := (cs.map escL).flatten
theorem text_mkS (cs : List Nat) : (Str.ofString "(?s:(?>.*?" ++ Txt.join (Str.ofString "") (cs.map escF) ++ Str.ofString ").*)\\Z") = mkS (headL ++ midL cs ++ tailL) := by
  apply str_ext
  rw [app_cps, app_cps, join_cps, show (Str.ofString "(?s:(?>.*?").cps.toList = headL by decide +kernel, show (Str.ofString ").*)\\Z").cps.toList = tailL by decide +kernel]
  unfold midL
  rw [List.map_map]
  have : (cs.map ((fun y : Str => y.cps.toList) ∘ escF)) = cs.map escL := by
    apply List.map_congr_left; intro c _; show (escF c).cps.toList = _; rw [escF_L]
  rw [this]
theorem midL_snoc (cs : List Nat) {j : Nat} (h : j < cs.length) : midL (cs.take (j + 1)) = midL (cs.take j) ++ escL cs[j] := by
  unfold midL
  rw [List.take_succ_eq_append_getElem h, List.map_append, List.flatten_append]; simp
theorem midL_tok (cs : List Nat) {j : Nat} (h : j < cs.length) : TokAt (mkS (headL ++ midL cs ++ tailL)) (10 + (midL (cs.take j)).length) (escL cs[j]) := by
  constructor
  intro d c hc
  rw [← Array.getElem?_toList]
  show (headL ++ midL cs ++ tailL)[_]? = _
  have e : midL cs = midL (cs.take j) ++ (escL cs[j] ++ midL (cs.drop (j + 1))) := by
    conv => lhs; rw [← List.take_append_drop (j + 1) cs]
    rw [← List.append_assoc, ← midL_snoc cs h]
    unfold midL; rw [List.map_append, List.flatten_append]
  rw [e, List.append_assoc, List.append_assoc, List.getElem?_append_right (by show (10 : Nat) ≤ _; omega), show headL.length = 10 by rfl, show 10 + (midL (cs.take j)).length + d - 10 = (midL (cs.take j)).length + d by omega]
  rw [List.getElem?_append_right (by omega), Nat.add_sub_cancel_left, List.append_assoc, List.getElem?_append_left (List.getElem?_eq_some_iff.mp hc).1]
  exact hc
theorem midL_len {cs : List Nat} : (midL cs).length ≤ 2 * cs.length := by
  unfold midL
  induction cs with
  | nil => simp
  | cons c cs ih =>
    rw [List.map_cons, List.flatten_cons, List.length_append, List.length_cons]
    have : (escL c).length ≤ 2 := by unfold escL; split <;> simp
    omega
theorem c_place {w : World} {cs : List Nat} {y : Str} {t u : Tok} (hn : cs.length ≤ 50) (hc : ∀ c ∈ cs, c ∈ [114, 119, 120, 45]) :
    CtrL w 184 2 60 [.str (Str.ofString "(?s:(?>.*?" ++ Txt.join (Str.ofString "") (cs.map escF) ++ Str.ofString ").*)\\Z") t, .str y u] (fun _ => True) (fun _ _ v => ∃ t, v = .int (Txt.find y (mkS cs)) t) := by
  rw [text_mkS]
  obtain ⟨Xt, hX⟩ : ∃ Xt, Xt = mkS (headL ++ midL cs ++ tailL) := ⟨_, rfl⟩
  have hml := midL_len (cs := cs)
  have hXl : Xt.length = 16 + (midL cs).length := by rw [hX, mkS_len]; simp [headL, tailL]; omega
  have e1 : Txt.slice Xt none (some 10) = Str.ofString "(?s:(?>.*?" := by
    rw [hX, sl_ns (by simp [headL]; omega)]
    have : (headL ++ midL cs ++ tailL).take (10 : Int).toNat = headL := by rw [List.append_assoc]; exact List.take_left' rfl
    rw [this]; decide +kernel
  have e2 : Txt.slice Xt (some (-6)) none = Str.ofString ").*)\\Z" := by
    rw [hX, sl_neg (by simp [headL, tailL]; omega)]
    have : (headL ++ midL cs ++ tailL).drop ((-6 : Int) + ((headL ++ midL cs ++ tailL).length : Nat)).toNat = tailL := by
      apply List.drop_left'
      simp only [List.length_append, show tailL.length = 6 by rfl]; omega
    rw [this]; decide +kernel
  have hTok : ∀ j (h : j < cs.length), TokAt Xt (10 + (midL (cs.take j)).length) (escL cs[j]) := fun j h => hX ▸ midL_tok cs h
  rw [← hX]
  clear hX
  k_dflt (refine' ctr_leaf (binds := [(Str.ofString "text", .str Xt t), (Str.ofString "line", .str y u)]) ?k6 ?k7 ?k1 ?k9 ?kB ?c2 ?c3 ?c4 ?c5 ?_; (case k6 => k_is); (case k7 => k_is); (case k1 => decide); (case k9 => intro s; exact BindsTo.of_eq rfl); (case kB => exact locs rfl); (case c2 => exact rfl); (case c3 => exact rfl); (case c4 => exact rfl); (case c5 => decide))
  intro p loose mean mg mb dp un gd outer A₀ base g L s Q hd hu hL F NN B X T hpre hret
  try dsimp only [List.reverse_cons, List.reverse_nil, List.nil_append, List.cons_append] at F
  k_steps
  refine .inl ?_
  refine exec_while ?_
  rename Fr _ _ _ _ => F₈
  rename News _ _ _ _ => N₈
  rename_i tk₀ _ h₈
  refine while_ind (s := { s with heap := h₈, toks := tk₀ + 1 + 1 + 1 + 1 }) cs.length (fun j m rest => ∃ (i : Int) (ti th : Tok), m (Str.ofString "text") = some (.str Xt t) ∧ m (Str.ofString "line") = some (.str y u) ∧ m (Str.ofString "k") = some (.int i ti) ∧ i = 10 + ((midL (cs.take j)).length : Int) ∧ m (Str.ofString "held") = some (.str (mkS (cs.take j)) th) ∧ rest = [])
    ?step ?fin cs.length 0 _ _ _ _ rfl (Nat.zero_le _) ?J0 F₈ N₈
  case J0 => exact ⟨10, _, _, rfl, rfl, rfl, by simp [midL], rfl, rfl⟩
  case step =>
    rintro k m rest h' tk' hk ⟨i, ti, th, j1, j2, j3, hi, j4, rfl⟩ F₉ N₉
    change Fr g L h' _ at F₉
    change News g L h' _ at N₉
    clear F₈ N₈
    have hT := hTok k hk
    have hT0 : (midL (cs.take (k + 1))).length = (midL (cs.take k)).length + (escL cs[k]).length := by rw [midL_snoc cs hk, List.length_append]
    have hle : (midL (cs.take (k + 1))).length ≤ (midL cs).length := by
      conv => rhs; rw [← List.take_append_drop (k + 1) cs]
      unfold midL; rw [List.map_append, List.flatten_append, List.length_append]; omega
    have hck := hc _ (List.getElem_mem hk)
    have hsn : cs.take (k + 1) = cs.take k ++ [cs[k]] := List.take_succ_eq_append_getElem hk
    have hlen : (cs.take k).length ≤ 50 := by rw [List.length_take]; omega
    generalize cs.take k = ck at *
    generalize cs.take (k + 1) = ck1 at *
    subst hsn
    generalize cs[k] = c at *
    simp only [List.mem_cons, List.not_mem_nil, or_false] at hck
    rcases hck with rfl | rfl | rfl | rfl
    all_goals first | rw [show escL 114 = [114] by rfl] at hT hT0 | rw [show escL 119 = [119] by rfl] at hT hT0 | rw [show escL 120 = [120] by rfl] at hT hT0 | rw [show escL 45 = [92, 45] by rfl] at hT hT0
    all_goals simp only [List.length_cons, List.length_nil] at hT0
    all_goals k_steps
    all_goals (rename Fr _ _ _ _ => F₁₀; rename News _ _ _ _ => N₁₀)
    all_goals exact ⟨_, _, _, [], rfl, F₁₀, N₁₀, (by intro p hp; cases hp), _, _, _, j1, j2, rfl, by omega, congrArg (fun z => some (Value.str z _)) (mkS_app _ _), rfl⟩
  case fin =>
    rintro m rest h' tk' ⟨i, ti, th, j1, j2, j3, hi, j4, rfl⟩ F₉ N₉
    change Fr g L h' _ at F₉
    change News g L h' _ at N₉
    clear F₈ N₈
    rw [List.take_length] at hi j4
    k_steps
    · simp; omega
    · exact hret _ _ _ _ F₉ ⟨_, rfl⟩
end Mine
end
section
open PySem PySem.W PyProof.Rows PySem.Calls
namespace Mine
theorem fresh_LCa_2 : True := by (w_top off); trivial
set_option maxRecDepth 100000
set_option maxHeartbeats 4000000
theorem fill_LCa_2 : (fun (_ : OpenLaw) (_ : Params → Frag) => True) PySem.Challenge.rw_ik0125_02 hd.heap_1 := by k_fill; trivial
local macro_rules | `(tactic| k_all) => `(tactic| first | assumption | exact allLt_ne (by assumption))
def conG (x : Str) (k : Int) : Str := if Txt.item x k == Str.ofString "-" then Txt.item (Str.ofString "rwxrwxrwx") k else Str.ofString "-"
def ConW (_x : Str) : Prop := True
theorem con_range {prog : Program} {w : World} {A : Around} {h₀ : Heap} {L : Addr} {m : Str → Option Value} {env : Env} {elt : Expr} {y : Str} {scope : Scope} {cl : List (Str × Addr)} {s : Shared} {S : List (Addr × Obj) → Prop} {Fin : List Value → List (Addr × Obj) → Prop} {news : List (Addr × Obj)} {n : Nat} {a : Int} {x : Str} (_ : ConW x)
    (turn : ∀ k t I oI C oC D m₂ ys h tk (E' : Value → Shared → Prop), a ≤ k → k < a + (n : Int) → LCg.NsObj oC m₂ → m₂ y = some (.int k t) → Fr h₀ L h m → News h₀ L h ((I, oI) :: (C, oC) :: (D, LCg.lst ys) :: news) → LCg.Off3 I C D news → ((@Ne Nat I C) ∧ (@Ne Nat I D) ∧ (@Ne Nat C D)) →
      wpAny (model prog w) A (eval elt (compEnvC scope cl C env)) (LCg.CompEnd h₀ L m { s with heap := h, toks := tk } I oI C oC D (LCg.lst ys) S (fun v news' => KCtEl news (conG x k) v news')) E' { s with heap := h, toks := tk })
    (fin : ∀ ys, CarriedAll ys ((rangeKs a n).map fun k => PyData.str (conG x k)) → (rangeKs a n).length = n → Fin ys news) : LCg.CompRest prog w A h₀ L m env elt y scope cl s S (fun i v => ∃ t, v = .int (a + (i : Int)) t) Fin n 0 [] news :=
  kct_range (conG x) (fun k t I oI C oC D m₂ ys h tk E' h1 h2 h3 h4 h5 h6 h7 h8 _ => turn k t I oI C oC D m₂ ys h tk E' h1 h2 h3 h4 h5 h6 h7 h8) fin
local macro_rules | `(tactic| walk_at "CompSrc") => `(tactic| (k_here; k_dflt (refine LCg.CompSrc.range (by rfl) (by k_asm) (by k_asm) (by assumption) (by first | exact small_one (by kcf_bnd) (by kcf_bnd) (by kcf_bnd) (by kcf_bnd) | decide) (by first | exact rangeSize_nat _ _ | rfl) (by first | exact Nat.le_of_ble_eq_true rfl | size_fits) ?_); intro g'; (refine' con_range (by assumption) (fun k' t' I' oI' C' oC' D' m' ys' h' tk' E' hlo' hhi' hC' hx' F' N' off' ne' => ?_) (fun ys hCa hLe => ?_)); (all_goals (try (simp only [LCg.Off3, and_true] at off')))))
theorem con_tt {x : Str} {k : Int} (h : (Txt.item x k == Str.ofString "-") = true) : conG x k = Txt.item (Str.ofString "rwxrwxrwx") k := by unfold conG; rw [if_pos h]
theorem con_ff {x : Str} {k : Int} (h : (Txt.item x k == Str.ofString "-") = false) : conG x k = Str.ofString "-" := by unfold conG; rw [if_neg (by rw [h]; decide)]
local macro_rules | `(tactic| walk_at "CompEnd") => `(tactic| (refine' LCg.CompEnd.intro ?F ?N ?n ?sub ?off ?src ?fin; (case fin => ((refine' (kct_el ?kce ?khn ?khy : KCtEl _ _ _ _); (case khn => exact rfl); (case khy => exact rfl); (case kce => first | exact con_tt (by assumption) | exact con_ff (by assumption))))); (case F => assumption); (case N => assumption); (case sub => kcf_all); (case off => first | assumption | (simp only [LCg.Off3, and_true]; assumption)); (case src => first | lcg_src | assumption)))
theorem con_len (x : Str) : ∀ a ∈ rangeKs 0 (9 - 0 : Int).toNat, (conG x a).length = 1 := by
  intro a _
  unfold conG
  split
  · rfl
  · decide +kernel
theorem rk_len : (rangeKs 0 (9 - 0 : Int).toNat).length ≤ 1048576 := by decide +kernel
local macro_rules | `(tactic| walk_at "call builtin:str.join") => `(tactic| (k_here; k_dflt (refine' KT.join_1 ?l ?c ?o ?n ?_; (case c => assumption); (case l => exact News.isList (by k_asm) (by k_mem)); (case o => exact con_len _); (case n => exact rk_len)); intro t' k' ktE))
def conL (x : List Nat) : List Nat := (List.range 9).map fun k => if x.getD k 0 = 45 then [114, 119, 120].getD (k % 3) 0 else 45
theorem item_mkS {x : List Nat} {k : Nat} (h : k < x.length) : Txt.item (mkS x) (k : Int) = mkS [x.getD k 0] := by
  unfold Txt.item Txt.charAt
  have e : seqIndex? (k : Int) (mkS x).length = some k := by
    unfold seqIndex?
    rw [mkS_len]
    have h0 : ¬ ((k : Int) < 0) := by omega
    have h1 : (k : Int) < (x.length : Int) := by omega
    simp [h0, h1]
  rw [e]
  simp [List.getD_eq_getElem?_getD]
theorem conG_at {x : List Nat} (hx : x.length = 9) {k : Nat} (hk : k < 9) : (conG (mkS x) (k : Int)).cps.toList = [if x.getD k 0 = 45 then [114, 119, 120].getD (k % 3) 0 else 45] := by
  unfold conG
  rw [item_mkS (by omega), show Str.ofString "-" = mkS [45] by decide +kernel]
  by_cases h : x.getD k 0 = 45
  · rw [h, if_pos (by decide), if_pos rfl]
    have : ∀ k < 9, (Txt.item (Str.ofString "rwxrwxrwx") ((k : Nat) : Int)).cps.toList = [[114, 119, 120].getD (k % 3) 0] := by decide +kernel
    exact this k hk
  · rw [if_neg, if_neg h]
    intro e
    exact h (by have := mkS_inj (eq_of_beq e); simpa using this)
theorem con_val {x : List Nat} (hx : x.length = 9) : Txt.join (Str.ofString "") ((rangeKs 0 (9 - 0 : Int).toNat).map (conG (mkS x))) = mkS (conL x) := by
  apply str_ext
  rw [join_cps]
  have e : rangeKs 0 (9 - 0 : Int).toNat = (List.range 9).map fun (i : Nat) => (i : Int) := by decide +kernel
  rw [e, List.map_map, List.map_map]
  have : (List.range 9).map ((fun y : Str => y.cps.toList) ∘ conG (mkS x) ∘ fun (i : Nat) => (i : Int)) = (List.range 9).map fun k => [if x.getD k 0 = 45 then [114, 119, 120].getD (k % 3) 0 else 45] := by
    apply List.map_congr_left
    intro k hk
    exact conG_at hx (List.mem_range.mp hk)
  refine (congrArg List.flatten this).trans ?_
  rfl
theorem c_contrary {w : World} {x : List Nat} {t : Tok} (hx : x.length = 9) :
    Ctr w 177 3 60 [.str ⟨x.toArray⟩ t] (fun _ _ => True) (fun _ _ v => ∃ t', v = .str (mkS (conL x)) t') := by
  obtain ⟨y, hy⟩ : ∃ y : Str, y = ⟨x.toArray⟩ := ⟨_, rfl⟩
  have hyl : y.length = 9 := by rw [hy]; simpa [Str.length] using hx
  rw [← hy]
  have hW : ConW y := trivial
  k_dflt (refine' ctr_cells (binds := [(Str.ofString "signs", .str y t)]) ?k6 ?k7 ?k1 ?k9 ?kB ?kD ?c2 ?c3 ?c4 ?_; (case k6 => k_is); (case k7 => k_is); (case k1 => decide); (case k9 => intro s; exact BindsTo.of_eq rfl); (case kB => exact rfl); (case kD => decide +kernel); (case c2 => exact rfl); (case c3 => exact rfl); (case c4 => exact rfl))
  intro p loose mean mg mb dp un gd outer A₀ base g₀ g L tabs cells s Q hd hu hL st F NN hlt Y TL B X T hpre hret
  obtain ⟨oS, rfl, dS⟩ := CellsAre.one Y
  replace dS : oS.data = .cell (some (.str y t)) := dS
  clear Y
  dsimp only [List.cons_append, List.nil_append] at NN
  have q1 : ∀ p ∈ tabs, p.1 < L := hlt
  k_steps
  rename Fr _ _ _ _ => F₉
  rename News _ _ _ _ => N₉
  refine hret _ _ _ _ tabs F₉ (fun p hp => N₉ p (.tail _ (.tail _ hp))) TL (fun p hp => .inl (List.mem_map_of_mem hp)) ?_
  rw [hy, con_val hx]
  exact ⟨_, rfl⟩
end Mine
end
section
open PySem PySem.W PyProof.Rows PySem.Calls
namespace Mine
theorem fresh_LCb_2 : True := by (w_top off); trivial
set_option maxRecDepth 100000
set_option maxHeartbeats 4000000
theorem fill_LCb_2 : (fun (_ : OpenLaw) (_ : Params → Frag) => True) PySem.Challenge.rw_ik0125_02 hd.heap_1 := by k_fill; trivial
local macro_rules | `(tactic| k_all) => `(tactic| first | assumption | exact allLt_ne (by assumption))
theorem mul_dash {prog : Program} {w : World} {A : Around} {E : Value → Shared → Prop} {s : Shared} {t u : Tok} {Q : Value → Shared → Prop} {k : Int} (hk0 : -100 ≤ k) (hk : k ≤ 5) (h : ∀ t' tk, Q (.str (mkS (List.replicate (3 * k.toNat) 45)) t') { s with toks := tk }) :
    wpAny (model prog w) A (binaryOp .Mult (.str (Str.ofString "---") t) (.int k u)) Q E s := by
  have : k < 1 ∨ k = 1 ∨ k = 2 ∨ k = 3 ∨ k = 4 ∨ k = 5 := by omega
  have e3 : (Str.ofString "---") = mkS [45, 45, 45] := by decide +kernel
  refine SB.mul ?_ fun t' tk => ?_
  · refine ⟨?_, ?_, ?_⟩
    · simp; omega
    · intro h1 h2 h3
      rw [show (Str.ofString "---").length = 3 by decide +kernel] at h3
      rcases this with h | rfl | rfl | rfl | rfl | rfl
      · omega
      all_goals revert h3; decide
    · intro h1 h2
      rw [show (Str.ofString "---").length = 3 by decide +kernel]
      rcases this with h | rfl | rfl | rfl | rfl | rfl
      · omega
      all_goals decide +kernel
  · have e : Txt.mul (Str.ofString "---") k = mkS (List.replicate (3 * k.toNat) 45) := by
      rcases this with h | rfl | rfl | rfl | rfl | rfl
      · unfold Txt.mul; rw [if_pos h, show k.toNat = 0 by omega]; rfl
      all_goals decide +kernel
    rw [e]; exact h _ _
def rowL (x : Int) : List Nat := (List.range 10).map (signF x)
theorem row_mkS (x : Int) : Txt.join (Str.ofString "") ((List.range 10).map fun k => chS (signF x k)) = mkS (rowL x) := by
  apply str_ext
  rw [join_cps]
  unfold rowL
  rw [List.map_map]
  induction List.range 10 with
  | nil => rfl
  | cons a l ih => rw [List.map_cons, List.flatten_cons, ih]; rfl
theorem rowL_len (x : Int) : (rowL x).length = 10 := by simp [rowL]
def last3 (d : Nat) : List Nat := (rowL (d : Int)).drop 7
def passL (A n : Nat) : List Nat := List.replicate (3 * (n - numD 3 A)) 45 ++ ((List.range (numD 3 A)).reverse.map fun i => last3 (dig 3 A i)).flatten
theorem passF_len {R : List Nat} : ((R.map last3).flatten).length = 3 * R.length := by
  induction R with
  | nil => rfl
  | cons d R ih => rw [List.map_cons, List.flatten_cons, List.length_append, ih, List.length_cons]; simp [last3, rowL_len]; omega
local macro_rules | `(tactic| walk_at "subscriptTail Name Slice ref ref") => `(tactic| (k_here; (refine' krv_ints ?F ?N ?l ?k ?i ?_ ?s ?t ?z; (case F => k_asm); (case N => k_asm); (case l => exact News.isList (by k_asm) (by k_dflt k_mem)); (case k => exact IsPart.int _ _); (case i => assumption); (case s => with_unfolding_all rfl); (case t => kmk_pure); (case z => assumption)); intro D' ws' h' F' N' l1 hI' hC'; (try k_lt l1); (try k_sweep)))
theorem len_gm {prog : Program} {w : World} {A : Around} {E : Value → Shared → Prop} {s : Shared} {h₀ : Heap} {L l : Addr} {news : List (Addr × Obj)} {its : Array Value} {n ep : Nat} {Q : Value → Shared → Prop} (N : News h₀ L s.heap news) (hm : (l, PySem.W.listOf its ep) ∈ news) (hn : its.size = n) (hz : n ≤ 1000) (h : Q (.int (n : Nat) (s.toks + 1)) { s with toks := s.toks + 1 + 1 }) : wpAny (model prog w) A (call (.builtin "len") [.ref l]) Q E s := by
  subst hn
  exact Calls.call_len_list (N.isList hm) (by omega) h
local macro_rules | `(tactic| walk_at "call builtin:len") => `(tactic| (k_here; (with_reducible show wpAny _ _ (call (Value.builtin _) [Value.ref _]) _ _ _); k_dflt (refine' len_gm ?N ?m ?n ?z ?_; (case N => k_asm); (case m => k_mem); (case n => assumption); (case z => omega))))
local macro_rules | `(tactic| walk_at "binaryOp Mult str int") => `(tactic| (k_here; k_dflt (refine mul_dash (by omega) (by omega) ?_); intro t' tk'))
local macro_rules | `(tactic| walk_at "subscriptTail Call") => `(tactic| (k_here; k_dflt (((with_reducible show wpAny _ _ (subscriptTail _ (Expr.Slice (some _) none none _) (Value.str _ _) _) _ _ _); refine' slz_sn (s := ⟨_, _, _, _, _⟩) ?F ?N ?z ?l ?_; (case F => k_asm); (case N => k_asm); (case z => assumption); (case l => omega))); intro h' t' k' F' N'))
local macro_rules | `(tactic| walk_at "eval Name") => `(tactic| (k_here; k_dflt (refine' nameX_L ?F ?v ?_ ?a ?b; (case F => k_asm); (case a => rfl); (case b => rfl); (case v => first | exact rfl | assumption); k_whole)))
theorem show_me6 {P : Prop} (h : P ∨ False) : P := h.elim id False.elim
local macro_rules | `(tactic| walk_at "exec For Name Subscript cons nil") => `(tactic| (refine show_me6 ?_))
local macro_rules | `(tactic| walk_at "exec For") => `(tactic| (refine show_me6 ?_))
theorem c_passed {w : World} {A n : Nat} {t u : Tok} (hA : A < 32768) (hn : n ≤ 5) :
    Ctr w 172 100 800 [.int (A : Int) t, .int n u] (fun _ _ => True) (fun _ _ v => ∃ t, v = .str (mkS (passL A n)) t) := by
  k_dflt (refine' ctr_plain (binds := [(Str.ofString "quotient", .int (A : Int) t), (Str.ofString "count", .int n u)]) ?k6 ?k7 ?k1 ?k9 ?kB ?c2 ?c3 ?c4 ?c5 ?_; (case k6 => k_is); (case k7 => k_is); (case k1 => decide); (case k9 => intro s; exact BindsTo.of_eq rfl); (case kB => exact locs rfl); (case c2 => exact rfl); (case c3 => exact rfl); (case c4 => exact rfl); (case c5 => decide))
  intro p loose mean mg mb dp un gd outer A₀ base g₀ g L tabs s Q hd hu hL st F NN TL B X T hpre hret
  try dsimp only [List.reverse_cons, List.reverse_nil, List.nil_append, List.cons_append] at F
  k_steps
  rename Fr _ _ _ _ => F₂
  rename News _ _ _ _ => N₂
  refine use_ctr (c_int2digits (A := A) (N := 3) (by omega) (by omega) (by omega)) B F₂ X N₂ TL .base T rfl (by omega) (by omega) trivial ?_
  rintro v h₃ tk₃ tabs' F₃ N₃ TL' TO' ht' ⟨l, vs, ep, rfl, hl, hlo, hI⟩
  have N₄ := led_new F₂ N₃ hl hlo
  have hlt2 := F₂.ns.lt
  have htA : ∀ q ∈ tabs', q.1 ∈ tabs.map (·.1) ∨ L ≤ q.1 := fun q hq => (ht' q hq).imp id fun h => Nat.le_trans (Nat.le_of_lt hlt2) h
  have hvl : vs.length = numD 3 A := by have := IntsAre.length hI; simpa using this
  have hvl2 : vs.toArray.size = numD 3 A := by simpa using hvl
  have hK : numD 3 A ≤ 64 := by
    have := numD_mul (N := 3) (A := A) (k := 15) (by omega) (by show A < 32768; omega)
    omega
  have hvs : vs.toArray.size ≤ sizeLine := by rw [sizeLine_eq]; omega
  clear F₂ N₂ N₃
  k_steps
  refine .inl ?_
  refine exec_for ?_
  k_steps
  rename_i D' ws h₅ F₅ N₅ hW hC lD
  obtain ⟨R, hRdef⟩ : ∃ R, R = (List.range (numD 3 A)).reverse.map fun i => dig 3 A i := ⟨_, rfl⟩
  have hR : IntsAre ws (R.map fun (d : Nat) => (d : Int)) := by
    rw [hRdef, List.map_map, ← List.map_reverse] at *; exact hW
  have hRl : R.length = numD 3 A := by rw [hRdef]; simp
  have hwl : ws.length = R.length := by have := IntsAre.length hR; simpa using this
  have hK2 : numD 3 A ≤ 5 := by
    have := numD_mul (N := 3) (A := A) (k := 15) (by omega) (by show A < 32768; omega)
    omega
  replace N₅ : News g L h₅ ((D', PySem.W.listOf ws.toArray 0) :: tabs') := fun p hp => N₅ p (by rcases List.mem_cons.mp hp with rfl | hp; exact .head _; exact .tail _ (.tail _ hp))
  refine iter_list F₅ N₅ (PySem.IsL.isList (n := 0) (N₅ _ (.head _)).1) ?_
  intro h₆ I F₆ N₆ lI
  k_lt lI
  clear F₅ N₅ hW hC
  refine forList_ind (s := { s with heap := h₆, toks := tk }) (l := D') (items := ws.toArray)
    (fun i m rest => (∃ t, m (Str.ofString "signs") = some (.str (mkS (List.replicate (3 * (n - numD 3 A)) 45 ++ ((R.take i).map last3).flatten)) t)) ∧ rest = (D', PySem.W.listOf ws.toArray 0) :: tabs')
    rfl (Nat.ne_of_lt lI.1) ?D rfl rfl ?step ?fin _ _ _ _ ?J0 ?off F₆ N₆
  case D =>
    rintro i m rest h ⟨_, rfl⟩ F' N'
    exact PySem.IsL.isList (n := 0) (N' _ (.head _)).1
  case off =>
    intro q hq
    simp only [List.mem_singleton]
    rcases List.mem_cons.mp hq with rfl | hq
    · exact Nat.ne_of_lt lI.1
    · exact allLt_ne lI.2 q hq
  case J0 => exact ⟨⟨_, by rw [show ((n : Int) - (numD 3 A : Int)).toNat = n - numD 3 A by omega]; simp; rfl⟩, rfl⟩
  case step =>
    rintro i v m rest h' tk' o' hi hP ⟨⟨tr, jr⟩, rfl⟩ hoff F₈ N₈
    change Fr g L h' _ at F₈
    change News g L h' _ at N₈
    clear F₆ N₆
    have hiR : i < R.length := by rw [← hwl]; simpa using hi
    obtain ⟨td, hv⟩ : ∃ td, v = .int ((R[i] : Nat) : Int) td := by
      obtain ⟨td, e⟩ := ints_at hR i ((R[i] : Nat) : Int) (by rw [List.getElem?_map, List.getElem?_eq_getElem hiR]; rfl)
      have hP' : ws[i]? = some v := by simpa using hP
      rw [e] at hP'
      exact ⟨td, (Option.some.inj hP').symm⟩
    subst hv
    have z1 := ltN lI.1
    k_steps
    rename Fr _ _ _ _ => F₁₀
    rename News _ _ _ _ => N₁₀
    refine use_leaf (c_filemode (x := ((R[i] : Nat) : Int))) B F₁₀ X N₁₀ T rfl (by omega) (by omega) trivial ?_
    rintro v h₁₁ tk₁₁ F₁₁ N₁₁ _ ⟨u, rfl⟩
    clear F₁₀ N₁₀
    rw [row_mkS]
    have e1 : Txt.slice (mkS (rowL ((R[i] : Nat) : Int))) (some 7) none = mkS (last3 R[i]) := by
      rw [sl_sn (by rw [rowL_len]; decide)]; rfl
    have e2 : (mkS (rowL ((R[i] : Nat) : Int))).length ≤ 10000 := by rw [mkS_len, rowL_len]; omega
    have hacc : (List.replicate (3 * (n - numD 3 A)) 45 ++ ((R.take i).map last3).flatten).length ≤ 100 := by
      rw [List.length_append, passF_len, List.length_replicate, List.length_take]; omega
    have hl3 : (last3 R[i]).length = 3 := by simp [last3, rowL_len]
    have hsn : List.replicate (3 * (n - numD 3 A)) 45 ++ ((R.take (i + 1)).map last3).flatten = (List.replicate (3 * (n - numD 3 A)) 45 ++ ((R.take i).map last3).flatten) ++ last3 R[i] := by
      rw [List.take_succ_eq_append_getElem hiR, List.map_append, List.flatten_append, List.append_assoc]; simp
    generalize (List.replicate (3 * (n - numD 3 A)) 45 ++ ((R.take i).map last3).flatten) = acc at *
    generalize mkS (rowL ((R[i] : Nat) : Int)) = rw₁ at *
    generalize last3 R[i] = l3 at *
    k_steps
    rename Fr _ _ _ _ => F₁₂
    rename News _ _ _ _ => N₁₂
    rw [mkS_app, ← hsn] at F₁₂
    exact ⟨_, _, _, (D', PySem.W.listOf ws.toArray 0) :: tabs', rfl, F₁₂, N₁₂, hoff, ⟨_, rfl⟩, rfl⟩
  case fin =>
    rintro m rest h' tk' ⟨⟨tr, jr⟩, rfl⟩ hoff F₈ N₈
    change Fr g L h' _ at F₈
    change News g L h' _ at N₈
    clear F₆ N₆
    rw [List.take_of_length_le (by simp; omega)] at jr
    have e : List.replicate (3 * (n - numD 3 A)) 45 ++ (R.map last3).flatten = passL A n := by rw [hRdef, List.map_map]; rfl
    rw [e] at jr
    k_steps
    exact hret _ _ _ _ tabs' F₈ (fun p hp => N₈ p (.tail _ hp)) TL' htA ⟨_, rfl⟩
end Mine
end
section
open PySem PySem.W PyProof.Rows PySem.Calls
namespace Mine
set_option maxRecDepth 100000
set_option maxHeartbeats 4000000
theorem fill_UT_2 : (fun (_ : OpenLaw) (_ : Params → Frag) => True) PySem.Challenge.rw_ik0125_02 hd.heap_1 := by k_fill; trivial
theorem use_leaf_t {w : World} {f : Addr} {d u : Nat} {vs : List Value} {Pre : Heap → Prop} {Post : Heap → Heap → Value → Prop} {p : Program} {loose : List Str} {mean : ExcName → Option Value} {mg mb : Str → Option Value} {cn : Str} {cs : Scope} {a : Addr} {ccd : Value} {base h₀ : Heap} {L : Addr} {m : Str → Option Value} {news : List (Addr × Obj)} {s : Shared} {Q E : Value → Shared → Prop}
    (C : CtrL w f d u vs Pre Post) (B : Below callerA base [] h₀) (F : Fr h₀ L s.heap m) (X : (hd.heap_1 w.params).In h₀) (N : News h₀ L s.heap news) (T : Top p loose mean mg mb h₀) (hk : cs.kind = .function)
    (hd : callerA.depth + 1 + d < recursionLimit) (hu : callerA.units + 3 + u < cLine) (hpre : Pre s.heap)
    (h : ∀ v h' tk', Fr h₀ L h' m → News h₀ L h' news → (∀ b o, s.heap.get? b = some o → h'.get? b = some o) → Post s.heap h' v → Q v { s with heap := h', toks := tk' }) :
    wpAny (model prog w) (callerA.deeper (envOfC cn cs L a ccd)) (call (.ref f) vs) Q E s :=
  use_leaf (dp := callerA.depth + 1) (un := callerA.units + 3) (gd := callerA.guards) (cl := cellsFrom (L + 1) cs.names []) (outer := []) C B F X N T hk hd hu hpre h
theorem use_ctr_t {w : World} {f : Addr} {d u : Nat} {vs : List Value} {Pre : List (Addr × Obj) → Heap → Prop} {Post : Heap → Heap → Value → Prop} {p : Program} {loose : List Str} {mean : ExcName → Option Value} {mg mb : Str → Option Value} {cn : Str} {cs : Scope} {a : Addr} {ccd : Value} {base h₀ : Heap} {L : Addr} {m : Str → Option Value} {tabs news : List (Addr × Obj)} {g : List (Addr × Obj) → List (Addr × Obj)} {s : Shared} {Q E : Value → Shared → Prop}
    (C : Ctr w f d u vs Pre Post) (B : Below callerA base [] h₀) (F : Fr h₀ L s.heap m) (X : (hd.heap_1 w.params).In h₀) (N : News h₀ L s.heap news) (TL : TabL3 tabs) (TO : TailOf tabs news g) (T : Top p loose mean mg mb h₀) (hk : cs.kind = .function)
    (hd : callerA.depth + 1 + d < recursionLimit) (hu : callerA.units + 3 + u < cLine) (hpre : Pre tabs s.heap)
    (h : ∀ v h' tk' tabs', Fr h₀ L h' m → News h₀ L h' (g tabs') → TabL3 tabs' → TailOf tabs' (g tabs') g → (∀ q ∈ tabs', q.1 ∈ tabs.map (·.1) ∨ s.heap.objs.size ≤ q.1) → Post s.heap h' v → Q v { s with heap := h', toks := tk' }) :
    wpAny (model prog w) (callerA.deeper (envOfC cn cs L a ccd)) (call (.ref f) vs) Q E s :=
  use_ctr (dp := callerA.depth + 1) (un := callerA.units + 3) (gd := callerA.guards) (cl := cellsFrom (L + 1) cs.names []) (outer := []) C B F X N TL TO T hk hd hu hpre h
example : callerA.depth + 1 + 110 < recursionLimit := by decide
example : callerA.units + 3 + 900 < cLine := by decide
theorem Ctr.mono {w : World} {f : Addr} {d u d' u' : Nat} {vs : List Value} {Pre : List (Addr × Obj) → Heap → Prop} {Post Post' : Heap → Heap → Value → Prop} (C : Ctr w f d u vs Pre Post) (hd : d ≤ d') (hu : u ≤ u') (hp : ∀ g h v, Post g h v → Post' g h v) : Ctr w f d' u' vs Pre Post' := by
  constructor
  intro p loose mean mg mb dp un gd cn cs a ccd cl outer A₀ base h₀ L m tabs s Q E B F X N TL T hk hd' hu' hpre hret
  exact C.run B F X N TL T hk (by omega) (by omega) hpre fun v h' tk' tabs' st n TL' ps => hret v h' tk' tabs' st n TL' (hp _ _ _ ps)
theorem tabL_init : TabL3 [(99, tabObj #[]), (54, tabObj #[]), (47, tabObj #[])] := by
  refine ⟨#[], #[], #[], [], rfl, ?_, ?_, ?_, fun p hp => by cases hp⟩ <;> exact ⟨trivial, fun pos v e => by simp [codeAmong] at e⟩
end Mine
end
section
open PySem PySem.W PyProof.Rows PySem.Calls
namespace Mine
set_option maxRecDepth 100000
set_option maxHeartbeats 4000000
theorem fill_LX_2 : (fun (_ : OpenLaw) (_ : Params → Frag) => True) PySem.Challenge.rw_ik0125_02 hd.heap_1 := by k_fill; trivial
theorem c_idm {w : World} {a : Int} {D : Nat} {ta tb : Tok} (h1 : -4294967296 ≤ a) (h2 : a < 4294967296) (hB0 : 0 < D) (hB : D < 1073741824) : Ctr w 73 94 730 [.int a ta, .int (D : Int) tb] (fun _ _ => True)
    (fun g h v => ∃ l t₁ t₂, v = .ref l ∧ g.objs.size ≤ l ∧ h.IsTuple l #[.int (a.fdiv D) t₁, .int (a.fmod D) t₂]) := by
  by_cases h : a < 0
  · exact c_int_divmod_z h h1 hB0 hB
  · obtain ⟨A, rfl⟩ : ∃ A : Nat, a = (A : Int) := ⟨a.toNat, by omega⟩
    refine (c_int_divmod_n (A := A) rfl (by omega) hB0 hB).mono (by decide) (by decide) ?_
    rintro g h v ⟨l, t1, t2, e1, e2, e3⟩
    refine ⟨l, t1, t2, e1, e2, ?_⟩
    rw [Int.fdiv_eq_ediv_of_nonneg _ (by omega), Int.fmod_eq_emod_of_nonneg _ (by omega)]
    exact e3
end Mine
end
section
open PySem PySem.W PyProof.Rows PySem.Calls
namespace Mine
set_option maxRecDepth 100000
set_option maxHeartbeats 4000000
theorem fill_NL_2 : (fun (_ : OpenLaw) (_ : Params → Frag) => True) PySem.Challenge.rw_ik0125_02 hd.heap_1 := by k_fill; trivial
def nineL (x : Int) : List Nat := (rowL x).drop 1
theorem nineL_len (x : Int) : (nineL x).length = 9 := by simp [nineL, rowL_len]
theorem nine_sl (x : Int) : Txt.slice (mkS (rowL x)) (some 1) none = mkS (nineL x) := by rw [sl_sn (by rw [rowL_len]; decide)]; rfl
theorem row_le (x : Int) : (mkS (rowL x)).length ≤ 10000 := by rw [mkS_len, rowL_len]; omega
theorem nine_le (x : Int) : (mkS (nineL x)).length ≤ 10000 := by rw [mkS_len, nineL_len]; omega
end Mine
end
section
open PySem PySem.W PyProof.Rows PySem.Calls
namespace Mine
set_option maxRecDepth 100000
set_option maxHeartbeats 4000000
theorem fill_PL_2 : (fun (_ : OpenLaw) (_ : Params → Frag) => True) PySem.Challenge.rw_ik0125_02 hd.heap_1 := by k_fill; trivial
def rowB (x : Nat) : List Nat := [45 + 69 * (x / 256 % 2), 45 + 74 * (x / 128 % 2), 45 + 75 * (x / 64 % 2), 45 + 69 * (x / 32 % 2), 45 + 74 * (x / 16 % 2), 45 + 75 * (x / 8 % 2), 45 + 69 * (x / 4 % 2), 45 + 74 * (x / 2 % 2), 45 + 75 * (x % 2)]
theorem nineL_B : ∀ x < 512, nineL ((x : Nat) : Int) = rowB x := by decide +kernel
def rot (l : List Nat) : List Nat := l.drop 3 ++ l.take 3
def rotN : Nat → List Nat → List Nat
  | 0, l => l
  | n + 1, l => rot (rotN n l)
theorem cong9 {a b c d e f g h i a' b' c' d' e' f' g' h' i' : Nat} (h1 : a = a') (h2 : b = b') (h3 : c = c') (h4 : d = d') (h5 : e = e') (h6 : f = f') (h7 : g = g') (h8 : h = h') (h9 : i = i') : [a, b, c, d, e, f, g, h, i] = [a', b', c', d', e', f', g', h', i'] := by subst h1 h2 h3 h4 h5 h6 h7 h8 h9; rfl
structure Bits (a p8 p7 p6 p5 p4 p3 p2 p1 p0 : Nat) : Prop where
  b8 : p8 < 2
  b7 : p7 < 2
  b6 : p6 < 2
  b5 : p5 < 2
  b4 : p4 < 2
  b3 : p3 < 2
  b2 : p2 < 2
  b1 : p1 < 2
  b0 : p0 < 2
  sum : a = 2 * (2 * (2 * (2 * (2 * (2 * (2 * (2 * p8 + p7) + p6) + p5) + p4) + p3) + p2) + p1) + p0
def rowP (p8 p7 p6 p5 p4 p3 p2 p1 p0 : Nat) : List Nat := [45 + 69 * p8, 45 + 74 * p7, 45 + 75 * p6, 45 + 69 * p5, 45 + 74 * p4, 45 + 75 * p3, 45 + 69 * p2, 45 + 74 * p1, 45 + 75 * p0]
theorem bits_of {a : Nat} (ha : a < 512) : ∃ p8 p7 p6 p5 p4 p3 p2 p1 p0, Bits a p8 p7 p6 p5 p4 p3 p2 p1 p0 := by
  refine ⟨a / 2 / 2 / 2 / 2 / 2 / 2 / 2 / 2, a / 2 / 2 / 2 / 2 / 2 / 2 / 2 % 2, a / 2 / 2 / 2 / 2 / 2 / 2 % 2, a / 2 / 2 / 2 / 2 / 2 % 2, a / 2 / 2 / 2 / 2 % 2, a / 2 / 2 / 2 % 2, a / 2 / 2 % 2, a / 2 % 2, a % 2, ?_, ?_, ?_, ?_, ?_, ?_, ?_, ?_, ?_, ?_⟩
  · omega
  all_goals first | exact Nat.mod_lt _ (by decide) | skip
  rw [Nat.div_add_mod, Nat.div_add_mod, Nat.div_add_mod, Nat.div_add_mod, Nat.div_add_mod, Nat.div_add_mod, Nat.div_add_mod, Nat.div_add_mod]
theorem half {x p : Nat} (hp : p < 2) : (2 * x + p) / 2 = x := by omega
theorem low {x p : Nat} (hp : p < 2) : (2 * x + p) % 2 = p := by omega
theorem row_bits {a p8 p7 p6 p5 p4 p3 p2 p1 p0 : Nat} (h : Bits a p8 p7 p6 p5 p4 p3 p2 p1 p0) : rowB a = rowP p8 p7 p6 p5 p4 p3 p2 p1 p0 := by
  obtain ⟨b8, b7, b6, b5, b4, b3, b2, b1, b0, rfl⟩ := h
  unfold rowB rowP
  have d : ∀ x k : Nat, x / (2 * k) = x / 2 / k := fun x k => (Nat.div_div_eq_div_mul x 2 k).symm
  rw [show 256 = 2 * (2 * (2 * (2 * (2 * (2 * (2 * 2)))))) by rfl, show 128 = 2 * (2 * (2 * (2 * (2 * (2 * 2))))) by rfl, show 64 = 2 * (2 * (2 * (2 * (2 * 2)))) by rfl, show 32 = 2 * (2 * (2 * (2 * 2))) by rfl, show 16 = 2 * (2 * (2 * 2)) by rfl, show 8 = 2 * (2 * 2) by rfl, show 4 = 2 * 2 by rfl]
  simp only [d, half b0, half b1, half b2, half b3, half b4, half b5, half b6, half b7, low b0, low b1, low b2, low b3, low b4, low b5, low b6, low b7]
  rw [Nat.mod_eq_of_lt b8]
theorem row_rot {a : Nat} (ha : a < 511) : rowB (a * 8 % 511) = rot (rowB a) := by
  obtain ⟨p8, p7, p6, p5, p4, p3, p2, p1, p0, h⟩ := bits_of (a := a) (by omega)
  rw [row_bits h]
  obtain ⟨b8, b7, b6, b5, b4, b3, b2, b1, b0, e⟩ := h
  rw [row_bits (p8 := p5) (p7 := p4) (p6 := p3) (p5 := p2) (p4 := p1) (p3 := p0) (p2 := p8) (p1 := p7) (p0 := p6) ⟨b5, b4, b3, b2, b1, b0, b8, b7, b6, by omega⟩]
  rfl
theorem mod_step (a t : Nat) : a * 8 ^ (t + 1) % 511 = a * 8 ^ t % 511 * 8 % 511 := by
  rw [Nat.pow_succ, ← Nat.mul_assoc]; generalize a * 8 ^ t = x; omega
theorem row_rotN {a : Nat} (ha : a < 511) : ∀ t, rowB (a * 8 ^ t % 511) = rotN t (rowB a)
  | 0 => by rw [Nat.pow_zero, Nat.mul_one, Nat.mod_eq_of_lt ha]; rfl
  | t + 1 => by rw [mod_step, row_rot (Nat.mod_lt _ (by decide)), row_rotN ha t]; rfl
theorem rowB_turn {a t : Nat} (ha : a < 511) (ht : t < 6) : rowB (a * 8 ^ t % 511) = (rowB a).drop (t % 3 * 3) ++ (rowB a).take (t % 3 * 3) := by
  rw [row_rotN ha t]
  have : t = 0 ∨ t = 1 ∨ t = 2 ∨ t = 3 ∨ t = 4 ∨ t = 5 := by omega
  rcases this with rfl | rfl | rfl | rfl | rfl | rfl <;> rfl
theorem turn_ne {a : Nat} (ha : a < 511) (h0 : a ≠ 0) : ∀ t, a * 8 ^ t % 511 ≠ 0
  | 0 => by omega
  | t + 1 => by
    have := turn_ne ha h0 t
    rw [mod_step]
    have h2 : a * 8 ^ t % 511 < 511 := Nat.mod_lt _ (by decide)
    generalize a * 8 ^ t % 511 = r at *
    omega
theorem con_bit {k b : Nat} (hb : b < 2) (hk : 0 < k) : 45 + k * (1 - b) = (if 45 + k * b = 45 then 45 + k else 45) := by
  have : b = 0 ∨ b = 1 := by omega
  rcases this with rfl | rfl
  · simp
  · rw [if_neg (by omega)]; simp
theorem con_ok {R : Nat} (hR : R < 511) : rowB (511 - R) = conL (rowB R) := by
  obtain ⟨p8, p7, p6, p5, p4, p3, p2, p1, p0, h⟩ := bits_of (a := R) (by omega)
  rw [row_bits h]
  obtain ⟨b8, b7, b6, b5, b4, b3, b2, b1, b0, e⟩ := h
  rw [row_bits (p8 := 1 - p8) (p7 := 1 - p7) (p6 := 1 - p6) (p5 := 1 - p5) (p4 := 1 - p4) (p3 := 1 - p3) (p2 := 1 - p2) (p1 := 1 - p1) (p0 := 1 - p0) ⟨by omega, by omega, by omega, by omega, by omega, by omega, by omega, by omega, by omega, by omega⟩]
  unfold rowP
  rw [con_bit b8 (by decide), con_bit b7 (by decide), con_bit b6 (by decide), con_bit b5 (by decide), con_bit b4 (by decide), con_bit b3 (by decide), con_bit b2 (by decide), con_bit b1 (by decide), con_bit b0 (by decide)]
  rfl
theorem row_cs {b : Nat} (hb : b < 512) : ∀ c ∈ rowB b, c ∈ [114, 119, 120, 45] := by
  obtain ⟨p8, p7, p6, p5, p4, p3, p2, p1, p0, h⟩ := bits_of hb
  rw [row_bits h]
  obtain ⟨b8, b7, b6, b5, b4, b3, b2, b1, b0, _⟩ := h
  have s : ∀ {p : Nat}, p < 2 → p = 0 ∨ p = 1 := fun h => by omega
  have m1 : ∀ {p : Nat}, p < 2 → 45 + 69 * p ∈ [114, 119, 120, 45] := fun h => by rcases s h with rfl | rfl <;> decide
  have m2 : ∀ {p : Nat}, p < 2 → 45 + 74 * p ∈ [114, 119, 120, 45] := fun h => by rcases s h with rfl | rfl <;> decide
  have m3 : ∀ {p : Nat}, p < 2 → 45 + 75 * p ∈ [114, 119, 120, 45] := fun h => by rcases s h with rfl | rfl <;> decide
  intro c hc
  rcases List.mem_cons.mp hc with rfl | hc
  · exact m1 b8
  rcases List.mem_cons.mp hc with rfl | hc
  · exact m2 b7
  rcases List.mem_cons.mp hc with rfl | hc
  · exact m3 b6
  rcases List.mem_cons.mp hc with rfl | hc
  · exact m1 b5
  rcases List.mem_cons.mp hc with rfl | hc
  · exact m2 b4
  rcases List.mem_cons.mp hc with rfl | hc
  · exact m3 b3
  rcases List.mem_cons.mp hc with rfl | hc
  · exact m1 b2
  rcases List.mem_cons.mp hc with rfl | hc
  · exact m2 b1
  rcases List.mem_cons.mp hc with rfl | hc
  · exact m3 b0
  · cases hc
def segB (a i : Nat) : List Nat := ((rowB a ++ rowB a).drop i).take 9
theorem seg_turn {a j : Nat} (ha : a < 511) (hj : j < 4) : segB a (3 * j) = rowB (a * 8 ^ j % 511) := by
  rw [row_rotN ha j]
  have : j = 0 ∨ j = 1 ∨ j = 2 ∨ j = 3 := by omega
  rcases this with rfl | rfl | rfl | rfl <;> rfl
theorem bi {m p q : Nat} (hm : 0 < m) (h : 45 + m * p = 45 + m * q) : p = q := Nat.eq_of_mul_eq_mul_left hm (by omega)
theorem row_inj {a b : Nat} (ha : a < 512) (hb : b < 512) (h : rowB a = rowB b) : a = b := by
  obtain ⟨p8, p7, p6, p5, p4, p3, p2, p1, p0, h1⟩ := bits_of ha
  obtain ⟨q8, q7, q6, q5, q4, q3, q2, q1, q0, h2⟩ := bits_of hb
  rw [row_bits h1, row_bits h2] at h
  simp only [rowP, List.cons.injEq, and_true] at h
  obtain ⟨e8, e7, e6, e5, e4, e3, e2, e1, e0⟩ := h
  rw [h1.sum, h2.sum, bi (by decide) e8, bi (by decide) e7, bi (by decide) e6, bi (by decide) e5, bi (by decide) e4, bi (by decide) e3, bi (by decide) e2, bi (by decide) e1, bi (by decide) e0]
theorem seg_nil {i : Nat} (hi : i < 10) : segB 0 i = rowB 0 := by
  have : i = 0 ∨ i = 1 ∨ i = 2 ∨ i = 3 ∨ i = 4 ∨ i = 5 ∨ i = 6 ∨ i = 7 ∨ i = 8 ∨ i = 9 := by omega
  rcases this with rfl | rfl | rfl | rfl | rfl | rfl | rfl | rfl | rfl | rfl <;> rfl
theorem bz {m n p q : Nat} (hp : p < 2) (hq : q < 2) (hm : 0 < m) (hn : m ≠ n) (h : 45 + m * p = 45 + n * q) : p = 0 := by
  have h1 : p = 0 ∨ p = 1 := by omega
  have h2 : q = 0 ∨ q = 1 := by omega
  rcases h1 with rfl | rfl
  · rfl
  · rcases h2 with rfl | rfl
    · simp at h; omega
    · simp at h; exact absurd h hn
theorem seg_off {a b i : Nat} (ha : a < 511) (hb : b < 512) (hi : i < 10) (h3 : i % 3 ≠ 0) (h : segB a i = rowB b) : a = 0 := by
  obtain ⟨p8, p7, p6, p5, p4, p3, p2, p1, p0, h1⟩ := bits_of (a := a) (by omega)
  obtain ⟨q8, q7, q6, q5, q4, q3, q2, q1, q0, h2⟩ := bits_of hb
  have h : ((rowB a ++ rowB a).drop i).take 9 = rowB b := h
  rw [row_bits h1, row_bits h2] at h
  rw [h1.sum]
  have fin : p8 = 0 → p7 = 0 → p6 = 0 → p5 = 0 → p4 = 0 → p3 = 0 → p2 = 0 → p1 = 0 → p0 = 0 → 2 * (2 * (2 * (2 * (2 * (2 * (2 * (2 * p8 + p7) + p6) + p5) + p4) + p3) + p2) + p1) + p0 = 0 := by intros; subst_vars; rfl
  obtain ⟨b8, b7, b6, b5, b4, b3, b2, b1, b0, _⟩ := h1
  obtain ⟨c8, c7, c6, c5, c4, c3, c2, c1, c0, _⟩ := h2
  have : i = 1 ∨ i = 2 ∨ i = 4 ∨ i = 5 ∨ i = 7 ∨ i = 8 := by omega
  rcases this with rfl | rfl | rfl | rfl | rfl | rfl
  · simp only [rowP, List.cons_append, List.nil_append, List.drop_succ_cons, List.drop_zero, List.take_succ_cons, List.take_zero, List.cons.injEq, and_true] at h
    obtain ⟨e0, e1, e2, e3, e4, e5, e6, e7, e8⟩ := h
    exact fin (bz b8 c0 (by decide) (by decide) e8) (bz b7 c8 (by decide) (by decide) e0) (bz b6 c7 (by decide) (by decide) e1) (bz b5 c6 (by decide) (by decide) e2) (bz b4 c5 (by decide) (by decide) e3) (bz b3 c4 (by decide) (by decide) e4) (bz b2 c3 (by decide) (by decide) e5) (bz b1 c2 (by decide) (by decide) e6) (bz b0 c1 (by decide) (by decide) e7) 
  · simp only [rowP, List.cons_append, List.nil_append, List.drop_succ_cons, List.drop_zero, List.take_succ_cons, List.take_zero, List.cons.injEq, and_true] at h
    obtain ⟨e0, e1, e2, e3, e4, e5, e6, e7, e8⟩ := h
    exact fin (bz b8 c1 (by decide) (by decide) e7) (bz b7 c0 (by decide) (by decide) e8) (bz b6 c8 (by decide) (by decide) e0) (bz b5 c7 (by decide) (by decide) e1) (bz b4 c6 (by decide) (by decide) e2) (bz b3 c5 (by decide) (by decide) e3) (bz b2 c4 (by decide) (by decide) e4) (bz b1 c3 (by decide) (by decide) e5) (bz b0 c2 (by decide) (by decide) e6) 
  · simp only [rowP, List.cons_append, List.nil_append, List.drop_succ_cons, List.drop_zero, List.take_succ_cons, List.take_zero, List.cons.injEq, and_true] at h
    obtain ⟨e0, e1, e2, e3, e4, e5, e6, e7, e8⟩ := h
    exact fin (bz b8 c3 (by decide) (by decide) e5) (bz b7 c2 (by decide) (by decide) e6) (bz b6 c1 (by decide) (by decide) e7) (bz b5 c0 (by decide) (by decide) e8) (bz b4 c8 (by decide) (by decide) e0) (bz b3 c7 (by decide) (by decide) e1) (bz b2 c6 (by decide) (by decide) e2) (bz b1 c5 (by decide) (by decide) e3) (bz b0 c4 (by decide) (by decide) e4) 
  · simp only [rowP, List.cons_append, List.nil_append, List.drop_succ_cons, List.drop_zero, List.take_succ_cons, List.take_zero, List.cons.injEq, and_true] at h
    obtain ⟨e0, e1, e2, e3, e4, e5, e6, e7, e8⟩ := h
    exact fin (bz b8 c4 (by decide) (by decide) e4) (bz b7 c3 (by decide) (by decide) e5) (bz b6 c2 (by decide) (by decide) e6) (bz b5 c1 (by decide) (by decide) e7) (bz b4 c0 (by decide) (by decide) e8) (bz b3 c8 (by decide) (by decide) e0) (bz b2 c7 (by decide) (by decide) e1) (bz b1 c6 (by decide) (by decide) e2) (bz b0 c5 (by decide) (by decide) e3) 
  · simp only [rowP, List.cons_append, List.nil_append, List.drop_succ_cons, List.drop_zero, List.take_succ_cons, List.take_zero, List.cons.injEq, and_true] at h
    obtain ⟨e0, e1, e2, e3, e4, e5, e6, e7, e8⟩ := h
    exact fin (bz b8 c6 (by decide) (by decide) e2) (bz b7 c5 (by decide) (by decide) e3) (bz b6 c4 (by decide) (by decide) e4) (bz b5 c3 (by decide) (by decide) e5) (bz b4 c2 (by decide) (by decide) e6) (bz b3 c1 (by decide) (by decide) e7) (bz b2 c0 (by decide) (by decide) e8) (bz b1 c8 (by decide) (by decide) e0) (bz b0 c7 (by decide) (by decide) e1) 
  · simp only [rowP, List.cons_append, List.nil_append, List.drop_succ_cons, List.drop_zero, List.take_succ_cons, List.take_zero, List.cons.injEq, and_true] at h
    obtain ⟨e0, e1, e2, e3, e4, e5, e6, e7, e8⟩ := h
    exact fin (bz b8 c7 (by decide) (by decide) e1) (bz b7 c6 (by decide) (by decide) e2) (bz b6 c5 (by decide) (by decide) e3) (bz b5 c4 (by decide) (by decide) e4) (bz b4 c3 (by decide) (by decide) e5) (bz b3 c2 (by decide) (by decide) e6) (bz b2 c1 (by decide) (by decide) e7) (bz b1 c0 (by decide) (by decide) e8) (bz b0 c8 (by decide) (by decide) e0) 
end Mine
end
section
open PySem PySem.W PyProof.Rows PySem.Calls
namespace Mine
set_option maxRecDepth 100000
set_option maxHeartbeats 4000000
theorem fill_PM_2 : (fun (_ : OpenLaw) (_ : Params → Frag) => True) PySem.Challenge.rw_ik0125_02 hd.heap_1 := by k_fill; trivial
def l3B (d : Nat) : List Nat := [45 + 69 * (d / 4 % 2), 45 + 74 * (d / 2 % 2), 45 + 75 * (d % 2)]
theorem last3_B : ∀ d < 8, last3 d = l3B d := by decide +kernel
theorem flat_const {l : List Nat} : (l.map fun _ => [45, 45, 45]).flatten = List.replicate (3 * l.length) 45 := by
  induction l with
  | nil => rfl
  | cons a l ih =>
    rw [List.map_cons, List.flatten_cons, ih, List.length_cons]
    show List.replicate 3 45 ++ _ = _
    rw [List.replicate_append_replicate]; congr 1; omega
theorem passL_dig {A n : Nat} (hA : A < 2 ^ (3 * n)) : passL A n = ((List.range n).reverse.map fun i => l3B (dig 3 A i)).flatten := by
  have hK := numD_mul (N := 3) (A := A) (by decide) hA
  have hK2 : numD 3 A ≤ n := by omega
  have hlt := numD_lt (N := 3) (A := A) (by decide)
  have e1 : ∀ K, ((List.range K).reverse.map fun i => last3 (dig 3 A i)) = ((List.range K).reverse.map fun i => l3B (dig 3 A i)) := fun K => by
    apply List.map_congr_left
    intro i _
    exact last3_B _ (Nat.mod_lt _ (by decide))
  unfold passL
  rw [e1]
  generalize numD 3 A = K at *
  obtain ⟨j, rfl⟩ : ∃ j, n = K + j := ⟨n - K, by omega⟩
  rw [List.range_add, List.reverse_append, List.map_append, List.flatten_append, Nat.add_sub_cancel_left]
  congr 1
  rw [← List.map_reverse, List.map_map]
  have e2 : ((List.range j).reverse.map ((fun i => l3B (dig 3 A i)) ∘ fun x => K + x)) = (List.range j).reverse.map fun _ => [45, 45, 45] := by
    apply List.map_congr_left
    intro i _
    have : A / 2 ^ (3 * (K + i)) = 0 := Nat.div_eq_of_lt (Nat.lt_of_lt_of_le hlt (Nat.pow_le_pow_right (by decide) (by omega)))
    show l3B (A / 2 ^ (3 * (K + i)) % 2 ^ 3) = _
    rw [this]; rfl
  rw [e2, flat_const]; simp
theorem dig_pass {a t i : Nat} (hi : i < t) : dig 3 (a * 8 ^ t / 511) i = a * 8 ^ (t - 1 - i) % 511 / 64 := by
  obtain ⟨j, rfl⟩ : ∃ j, t = j + 1 + i := ⟨t - 1 - i, by omega⟩
  rw [show j + 1 + i - 1 - i = j by omega]
  unfold dig
  rw [Nat.pow_mul, show 2 ^ 3 = 8 by rfl, Nat.pow_add, ← Nat.mul_assoc, Nat.div_div_eq_div_mul, Nat.mul_div_mul_right _ _ (Nat.pow_pos (by decide)), Nat.pow_succ, ← Nat.mul_assoc]
  generalize a * 8 ^ j = y
  have h1 : y * 8 / 511 = 8 * (y / 511) + y % 511 * 8 / 511 := by omega
  have h2 : y % 511 < 511 := Nat.mod_lt _ (by decide)
  have h3 : y % 511 * 8 / 511 = y % 511 / 64 := by
    generalize y % 511 = r at h2
    have e := Nat.div_add_mod r 64
    have l := Nat.mod_lt r (show 0 < 64 by decide)
    generalize r / 64 = h at *
    generalize r % 64 = k at *
    subst e
    omega
  rw [h1, h3]
  omega
theorem l3_take (r : Nat) : l3B (r / 64) = (rowB r).take 3 := by
  show [_, _, _] = [_, _, _]
  rw [Nat.div_div_eq_div_mul, Nat.div_div_eq_div_mul]
theorem rev_map {f : Nat → List Nat} (t : Nat) : (List.range t).reverse.map (fun i => f (t - 1 - i)) = (List.range t).map f := by
  apply List.ext_getElem
  · simp
  · intro n h1 h2
    simp at h1 h2
    simp only [List.getElem_map, List.getElem_reverse, List.getElem_range, List.length_range]
    congr 1; omega
theorem pass_ok {a t : Nat} (ha : a < 511) (ht : t < 6) : passL (a * 8 ^ t / 511) t = (rowB a ++ rowB a).take (3 * t) := by
  have hA : a * 8 ^ t / 511 < 2 ^ (3 * t) := by
    rw [Nat.pow_mul, show 2 ^ 3 = 8 by rfl]
    refine Nat.div_lt_of_lt_mul ?_
    exact Nat.mul_lt_mul_of_pos_right ha (Nat.pow_pos (by decide))
  rw [passL_dig hA]
  have e : ((List.range t).reverse.map fun i => l3B (dig 3 (a * 8 ^ t / 511) i)) = (List.range t).reverse.map fun i => (fun j => (rotN j (rowB a)).take 3) (t - 1 - i) := by
    apply List.map_congr_left
    intro i hi
    have hi : i < t := by simpa using hi
    show l3B (dig 3 (a * 8 ^ t / 511) i) = (rotN (t - 1 - i) (rowB a)).take 3
    rw [dig_pass hi, l3_take, row_rotN ha]
  rw [e]
  refine (congrArg List.flatten (rev_map (f := fun j => (rotN j (rowB a)).take 3) t)).trans ?_
  have : t = 0 ∨ t = 1 ∨ t = 2 ∨ t = 3 ∨ t = 4 ∨ t = 5 := by omega
  rcases this with rfl | rfl | rfl | rfl | rfl | rfl <;> rfl
theorem low_ne {W : Nat} (h : W % 511 ≠ 0) : (-(W : Int)).fdiv ((511 : Nat) : Int) = -1 - ((W / 511 : Nat) : Int) := by
  rw [Int.fdiv_eq_ediv_of_nonneg _ (by decide)]; omega
theorem lack_ne {W K : Nat} (h : W % 511 ≠ 0) (hK : (-(W : Int)).fmod ((511 : Nat) : Int) = (K : Int)) : K = 511 - W % 511 := by
  rw [Int.fmod_eq_emod_of_nonneg _ (by decide)] at hK; omega
open PySem.Builtin PySem.Builtin.Str PySem.StrLaws in
theorem occ_keep (s sub : Str) (hi : Nat) : ∀ (l : List Nat) (st : Array Nat × Nat), 1 ≤ st.fst.size → (forIn l st (occBody s sub hi 1)).run.fst = st.fst
  | [], st, _ => rfl
  | a :: l, st, h => by
    rw [List.forIn_cons]
    unfold occBody
    rw [if_neg (by rintro ⟨⟨⟨h1, _⟩, _⟩, _⟩; omega)]
    exact occ_keep s sub hi l _ h
open PySem.Builtin PySem.Builtin.Str PySem.StrLaws in
theorem occ_first (s sub : Str) (hi : Nat) : ∀ (l : List Nat) (free : Nat), (∀ i ∈ l, free ≤ i) →
    (forIn l ((#[] : Array Nat), free) (occBody s sub hi 1)).run.fst.toList = (match l.find? (fun i => decide (i + sub.length ≤ hi) && subAt s sub i) with | some i => [i] | none => [])
  | [], free, _ => rfl
  | a :: l, free, hf => by
    rw [List.forIn_cons]
    have ha : free ≤ a := hf a (List.mem_cons_self ..)
    by_cases hc : a + sub.length ≤ hi ∧ subAt s sub a = true
    · have c1 : (((#[] : Array Nat), free).fst.size < 1 ∧ ((#[] : Array Nat), free).snd ≤ a) ∧ a + sub.length ≤ hi := ⟨⟨by simp, ha⟩, hc.1⟩
      unfold occBody
      rw [if_pos ⟨c1, hc.2⟩, List.find?_cons_of_pos (by simpa using hc)]
      have := occ_keep s sub hi l ((#[] : Array Nat).push a, a + sub.length) (by simp)
      unfold occBody at this
      exact (congrArg Array.toList this).trans rfl
    · have c2 : ¬ (((((#[] : Array Nat), free).fst.size < 1 ∧ ((#[] : Array Nat), free).snd ≤ a) ∧ a + sub.length ≤ hi) ∧ subAt s sub a = true) := fun h => hc ⟨h.1.2, h.2⟩
      unfold occBody
      rw [if_neg c2, List.find?_cons_of_neg (by simpa using hc)]
      have := occ_first s sub hi l free fun i h => hf i (List.mem_cons_of_mem _ h)
      unfold occBody at this
      exact this
theorem find_L (x y : List Nat) : Txt.find (mkS x) (mkS y) = (match (List.range (x.length + 1)).find? (fun i => decide (i + y.length ≤ x.length) && ((x.drop i).take y.length == y)) with | some i => (i : Int) | none => -1) := by
  unfold Txt.find
  rw [StrLaws.occ_eq, occ_first _ _ _ _ _ (fun _ _ => Nat.zero_le _)]
  have e : (fun i => decide (i + (mkS y).length ≤ (mkS x).length) && Builtin.Str.subAt (mkS x) (mkS y) i) = fun i => decide (i + y.length ≤ x.length) && ((x.drop i).take y.length == y) := by
    funext i
    rw [StrLaws.subAt_eq, mkS_len, mkS_len]
  rw [e, mkS_len, Nat.sub_zero, List.range_eq_range']
  cases (List.range' 0 (x.length + 1)).find? _ <;> rfl
end Mine
end
section
open PySem PySem.W PyProof.Rows PySem.Calls
namespace Mine
set_option maxRecDepth 100000
set_option maxHeartbeats 4000000
theorem fill_PN_2 : (fun (_ : OpenLaw) (_ : Params → Frag) => True) PySem.Challenge.rw_ik0125_02 hd.heap_1 := by k_fill; trivial
theorem row_len (a : Nat) : (rowB a).length = 9 := rfl
theorem seg_iff {a b i : Nat} (ha : a < 511) (hb : b < 511) (hi : i < 10) : (segB a i == rowB b) = true ↔ (i % 3 = 0 ∧ b = a * 8 ^ (i / 3) % 511) ∨ (a = 0 ∧ b = 0) := by
  rw [beq_iff_eq]
  constructor
  · intro h
    by_cases h3 : i % 3 = 0
    · obtain ⟨j, rfl⟩ : ∃ j, i = 3 * j := ⟨i / 3, by omega⟩
      rw [seg_turn ha (by omega)] at h
      refine .inl ⟨h3, ?_⟩
      rw [show 3 * j / 3 = j by omega]
      exact (row_inj (Nat.lt_of_lt_of_le (Nat.mod_lt _ (by decide)) (by decide)) (by omega) h).symm
    · have := seg_off ha (by omega) hi h3 h
      subst this
      rw [seg_nil hi] at h
      exact .inr ⟨rfl, (row_inj (by decide) (by omega) h).symm⟩
  · rintro (⟨h3, rfl⟩ | ⟨rfl, rfl⟩)
    · obtain ⟨j, rfl⟩ : ∃ j, i = 3 * j := ⟨i / 3, by omega⟩
      rw [show 3 * j / 3 = j by omega]
      exact seg_turn ha (by omega)
    · exact seg_nil hi
def restK (a k : Nat) : Nat := a * 8 ^ k % 511
def placeF (a b : Nat) : Int := if b = restK a 0 then 0 else if b = restK a 1 then 3 else if b = restK a 2 then 6 else -1
theorem restK0 {a : Nat} (ha : a < 511) : restK a 0 = a := by unfold restK; rw [Nat.pow_zero, Nat.mul_one, Nat.mod_eq_of_lt ha]
theorem restK3 {a : Nat} (ha : a < 511) : restK a 3 = a := by unfold restK; rw [show 8 ^ 3 = 512 by rfl]; omega
theorem place_ok {a b : Nat} (ha : a < 511) (hb : b < 511) : Txt.find (mkS (rowB a ++ rowB a)) (mkS (rowB b)) = placeF a b := by
  rw [find_L]
  have e : (fun i => decide (i + (rowB b).length ≤ (rowB a ++ rowB a).length) && (((rowB a ++ rowB a).drop i).take (rowB b).length == rowB b)) = fun i => decide (i < 10) && (segB a i == rowB b) := by
    funext i
    have h1 : decide (i + (rowB b).length ≤ (rowB a ++ rowB a).length) = decide (i < 10) := by
      rw [List.length_append, row_len, row_len, decide_eq_decide]; omega
    rw [h1]; rfl
  rw [e, show (rowB a ++ rowB a).length + 1 = 19 by rfl]
  have key : ∀ i, (decide (i < 10) && (segB a i == rowB b)) = true ↔ i < 10 ∧ ((i % 3 = 0 ∧ b = restK a (i / 3)) ∨ (a = 0 ∧ b = 0)) := by
    intro i
    rw [Bool.and_eq_true, decide_eq_true_eq]
    constructor
    · rintro ⟨h1, h2⟩; exact ⟨h1, (seg_iff ha hb h1).mp h2⟩
    · rintro ⟨h1, h2⟩; exact ⟨h1, (seg_iff ha hb h1).mpr h2⟩
  obtain ⟨c, hc⟩ : ∃ c : Nat → Bool, c = fun i => decide (i < 10) && (segB a i == rowB b) := ⟨_, rfl⟩
  have key' : ∀ i, c i = true ↔ i < 10 ∧ ((i % 3 = 0 ∧ b = restK a (i / 3)) ∨ (a = 0 ∧ b = 0)) := fun i => by rw [hc]; exact key i
  rw [← hc]
  clear hc key
  have z0 := restK0 ha
  have z3 := restK3 ha
  have some_ : ∀ i, i < 10 → c i = true → (∀ j, j < i → c j ≠ true) → (List.range 19).find? c = some i := by
    intro i hi h1 h2
    rw [List.find?_range_eq_some]
    exact ⟨h1, by simp; omega, fun j hj => by simpa using h2 j hj⟩
  unfold placeF
  by_cases h0 : b = restK a 0
  · rw [if_pos h0, some_ 0 (by decide) ((key' 0).mpr ⟨by decide, .inl ⟨rfl, h0⟩⟩) (fun j hj => by omega)]; rfl
  have hab : ¬ (a = 0 ∧ b = 0) := by rintro ⟨rfl, rfl⟩; exact h0 z0.symm
  rw [if_neg h0]
  by_cases h1 : b = restK a 1
  · rw [if_pos h1, some_ 3 (by decide) ((key' 3).mpr ⟨by decide, .inl ⟨rfl, h1⟩⟩) ?_]; rfl
    intro j hj hc
    rcases ((key' j).mp hc).2 with ⟨h3, h⟩ | h
    · have : j = 0 := by omega
      subst this; exact h0 h
    · exact hab h
  rw [if_neg h1]
  by_cases h2 : b = restK a 2
  · rw [if_pos h2, some_ 6 (by decide) ((key' 6).mpr ⟨by decide, .inl ⟨rfl, h2⟩⟩) ?_]; rfl
    intro j hj hc
    rcases ((key' j).mp hc).2 with ⟨h3, h⟩ | h
    · have : j = 0 ∨ j = 3 := by omega
      rcases this with rfl | rfl
      · exact h0 h
      · exact h1 h
    · exact hab h
  rw [if_neg h2]
  have : (List.range 19).find? c = none := by
    rw [List.find?_eq_none]
    intro j _ hc
    obtain ⟨hj, hh⟩ := (key' j).mp hc
    rcases hh with ⟨h3, h⟩ | h
    · have : j = 0 ∨ j = 3 ∨ j = 6 ∨ j = 9 := by omega
      rcases this with rfl | rfl | rfl | rfl
      · exact h0 h
      · exact h1 h
      · exact h2 h
      · have h : b = restK a 3 := h
        rw [z3] at h
        exact h0 (by rw [z0]; exact h)
    · exact hab h
  rw [this]
theorem rests_eq (a : Nat) : (rangeKs 0 (3 - 0 : Int).toNat).map (fun k => ((a : Int) * 8 ^ k.toNat).fmod 511) = [((restK a 0 : Nat) : Int), ((restK a 1 : Nat) : Int), ((restK a 2 : Nat) : Int)] := by
  have h : ∀ k : Nat, ((a : Int) * 8 ^ k).fmod 511 = ((restK a k : Nat) : Int) := fun k => by
    unfold restK
    rw [show (511 : Int) = ((511 : Nat) : Int) from rfl, show (a : Int) * 8 ^ k = ((a * 8 ^ k : Nat) : Int) by push_cast; rfl, Int.fmod_eq_emod_of_nonneg _ (by omega)]
    rfl
  rw [← h 0, ← h 1, ← h 2]
  rfl
def rests3 (a : Nat) : List Int := [((restK a 0 : Nat) : Int), ((restK a 1 : Nat) : Int), ((restK a 2 : Nat) : Int)]
theorem place_in {a b : Nat} (h : ((rests3 a).any fun x => x == (b : Int)) = true) : placeF a b = 3 * (((rests3 a).idxOf (b : Int) : Nat) : Int) := by
  unfold placeF rests3 at *
  have nb : ∀ {k : Nat}, ¬ b = k → (((k : Nat) : Int) == (b : Int)) = false := fun h => by rw [beq_eq_false_iff_ne]; omega
  have sb : ∀ {k : Nat}, b = k → (((k : Nat) : Int) == (b : Int)) = true := fun h => by rw [beq_iff_eq]; omega
  by_cases h0 : b = restK a 0
  · rw [if_pos h0, List.idxOf_cons, sb h0]; rfl
  rw [if_neg h0, List.idxOf_cons, nb h0]
  by_cases h1 : b = restK a 1
  · rw [if_pos h1, List.idxOf_cons, sb h1]; rfl
  rw [if_neg h1, List.idxOf_cons, nb h1]
  by_cases h2 : b = restK a 2
  · rw [if_pos h2, List.idxOf_cons, sb h2]; rfl
  · exfalso
    rw [List.any_cons, List.any_cons, List.any_cons, nb h0, nb h1, nb h2] at h
    cases h
theorem rests_mem {a b : Nat} (h : ((rests3 a).any fun x => x == (b : Int)) = true) : (b : Int) ∈ rests3 a := by
  obtain ⟨x, hx, e⟩ := List.any_eq_true.mp h
  have := eq_of_beq e
  subst this; exact hx
theorem place_out {a b : Nat} (h : ¬ ((rests3 a).any fun x => x == (b : Int)) = true) : placeF a b = -1 := by
  unfold placeF
  have : ∀ k, (k = 0 ∨ k = 1 ∨ k = 2) → b ≠ restK a k := by
    intro k hk e
    refine h (List.any_eq_true.mpr ⟨((restK a k : Nat) : Int), ?_, by rw [e]; simp⟩)
    unfold rests3
    rcases hk with rfl | rfl | rfl <;> simp
  rw [if_neg (this 0 (by decide)), if_neg (this 1 (by decide)), if_neg (this 2 (by decide))]
theorem rests_lay (a : Nat) : PyData.layable0 (.list ((rests3 a).map .int)) = true := by
  have hb : ∀ k, PyData.weight (.int ((restK a k : Nat) : Int)) ≤ 9 := fun k => intBits_le (by omega) (by
    have : restK a k < 511 := Nat.mod_lt _ (by decide)
    show ((restK a k : Nat) : Int) < 512
    omega)
  have h0 := hb 0
  have h1 := hb 1
  have h2 := hb 2
  unfold rests3 PyData.layable0
  have e1 : PyData.canLay0 (.list ([((restK a 0 : Nat) : Int), ((restK a 1 : Nat) : Int), ((restK a 2 : Nat) : Int)].map .int)) = true := by simp [PyData.canLay0, PyData.canLayAll0]
  have e2 : PyData.depth (.list ([((restK a 0 : Nat) : Int), ((restK a 1 : Nat) : Int), ((restK a 2 : Nat) : Int)].map .int)) ≤ 64 := by simp [PyData.depth, PyData.depthAll]
  have e3 : PyData.weight (.list ([((restK a 0 : Nat) : Int), ((restK a 1 : Nat) : Int), ((restK a 2 : Nat) : Int)].map .int)) ≤ 2 ^ 20 := by
    show PyData.weight _ + 1 + (PyData.weight _ + 1 + (PyData.weight _ + 1 + 0)) ≤ 1048576
    omega
  rw [e1, decide_eq_true e2, decide_eq_true e3]; rfl
end Mine
end
section
open PySem PySem.W PyProof.Rows PySem.Calls
namespace Mine
theorem fresh_LW_2 : True := by (w_top off); trivial
set_option maxRecDepth 100000
set_option maxHeartbeats 4000000
theorem fill_LW_2 : (fun (_ : OpenLaw) (_ : Params → Frag) => True) PySem.Challenge.rw_ik0125_02 hd.heap_1 := by k_fill; trivial
local macro_rules | `(tactic| k_all) => `(tactic| first | assumption | exact allLt_ne (by assumption))
theorem show_me7 {P : Prop} (h : P ∨ False) : P := h.elim id False.elim
local macro_rules | `(tactic| walk_at "call ref") => `(tactic| (k_here; (refine show_me7 ?_)))
local macro_rules | `(tactic| walk_at "subscriptTail Call") => `(tactic| (k_here; k_dflt (((with_reducible show wpAny _ _ (subscriptTail _ (Expr.Slice (some _) none none _) (Value.str _ _) _) _ _ _); refine' slz_sn (s := ⟨_, _, _, _, _⟩) ?F ?N ?z ?l ?_; (case F => k_asm); (case N => k_asm); (case z => assumption); (case l => omega))); intro h' t' k' F' N'; (try k_sweep)))
local macro_rules | `(tactic| walk_at "subscriptTail Name Slice str ref") => `(tactic| (k_here; k_dflt (first
  | ((with_reducible show wpAny _ _ (subscriptTail _ (Expr.Slice none (some _) none _) _ _) _ _ _); refine' slz_ns (s := ⟨_, _, _, _, _⟩) ?F ?N ?z ?l ?_; (case F => k_asm); (case N => k_asm); (case z => assumption); (case l => omega))
  | ((with_reducible show wpAny _ _ (subscriptTail _ (Expr.Slice (some _) none none _) _ _) _ _ _); refine' slz_sn (s := ⟨_, _, _, _, _⟩) ?F ?N ?z ?l ?_; (case F => k_asm); (case N => k_asm); (case z => assumption); (case l => omega))); intro h' t' k' F' N'; (try k_sweep)))
section
variable {prog : Program} {w : World} {A : Around} {E : Value → Shared → Prop} {s : Shared} {x y z : Str} {t u : Tok} {Q : Value → Shared → Prop}
theorem add_z (hz : x ++ y = z) (hl : x.length + y.length ≤ 10000) (h : ∀ t' tk, Q (.str z t') { s with toks := tk }) : wpAny (model prog w) A (binaryOp .Add (.str x t) (.str y u)) Q E s := by
  subst hz; exact PyProof.Rows.add_str h (by rw [sizeLine_eq]; omega)
end
theorem ne_same {prog : Program} {w : World} {A : Around} {E : Value → Shared → Prop} {s : Shared} {x : Str} {t u : Tok} {Q : Value → Shared → Prop} (h : Q (.bool false) s) : wpAny (model prog w) A (compareOp .NotEq (.str x t) (.str x u)) Q E s :=
  PyProof.Rows.ne_str (by rw [bne_self_eq_false]; exact h)
local macro_rules | `(tactic| walk_at "compareOp NotEq") => `(tactic| (k_here; (with_reducible show wpAny _ _ (compareOp CmpOp.NotEq (Value.str _ _) (Value.str _ _)) _ _ _); (refine ne_same ?_)))
local macro_rules | `(tactic| walk_at "compareOp NotEq str") => `(tactic| (k_here; (with_reducible show wpAny _ _ (compareOp CmpOp.NotEq (Value.str _ _) (Value.str _ _)) _ _ _); (refine ne_same ?_)))
local macro_rules | `(tactic| walk_at "compareOp NotEq str str") => `(tactic| (k_here; (with_reducible show wpAny _ _ (compareOp CmpOp.NotEq (Value.str _ _) (Value.str _ _)) _ _ _); (refine ne_same ?_)))
theorem star_len : (Str.ofString "*").length = 1 := by decide +kernel
local macro_rules | `(tactic| walk_at "binaryOp Add str str") => `(tactic| (k_here; k_dflt (refine' add_z ?z ?l ?_; (case z => assumption); (case l => (simp only [mkS_len, star_len, List.length_cons, List.length_append]; omega))); intro t' tk'))
theorem keep24 {h₀ h : Heap} {L : Addr} {A B C D E F : Addr × Obj} {rest : List (Addr × Obj)} (N : News h₀ L h (A :: B :: C :: D :: E :: F :: rest)) : News h₀ L h (B :: D :: rest) := fun p hp => N p (by
  rcases List.mem_cons.mp hp with rfl | hp
  · exact .tail _ (.head _)
  rcases List.mem_cons.mp hp with rfl | hp
  · exact .tail _ (.tail _ (.tail _ (.head _)))
  · exact .tail _ (.tail _ (.tail _ (.tail _ (.tail _ (.tail _ hp))))))
theorem fm_nat (x : Int) {k : Nat} (hk : 0 < k) : ∃ n : Nat, x.fmod (k : Int) = (n : Int) ∧ n < k := by
  have h1 := Int.fmod_nonneg_of_pos x (show (0 : Int) < (k : Int) by omega)
  have h2 := Int.fmod_lt_of_pos x (show (0 : Int) < (k : Int) by omega)
  exact ⟨(x.fmod k).toNat, by omega, by omega⟩
theorem pow8 {a t : Nat} (ha : a < 511) (ht : t < 6) : a * 8 ^ t < 16744448 := by
  have : t = 0 ∨ t = 1 ∨ t = 2 ∨ t = 3 ∨ t = 4 ∨ t = 5 := by omega
  rcases this with rfl | rfl | rfl | rfl | rfl | rfl <;> omega
theorem fdn (W D : Nat) : ((W : Int)).fdiv (D : Int) = ((W / D : Nat) : Int) := by rw [Int.fdiv_eq_ediv_of_nonneg _ (by omega)]; rfl
theorem fmn (W D : Nat) : ((W : Int)).fmod (D : Int) = ((W % D : Nat) : Int) := by rw [Int.fmod_eq_emod_of_nonneg _ (by omega)]; rfl
def MarkC : Prop := True
local macro_rules | `(tactic| walk_at "CompSrc") => `(tactic| ((have hMk : MarkC := by assumption); clear hMk; (refine show_me7 ?_)))
local macro_rules | `(tactic| walk_at "subscriptTail Call") => `(tactic| (k_here; k_dflt (((with_reducible show wpAny _ _ (subscriptTail _ _ (Value.ref _) (Value.int _ _)) _ _ _); refine' item_tupleT (l := [_, _]) ?t ?lo ?hi ?j ?x ?_; (case t => assumption); (case lo => decide); (case hi => decide); (case j => rfl); (case x => rfl)))))
def MarkI : Prop := True
local macro_rules | `(tactic| walk_at "eval IfExp") => `(tactic| ((have hMk : MarkI := by assumption); clear hMk; (refine show_me7 ?_)))
theorem mid_mono {M : Model} {A : Around} {t : Sem Value} {E : Value → Shared → Prop} {Q : Value → Shared → Prop} {s : Shared} {h₀ : Heap} {L : Addr} {m : Str → Option Value} {news : List (Addr × Obj)} (F : Fr h₀ L s.heap m) (N : News h₀ L s.heap news)
    (ev : wpAny M A t (fun v s' => ∃ (b : Nat) (tb : Tok) (h' : Heap) (tk' : Nat), b < 511 ∧ v = .int (b : Int) tb ∧ s' = { s with heap := h', toks := tk' } ∧ Fr h₀ L h' m ∧ News h₀ L h' news) E s)
    (cont : ∀ (b : Nat) (tb : Tok) (h' : Heap) (tk' : Nat), b < 511 → Fr h₀ L h' m → News h₀ L h' news → Q (.int (b : Int) tb) { s with heap := h', toks := tk' }) : wpAny M A t Q E s :=
  wpAny_mono ev (fun v s' ⟨b, tb, h', tk', hb, e1, e2, F', N'⟩ => by subst e1 e2; exact cont b tb h' tk' hb F' N') fun _ _ e => e
local macro_rules | `(tactic| walk_at "subscriptTail BinOp") => `(tactic| (k_here; k_dflt ((with_reducible show wpAny _ _ (subscriptTail _ (Expr.Slice none (some _) none _) (Value.str _ _) _) _ _ _); refine' slz_ns (s := ⟨_, _, _, _, _⟩) ?F ?N ?z ?l ?_; (case F => k_asm); (case N => k_asm); (case z => assumption); (case l => assumption)); intro h' t' k' F' N'; (try k_sweep)))
def MarkT : Prop := True
local macro_rules | `(tactic| walk_at "ite") => `(tactic| ((have hMk : MarkT := by assumption); clear hMk; first | refine ite_pos (by assumption) ?_ | refine ite_neg (by assumption) ?_ | refine ite_pos (by (try simp only [decide_eq_true_eq, beq_iff_eq, bne_iff_ne, ne_eq]); omega) ?_ | refine ite_neg (by (try simp only [decide_eq_true_eq, beq_iff_eq, bne_iff_ne, ne_eq]); omega) ?_))
theorem eq_tt {prog : Program} {w : World} {A : Around} {E : Value → Shared → Prop} {s : Shared} {x y : Int} {t u : Tok} {Q : Value → Shared → Prop} (e : x = y) (h : Q (.bool true) s) : wpAny (model prog w) A (compareOp .Eq (.int x t) (.int y u)) Q E s :=
  PyProof.Rows.eq_int (by subst e; rw [beq_self_eq_true]; exact h)
local macro_rules | `(tactic| walk_at "compareOp Eq int int") => `(tactic| ((have hMk : MarkT := by assumption); clear hMk; k_here; refine eq_tt (by assumption) ?_))
local macro_rules | `(tactic| walk_at "call builtin:list.index") => `(tactic| ((have hMk : MarkT := by assumption); clear hMk; k_here; refine index_list_ints (by is_list) (by assumption) (by assumption) (by assumption) ?_))
theorem lw : PySem.Challenge.rw_ik0125_02.Holds := hd ⟨top_all, (by
  k_go0
  (all_goals try k_fold)
  rename_i wld s0 s1 mg mb cG cY fa co cpm ccd cdoc cho chcd chg cX cV cT cB cTE cTW scr chs clay chL chr chl2 cw7 cw6 sad svs cw3 chLs cra cw1 cr0 chI chrr hcond hcond2 chD hp1 tk1 ow2 ow1 ow0 cl1 cl0 cr cX0 X T B F0 cH1 cH2 N0 l0
  k_steps
  refine .inl ?_
  rename Fr _ _ _ _ => F₁
  rename News _ _ _ _ => N₁
  rename_i hI8 hL8 Df h₁' tk₁' oD Ds ws h₁ hIw hCw hLw lDs
  generalize hfs : List.map _ (rangeKs 0 (8 - 0 : Int).toNat) = fs at *
  have hfl : fs.length = 8 := by rw [← hfs, List.length_map, rangeKs_length]; rfl
  clear hfs
  generalize hm0 : bindL _ _ _ = m0 at F₁
  clear hm0
  clear chcd chD cX cV cB cTE cTW cG cY cT cX0
  refine use_leaf_t (c_number hIw (by rw [List.length_take]; omega)) B F₁ X N₁ T rfl (by decide) (by decide) (N₁ _ (.head _)).1 ?_
  rintro v h₂ tk₂ F₂ N₂ _ ⟨ta, rfl⟩
  clear F₁ N₁
  obtain ⟨a, ha, ha2⟩ := fm_nat (numF (List.take 3 fs)) (k := 511) (by decide)
  rw [show ((511 : Nat) : Int) = 511 from rfl] at ha
  rw [ha]
  k_steps
  refine .inl ?_
  rename Fr _ _ _ _ => F₃
  rename News _ _ _ _ => N₃
  rename_i hx1 oR dR tx1 hx2
  obtain ⟨t, ht, ht2⟩ := fm_nat (fs.getD (Int.toNat 3) 0) (k := 6) (by decide)
  rw [show ((6 : Nat) : Int) = 6 from rfl] at ht
  rw [ht] at F₃
  replace N₃ := keep24 N₃
  refine use_leaf_t (c_filemode (x := (a : Int))) B F₃ X N₃ T rfl (by decide) (by decide) trivial ?_
  rintro v h₄ tk₄ F₄ N₄ _ ⟨u₁, rfl⟩
  clear F₃ N₃
  rw [row_mkS]
  have e1 := nine_sl (a : Int)
  have e2 := row_le (a : Int)
  rw [nineL_B a (by omega)] at e1
  generalize mkS (rowL (a : Int)) = ra at *
  have hc3 : Int.fmod (t : Int) 3 * 3 = ((t % 3 * 3 : Nat) : Int) := by rw [show (3 : Int) = ((3 : Nat) : Int) from rfl, fmn]; rfl
  have e5 : Txt.slice (mkS (rowB a)) (some (Int.fmod (t : Int) 3 * 3)) none = mkS ((rowB a).drop (t % 3 * 3)) := by
    rw [hc3, sl_sn (by rw [row_len]; omega), Int.toNat_natCast]
  have e6 : Txt.slice (mkS (rowB a)) none (some (Int.fmod (t : Int) 3 * 3)) = mkS ((rowB a).take (t % 3 * 3)) := by
    rw [hc3, sl_ns (by rw [row_len]; omega), Int.toNat_natCast]
  have fT := rowB_turn ha2 ht2
  have fP := pass_ok ha2 ht2
  have fN : a ≠ 0 → a * 8 ^ t % 511 ≠ 0 := fun h => turn_ne ha2 h t
  have f0 : a = 0 → a * 8 ^ t = 0 := fun h => by rw [h, Nat.zero_mul]
  have fZ : ∀ {b : Nat}, b < 511 → Txt.find (mkS (rowB a ++ rowB a)) (mkS (rowB b)) = placeF a b := fun hb => place_ok ha2 hb
  have e4 : (rowB a).length = 9 := row_len a
  have e3 : (mkS (rowB a)).length ≤ 10000 := by rw [mkS_len, e4]; decide
  generalize hNa : rowB a = Na at *
  obtain ⟨D1, hD1, hD1l⟩ : ∃ D1, D1 = Na.drop (t % 3 * 3) ∧ D1.length ≤ 9 := ⟨_, rfl, by rw [List.length_drop]; omega⟩
  obtain ⟨T1, hT1, hT1l⟩ : ∃ T1, T1 = Na.take (t % 3 * 3) ∧ T1.length ≤ 9 := ⟨_, rfl, by rw [List.length_take]; omega⟩
  rw [← hD1] at e5
  rw [← hT1] at e6
  obtain ⟨Tn, hTn⟩ : ∃ Tn, Tn = D1 ++ T1 := ⟨_, rfl⟩
  have e7 : mkS D1 ++ mkS T1 = mkS Tn := by rw [hTn]; exact mkS_app _ _
  rw [← hD1, ← hT1, ← hTn] at fT
  k_steps
  refine .inl ?_
  rename Fr _ _ _ _ => F₅
  rename News _ _ _ _ => N₅
  clear e1 e2 e5 e6 e7
  have hp8 := pow8 ha2 ht2
  have hpw : (a : Int) * 8 ^ (t : Int).toNat = ((a * 8 ^ t : Nat) : Int) := by rw [Int.toNat_natCast]; push_cast; rfl
  rw [hpw]
  generalize a * 8 ^ t = W at *
  refine use_ctr_t (c_idm (a := (W : Int)) (D := 511) (by omega) (by omega) (by decide) (by decide)) B F₅ X N₅ tabL_init (.cons ?o1 (.cons ?o2 .base)) T rfl (by decide) (by decide) trivial ?_
  case o1 =>
    obtain ⟨_, _, _, _, h1, h2, h3⟩ := oD
    intro r hr
    rcases List.mem_cons.mp hr with rfl | hr
    · exact h1
    rcases List.mem_cons.mp hr with rfl | hr
    · exact h2
    rcases List.mem_cons.mp hr with rfl | hr
    · exact h3
    · cases hr
  case o2 =>
    intro r hr
    rcases List.mem_cons.mp hr with rfl | hr
    · exact Nat.ne_of_lt (Nat.lt_succ_of_lt (Nat.lt_succ_of_lt (Nat.lt_succ_of_lt l0.1)))
    rcases List.mem_cons.mp hr with rfl | hr
    · exact Nat.ne_of_lt (Nat.lt_succ_of_lt (Nat.lt_succ_of_lt (Nat.lt_succ_of_lt l0.2.1)))
    rcases List.mem_cons.mp hr with rfl | hr
    · exact Nat.ne_of_lt (Nat.lt_succ_of_lt (Nat.lt_succ_of_lt (Nat.lt_succ_of_lt l0.2.2)))
    · cases hr
  rintro v h₆ tk₆ tb F₆ N₆ TL TO htb ⟨l, t₁, t₂, rfl, hl, hT⟩
  clear F₅ N₅
  rw [fdn, fmn] at hT
  obtain ⟨H, hH⟩ : ∃ H, H = W / 511 := ⟨_, rfl⟩
  obtain ⟨R, hR⟩ : ∃ R, R = W % 511 := ⟨_, rfl⟩
  rw [← hH, ← hR] at hT
  k_steps
  refine .inl ?_
  rename Fr _ _ _ _ => F₇
  rename News _ _ _ _ => N₇
  have hneg : -(a : Int) * 8 ^ (t : Int).toNat = -(W : Int) := by rw [Int.neg_mul, hpw]
  rw [hneg]
  refine use_ctr_t (c_idm (a := -(W : Int)) (D := 511) (by omega) (by omega) (by decide) (by decide)) B F₇ X N₇ TL TO T rfl (by decide) (by decide) trivial ?_
  clear TL TO htb hT hl N₇ F₇
  rintro v h₈ tk₈ tb₂ F₈ N₈ TL TO htb ⟨l₂, t₃, t₄, rfl, hl, hT⟩
  obtain ⟨K, hK, hK2⟩ := fm_nat (-(W : Int)) (k := 511) (by decide)
  rw [hK] at hT
  obtain ⟨LO, hLO⟩ : ∃ LO, LO = (-(W : Int)).fdiv ((511 : Nat) : Int) := ⟨_, rfl⟩
  rw [← hLO] at hT
  have mkc : MarkC := trivial
  k_steps
  refine .inl ?_
  refine LCg.CompSrc.range (by rfl) (by k_asm) (by k_asm) (by assumption) (by decide) (by first | exact rangeSize_nat _ _ | rfl) (by first | exact Nat.le_of_ble_eq_true rfl | size_fits) ?_
  intro g'
  have hot := tailOf_off TO [(Df, LCg.lst ys), (s1.heap.objs.size + 1 + 1 + 1, oR)] rfl (fun _ => rfl)
  refine comp_tabs (ks := rangeKs 0 (3 - 0 : Int).toNat) (fun k => ((a : Int) * 8 ^ k.toNat).fmod 511) [(Df, LCg.lst ys), (s1.heap.objs.size + 1 + 1 + 1, oR)] TabL3 (fun _ => True.intro) (rangeKs_length _ _) ?hP ?turn ?fin tb₂ TL hot
  case hP =>
    rintro i v hi ⟨tv, rfl⟩
    exact ⟨0 + (i : Int), tv, by unfold rangeKs; rw [List.getElem?_map, List.getElem?_range hi]; rfl, rfl⟩
  case turn =>
    intro k tkk I oI C oC D m₂ ys₂ h₉ tk₉ E' tb₃ hk hC hx F₉ N₉ TL₃ off1 hot₃ off2 ne
    have hk0 : 0 ≤ k := (mem_rangeKs hk).1
    have hk3 : k < 3 := (mem_rangeKs hk).2
    clear hk
    dsimp only [List.cons_append, List.nil_append] at N₉
    k_steps
    refine .inl ?_
    rename Fr _ _ _ _ => F₁₀
    rename News _ _ _ _ => N₁₀
    have hkp : (a : Int) * 8 ^ k.toNat = ((a * 8 ^ k.toNat : Nat) : Int) := by push_cast; rfl
    have hkp8 := pow8 (t := k.toNat) ha2 (by omega)
    rw [hkp]
    refine use_ctr_t (c_idm (a := ((a * 8 ^ k.toNat : Nat) : Int)) (D := 511) (by omega) (by omega) (by decide) (by decide)) B F₁₀ X N₁₀ TL₃ (.cons (fun r hr => (off1 r hr).1) (.cons (fun r hr => (off1 r hr).2.1) (.cons (fun r hr => (off1 r hr).2.2) (.cons (hot₃ _ (.head _)) (.cons (hot₃ _ (.tail _ (.head _))) .base))))) T rfl (by decide) (by decide) trivial ?_
    rintro v h₁₁ tk₁₁ tb₄ F₁₁ N₁₁ TL₄ TO₄ htb₄ ⟨l₃, t₅, t₆, rfl, hl₃, hT₃⟩
    clear F₁₀ N₁₀
    rw [← hkp] at hT₃
    k_steps
    · exact F₁₁
    · exact N₁₁
    · exact TL₄
    · exact htb₄ _ (by assumption)
  case fin =>
    clear TL TO htb hot
    intro ys₂ tb₃ hI₂ TL₃ hot₃
    rw [rests_eq] at hI₂
    replace hI₂ : IntsAre ys₂ (rests3 a) := hI₂
    have mki : MarkI := trivial
    k_steps
    refine .inl ?_
    clear mki
    rename Fr _ _ _ _ => F₁₂
    rename News _ _ _ _ => N₁₂
    rename_i Dr hh1 tkk1 oDr
    refine mid_mono F₁₂ N₁₂ ?ev ?cont
    case ev =>
      k_steps
      · refine .inl ?_
        rename Fr _ _ _ _ => F₁₃
        rename News _ _ _ _ => N₁₃
        refine use_leaf_t (c_number (by assumption) (by rw [List.length_take, List.length_drop]; omega)) B F₁₃ X N₁₃ T rfl (by decide) (by decide) (N₁₃ _ (.head _)).1 ?_
        rintro v h₁₄ tk₁₄ F₁₄ N₁₄ _ ⟨tz, rfl⟩
        generalize numF _ = nz
        obtain ⟨b, hb, hb2⟩ := fm_nat nz (k := 511) (by decide)
        rw [show ((511 : Nat) : Int) = 511 from rfl] at hb
        rw [hb]
        exact ⟨b, tz, h₁₄, tk₁₄, hb2, rfl, rfl, F₁₄, fun p hp => N₁₄ p (.tail _ hp)⟩
      all_goals first | exact F₁₂ | exact N₁₂ | (rw [hR]; exact Nat.mod_lt _ (by decide))
    case cont =>
      intro b tb hh2 tkk2 hb F₁₃ N₁₃
      clear F₁₂ N₁₂
      k_steps
      refine .inl ?_
      rename Fr _ _ _ _ => F₁₄
      rename News _ _ _ _ => N₁₄
      refine use_leaf_t (c_filemode (x := (b : Int))) B F₁₄ X N₁₄ T rfl (by decide) (by decide) trivial ?_
      rintro v h₁₅ tk₁₅ F₁₅ N₁₅ _ ⟨u₂, rfl⟩
      clear F₁₄ N₁₄
      rw [row_mkS]
      have e1 := nine_sl (b : Int)
      have e2 := row_le (b : Int)
      rw [nineL_B b (by omega)] at e1
      generalize mkS (rowL (b : Int)) = rb at *
      have fb := fZ hb
      have fc := row_cs (b := b) (by omega)
      have fl : (rowB b).length = 9 := row_len b
      generalize rowB b = Nb at *
      have e5 : Str.ofString "*" ++ mkS Nb = mkS (42 :: Nb) := by rw [show Str.ofString "*" = mkS [42] by decide +kernel, mkS_app]; rfl
      have e6 : mkS (42 :: Nb) ++ Str.ofString "*" = mkS (42 :: (Nb ++ [42])) := by rw [show Str.ofString "*" = mkS [42] by decide +kernel, mkS_app]; rfl
      k_steps
      refine .inl ?_
      rename Fr _ _ _ _ => F₁₆
      rename News _ _ _ _ => N₁₆
      clear e1 e2 e5 e6
      have TO₃ : TailOf tb₃ ((Dr, LCg.lst ys₂) :: (Df, LCg.lst ys) :: (s1.heap.objs.size + 1 + 1 + 1, oR) :: tb₃) fun t => (Dr, LCg.lst ys₂) :: (Df, LCg.lst ys) :: (s1.heap.objs.size + 1 + 1 + 1, oR) :: t :=
        .cons (fun r hr => off1_mem oDr.2.2 r hr) (.cons (hot₃ _ (.head _)) (.cons (hot₃ _ (.tail _ (.head _))) .base))
      refine use_ctr_t (c_translate2 (cs := Nb) rfl (by omega) (by omega) (fun c h => by have := fc c h; simp only [List.mem_cons, List.not_mem_nil, or_false] at this ⊢; omega)) B F₁₆ X N₁₆ TL₃ TO₃ T rfl (by decide) (by decide) trivial ?_
      rintro v h₁₇ tk₁₇ tb₅ F₁₇ N₁₇ TL₅ TO₅ htb₅ ⟨u₃, rfl⟩
      clear F₁₆ N₁₆ TO₃
      have e7 : mkS Na ++ mkS Na = mkS (Na ++ Na) := mkS_app _ _
      k_steps
      refine .inl ?_
      rename Fr _ _ _ _ => F₁₈
      rename News _ _ _ _ => N₁₈
      refine use_leaf_t (c_place (cs := Nb) (y := mkS (Na ++ Na)) (by omega) fc) B F₁₈ X N₁₈ T rfl (by decide) (by decide) trivial ?_
      rintro v h₁₉ tk₁₉ F₁₉ N₁₉ _ ⟨u₄, rfl⟩
      clear F₁₈ N₁₈
      rw [fb]
      k_steps
      refine .inl ?_
      rename Fr _ _ _ _ => F₂₀
      rename News _ _ _ _ => N₂₀
      refine use_leaf_t (c_filemode (x := (R : Int))) B F₂₀ X N₂₀ T rfl (by decide) (by decide) trivial ?_
      rintro v h₂₁ tk₂₁ F₂₁ N₂₁ _ ⟨u₅, rfl⟩
      clear F₂₀ N₂₀
      rw [row_mkS]
      rw [← hR] at fT
      have hR2 : R < 511 := by rw [hR]; exact Nat.mod_lt _ (by decide)
      have e1 := nine_sl (R : Int)
      have e2 := row_le (R : Int)
      rw [nineL_B R (by omega), fT] at e1
      generalize mkS (rowL (R : Int)) = rr at *
      k_steps
      refine .inl ?_
      rename Fr _ _ _ _ => F₂₂
      rename News _ _ _ _ => N₂₂
      clear e1 e2
      rw [← hH] at fP
      refine use_ctr_t (c_passed (A := H) (n := t) (by rw [hH]; omega) (by omega)) B F₂₂ X N₂₂ TL₅ TO₅ T rfl (by decide) (by decide) trivial ?_
      rintro v h₂₃ tk₂₃ tb₆ F₂₃ N₂₃ TL₆ TO₆ htb₆ ⟨u₆, rfl⟩
      clear F₂₂ N₂₂
      rw [fP]
      have e8 : Txt.slice (mkS (Na ++ Na)) none (some (3 * (t : Int))) = mkS ((Na ++ Na).take (3 * t)) := by
        rw [sl_ns (by rw [List.length_append, e4]; omega), show (3 * (t : Int)).toNat = 3 * t by omega]
      have e9 : (mkS (Na ++ Na)).length ≤ 10000 := by rw [mkS_len, List.length_append, e4]; decide
      have hLow : (a ≠ 0 → LO = -1 - (H : Int)) ∧ (a = 0 → LO = 0) := by
        refine ⟨fun h => ?_, fun h => ?_⟩
        · rw [hLO, hH]; exact low_ne (fN h)
        · rw [hLO, f0 h]; rfl
      generalize (Na ++ Na).take (3 * t) = Pn at *
      have mkt : MarkT := trivial
      by_cases ha0 : a = 0
      · have hLO0 := hLow.2 ha0
        have hW0 : W = 0 := f0 ha0
        have hR0 : R = 0 := by rw [hR, hW0]
        have hK0 : K = 0 := by
          rw [hW0] at hK
          have : (0 : Int) = (K : Int) := hK
          omega
        k_steps
        refine .inl ?_
        rename Fr _ _ _ _ => F₂₄
        rename News _ _ _ _ => N₂₄
        refine use_leaf_t (c_filemode (x := (K : Int))) B F₂₄ X N₂₄ T rfl (by decide) (by decide) trivial ?_
        rintro v h₂₅ tk₂₅ F₂₅ N₂₅ _ ⟨u₇, rfl⟩
        clear F₂₄ N₂₄
        rw [row_mkS]
        have e1 := nine_sl (K : Int)
        have e2 := row_le (K : Int)
        rw [nineL_B K (by omega), show rowB K = rowB R by rw [hK0, hR0], fT] at e1
        generalize mkS (rowL (K : Int)) = rk at *
        obtain ⟨pt1, pt2, pt3, cds, rfl, _, _, _, _⟩ := TL₆.of
        clear TO₆ htb₆
        have hLay := rests_lay a
        by_cases hAny : ((rests3 a).any fun x => x == (b : Int)) = true
        · have hPl := place_in hAny
          have hMem := rests_mem hAny
          k_steps
        · have hPl := place_out hAny
          k_steps
      · have hLO1 := hLow.1 ha0
        have hK1 : K = 511 - R := by rw [hR]; exact lack_ne (fN ha0) hK
        have hcon : rowB K = conL Tn := by rw [hK1, con_ok hR2, fT]
        k_steps
        refine .inl ?_
        rename Fr _ _ _ _ => F₂₄
        rename News _ _ _ _ => N₂₄
        refine use_leaf_t (c_filemode (x := (K : Int))) B F₂₄ X N₂₄ T rfl (by decide) (by decide) trivial ?_
        rintro v h₂₅ tk₂₅ F₂₅ N₂₅ _ ⟨u₇, rfl⟩
        clear F₂₄ N₂₄
        rw [row_mkS]
        have e1 := nine_sl (K : Int)
        have e2 := row_le (K : Int)
        rw [nineL_B K (by omega), hcon] at e1
        generalize mkS (rowL (K : Int)) = rk at *
        k_steps
        refine .inl ?_
        rename Fr _ _ _ _ => F₂₆
        rename News _ _ _ _ => N₂₆
        refine use_ctr_t (c_contrary (x := Tn) (by rw [← fT]; rfl)) B F₂₆ X N₂₆ TL₆ TO₆ T rfl (by decide) (by decide) trivial ?_
        rintro v h₂₇ tk₂₇ tb₇ F₂₇ N₂₇ TL₇ TO₇ htb₇ ⟨u₈, rfl⟩
        clear F₂₆ N₂₆
        obtain ⟨pt1, pt2, pt3, cds, rfl, _, _, _, _⟩ := TL₇.of
        clear TO₇ htb₇
        have hLay := rests_lay a
        by_cases hAny : ((rests3 a).any fun x => x == (b : Int)) = true
        · have hPl := place_in hAny
          have hMem := rests_mem hAny
          k_steps
        · have hPl := place_out hAny
          k_steps
          )⟩
end Mine
end
theorem PySem.Challenge.cw_ik0125_02_holds : PySem.Challenge.rw_ik0125_02.Holds := by
  exact Mine.lw
