import PyProof.Rows.All
import Wide.All
import OpenK.AllK
import Wide.FinOn
import Lean
import PySem.Challenge.RW_pa0002_01
open PySem PySem.W PySem.Calls PyProof.Rows
set_option Elab.async false
set_option compiler.extract_closed false
namespace Mine
set_option maxRecDepth 100000 in
set_option maxHeartbeats 8000000 in
open_top hd for PySem.Challenge.rw_pa0002_01

section
theorem dv {x y n m : Int} (hm : 0 < m) (h : x = y * m) : (x + n) / m = y + n / m := by
  rw [h, Int.add_comm, Int.add_mul_ediv_right _ _ (Int.ne_of_gt hm), Int.add_comm]
theorem dv0 {y r a : Int} (h0 : 0 ≤ r) (h1 : r < a) : (y * a + r) / a = y := by
  rw [dv (Int.lt_of_le_of_lt h0 h1) rfl, Int.ediv_eq_zero_of_lt h0 h1, Int.add_zero]
theorem md {y r a b : Int} (h0 : 0 ≤ r) (h1 : r < a) : (y * a + r) % (a * b) = y % b * a + r := by
  rw [Int.emod_def, ← Int.ediv_ediv_of_nonneg (Int.le_trans h0 (Int.le_of_lt h1)), dv0 h0 h1, Int.emod_def, Int.sub_mul, Int.mul_assoc a b, Int.mul_comm a (b * _), Int.sub_eq_add_neg, Int.sub_eq_add_neg, Int.add_right_comm]
theorem lo {y r a : Int} (h0 : 0 ≤ r) (h1 : r < a) : (y * a + r) % a = r := by
  rw [Int.add_comm, Int.add_mul_emod_self_right, Int.emod_eq_of_lt h0 h1]
theorem mlt {y r a b : Int} (hb : (a : Int) ∣ b) : (y * b + r) % a = r % a := by
  obtain ⟨k, rfl⟩ := hb
  rw [Int.mul_left_comm, Int.add_comm, Int.add_mul_emod_self_left]
theorem dlt {n a b : Int} (h0 : 0 ≤ n) (ha : 0 < a) (h1 : n < b * a) : 0 ≤ n / a ∧ n / a < b := ⟨Int.ediv_nonneg h0 (Int.le_of_lt ha), Int.ediv_lt_of_lt_mul ha h1⟩
theorem rlt (n : Int) {a : Int} (ha : 0 < a) : 0 ≤ n % a ∧ n % a < a := ⟨Int.emod_nonneg _ (Int.ne_of_gt ha), Int.emod_lt_of_pos _ ha⟩
theorem cut {x a b : Int} (ha : 0 < a) (h : (64 : Int) ∣ b) : x % (a * b) / a % 64 = x / a % 64 := by
  obtain ⟨k, rfl⟩ := h
  rw [Int.emod_def x, Int.mul_assoc, Int.sub_eq_add_neg, ← Int.mul_neg, Int.add_mul_ediv_left _ _ (Int.ne_of_gt ha), Int.mul_assoc, ← Int.mul_neg, Int.add_mul_emod_self_left]
/-- two figures side by side -/
theorem two {x y a b : Int} (hx : 0 ≤ x ∧ x < b) (hy : 0 ≤ y ∧ y < a) : 0 ≤ x * a + y ∧ x * a + y < b * a := by
  have ha : 0 ≤ a := Int.le_trans hy.1 (Int.le_of_lt hy.2)
  have h : (x + 1) * a ≤ b * a := Int.mul_le_mul_of_nonneg_right hx.2 ha
  rw [Int.add_mul, Int.one_mul] at h
  exact ⟨Int.add_nonneg (Int.mul_nonneg hx.1 ha) hy.1, Int.lt_of_lt_of_le (Int.add_lt_add_left hy.2 _) h⟩
theorem quarter (n : Int) {a b : Int} (hb : 0 < b) (ha : 0 < a) : 0 ≤ n % b * a ∧ n % b * a < b * a := ⟨Int.mul_nonneg (rlt n hb).1 (Int.le_of_lt ha), Int.mul_lt_mul_of_pos_right (rlt n hb).2 ha⟩

end
section
/-- what stands ahead of a call of one of the text's defs -/
structure Cx (w : World) (p : Program) (loose : List Str) (mean : ExcName → Option Value) (mg mb : Str → Option Value) (A : Around) (base : Heap) (outer : List Env) (h : Heap) : Prop where
  B : Below A base outer h
  X : (hd.heap_39 w.params).In h
  T : Top p loose mean mg mb h
  hh : A.handled = none
  hd : A.depth ≤ 310
  hu : A.units ≤ 100

section
variable {pr : Program} {w : World} {p : Program} {loose : List Str} {mean : ExcName → Option Value} {mg mb : Str → Option Value} {A A₀ : Around} {base : Heap} {outer : List Env} {s : Shared}

theorem enter {R : Result → Shared → Prop} {name qual : Str} {params : Arguments} {body : List Stmt} {scope : Scope} {dV kV doc pm cdv ct oc : Value} {an od : Option Addr} {osl : Array (Option Value)} {f : Addr} {args : Args} (binds : List (Str × Value))
    (C : Cx w p loose mean mg mb A base outer s.heap)
    (ho : (Mine.hd.heap_39 w.params).lookup f = some ⟨oc, od, .func (fnOf name qual params body scope dV kV doc pm an cdv ct), osl⟩) (hcd : codeIn (Mine.hd.heap_39 w.params) cdv qual = true)
    (hbind : BindsTo s (fnOf name qual params body scope dV kV doc pm an cdv ct) args binds) (hloc : ∀ y ∈ binds, scope.names.lookup y.1 = some .local)
    (h : ∀ L' h₁, Fr s.heap L' h₁ (fun y => binds.reverse.lookup y) → News s.heap L' h₁ [] →
      wpAny (model pr w) (A.deeper (envOf qual scope L' f cdv)) (execs body (envOf qual scope L' f cdv))
        (fun fl s' => R (.ok (.ret (match fl with | .ret v => v | _ => .none))) s')
        (fun e s' => wpAny (model pr w) (A.deeper (envOf qual scope L' f cdv)) (leaving (envOf qual scope L' f cdv) e) (fun _ s'' => R (.error e) s'') (fun e' s'' => R (.error e') s'') s')
        { s with heap := h₁, toks := s.toks + binds.length })
    (hco : scope.isCoroutine = false := by rfl) (hgen : scope.isGenerator = false := by rfl) (hk : scope.kind = .function := by rfl)
    (hcell : ∀ x ∈ scope.names, x.2 ≠ .cell := by decide) : codeAny (model pr w) A (.call (.ref f) args) R s := by
  have hroom : A.depth < recursionLimit := by have := C.hd; unfold recursionLimit; omega
  refine codeAny_call_def (fd := fnOf name qual params body scope dV kV doc pm an cdv ct) (body := body) (binds := binds) hroom (C.X _ _ ho) rfl C.T.nolimit (codeRec_of C.X hcd) rfl hbind hcell hloc (fun h₁ hns hk₁ => ?_) hco hgen hk
  exact h _ h₁ ⟨hns, hk₁, Nat.le_refl _⟩ News.nil

/-- the caller's frame makes it -/
theorem Cx.of {h₀ : Heap} {L : Addr} {m : Str → Option Value} {env : Env}
    (B : Below A₀ base outer h₀) (F : Fr h₀ L s.heap m) (X : (Mine.hd.heap_39 w.params).In h₀) (T : Top p loose mean mg mb h₀)
    (hA : A.frames = some (env :: outer)) (hf : env.frame = some L) (hke : env.scope.kind = .function) (hh : A.handled = none) (hd : A.depth ≤ 310) (hu : A.units ≤ 100) :
    Cx w p loose mean mg mb A base (env :: outer) s.heap := by
  have hnew : base.get? L = none := by
    cases hq : base.get? L with
    | none => rfl
    | some o => exact absurd (Nat.lt_of_lt_of_le (Heap.lt_size (B.stays L o hq)) F.above) (Nat.lt_irrefl _)
  refine ⟨⟨hA, fun b o e => F.keep b o (B.stays b o e), ?_⟩, X.keeps F.keep, T.keeps F.keep, hh, hd, hu⟩
  exact .cons (by rw [hke]; decide) hf F.ns hnew (B.frames.of_keeps fun b o e _ => ⟨o, F.keep b o e, rfl⟩)

theorem fr_after {h₀ h h' : Heap} {L : Addr} {m : Str → Option Value} (F : Fr h₀ L h m) (k : h.StaysIn h') : Fr h₀ L h' m := by
  obtain ⟨o, es, ep, hL, r⟩ := F.ns
  exact ⟨⟨o, es, ep, k _ _ hL, r⟩, fun b o e => k _ _ (F.keep b o e), F.above⟩
theorem news_after {h₀ h h' : Heap} {L : Addr} {news : List (Addr × Obj)} (N : News h₀ L h news) (k : h.StaysIn h') : News h₀ L h' news :=
  fun q hq => ⟨k _ _ (N q hq).1, (N q hq).2⟩
theorem stays_refl {h : Heap} : h.StaysIn h := fun _ _ e => e
end

section
variable {prog : Program} {w : World} {A : Around} {E : Value → Shared → Prop} {s : Shared} {env : Env} {h₀ : Heap} {x : Str} {body : List Stmt} {Q : Flow → Shared → Prop}
/-- a for over a range by steps of c, by what holds between the turns (pre: what has been taken, its length counts alone) -/
theorem loop_step {σ : Type} {r : Addr} {a₀ b₀ c : Int} {t₀ u₀ v₀ : Tok} {n : Nat} {m₀ : Str → Option Value} (Led : σ → List (Addr × Obj)) (ps : σ → List (Str × Value)) (Facts : σ → Prop) (stored : List Str) (P : List Int → σ → Prop) (c₀ : σ)
    (hh : A.handled = none) (hr : IsRange s.heap r a₀ b₀ c t₀ u₀ v₀) (hsmall : Builtin.Range.small a₀ b₀ c = true) (hn : Builtin.Range.rangeSize a₀ b₀ c = (n : Int)) (F : Fr h₀ env.locals s.heap m₀) (N : News h₀ env.locals s.heap (Led c₀)) (hf : Facts c₀) (hk : ∀ p ∈ ps c₀, m₀ p.1 = some p.2) (hp : P [] c₀)
    (turn : ∀ (d : σ) (pre : List Int) (k : Int) t (u : Str → Option Value) h tk own, k = a₀ + (pre.length : Int) * c → pre.length < n → OwnOff own ((Led c₀).map (·.1)) → Facts d → P pre d →
      Fr h₀ env.locals h (fun y => if y = x then some (.int k t) else kstB (fun z => if stored.contains z then u z else m₀ z) (ps d) y) → News h₀ env.locals h (Led d ++ own) →
      wpAny (model prog w) A (execs body env) (InvPostN h₀ env.locals (KstS Led ps Facts x stored m₀ P (pre ++ [k])) own ((Led c₀).map (·.1)) { s with heap := h, toks := tk } Q) E { s with heap := h, toks := tk })
    (done : ∀ (d : σ) (pre : List Int) (u : Str → Option Value) h tk, pre.length = n → Facts d → P pre d → Fr h₀ env.locals h (fun y => if y = x then u y else kstB (fun z => if stored.contains z then u z else m₀ z) (ps d) y) → News h₀ env.locals h (Led d) → Q .next { s with heap := h, toks := tk }) :
    wpAny (model prog w) A (pyIter (.ref r)) (fun it s₂ => LoopAtV prog w A h₀ env x body Q E it s₂) E s := by
  refine wpAny_pyIter_range hr hsmall ?_
  have W : Walks prog w A s.heap.objs.size [s.heap.objs.size] [s.heap.objs.size] n (fun i v => i < n ∧ ∃ t, v = .int (a₀ + i * c) t)
      (fun i h => IsRangeIter h s.heap.objs.size (a₀ + (i : Nat) * c) ((n : Int) - (i : Nat)) c) := (Walks.range hh _ a₀ c n).bound
  let J : Nat → (Str → Option Value) → List (Addr × Obj) → Prop := fun i m nx => ∃ pre : List Int, pre.length = i ∧ KstS Led ps Facts x stored m₀ P pre m nx
  refine loop_invN J W ?_ ?_ ?_ ?_ (by show IsRangeIter _ _ _ _ _; rw [hn]; simpa using Heap.get?_push_size _ rfl) (F.push _) (fun p hp => ⟨Heap.get?_push_of_some _ (N p hp).1, (N p hp).2⟩) ⟨[], rfl, c₀, rfl, hf, hk, fun _ _ _ _ => rfl, hp⟩ ?_ ?_
  · intro hm
    exact absurd F.ns.lt ((List.mem_singleton.mp hm) ▸ Nat.lt_irrefl _)
  · intro b hb
    rw [List.mem_singleton.mp hb]
    exact next_is_new F
  · intro p hp hI
    exact absurd (Heap.lt_size (N p hp).1) ((List.mem_singleton.mp hI) ▸ Nat.lt_irrefl _)
  · intro p hp hI
    exact absurd (Heap.lt_size (N p hp).1) ((List.mem_singleton.mp hI) ▸ Nat.lt_irrefl _)
  · rintro i v m₁ nx h tk own hi ⟨_, t, rfl⟩ _ hoff ⟨pre, rfl, d, rfl, hf', h1, h2, hp'⟩ F₁ N₁
    refine wpAny_mono (turn d pre _ t m₁ h tk own rfl hi hoff hf' hp' (kst_fr h1 h2 F₁) N₁) (fun f s₂ q => ?_) fun _ _ e => e
    have up : InvEndN h₀ env.locals (KstS Led ps Facts x stored m₀ P (pre ++ [a₀ + (pre.length : Int) * c])) own ((Led c₀).map (·.1)) { s with heap := h, toks := tk } s₂ →
        InvEndN h₀ env.locals (J (pre.length + 1)) own ((Led c₀).map (·.1)) { s with heap := h, toks := tk } s₂ := by
      rintro ⟨h', tk', m', news', nx', e', F', N', hn', ho', ha, hS⟩
      exact ⟨h', tk', m', news', nx', e', F', N', hn', ho', ha, _, by simp, hS⟩
    cases f with
    | ret v => exact q
    | brk => exact q
    | next => exact up q
    | cont => exact up q
  · rintro m₁ nx h tk ⟨pre, hl, d, rfl, hf', h1, h2, hp'⟩ F₁ N₁
    exact done d pre m₁ h tk hl hf' hp' (kst_frOut h1 h2 F₁) N₁
end

section
variable {prog : Program} {w : World} {A : Around} {E : Value → Shared → Prop} {s : Shared} {h₀ h : Heap} {L D b : Addr} {m : Str → Option Value} {news news' : List (Addr × Obj)} {its2 : Array Value} {n n2 : Nat} {us : List Value}
theorem extend_small {Q : Value → Shared → Prop} (F : Fr h₀ L s.heap m) (N : News h₀ L s.heap news) (hb : (b, listOf its2 n2) ∈ news) (hl : us.length ≤ 1000) (hne : its2.toList.length ≠ 0) (h2 : its2.toList.length ≤ 1000)
    (U : Upd D (listOf us.toArray n) (listOf (us ++ its2.toList).toArray (n + 1)) news news')
    (h : ∀ h', Fr h₀ L h' m → News h₀ L h' news' → Q .none { s with heap := h' }) : wpAny (model prog w) A (call (.builtin "list.extend") [.ref D, .ref b]) Q E s := by
  have e : its2.size = its2.toList.length := by simp
  refine kl_extend F N hb (by simp) hne U ?_ ?_ ?_ h
  · simp only [Builtin.List.listTooLong, sizeLine_eq, List.size_toArray, Bool.and_eq_true, decide_eq_true_eq]
    omega
  · simp only [sizeLine_eq]; omega
  · simp only [sizeLine_eq, List.size_toArray]; omega
end

section
variable {h₀ : Heap} {x : Str}
/-- a turn's end: one list grown, some letters more -/
theorem turn_end {τ : Type} {l : Addr} {ps : τ → List (Str × Value)} {G : τ → Prop} {stored : List Str} {m₀ : Str → Option Value} {P : List Int → (List Value × List Int × Nat) × τ → Prop} {pre : List Int} {L : Addr} {m' : Str → Option Value} {own news' : List (Addr × Obj)} {s₁ : Shared} {h' : Heap} {tk : Nat}
    {us' : List Value} {os' : List Int} {e' : Nat} (c : τ) (F : Fr h₀ L h' m') (N : News h₀ L h' news') (hm : (l, listOf us'.toArray e') ∈ news') (ho : ∀ q ∈ own, q ∈ news') (hI : IntsAre us' os') (hg : G c) (hk : ∀ q ∈ ps c, m' q.1 = some q.2)
    (hr : ∀ z, z ≠ x → (∀ p ∈ ps c, z ≠ p.1) → stored.contains z = false → m' z = m₀ z) (hp : P pre ((us', os', e'), c)) :
    InvEndN h₀ L (KstS (fun c => [(l, listOf c.1.1.toArray c.1.2.2)]) (fun c => ps c.2) (fun c => IntsAre c.1.1 c.1.2.1 ∧ G c.2) x stored m₀ P pre) own [l] s₁ { s₁ with heap := h', toks := tk } :=
  kst_end ((us', os', e'), c) F N (List.forall_mem_singleton.mpr hm) ho rfl ⟨hI, hg⟩ hk hr hp
end

section
variable {prog : Program} {w : World} {A : Around} {s : Shared} {h₀ : Heap} {L : Addr} {m : Str → Option Value} {env : Env}
open LCg LCt
/-- a comprehension with a test, by what holds between the turns; the ledger ahead of it stays -/
theorem comp_ind {ct elt : Expr} {x : Str} {scope : Scope} {cl : List (Str × Addr)} {S : List (Addr × Obj) → Prop} {P : Nat → Value → Prop} {Fin : List Value → List (Addr × Obj) → Prop} {news : List (Addr × Obj)} (Inv : Nat → List Value → Prop) (n : Nat) (h0 : Inv 0 [])
    (step : ∀ (i : Nat) (ys : List Value) (Rest : List Value → List (Addr × Obj) → Prop), i < n → Inv i ys → (∀ ys', Inv (i + 1) ys' → Rest ys' news) →
      ∀ v I oI C oC D m₂ h tk (E' : Value → Shared → Prop), P i v → NsObj oC m₂ → m₂ x = some v → Fr h₀ L h m → News h₀ L h ((I, oI) :: (C, oC) :: (D, lst ys) :: news) → Off3 I C D news → ((@Ne Nat I C) ∧ (@Ne Nat I D) ∧ (@Ne Nat C D)) →
      wpAny (model prog w) A (isTrue ct (compEnvC scope cl C env) (eval ct (compEnvC scope cl C env))) (fun ok s' => if ok = true then
        wpAny (model prog w) A (eval elt (compEnvC scope cl C env)) (CompEnd h₀ L m { s with heap := h, toks := tk } I oI C oC D (lst ys) S (fun y news' => Rest (ys ++ [y]) news')) E' s'
        else CompEnd h₀ L m { s with heap := h, toks := tk } I oI C oC D (lst ys) S (fun _ news' => Rest ys news') Value.none s') E' { s with heap := h, toks := tk })
    (fin : ∀ ys, Inv n ys → Fin ys news) : CompRestT prog w A h₀ L m env ct elt x scope cl s S P Fin n 0 [] news := by
  have key : ∀ k i ys, i + k = n → Inv i ys → CompRestT prog w A h₀ L m env ct elt x scope cl s S P Fin k i ys news := by
    intro k
    induction k with
    | zero =>
      intro i ys e hi
      have e' : i = n := by omega
      exact fin ys (e' ▸ hi)
    | succ k ih =>
      intro i ys e hi
      exact CompRestT.succ (step i ys (fun ys' news' => CompRestT prog w A h₀ L m env ct elt x scope cl s S P Fin k (i + 1) ys' news') (by omega) hi (fun ys' hi' => ih (i + 1) ys' (by omega) hi'))
  exact key n 0 [] (by omega) h0
end

section
variable {pr : Program} {w : World} {A : Around} {s : Shared}
/-- a callee whose base hides some frames -/
theorem enterH {R : Result → Shared → Prop} {name qual : Str} {params : Arguments} {body : List Stmt} {scope : Scope} {dV kV doc pm cdv ct oc : Value} {an od : Option Addr} {osl : Array (Option Value)} {f : Addr} {args : Args} (binds : List (Str × Value)) (hs : List Addr)
    (hroom : A.depth < recursionLimit) (X : (Mine.hd.heap_39 w.params).In s.heap) (hlim : s.heap.NoLimit)
    (ho : (Mine.hd.heap_39 w.params).lookup f = some ⟨oc, od, .func (fnOf name qual params body scope dV kV doc pm an cdv ct), osl⟩) (hcd : codeIn (Mine.hd.heap_39 w.params) cdv qual = true)
    (hbind : BindsTo s (fnOf name qual params body scope dV kV doc pm an cdv ct) args binds) (hloc : ∀ y ∈ binds, scope.names.lookup y.1 = some .local)
    (h : ∀ L' h₁, Fr (hideAll s.heap hs) L' h₁ (fun y => binds.reverse.lookup y) → News (hideAll s.heap hs) L' h₁ [] → s.heap.StaysIn h₁ → s.heap.get? L' = none →
      wpAny (model pr w) (A.deeper (envOf qual scope L' f cdv)) (execs body (envOf qual scope L' f cdv))
        (fun fl s' => R (.ok (.ret (match fl with | .ret v => v | _ => .none))) s')
        (fun e s' => wpAny (model pr w) (A.deeper (envOf qual scope L' f cdv)) (leaving (envOf qual scope L' f cdv) e) (fun _ s'' => R (.error e) s'') (fun e' s'' => R (.error e') s'') s')
        { s with heap := h₁, toks := s.toks + binds.length })
    (hco : scope.isCoroutine = false := by rfl) (hgen : scope.isGenerator = false := by rfl) (hk : scope.kind = .function := by rfl)
    (hcell : ∀ x ∈ scope.names, x.2 ≠ .cell := by decide) : codeAny (model pr w) A (.call (.ref f) args) R s := by
  refine codeAny_call_def (fd := fnOf name qual params body scope dV kV doc pm an cdv ct) (body := body) (binds := binds) hroom (X _ _ ho) rfl hlim (codeRec_of X hcd) rfl hbind hcell hloc (fun h₁ hns hk₁ => ?_) hco hgen hk
  exact h _ h₁ ⟨hns, fun b o e => hk₁ b o (of_hideAll _ e), Nat.le_of_eq (hideAll_size _ _)⟩ News.nil hk₁ (Heap.get?_none_of_le (Nat.le_refl _))
end
/-- behind a statement that stores nothing -/
structure NxtAt (g : Heap) (L : Addr) (s : Shared) (m₀ : Str → Option Value) (news : List (Addr × Obj)) (f : Flow) (s' : Shared) : Prop where
  next : f = .next
  all : ∃ h tk, s' = { s with heap := h, toks := tk } ∧ Fr g L h m₀ ∧ News g L h news
theorem NxtAt.intro {g : Heap} {L : Addr} {s s' : Shared} {m₀ : Str → Option Value} {news news' : List (Addr × Obj)} (F : Fr g L s'.heap m₀) (N : News g L s'.heap news') (hn : ∀ p ∈ news, p ∈ news')
    (hs : s' = { s with heap := s'.heap, toks := s'.toks }) : NxtAt g L s m₀ news .next s' := ⟨rfl, s'.heap, s'.toks, hs, F, fun q hq => N q (hn q hq)⟩
theorem NxtAt.cons {prog : Program} {w : World} {A : Around} {E : Value → Shared → Prop} {Q : Flow → Shared → Prop} {st : Stmt} {r : List Stmt} {env : Env} {g : Heap} {L : Addr} {s : Shared} {m₀ : Str → Option Value} {news : List (Addr × Obj)} (F : Fr g L s.heap m₀) (N : News g L s.heap news)
    (one : wpAny (model prog w) A (exec st env) (NxtAt g L s m₀ news) E s)
    (rest : ∀ h tk, Fr g L h m₀ → News g L h news → wpAny (model prog w) A (execs r env) Q E { s with heap := h, toks := tk }) : wpAny (model prog w) A (execs (st :: r) env) Q E s := by
  refine wpAny_execs_cons (wpAny_mono one ?_ (fun _ _ x => x))
  rintro f s' ⟨rfl, h, tk, rfl, F', N'⟩
  exact rest h tk F' N'

end
local macro_rules | `(tactic| walk_at "call type:type") => `(tactic| ((with_reducible show wpAny _ _ (call (Value.type "type") [Value.bytes _ _]) _ _ _); refine call_type_of (typeIs_bytes _ _ _) (by decide +kernel) ?_))
local macro_rules | `(tactic| walk_at "call builtin:list.extend") => `(tactic| (k_here; (with_reducible show wpAny _ _ (call (Value.builtin _) [Value.ref _, Value.ref _]) _ _ _); k_dflt (refine' extend_small ?F ?N ?b ?l ?ne ?z ?U ?_; (case F => k_asm); (case N => k_asm); (case b => k_mem); (case U => k_upd); (case l => omega); (case ne => exact Nat.succ_ne_zero _); (case z => exact Nat.le_of_ble_eq_true rfl)); intro h' F' N'; (try dsimp only at N'); (try k_sweep)))
local macro_rules | `(tactic| walk_at "storeName") => `(tactic| dsimp only)
local macro_rules | `(tactic| walk_at "mine same") => `(tactic| (intro z h1 h2 h3; simp only [List.forall_mem_cons, List.not_mem_nil, false_implies, implies_true, and_true, ne_eq] at h2; simp only [List.contains_cons, List.contains_nil, Bool.or_false, Bool.or_eq_false_iff, beq_eq_false_iff_ne, ne_eq] at h3; simp [kstB, h1, h2, h3]))
local macro_rules | `(tactic| walk_at "mine sub") => `(tactic| (intro q hq; repeat (first | exact hq | refine List.Mem.tail _ ?_)))
local macro_rules | `(tactic| walk_at "exec For") => `(tactic| (k_here; (rename Fr _ _ _ _ => lF'); (with_unfolding_all refine' For_invVF lF' ?k1 ?k2 ?_; (case k1 => exact rfl); (case k2 => exact rfl); k_whole)))
/-- one step -/
local macro_rules | `(tactic| walk_at "mine step") => `(tactic| first | (k_end; wrow_close) | walk1 | (dsimp only; walk1) | (leave1; try dsimp only))
local macro_rules | `(tactic| walk_at "mine fold") => `(tactic| (try ((with_reducible show wpAny _ _ _ _ _ _); k_fold)))
/-- no own def called, no loop begun, no turn's end -/
local macro_rules | `(tactic| walk_at "mine noloop") => `(tactic| ((fail_if_success (with_reducible show wpAny _ _ (PySem.call (Value.ref _) _ _) _ _ _)); (fail_if_success (with_reducible show wpAny _ _ (pyIter _) (fun it s₂ => LoopAtV _ _ _ _ _ _ _ _ _ it s₂) _ _)); (fail_if_success (with_reducible show InvEndN _ _ _ _ _ _ _))))
local macro_rules | `(tactic| walk_at "mine plain") => `(tactic| (walk_at "mine noloop"; (fail_if_success (with_reducible show wpAny _ _ (execs (Stmt.While _ _ _ _ :: _) _) _ _ _)); (fail_if_success (with_reducible show wpAny _ _ (exec (Stmt.While _ _ _ _) _) _ _ _)); (fail_if_success (with_reducible show KswEnd _ _ _ _ _ _ _ _ _ _ _ _))))
local macro_rules | `(tactic| walk_at "mine open") => `(tactic| (k_unfold; (try dsimp only)))
/-- the walk, up to a loop's head or a turn's end -/
local macro_rules | `(tactic| walk_at "mine go") => `(tactic| (walk_at "mine fold"; (repeat' (first | walk_at "mine open" | (walk_at "mine plain"; walk_at "mine step"))); all_goals (try k_unfold)))
/-- the walk, up to an if -/
local macro_rules | `(tactic| walk_at "mine toif") => `(tactic| (walk_at "mine fold"; (repeat' (first | walk_at "mine open" | ((fail_if_success (with_reducible show wpAny _ _ (execs (Stmt.If _ _ _ _ :: _) _) _ _ _)); walk_at "mine plain"; walk_at "mine step"))); all_goals (try k_unfold)))
/-- the walk through a while with written values -/
local macro_rules | `(tactic| walk_at "mine whl") => `(tactic| (walk_at "mine fold"; (repeat' (first | walk_at "mine open" | (walk_at "mine noloop"; walk_at "mine step"))); all_goals (try k_unfold)))
/-- the walk, to the next statement -/
local macro_rules | `(tactic| walk_at "mine cont") => `(tactic| (walk_at "mine fold"; (repeat' (first | walk_at "mine open" | ((fail_if_success (with_reducible show wpAny _ _ (execs (_ :: _) _) _ _ _)); walk_at "mine plain"; walk_at "mine step"))); all_goals (try k_unfold)))
local macro_rules | `(tactic| walk_at "mine one") => `(tactic| ((refine wpAny_execs_cons ?_); walk_at "mine cont"))
section
section
variable {pr : Program} {w : World} {p : Program} {loose : List Str} {mean : ExcName → Option Value} {mg mb : Str → Option Value} {A : Around} {base : Heap} {outer : List Env} {s : Shared} {R : Result → Shared → Prop}

noncomputable def b64val (c : Int) : Int := if 65 ≤ c ∧ c ≤ 90 then c - 65 else if 97 ≤ c ∧ c ≤ 122 then c - 71 else if 48 ≤ c ∧ c ≤ 57 then c + 4 else if c = 43 then 62 else if c = 47 then 63 else 64

set_option maxRecDepth 100000 in
set_option maxHeartbeats 8000000 in
theorem call_b64val {c : Int} {t : Tok} (C : Cx w p loose mean mg mb A base outer s.heap)
    (ret : ∀ h' tk' t' v, v = b64val c → s.heap.StaysIn h' → R (.ok (.ret (.int v t'))) { s with heap := h', toks := tk' }) :
    codeAny (model pr w) A (.call (.ref 77) ⟨[.int c t], []⟩) R s := by
  k_with_none
  have B := C.B
  have X := C.X
  have T := C.T
  refine enter [(Str.ofString "c", .int c t)] C (by k_is) (by k_is) (BindsTo.of_eq rfl) (locs rfl) ?_
  intro L h₁ F N
  walk_at "mine go"
  all_goals (
    refine ret _ _ _ _ ?_ (Fr.keep (by assumption))
    clear C B X T
    unfold b64val
    first
      | exact (if_pos (by omega)).symm
      | exact ((if_neg (by omega)).trans (if_pos (by omega))).symm
      | exact ((if_neg (by omega)).trans ((if_neg (by omega)).trans (if_pos (by omega)))).symm
      | exact ((if_neg (by omega)).trans ((if_neg (by omega)).trans ((if_neg (by omega)).trans (if_pos (by omega))))).symm
      | exact ((if_neg (by omega)).trans ((if_neg (by omega)).trans ((if_neg (by omega)).trans ((if_neg (by omega)).trans (if_pos (by omega)))))).symm
      | exact ((if_neg (by omega)).trans ((if_neg (by omega)).trans ((if_neg (by omega)).trans ((if_neg (by omega)).trans (if_neg (by omega)))))).symm)

set_option maxRecDepth 100000 in
set_option maxHeartbeats 8000000 in
theorem call_buffer {b : Array UInt8} {t : Tok} (C : Cx w p loose mean mg mb A base outer s.heap)
    (ret : ∀ h' tk' t', s.heap.StaysIn h' → R (.ok (.ret (.bytes b t'))) { s with heap := h', toks := tk' }) :
    codeAny (model pr w) A (.call (.ref 63) ⟨[.bytes b t], []⟩) R s := by
  k_with_none
  have B := C.B
  have X := C.X
  have T := C.T
  refine enter [(Str.ofString "data", .bytes b t)] C (by k_is) (by k_is) (BindsTo.of_eq rfl) (locs rfl) ?_
  intro L h₁ F N
  walk_at "mine go"
  all_goals exact ret _ _ _ (Fr.keep (by assumption))

set_option maxRecDepth 100000 in
set_option maxHeartbeats 8000000 in
theorem call_ascb {b : Array UInt8} {t : Tok} (C : Cx w p loose mean mg mb A base outer s.heap)
    (ret : ∀ h' tk' t', s.heap.StaysIn h' → R (.ok (.ret (.bytes b t'))) { s with heap := h', toks := tk' }) :
    codeAny (model pr w) A (.call (.ref 56) ⟨[.bytes b t], []⟩) R s := by
  k_with_none
  have B := C.B
  have X := C.X
  have T := C.T
  refine enter [(Str.ofString "data", .bytes b t)] C (by k_is) (by k_is) (BindsTo.of_eq rfl) (locs rfl) ?_
  intro L h₁ F N
  walk_at "mine go"
  all_goals exact ret _ _ _ (Fr.keep (by assumption))

set_option maxRecDepth 100000 in
set_option maxHeartbeats 8000000 in
theorem call_bfdd {b : Array UInt8} {t : Tok} (C : Cx w p loose mean mg mb A base outer s.heap)
    (ret : ∀ h' tk' t', s.heap.StaysIn h' → R (.ok (.ret (.bytes b t'))) { s with heap := h', toks := tk' }) :
    codeAny (model pr w) A (.call (.ref 36) ⟨[.bytes b t], []⟩) R s := by
  k_with_none
  have B := C.B
  have X := C.X
  have T := C.T
  refine enter [(Str.ofString "s", .bytes b t)] C (by k_is) (by k_is) (BindsTo.of_eq rfl) (locs rfl) ?_
  intro L h₁ F N
  walk_at "mine go"
  all_goals exact ret _ _ _ (Fr.keep (by assumption))

set_option maxRecDepth 100000 in
set_option maxHeartbeats 8000000 in
theorem call_truth (C : Cx w p loose mean mg mb A base outer s.heap)
    (ret : ∀ h' tk', s.heap.StaysIn h' → R (.ok (.ret (.bool false))) { s with heap := h', toks := tk' }) :
    codeAny (model pr w) A (.call (.ref 70) ⟨[.bool false], []⟩) R s := by
  k_with_none
  have B := C.B
  have X := C.X
  have T := C.T
  refine enter [(Str.ofString "x", .bool false)] C (by k_is) (by k_is) (BindsTo.of_eq rfl) (locs rfl) ?_
  intro L h₁ F N
  walk_at "mine go"
  all_goals exact ret _ _ (Fr.keep (by assumption))
end

end
section
/-- the octets of the worths, four by four -/
noncomputable def octs : List Int → List Int
  | a :: b :: c :: d :: r => (((a * 64 + b) * 64 + c) * 64 + d) / 65536 :: (((a * 64 + b) * 64 + c) * 64 + d) / 256 % 256 :: (((a * 64 + b) * 64 + c) * 64 + d) % 256 :: octs r
  | _ => []
theorem octs_length : ∀ (n : Nat) (l : List Int), l.length = 4 * n → (octs l).length = 3 * n
  | 0, l, h => by
    have : l = [] := List.length_eq_zero_iff.mp (by omega)
    subst this; rfl
  | n + 1, a :: b :: c :: d :: r, h => by
    have : r.length = 4 * n := by simp only [List.length_cons] at h; omega
    simp only [octs, List.length_cons, octs_length n r this]
    omega
  | n + 1, [], h => by simp at h
  | n + 1, [_], h => by simp at h; omega
  | n + 1, [_, _], h => by simp at h; omega
  | n + 1, [_, _, _], h => by simp at h; omega
theorem octs_append : ∀ (n : Nat) (l m : List Int), l.length = 4 * n → octs (l ++ m) = octs l ++ octs m
  | 0, l, m, h => by
    have : l = [] := List.length_eq_zero_iff.mp (by omega)
    subst this; rfl
  | n + 1, a :: b :: c :: d :: r, m, h => by
    have : r.length = 4 * n := by simp only [List.length_cons] at h; omega
    simp only [List.cons_append, octs, octs_append n r m this]
  | n + 1, [], _, h => by simp at h
  | n + 1, [_], _, h => by simp at h; omega
  | n + 1, [_, _], _, h => by simp at h; omega
  | n + 1, [_, _, _], _, h => by simp at h; omega
theorem take4 (ns : List Int) (i : Nat) (h : 4 * i + 4 ≤ ns.length) :
    ns.take (4 * (i + 1)) = ns.take (4 * i) ++ [ns.getD (4 * i) 0, ns.getD (4 * i + 1) 0, ns.getD (4 * i + 2) 0, ns.getD (4 * i + 3) 0] := by
  have e : 4 * (i + 1) = 4 * i + 1 + 1 + 1 + 1 := by omega
  rw [e]
  simp only [List.take_add_one, List.append_assoc]
  have g : ∀ j, j < ns.length → ns[j]?.toList = [ns.getD j 0] := by
    intro j hj
    simp [List.getD_eq_getElem?_getD, List.getElem?_eq_getElem hj]
  rw [g _ (by omega), g _ (by omega), g _ (by omega), g _ (by omega)]
  rfl
theorem octs_turn {ns os pre : List Int} {k : Int} (h4 : ns.length % 4 = 0) (hk : k = 0 + (pre.length : Int) * 4) (hlt : pre.length < ns.length / 4) (hP : os = octs (ns.take (4 * pre.length))) :
    os ++ [((((ns.getD k.toNat 0 * 64 + ns.getD (k + 1).toNat 0) * 64 + ns.getD (k + 2).toNat 0) * 64 + ns.getD (k + 3).toNat 0).fdiv 65536),
      ((((ns.getD k.toNat 0 * 64 + ns.getD (k + 1).toNat 0) * 64 + ns.getD (k + 2).toNat 0) * 64 + ns.getD (k + 3).toNat 0).fdiv 256).fmod 256,
      (((ns.getD k.toNat 0 * 64 + ns.getD (k + 1).toNat 0) * 64 + ns.getD (k + 2).toNat 0) * 64 + ns.getD (k + 3).toNat 0).fmod 256]
      = octs (ns.take (4 * (pre ++ [k]).length)) := by
  have e0 : k.toNat = 4 * pre.length := by omega
  have e1 : (k + 1).toNat = 4 * pre.length + 1 := by omega
  have e2 : (k + 2).toNat = 4 * pre.length + 2 := by omega
  have e3 : (k + 3).toNat = 4 * pre.length + 3 := by omega
  rw [e0, e1, e2, e3, hP, List.length_append, List.length_singleton, take4 ns pre.length (by omega), octs_append pre.length _ _ (by rw [List.length_take]; omega)]
  congr 1
  simp only [octs]
  rw [Int.fdiv_eq_ediv_of_nonneg _ (by decide), Int.fdiv_eq_ediv_of_nonneg _ (by decide), Int.fmod_eq_emod_of_nonneg _ (by decide), Int.fmod_eq_emod_of_nonneg _ (by decide)]

section
variable {pr : Program} {w : World} {p : Program} {loose : List Str} {mean : ExcName → Option Value} {mg mb : Str → Option Value} {A : Around} {base : Heap} {outer : List Env} {s : Shared} {R : Result → Shared → Prop}

set_option maxRecDepth 100000 in
set_option maxHeartbeats 8000000 in
theorem call_octets {a : Addr} {vs : List Value} {ns : List Int} (C : Cx w p loose mean mg mb A base outer s.heap)
    (hl : s.heap.IsList a vs.toArray) (hi : IntsAre vs ns) (h4 : ns.length % 4 = 0) (hlen : ns.length ≤ 20) (hb : ∀ n ∈ ns, 0 ≤ n ∧ n < 64)
    (ret : ∀ h' tk' l us os n, os = octs ns → IntsAre us os → h'.get? l = some (listOf us.toArray n) → s.heap.get? l = none → s.heap.StaysIn h' → R (.ok (.ret (.ref l))) { s with heap := h', toks := tk' }) :
    codeAny (model pr w) A (.call (.ref 116) ⟨[.ref a], []⟩) R s := by
  k_with_none
  have B := C.B
  have X := C.X
  have T := C.T
  have hh := C.hh
  refine enter [(Str.ofString "worths", .ref a)] C (by k_is) (by k_is) (BindsTo.of_eq rfl) (locs rfl) ?_
  intro L h₁ F N
  walk_at "mine go"
  rename_i l' _ _ _ F' N' _ _ _ _ _ hr hF hN _
  have hsize : Builtin.Range.rangeSize 0 (ns.length : Int) 4 = ((ns.length / 4 : Nat) : Int) := by
    rw [Builtin.Range.rangeSize, if_pos (by omega)]
    split <;> omega
  refine loop_step (σ := (List Value × List Int × Nat) × Unit) (fun c => [(l', listOf c.1.1.toArray c.1.2.2)]) (fun _ => []) (fun c => IntsAre c.1.1 c.1.2.1 ∧ True) [Str.ofString "four"] (fun pre c => c.1.2.1 = octs (ns.take (4 * pre.length))) (([], [], 0), ()) (n := ns.length / 4) hh hr ?_ hsize hF hN ⟨IntsAre.nil, trivial⟩ (by intro q hq; cases hq) (by simp [octs]) ?_ ?_
  · have fits : ∀ x : Int, 0 ≤ x → x ≤ 100 → Builtin.Range.rangeFitsLong x = true := by
      intro x h0 h1
      simp only [Builtin.Range.rangeFitsLong, Bool.and_eq_true, decide_eq_true_eq]
      omega
    rw [Builtin.Range.small, hsize, if_pos (by omega), fits 0 (by omega) (by omega), fits (ns.length : Int) (by omega) (by omega), fits 4 (by omega) (by omega), fits ((ns.length / 4 : Nat) : Int) (by omega) (by omega), fits ((ns.length : Int) + (4 - 1)) (by omega) (by omega)]
    simp
  · rintro ⟨⟨us, os, e⟩, _⟩ pre k t u h tk own hk hlt hoff ⟨hfacts, -⟩ hP F1 N1
    dsimp only at hfacts hP
    change Fr s.heap L h _ at F1
    change News s.heap L h ((l', listOf us.toArray e) :: own) at N1
    clear hF hN F' N' hr
    dsimp only
    have hmk := kstMark
    have hus : us.length ≤ 15 := by
      rw [hfacts.length, hP, octs_length pre.length _ (by rw [List.length_take]; omega)]
      omega
    walk_at "mine go"
    refine turn_end (ps := fun _ => []) (G := fun _ => True) () (by assumption) (by assumption) (.tail _ (.head _)) (fun q hq => .tail _ (.tail _ hq)) (hfacts.append (.cons _ _ (.cons _ _ (.cons _ _ .nil)))) trivial (fun q hq => nomatch hq) ?_ ?_
    · walk_at "mine same"
    · exact octs_turn h4 hk hlt hP
  · rintro ⟨⟨us, os, e⟩, _⟩ pre u h tk hlen' ⟨hfacts, -⟩ hP F1 N1
    dsimp only at hfacts hP
    change Fr s.heap L h _ at F1
    change News s.heap L h [(l', listOf us.toArray e)] at N1
    have ho : os = octs ns := by
      rw [hP, hlen', List.take_of_length_le (by omega)]
    clear hF hN F' N' hr
    dsimp only
    walk_at "mine go"
    refine ret _ _ _ _ _ _ ho hfacts (N1 _ (.head _)).1 (N1 _ (.head _)).2.2 (Fr.keep (by assumption))
end

end
section
noncomputable def blank : Str := Str.ofString " "
noncomputable def trimL (other : Str) (mark : Int) (l : List Int) : List Int := if other == blank then l.dropWhile (· == mark) else l
noncomputable def trimR (other : Str) (mark : Int) (l : List Int) : List Int := if other == blank then (l.reverse.dropWhile (· == mark)).reverse else l
theorem trimL_step {other : Str} {mark : Int} {l : List Int} (h : List.take 1 l = [mark]) (hs : (other == Str.ofString " ") = true) : trimL other mark (l.drop 1) = trimL other mark l := by
  cases l with
  | nil => simp at h
  | cons x r =>
    have : x = mark := by simpa using h
    subst this
    have hs' : (other == blank) = true := hs
    simp [trimL, hs']
theorem trimL_off {other : Str} {mark : Int} {l : List Int} (hs : (other == Str.ofString " ") = false) : trimL other mark l = l := if_neg (by rw [blank, hs]; decide)
theorem trimL_stop {other : Str} {mark : Int} {l : List Int} (h : ¬ List.take 1 l = [mark]) : trimL other mark l = l := by
  unfold trimL
  split
  · cases l with
    | nil => rfl
    | cons x r =>
      have : ¬ x = mark := by simpa using h
      simp [this]
  · rfl
theorem dropWhile_length {α : Type} (q : α → Bool) : ∀ l : List α, (l.dropWhile q).length ≤ l.length
  | [] => Nat.le_refl _
  | x :: r => by
    rw [List.dropWhile_cons]
    split
    · exact Nat.le_succ_of_le (dropWhile_length q r)
    · exact Nat.le_refl _
theorem trimL_length (other : Str) (mark : Int) (l : List Int) : (trimL other mark l).length ≤ l.length := by
  unfold trimL
  split
  · exact dropWhile_length _ l
  · exact Nat.le_refl _
theorem trimR_length (other : Str) (mark : Int) (l : List Int) : (trimR other mark l).length ≤ l.length := by
  unfold trimR
  split
  · rw [List.length_reverse]; have := dropWhile_length (· == mark) l.reverse; rw [List.length_reverse] at this; exact this
  · exact Nat.le_refl _
theorem trimR_step {other : Str} {mark : Int} {l : List Int} (h : List.drop (l.length - 1) l = [mark]) (hs : (other == Str.ofString " ") = true) : trimR other mark (l.take (l.length - 1)) = trimR other mark l := by
  have e := List.take_append_drop (l.length - 1) l
  rw [h] at e
  have hs' : (other == blank) = true := hs
  unfold trimR
  rw [if_pos hs', if_pos hs']
  conv => rhs; rw [← e]
  simp
theorem trimR_stop {other : Str} {mark : Int} {l : List Int} (h : ¬ List.drop (l.length - 1) l = [mark]) : trimR other mark l = l := by
  unfold trimR
  split
  · have e := List.take_append_drop (l.length - 1) l
    rcases hr : l.reverse with _ | ⟨x, r⟩
    · have : l = [] := by simpa using hr
      simp [this]
    · have hl : l = r.reverse ++ [x] := by rw [← List.reverse_reverse l, hr]; simp
      have hx : ¬ x = mark := by
        intro q
        apply h
        rw [hl, q]
        simp
      rw [List.dropWhile_cons, if_neg (by simpa using hx), ← hr, List.reverse_reverse]
  · rfl
theorem trimR_off {other : Str} {mark : Int} {l : List Int} (hs : (other == Str.ofString " ") = false) : trimR other mark l = l := if_neg (by rw [blank, hs]; decide)

noncomputable def signed (other : Str) (mark : Int) (l : List Int) : Bool := ([Str.ofString "-", Str.ofString "+"].any fun x => x == other) && l.take 1 == [mark]
noncomputable def unsign (other : Str) (mark : Int) (l : List Int) : List Int := if signed other mark l then l.drop 1 else l
noncomputable def signOf (other : Str) (mark : Int) (l : List Int) : Int := if signed other mark l && other == Str.ofString "-" then -1 else 1

noncomputable def numScan (us : Bool) (mark : Int) : List Int → Int → Bool → Option Int
  | [], n, f => if f then some n else none
  | x :: r, n, f => if 52 ≤ x ∧ x ≤ 61 then numScan us mark r (n * 10 + x - 52) true else if us = true ∧ x = mark ∧ f = true then numScan us mark r n false else none
noncomputable def lawNum (other : Str) (mark : Int) (ns : List Int) : Option Int :=
  (numScan (other == Str.ofString "_") mark (unsign other mark (trimR other mark (trimL other mark ns))) 0 false).map fun n => signOf other mark (trimR other mark (trimL other mark ns)) * n
noncomputable def NumIs : Option Int → Value → Prop
  | none, v => v = .none
  | some k, v => ∃ t, v = .int k t

theorem scan_dig {us : Bool} {mark x n : Int} {r : List Int} {f : Bool} (h : 52 ≤ x ∧ x ≤ 61) : numScan us mark (x :: r) n f = numScan us mark r (n * 10 + x - 52) true := by rw [numScan, if_pos h]
theorem scan_under {us : Bool} {mark x n : Int} {r : List Int} {f : Bool} (h : ¬ (52 ≤ x ∧ x ≤ 61)) (h1 : us = true) (h2 : x = mark) (h3 : f = true) : numScan us mark (x :: r) n f = numScan us mark r n false := by rw [numScan, if_neg h, if_pos ⟨h1, h2, h3⟩]
theorem scan_no1 {us : Bool} {mark x n : Int} {r : List Int} {f : Bool} (h : ¬ (52 ≤ x ∧ x ≤ 61)) (h1 : us = false) : numScan us mark (x :: r) n f = none := by rw [numScan, if_neg h, if_neg (by rw [h1]; simp)]
theorem scan_no2 {us : Bool} {mark x n : Int} {r : List Int} {f : Bool} (h : ¬ (52 ≤ x ∧ x ≤ 61)) (h1 : ¬ x = mark) : numScan us mark (x :: r) n f = none := by rw [numScan, if_neg h, if_neg (fun q => h1 q.2.1)]
theorem scan_no3 {us : Bool} {mark x n : Int} {r : List Int} {f : Bool} (h : ¬ (52 ≤ x ∧ x ≤ 61)) (h1 : f = false) : numScan us mark (x :: r) n f = none := by rw [numScan, if_neg h, if_neg (by rw [h1]; simp)]
theorem lawNum_none {other : Str} {mark : Int} {ns l2 l3 : List Int} (hl2 : trimR other mark (trimL other mark ns) = l2) (hl3 : unsign other mark l2 = l3) (h : numScan (other == Str.ofString "_") mark l3 0 false = none) : NumIs (lawNum other mark ns) .none := by
  unfold lawNum
  rw [hl2, hl3, h]
  rfl
theorem lawNum_some {other : Str} {mark k3 n : Int} {ns l2 l3 : List Int} {t : Tok} (hl2 : trimR other mark (trimL other mark ns) = l2) (hl3 : unsign other mark l2 = l3) (hk3 : signOf other mark l2 = k3) (h : numScan (other == Str.ofString "_") mark l3 0 false = some n) : NumIs (lawNum other mark ns) (.int (k3 * n) t) := by
  unfold lawNum
  rw [hl2, hl3, hk3, h]
  exact ⟨t, rfl⟩

section
variable {pr : Program} {w : World} {p : Program} {loose : List Str} {mean : ExcName → Option Value} {mg mb : Str → Option Value} {A A₀ : Around} {base h₀ : Heap} {outer : List Env} {s : Shared} {Q E : Value → Shared → Prop} {L : Addr} {m : Str → Option Value} {news : List (Addr × Obj)} {env : Env}

/-- behind a while: the name x holds a list of the ints l -/
structure RestAt (g : Heap) (L : Addr) (s : Shared) (x : Str) (m₀ : Str → Option Value) (news : List (Addr × Obj)) (l : List Int) (f : Flow) (s' : Shared) : Prop where
  next : f = .next
  all : ∃ r vs e h tk, s' = { s with heap := h, toks := tk } ∧ Fr g L h (fun y => if y = x then some (.ref r) else m₀ y) ∧ News g L h ((r, listOf vs.toArray e) :: news) ∧ IntsAre vs l
theorem RestAt.intro {g : Heap} {L r : Addr} {s s' : Shared} {x : Str} {m₀ m' : Str → Option Value} {news news' : List (Addr × Obj)} {l l' : List Int} {vs : List Value} {e : Nat} (F : Fr g L s'.heap m') (N : News g L s'.heap news') (hr : (r, listOf vs.toArray e) ∈ news') (hn : ∀ q ∈ news, q ∈ news') (hI : IntsAre vs l') (hl : l' = l)
    (hm : ∀ z, m' z = if z = x then some (.ref r) else m₀ z) (hs : s' = { s with heap := s'.heap, toks := s'.toks }) : RestAt g L s x m₀ news l .next s' :=
  ⟨rfl, r, vs, e, s'.heap, s'.toks, hs, (funext hm : m' = _) ▸ F, List.forall_mem_cons.mpr ⟨N _ hr, fun q hq => N q (hn q hq)⟩, hl ▸ hI⟩

/-- behind the sign: the list, its factor -/
structure SignAt (g : Heap) (L : Addr) (s : Shared) (m₀ : Str → Option Value) (news : List (Addr × Obj)) (l : List Int) (k : Int) (f : Flow) (s' : Shared) : Prop where
  next : f = .next
  all : ∃ r vs e t h tk, s' = { s with heap := h, toks := tk } ∧ Fr g L h (fun y => if y = Str.ofString "factor" then some (.int k t) else if y = Str.ofString "rest" then some (.ref r) else m₀ y) ∧ News g L h ((r, listOf vs.toArray e) :: news) ∧ IntsAre vs l
theorem SignAt.intro {g : Heap} {L r : Addr} {s s' : Shared} {m₀ m' : Str → Option Value} {news news' : List (Addr × Obj)} {l l' : List Int} {vs : List Value} {e : Nat} {k k' : Int} {t : Tok} (F : Fr g L s'.heap m') (N : News g L s'.heap news') (hf : m' (Str.ofString "factor") = some (.int k' t)) (hr' : m' (Str.ofString "rest") = some (.ref r)) (hr : (r, listOf vs.toArray e) ∈ news') (hn : ∀ q ∈ news, q ∈ news') (hI : IntsAre vs l') (hl : l' = l) (hk : k' = k)
    (hm : ∀ z, z ≠ Str.ofString "factor" → z ≠ Str.ofString "rest" → m' z = m₀ z) (hs : s' = { s with heap := s'.heap, toks := s'.toks }) : SignAt g L s m₀ news l k .next s' := by
  have e : m' = fun y => if y = Str.ofString "factor" then some (.int k' t) else if y = Str.ofString "rest" then some (.ref r) else m₀ y := by
    funext y
    by_cases h1 : y = Str.ofString "factor"
    · rw [if_pos h1, h1, hf]
    · by_cases h2 : y = Str.ofString "rest"
      · rw [if_neg h1, if_pos h2, h2, hr']
      · rw [if_neg h1, if_neg h2]; exact hm y h1 h2
  subst hk hl
  exact ⟨rfl, r, vs, _, t, s'.heap, s'.toks, hs, e ▸ F, List.forall_mem_cons.mpr ⟨N _ hr, fun q hq => N q (hn q hq)⟩, hI⟩

theorem num_end {g : Heap} {L : Addr} {m₀ m' : Str → Option Value} {led own : List (Addr × Obj)} {s₁ : Shared} {h' : Heap} {tk : Nat} {P : List Int → Int × Tok × Bool → Prop} {pre : List Int} {b : Bool} {k : Int} {t : Tok} (F : Fr g L h' m') (N : News g L h' (led ++ own)) (hb : m' (Str.ofString "figure") = some (.bool b)) (hk : m' (Str.ofString "number") = some (.int k t))
    (hm : ∀ z, z ≠ Str.ofString "worth" → z ≠ Str.ofString "figure" → z ≠ Str.ofString "number" → m' z = m₀ z) (hp : P pre (k, t, b)) :
    InvEndN g L (KstS (fun _ => led) (fun c => [(Str.ofString "figure", .bool c.2.2), (Str.ofString "number", .int c.1 c.2.1)]) (fun _ => True) (Str.ofString "worth") [] m₀ P pre) own (led.map (·.1)) s₁ { s₁ with heap := h', toks := tk } :=
  kst_end (k, t, b) F N (fun q hq => List.mem_append.mpr (.inl hq)) (fun q hq => List.mem_append.mpr (.inr hq)) rfl trivial (List.forall_mem_cons.mpr ⟨hb, List.forall_mem_singleton.mpr hk⟩) (fun z hz h2 _ => hm z hz (h2 _ (.head _)) (h2 _ (.tail _ (.head _)))) hp

theorem rest_end {g : Heap} {L D : Addr} {s : Shared} {x : Str} {m₀ m' : Str → Option Value} {news news' : List (Addr × Obj)} {l' : List Int} {ws : List Value} {e' : Nat} {h' : Heap} {tk : Nat} {P : Addr × List Value × List Int × Nat → Prop} {μ : Addr × List Value × List Int × Nat → Nat} {c : Addr × List Value × List Int × Nat}
    (F : Fr g L h' m') (N : News g L h' news') (hr : (D, listOf ws.toArray e') ∈ news') (hn : ∀ q ∈ news, q ∈ news') (hI : IntsAre ws l') (hk : m' x = some (.ref D)) (hm : ∀ z, z ≠ x → m' z = m₀ z) (hp : P (D, ws, l', e')) (hμ : μ (D, ws, l', e') < μ c) :
    KswEnd g L s (fun c => (c.1, listOf c.2.1.toArray c.2.2.2) :: news) (fun c => [(x, .ref c.1)]) (fun c => IntsAre c.2.1 c.2.2.1) [] m₀ P μ c { s with heap := h', toks := tk } :=
  ksw_end (D, ws, l', e') F N (List.forall_mem_cons.mpr ⟨hr, hn⟩) hI (List.forall_mem_singleton.mpr hk) (fun z hz _ => hm z (hz _ (.head _))) hp hμ

set_option maxRecDepth 100000 in
set_option maxHeartbeats 8000000 in
theorem call_number {a : Addr} {vs : List Value} {ns : List Int} {e : Nat} {other : Str} {t1 t2 : Tok} {mark : Int}
    (B : Below A₀ base outer h₀) (F : Fr h₀ L s.heap m) (X : (hd.heap_39 w.params).In h₀) (N : News h₀ L s.heap news) (T : Top p loose mean mg mb h₀)
    (hA : A.frames = some (env :: outer)) (hf : env.frame = some L) (hke : env.scope.kind = .function) (hh : A.handled = none) (hd : A.depth ≤ 310) (hu : A.units ≤ 100)
    (hm : (a, listOf vs.toArray e) ∈ news) (hi : IntsAre vs ns) (hlen : ns.length ≤ 20) (hmk0 : 0 ≤ mark)
    (ret : ∀ h' tk' v, NumIs (lawNum other mark ns) v → Fr h₀ L h' m → News h₀ L h' news → Q v { s with heap := h', toks := tk' }) :
    wpAny (model pr w) A (call (.ref 123) [.ref a, .str other t1, .int mark t2]) Q E s := by
  k_with_none
  refine wpAny_call ?_
  refine code_def (binds := [(Str.ofString "side", .ref a), (Str.ofString "other", .str other t1), (Str.ofString "mark", .int mark t2)]) B F X N T hA hf hke (by k_is) (by k_is) (by unfold recursionLimit; omega) (BindsTo.of_eq rfl) (locs rfl) ?_ rfl rfl rfl (by decide)
  intro g L' h₁ FG F' N' B' X' T'
  clear F N B X T
  refine wpAny_execs_cons ?_
  walk_at "mine go"
  rename_i h2 F2 N2
  refine wpAny_execs_cons (wpAny_mono (Q := RestAt g L' s (Str.ofString "rest") (fun y => [(Str.ofString "mark", Value.int mark t2), (Str.ofString "other", .str other t1), (Str.ofString "side", .ref a)].lookup y) news (trimL other mark ns)) ?_ ?_ (fun _ _ x => x))
  · refine ksw_while (σ := Addr × List Value × List Int × Nat) (fun c => (c.1, listOf c.2.1.toArray c.2.2.2) :: news) (fun c => [(Str.ofString "rest", .ref c.1)]) (fun c => IntsAre c.2.1 c.2.2.1) [] (fun c => c.2.2.1.length ≤ 20 ∧ trimL other mark c.2.2.1 = trimL other mark ns) (fun c => c.2.2.1.length) (a, vs, ns, e) F2 ?_ hi ?_ ?_ ?_
    · exact List.forall_mem_cons.mpr ⟨N2 _ hm, N2⟩
    · exact List.forall_mem_singleton.mpr rfl
    · exact ⟨hlen, rfl⟩
    · rintro ⟨r, us, l, e2⟩ u h tk hfa ⟨hl2, hP⟩ F3 N3
      dsimp only at hfa hl2 hP F3 N3
      have hmk := kstMark
      clear F2 N2
      walk_at "mine go"
      · rename_i h1 _ _ _ hI1 hC1 _ _ _ _ _ heq _ _ ws _ hI2 hC2 _ _ _ F4 N4
        refine rest_end F4 N4 (.head _) (fun q hq => .tail _ (.tail _ (.tail _ (.tail _ hq)))) hI2 rfl (fun z hz => by simp [kstB, hz]) ⟨by dsimp only; omega, (trimL_step heq h1).trans hP⟩ ?_
        have : l.length ≠ 0 := by intro q; rw [List.length_eq_zero_iff.mp q] at heq; simp at heq
        dsimp only; omega
      · rename_i h1 _ _ _ _ _ _ _ _ _ F4 N4 _ hne
        refine RestAt.intro F4 N4 (.tail _ (.tail _ (.head _))) (fun q hq => .tail _ (.tail _ (.tail _ hq))) hfa ((trimL_stop hne).symm.trans hP) (fun z => ?_) rfl
        by_cases hz : z = Str.ofString "rest" <;> simp [kstB, hz]
      · rename_i hne
        refine RestAt.intro F3 N3 (.head _) (fun q hq => .tail _ hq) hfa ((trimL_off hne).symm.trans hP) (fun z => ?_) rfl
        by_cases hz : z = Str.ofString "rest" <;> simp [kstB, hz]
  · rintro f s' ⟨rfl, r1, vs1, e1, h3, tk3, rfl, F3, N3, hI1⟩
    clear F2 N2
    dsimp only
    refine wpAny_execs_cons (wpAny_mono (Q := RestAt g L' s (Str.ofString "rest") (fun y => [(Str.ofString "mark", Value.int mark t2), (Str.ofString "other", .str other t1), (Str.ofString "side", .ref a)].lookup y) news (trimR other mark (trimL other mark ns))) ?_ ?_ (fun _ _ x => x))
    · refine ksw_while (σ := Addr × List Value × List Int × Nat) (fun c => (c.1, listOf c.2.1.toArray c.2.2.2) :: news) (fun c => [(Str.ofString "rest", .ref c.1)]) (fun c => IntsAre c.2.1 c.2.2.1) [] (fun c => c.2.2.1.length ≤ 20 ∧ trimR other mark c.2.2.1 = trimR other mark (trimL other mark ns)) (fun c => c.2.2.1.length) (r1, vs1, trimL other mark ns, e1) F3 N3 hI1 (List.forall_mem_singleton.mpr rfl) ⟨?_, rfl⟩ ?_
      · have := trimL_length other mark ns; dsimp only; omega
      · rintro ⟨r, us, l, e2⟩ u h tk hfa ⟨hl2, hP⟩ F4 N4
        dsimp only at hfa hl2 hP F4 N4
        have hmk := kstMark
        clear F3 N3
        walk_at "mine go"
        · rename_i h1 _ _ _ hI1 hC1 _ _ _ _ _ heq _ _ ws _ hI2 hC2 _ _ _ F5 N5
          have hl0 : l.length ≠ 0 := by intro q; rw [List.length_eq_zero_iff.mp q] at heq; simp at heq
          refine rest_end F5 N5 (.head _) (fun q hq => .tail _ (.tail _ (.tail _ (.tail _ hq)))) hI2 rfl (fun z hz => by simp [kstB, hz]) ⟨by dsimp only; omega, (trimR_step heq h1).trans hP⟩ ?_
          dsimp only; omega
        · rename_i h1 _ _ _ _ _ _ _ _ _ F5 N5 _ hne
          refine RestAt.intro F5 N5 (.tail _ (.tail _ (.head _))) (fun q hq => .tail _ (.tail _ (.tail _ hq))) hfa ((trimR_stop hne).symm.trans hP) (fun z => ?_) rfl
          by_cases hz : z = Str.ofString "rest" <;> simp [kstB, hz]
        · rename_i hne
          refine RestAt.intro F4 N4 (.head _) (fun q hq => .tail _ hq) hfa ((trimR_off hne).symm.trans hP) (fun z => ?_) rfl
          by_cases hz : z = Str.ofString "rest" <;> simp [kstB, hz]
    · rintro f s' ⟨rfl, r2, vs2, e2, h4, tk4, rfl, F4, N4, hI2⟩
      clear F3 N3
      have hlen2 : (trimR other mark (trimL other mark ns)).length ≤ 20 := by
        have h5 := trimL_length other mark ns
        have h6 := trimR_length other mark (trimL other mark ns)
        omega
      generalize hl2 : trimR other mark (trimL other mark ns) = l2 at *
      dsimp only
      refine wpAny_execs_cons ?_
      walk_at "mine toif"
      rename_i h5 F5 N5
      refine wpAny_execs_cons (wpAny_mono (Q := SignAt g L' s (fun y => [(Str.ofString "mark", Value.int mark t2), (Str.ofString "other", .str other t1), (Str.ofString "side", .ref a)].lookup y) news (unsign other mark l2) (signOf other mark l2)) ?_ ?_ (fun _ _ x => x))
      · skip
        have hmk := kstMark
        have hne : ¬ Str.ofString "factor" = Str.ofString "rest" := by decide
        have hne' : ¬ Str.ofString "rest" = Str.ofString "factor" := by decide
        walk_at "mine go"
        · rename_i a2 _ _ _ _ _ _ _ _ _ _ a1 _ _ _ _ hI _ _ _ _ _ a0 _ _ F6 N6
          refine SignAt.intro F6 N6 rfl rfl (.head _) (by walk_at "mine sub") hI ?_ ?_ (fun z h1 h2 => ?_) rfl
          · simp [unsign, signed, a2, a1]
          · simp [signOf, signed, a2, a1, a0]
          · simp [h1, h2]
        · rename_i a2 _ _ _ _ _ _ _ _ _ _ a1 _ _ _ _ hI _ _ _ _ F6 N6 _ a0
          refine SignAt.intro F6 N6 rfl rfl (.head _) (by walk_at "mine sub") hI ?_ ?_ (fun z h1 h2 => ?_) rfl
          · simp [unsign, signed, a2, a1]
          · simp [signOf, signed, a2, a1, a0]
          · simp [h1, h2]
        · rename_i a1 _ _ _ _ _ _ _ _ _ F6 N6 _ a0
          refine SignAt.intro F6 N6 rfl rfl (.tail _ (.tail _ (.tail _ (.head _)))) (by walk_at "mine sub") hI2 ?_ ?_ (fun z h1 h2 => ?_) rfl
          · simp [unsign, signed, a1, a0]
          · simp [signOf, signed, a1, a0]
          · simp [h1, h2]
        · rename_i F6 N6 _ a0
          refine SignAt.intro F6 N6 rfl rfl (.tail _ (.head _)) (by walk_at "mine sub") hI2 ?_ ?_ (fun z h1 h2 => ?_) rfl
          · simp only [unsign, signed, a0, Bool.false_and]; rfl
          · simp only [signOf, signed, a0, Bool.false_and]; rfl
          · simp [h1, h2]
      · rintro f s' ⟨rfl, r3, vs3, e3, t3, h6, tk6, rfl, F6, N6, hI3⟩
        clear F5 N5
        have hlen3 : (unsign other mark l2).length ≤ 20 := by
          unfold unsign
          split
          · rw [List.length_drop]; omega
          · exact hlen2
        generalize hl3 : unsign other mark l2 = l3 at *
        generalize hk3 : signOf other mark l2 = k3 at *
        dsimp only
        walk_at "mine go"
        rename_i F7 N7
        refine kst_listL (σ := Int × Tok × Bool) (fun _ => (r3, listOf vs3.toArray e3) :: news) (fun c => [(Str.ofString "figure", .bool c.2.2), (Str.ofString "number", .int c.1 c.2.1)]) (fun _ => True) []
          (fun pre c => (0 ≤ c.1 ∧ c.1 < ((10 ^ pre.length : Nat) : Int)) ∧ ∀ post, l3 = pre ++ post → numScan (other == Str.ofString "_") mark post c.1 c.2.2 = numScan (other == Str.ofString "_") mark l3 0 false) (0, tk6, false)
          hh (fun _ => .head _) hI3 F7 N7 trivial ?_ ⟨⟨by dsimp only; omega, by simp⟩, fun post e => by rw [List.nil_append] at e; rw [e]⟩ ?_ ?_
        · exact List.forall_mem_cons.mpr ⟨rfl, List.forall_mem_singleton.mpr rfl⟩
        · rintro ⟨nm, tn, fg⟩ pre post x tx u h7 tk7 own hsp hx hoff - ⟨⟨hn0, hn1⟩, hP⟩ F8 N8
          have hP1 := hP _ hsp
          dsimp only at hn0 hn1 hP hP1 F8 N8
          have hn2 : nm < 100000000000000000000 := by
            have h1 : pre.length ≤ 20 := by have := congrArg List.length hsp; simp at this; omega
            have h2 : 10 ^ pre.length ≤ 10 ^ 20 := Nat.pow_le_pow_right (by decide) h1
            omega
          clear F7 N7
          have hmk := kstMark
          have hpw : ((10 ^ (pre ++ [x]).length : Nat) : Int) = 10 * ((10 ^ pre.length : Nat) : Int) := by
            rw [List.length_append, List.length_singleton, Nat.pow_succ]; omega
          walk_at "mine go"
          all_goals first
            | (refine leaveK_ (by assumption) (by assumption) (fun F9 N9 => ?_)
               refine ret _ _ _ (lawNum_none hl2 hl3 (hP1.symm.trans ?_)) F9 (fun q hq => N9 q (List.mem_append.mpr (.inl (.tail _ hq))))
               first | exact scan_no1 (by omega) (by assumption) | exact scan_no2 (by omega) (by assumption) | exact scan_no3 (by omega) (by assumption))
            | (refine num_end (by assumption) (by assumption) rfl rfl (fun z h1 h2 h3 => by simp [kstB, h1, h2, h3]) ⟨⟨?_, ?_⟩, fun post' e => ?_⟩
               · dsimp only; omega
               · rw [hpw]; dsimp only; omega
               · have e' : post' = post := by
                   rw [hsp, List.append_assoc, List.singleton_append] at e
                   exact (List.cons.inj (List.append_cancel_left e)).2.symm
                 subst e'
                 first | exact (scan_dig (by omega)).symm.trans hP1 | exact (scan_under (by omega) (by assumption) (by assumption) (by assumption)).symm.trans hP1)
        · rintro ⟨nm, tn, fg⟩ u h7 tk7 - ⟨-, hP⟩ F8 N8
          have hP1 := hP [] (List.append_nil _).symm
          dsimp only at hP hP1 F8 N8
          clear F7 N7
          have hmk := kstMark
          have hbits : Builtin.Int.intBits k3 ≤ 64 := by
            rw [← hk3]
            unfold signOf
            split <;> decide
          walk_at "mine go"
          · rename_i hfg
            dsimp only
            refine leaveK_ F8 N8 (fun F9 N9 => ?_)
            refine ret _ _ _ (lawNum_some hl2 hl3 hk3 (hP1.symm.trans ?_)) F9 (fun q hq => N9 q (.tail _ hq))
            rw [numScan, if_pos hfg]
          · rename_i hfg
            dsimp only
            refine leaveK_ F8 N8 (fun F9 N9 => ?_)
            refine ret _ _ _ (lawNum_none hl2 hl3 (hP1.symm.trans ?_)) F9 (fun q hq => N9 q (.tail _ hq))
            rw [numScan, if_neg (by rw [hfg]; decide)]
end

end
section
/-- is it a dot's worth -/
noncomputable def dotAt (other : Str) (dot x : Int) : Bool := x == dot || (other == Str.ofString "." && decide (61 < x))

noncomputable def dots (other : Str) (dot : Int) (ns : List Int) (n : Nat) : List Nat := (List.range n).filter fun k => dotAt other dot (ns.getD k 0)
theorem dots_yes {other : Str} {dot : Int} {ns : List Int} {i : Nat} {ys : List Value} {t : Tok} (h : IntsAre ys ((dots other dot ns i).map Int.ofNat)) (hd : dotAt other dot (ns.getD (0 + (i : Int)).toNat 0) = true) : IntsAre (ys ++ [.int (0 + (i : Int)) t]) ((dots other dot ns (i + 1)).map Int.ofNat) := by
  have e0 : (0 + (i : Int)).toNat = i := by omega
  rw [e0] at hd
  have e : dots other dot ns (i + 1) = dots other dot ns i ++ [i] := by
    unfold dots
    rw [List.range_succ, List.filter_append, List.filter_cons, if_pos hd]; rfl
  rw [e, List.map_append]
  have e1 : (0 + (i : Int)) = Int.ofNat i := by simp
  rw [e1]
  exact h.append (.cons _ _ .nil)
theorem dots_no {other : Str} {dot : Int} {ns : List Int} {i : Nat} {ys : List Value} (h : IntsAre ys ((dots other dot ns i).map Int.ofNat)) (hd : dotAt other dot (ns.getD (0 + (i : Int)).toNat 0) = false) : IntsAre ys ((dots other dot ns (i + 1)).map Int.ofNat) := by
  have e0 : (0 + (i : Int)).toNat = i := by omega
  rw [e0] at hd
  have e : dots other dot ns (i + 1) = dots other dot ns i := by
    unfold dots
    rw [List.range_succ, List.filter_append, List.filter_cons, if_neg (by rw [hd]; decide)]; simp
  rw [e]
  exact h

noncomputable def pairUp : Option Int → Option Int → Option (Int × Int)
  | some a, some b => some (a, b)
  | _, _ => none
noncomputable def dueOf (other : Str) (dot : Int) (ns : List Int) : Option (Int × Int) := match dots other dot ns ns.length with
  | [k] => pairUp (lawNum other (125 - dot) (ns.take k)) (lawNum other (125 - dot) (ns.drop (k + 1)))
  | _ => none
theorem due_many {other : Str} {dot : Int} {ns ds : List Int} (hds : (dots other dot ns ns.length).map Int.ofNat = ds) (h : (ds.length : Int) ≠ 1) : dueOf other dot ns = none := by
  unfold dueOf
  split
  · rename_i k e
    rw [e] at hds
    exact absurd (by rw [← hds]; rfl) h
  · rfl
theorem due_one {other : Str} {dot : Int} {ns ds : List Int} (hds : (dots other dot ns ns.length).map Int.ofNat = ds) (h : (ds.length : Int) = 1) :
    dueOf other dot ns = pairUp (lawNum other (125 - dot) (ns.take (ds.getD 0 0).toNat)) (lawNum other (125 - dot) (ns.drop (ds.getD 0 0 + 1).toNat)) := by
  have hl : (dots other dot ns ns.length).length = 1 := by rw [← List.length_map (f := Int.ofNat), hds]; omega
  obtain ⟨k, e⟩ := List.length_eq_one_iff.mp hl
  unfold dueOf
  rw [e] at hds ⊢
  subst hds
  rfl

section
variable {pr : Program} {w : World} {p : Program} {loose : List Str} {mean : ExcName → Option Value} {mg mb : Str → Option Value} {A A₀ : Around} {base h₀ : Heap} {outer : List Env} {s : Shared} {Q E : Value → Shared → Prop} {L : Addr} {m : Str → Option Value} {news : List (Addr × Obj)} {env : Env}

set_option maxRecDepth 100000 in
set_option maxHeartbeats 8000000 in
theorem call_due {a : Addr} {vs : List Value} {ns : List Int} {e : Nat} {other : Str} {t1 t2 : Tok} {dot : Int}
    (B : Below A₀ base outer h₀) (F : Fr h₀ L s.heap m) (X : (hd.heap_39 w.params).In h₀) (N : News h₀ L s.heap news) (T : Top p loose mean mg mb h₀)
    (hA : A.frames = some (env :: outer)) (hf : env.frame = some L) (hke : env.scope.kind = .function) (hh : A.handled = none) (hd : A.depth ≤ 305) (hu : A.units ≤ 90)
    (hm : (a, listOf vs.toArray e) ∈ news) (hi : IntsAre vs ns) (hlen : ns.length ≤ 20) (hdot : 0 ≤ dot ∧ dot ≤ 63)
    (retN : dueOf other dot ns = none → ∀ h' tk' t, Fr h₀ L h' m → News h₀ L h' news → Q (.str (Str.ofString "refused") t) { s with heap := h', toks := tk' })
    (retS : ∀ k1 k2, dueOf other dot ns = some (k1, k2) → ∀ h' tk' d t3 t4, Fr h₀ L h' m → News h₀ L h' ((d, { cls := .type "tuple", data := .seq #[.int k1 t3, .int k2 t4] }) :: news) → Q (.ref d) { s with heap := h', toks := tk' }) :
    wpAny (model pr w) A (call (.ref 128) [.ref a, .str other t1, .int dot t2]) Q E s := by
  k_with_none
  refine wpAny_call ?_
  refine code_defC (binds := [(Str.ofString "worths", .ref a), (Str.ofString "other", .str other t1), (Str.ofString "dot", .int dot t2)]) B F X N T hA hf hke (by k_is) (by k_is) (by unfold recursionLimit; omega) (BindsTo.of_eq rfl) rfl (by decide +kernel) ?_ rfl rfl rfl
  intro g' L' h' tk' cells' FG' F' N' Y' B' X' T' l1
  replace l1 := allLt_of l1
  k_cells Y'
  (try simp only [List.cons_append, List.nil_append] at N')
  clear F N B X T
  replace N' : News g' L' h' ((a, listOf vs.toArray e) :: _) := List.forall_mem_cons.mpr ⟨N' _ (.tail _ (.tail _ (.tail _ hm))), N'⟩
  have hmk := kstMark
  refine wpAny_execs_cons ?_
  refine LCt.Assign_ListComp_T (F₀ := F') (by rfl) (by with_unfolding_all rfl) (by with_unfolding_all rfl) (by decide) (by rfl) (by decide) (by rfl) (by rfl) (by rfl) ?_
  walk_at "mine go"
  rename_i hr hF hN _
  have hsize : Builtin.Range.rangeSize 0 (ns.length : Int) 1 = ((ns.length : Nat) : Int) := by
    rw [Builtin.Range.rangeSize, if_pos (by omega)]
    split <;> omega
  refine LCt.CompSrcT.range hh hF hN hr ?_ hsize (by rw [sizeLine_eq]; omega) (fun gg => ?_)
  · have fits : ∀ x : Int, 0 ≤ x → x ≤ 100 → Builtin.Range.rangeFitsLong x = true := by
      intro x h0 h1
      simp only [Builtin.Range.rangeFitsLong, Bool.and_eq_true, decide_eq_true_eq]
      omega
    rw [Builtin.Range.small, hsize, if_pos (by omega), fits 0 (by omega) (by omega), fits (ns.length : Int) (by omega) (by omega), fits 1 (by omega) (by omega), fits ((ns.length : Int) + (1 - 1)) (by omega) (by omega)]
    simp
  · refine comp_ind (fun i ys => IntsAre ys ((dots other dot ns i).map Int.ofNat)) ns.length .nil ?_ ?_
    · intro i ys Rest hi hInv hRest v I oI C oC D m₂ h tk E' hv hC hx F N off ne
      obtain ⟨tv, rfl⟩ := hv
      walk_at "mine go"
      · rename_i h1
        exact LCg.CompEnd.intro F N _ (fun q hq => hq) off trivial (hRest _ (dots_yes hInv (by unfold dotAt; rw [h1]; simp)))
      · rename_i h1 h2 _ h3
        exact LCg.CompEnd.intro F N _ (fun q hq => hq) off trivial (hRest _ (dots_yes hInv (by unfold dotAt; rw [h2, decide_eq_true h3]; simp)))
      · rename_i h1 h2 _ h3
        exact LCg.CompEnd.intro F N _ (fun q hq => hq) off trivial (hRest _ (dots_no hInv (by unfold dotAt; rw [h2, decide_eq_false h3, beq_false_of_ne h1]; rfl)))
      · rename_i h1 h2
        exact LCg.CompEnd.intro F N _ (fun q hq => hq) off trivial (hRest _ (dots_no hInv (by unfold dotAt; rw [h2, beq_false_of_ne h1]; rfl)))
    · intro ys hInv D h tk F N off
      have hyl : ys.length ≤ 20 := by
        have h1 := hInv.length
        have h2 : (dots other dot ns ns.length).length ≤ (List.range ns.length).length := List.length_filter_le _ _
        rw [List.length_map] at h1
        rw [List.length_range] at h2
        omega
      clear hF hN hr
      replace N : News g' L' h ((D, listOf ys.toArray ys.length) :: _) := N
      have hdl : ((dots other dot ns ns.length).map Int.ofNat).length ≤ 20 := by have := hInv.length; omega
      generalize hds : (dots other dot ns ns.length).map Int.ofNat = ds at hInv hdl
      have hd0 : 0 ≤ ds.getD 0 0 := by
        rw [← hds]
        cases dots other dot ns ns.length with
        | nil => simp
        | cons x r => simp
      have hd1 : 0 ≤ ds.getD 0 0 + 1 := by omega
      have hd0' : 0 ≤ ds.getD (Int.toNat 0) 0 := hd0
      have hd1' : 0 ≤ ds.getD (Int.toNat 0) 0 + 1 := hd1
      walk_at "mine go"
      · dsimp only
        refine leaveK_ F N (fun F9 N9 => ?_)
        exact retN (due_many hds (by assumption)) _ _ _ F9 (fun q hq => N9 q (.tail _ (.tail _ (.tail _ (.tail _ (.tail _ hq))))))
      · rename_i h1 D1 ws1 _ F1 N1 hI1 _ hL1 _
        refine call_number B' F1 X' N1 T' (Around.frames_deeper B'.stack) rfl rfl hh (Nat.succ_le_of_lt (by omega)) (by show A.units + 3 ≤ 100; omega) (.head _) hI1 (by omega) (by omega) ?_
        intro h2 tk2 v1 hv1 F2 N2
        clear F1 N1
        dsimp only
        walk_at "mine go"
        rename_i D2 ws2 _ F3 N3 hI2 _ hL2 _
        refine call_number B' F3 X' N3 T' (Around.frames_deeper B'.stack) rfl rfl hh (Nat.succ_le_of_lt (by omega)) (by show A.units + 3 ≤ 100; omega) (.head _) hI2 (by omega) (by omega) ?_
        intro h3 tk3 v2 hv2 F4 N4
        clear F3 N3
        dsimp only
        generalize hn1 : lawNum other (125 - dot) (List.take (ds.getD 0 0).toNat ns) = r1 at hv1
        generalize hn2 : lawNum other (125 - dot) (List.drop (ds.getD 0 0 + 1).toNat ns) = r2 at hv2
        have hdue := due_one hds (by assumption)
        rw [hn1, hn2] at hdue
        cases r1 with
        | none =>
          cases hv1
          walk_at "mine go"
          dsimp only
          refine leaveK_ (by assumption) (by assumption) (fun F9 N9 => ?_)
          exact retN hdue _ _ _ F9 (fun q hq => N9 q (.tail _ (.tail _ (.tail _ (.tail _ (.tail _ (.tail _ (.tail _ hq))))))))
        | some k1 =>
          obtain ⟨t3, rfl⟩ := hv1
          cases r2 with
          | none =>
            cases hv2
            walk_at "mine go"
            dsimp only
            refine leaveK_ (by assumption) (by assumption) (fun F9 N9 => ?_)
            exact retN hdue _ _ _ F9 (fun q hq => N9 q (.tail _ (.tail _ (.tail _ (.tail _ (.tail _ (.tail _ (.tail _ hq))))))))
          | some k2 =>
            obtain ⟨t4, rfl⟩ := hv2
            walk_at "mine go"
            dsimp only
            refine leaveK_ (by assumption) (by assumption) (fun F9 N9 => ?_)
            exact retS k1 k2 hdue _ _ _ _ _ F9 (List.forall_mem_cons.mpr ⟨N9 _ (.head _), fun q hq => N9 q (.tail _ (.tail _ (.tail _ (.tail _ (.tail _ (.tail _ (.tail _ (.tail _ hq))))))))⟩)
end

end
section
/-! map(int, texts): the facts of its class, its making, its turns -/
theorem owner_map : Manifest.owners.lookup (String.ofList ['p', 'a', 'm'].reverse) = some Manifest.sig_map := by kernel_rfl
theorem slot_map_init : Slot "map" "__init__" "object.__init__" :=
  .of (owner := "object") (n := "__init__") (by rw [typeLookup_type, builtinLookup_eq_fast]; kernel_rfl) (by decide +kernel) (by decide +kernel) (by decide +kernel)
    (by first | exact .inl (by decide +kernel) | exact .inr (by decide +kernel)) (by rw [isSubtype_type]; kernel_rfl)
theorem slot_map_iter : Slot "map" "__iter__" "map.__iter__" :=
  .of (owner := "map") (n := "__iter__") (by rw [typeLookup_type, builtinLookup_eq_fast]; kernel_rfl) (by decide +kernel) (by decide +kernel) (by decide +kernel)
    (by first | exact .inl (by decide +kernel) | exact .inr (by decide +kernel)) (by rw [isSubtype_type]; kernel_rfl)
theorem args_map_iter_1 (a : Value) : argsOk "map.__iter__" ⟨[a], []⟩ := by
  unfold argsOk; rw [signature?_of (id := "map.__iter__") (n := ['_', '_', 'r', 'e', 't', 'i', '_', '_']) (o := ['p', 'a', 'm']) (by kernel_rfl) owner_map]; kernel_rfl
theorem slot_map_next : Slot "map" "__next__" "map.__next__" :=
  .of (owner := "map") (n := "__next__") (by rw [typeLookup_type, builtinLookup_eq_fast]; kernel_rfl) (by decide +kernel) (by decide +kernel) (by decide +kernel)
    (by first | exact .inl (by decide +kernel) | exact .inr (by decide +kernel)) (by rw [isSubtype_type]; kernel_rfl)
theorem entry_map_next : entryFor table "map.__next__" = some Builtin.«map.__next__» := entryFor_of_tree (by kernel_rfl)
theorem args_map_next_1 (a : Value) : argsOk "map.__next__" ⟨[a], []⟩ := by
  unfold argsOk; rw [signature?_of (id := "map.__next__") (n := ['_', '_', 't', 'x', 'e', 'n', '_', '_']) (o := ['p', 'a', 'm']) (by kernel_rfl) owner_map]; kernel_rfl
theorem entry_map_iter : entryFor table "map.__iter__" = some Builtin.«dict_keyiterator.__iter__» :=
  entryFor_alias (id' := "dict_keyiterator.__iter__") (by kernel_rfl) (by first | rfl | decide +kernel | (unfold String.splitOn; simp +decide [String.splitOnAux])) (by decide +kernel) (by kernel_rfl)
theorem mro_map : mroOf (.type "map") = pure [.type "map", .type "object"] := by rw [mroOf_type]; kernel_rfl
theorem lookup_map_new : typeLookup (.type "map") "__new__" = pure (some (.builtin "map.__new__")) := by rw [typeLookup_type, builtinLookup_eq_fast]; kernel_rfl
theorem called_map : TypeCalled "map" "map.__new__" "object.__init__" :=
  ⟨by decide +kernel, by decide +kernel, ⟨_, _, mro_map⟩, madeBy_type mro_map lookup_map_new (by decide +kernel), by decide +kernel, by rw [isSubtype_type]; kernel_rfl, slot_map_init⟩
theorem typeCall_map_2 (a b : Value) : checkTypeCall "map" ⟨[a, b], []⟩ = pure () := by kernel_rfl
theorem newCall_map_2 (a b : Value) : checkBuiltinCall "map.__new__" ⟨[.type "map", a, b], []⟩ = pure () := by
  unfold checkBuiltinCall; rw [signature?_of (id := "map.__new__") (n := ['_', '_', 'w', 'e', 'n', '_', '_']) (o := ['p', 'a', 'm']) (by kernel_rfl) owner_map]; kernel_rfl
theorem entry_map_new : entryFor table "map.__new__" = some Builtin.«map.__new__» := entryFor_of_tree (by kernel_rfl)
theorem sub_map : isSubtype (.type "map") (.type "map") = pure true := by rw [isSubtype_type]; kernel_rfl

abbrev IsMap (h : Heap) (z TI : Addr) : Prop := h.get? z = some { cls := .type "map", dict := none, data := .fields #[.ref TI, .type "int"], slots := #[] }
abbrev IsOne (h : Heap) (T : Addr) (a : Value) : Prop := h.get? T = some { cls := .type "tuple", data := .seq #[a] }
abbrev mapH1 (h : Heap) (l : Addr) : Heap := h.push { cls := .type "list_iterator", data := .fields #[.ref l, .int 0 0] }
abbrev mapH2 (h : Heap) (l : Addr) : Heap := (mapH1 h l).push { cls := .type "tuple", data := .seq #[.ref h.objs.size] }
abbrev mapH3 (h : Heap) (l : Addr) : Heap := (mapH2 h l).push { cls := .type "map", data := .fields #[.ref (mapH1 h l).objs.size, .type "int"] }

theorem meets_map_new (l : Addr) (xs : Array Value) :
    Meets (Builtin.«map.__new__» ⟨[.type "map", .type "int", .ref l], []⟩) (fun _ R s => s.heap.IsList l xs ∧ R (.ok (.ret (.ref (mapH2 s.heap l).objs.size))) { s with heap := mapH3 s.heap l }) :=
  .of_wp fun prog w A R s h => by
    obtain ⟨hp, g, d, tk, os⟩ := s; obtain ⟨hl, h⟩ := h
    have hsub := sub_map
    have hL1 : Heap.IsList (Shared.heap ⟨hp, g, d, tk, os⟩) l xs := hl
    wp_walk using wpAny_pyIter_list hL1
    exact ⟨_, rfl, h⟩
section
variable {prog : Program} {w : World} {A : Around} {E : Value → Shared → Prop} {s : Shared}
theorem call_map {l : Addr} {xs : Array Value} {Q : Value → Shared → Prop} (hl : s.heap.IsList l xs)
    (h : ∀ h', IsMap h' (s.heap.objs.size + 2) (s.heap.objs.size + 1) → IsOne h' (s.heap.objs.size + 1) (.ref s.heap.objs.size) → h'.IsListIter s.heap.objs.size l 0 → s.heap.StaysIn h' → Q (.ref (s.heap.objs.size + 2)) { s with heap := h' }) :
    wpAny (model prog w) A (call (.type "map") [.type "int", .ref l]) Q E s := by
  refine callType_new called_map (by decide) (typeCall_map_2 _ _) (newCall_map_2 _ _) (fun obj => F.args_object_init_3 obj _ _) entry_map_new (meets_map_new l xs) ⟨hl, ?_⟩
  have z1 : (mapH1 s.heap l).objs.size = s.heap.objs.size + 1 := Heap.size_push ..
  have z2 : (mapH2 s.heap l).objs.size = s.heap.objs.size + 2 := by rw [Heap.size_push, z1]
  have g3 : (mapH3 s.heap l).get? (mapH2 s.heap l).objs.size = some _ := Heap.get?_push_size _ rfl
  have g2 : (mapH3 s.heap l).get? (mapH1 s.heap l).objs.size = some _ := Heap.get?_push_of_some _ (Heap.get?_push_size _ rfl)
  have g1 : (mapH3 s.heap l).get? s.heap.objs.size = some _ := Heap.get?_push_of_some _ (Heap.get?_push_of_some _ (Heap.get?_push_size _ rfl))
  show _ ∧ _
  rw [z1, z2] at g3
  rw [z1] at g2
  rw [z2]
  exact ⟨⟨_, g3, rfl⟩, h _ g3 g2 ⟨_, g1, rfl, rfl⟩ fun c o x => Heap.get?_push_of_some _ (Heap.get?_push_of_some _ (Heap.get?_push_of_some _ x))⟩
theorem pyIter_map {z TI : Addr} {Q : Value → Shared → Prop} (hz : IsMap s.heap z TI) (h : Q (.ref z) s) : wpAny (model prog w) A (pyIter (.ref z)) Q E s := by
  have hT : s.TypeIs (.ref z) "map" := ⟨_, hz, rfl⟩
  refine wpAny_pyIter_slot hT slot_map_iter (wpAny_call_entry slot_map_iter hT entry_map_iter ?_ (args_map_iter_1 _))
  show wpAny _ _ (ret (.ref z)) _ _ s
  exact wpAny_pure ⟨_, rfl, "map", _, hT, slot_map_next.lookup, h⟩
end

end
section
/-! int(text) of a text that is no number, called by map's own next -/
open Sem (wp) in
section
variable {α β : Type} {M : Model} {A : Around} {E : Value → Shared → Prop} {s : Shared}

noncomputable def Blocked (codes : List Code) : Prop := ∃ pre a post, codes = pre ++ Code.builtin "map.__next__" a :: post ∧ ∀ c ∈ pre, c.env? = none
theorem Blocked.push {c : Code} {l : List Code} (h : Blocked l) (hc : c.env? = none) : Blocked (c :: l) := by
  obtain ⟨pre, a, post, rfl, hp⟩ := h
  exact ⟨c :: pre, a, post, rfl, List.forall_mem_cons.mpr ⟨hc, hp⟩⟩
theorem takeWhile_through {q : Code → Bool} : ∀ {pre : List Code} {c : Code} {post : List Code}, (∀ x ∈ pre, q x = true) → q c = true → c ∈ (pre ++ c :: post).takeWhile q
  | [], c, post, _, hc => by rw [List.nil_append, List.takeWhile_cons, if_pos hc]; exact .head _
  | x :: pre, c, post, hp, hc => by rw [List.cons_append, List.takeWhile_cons, if_pos (hp x (.head _))]; exact .tail _ (takeWhile_through (fun y hy => hp y (.tail _ hy)) hc)
theorem Blocked.not_made {l : List Code} (h : Blocked l) : pythonCodeMadeTheCall ["int.__new__"] l = false := by
  obtain ⟨pre, a, post, rfl, hp⟩ := h
  unfold pythonCodeMadeTheCall
  refine Bool.and_eq_false_iff.mpr (.inr ?_)
  refine List.all_eq_false.mpr ⟨Code.builtin "map.__next__" a, takeWhile_through (fun x hx => by rw [hp x hx]; rfl) rfl, ?_⟩
  simp

noncomputable def wpS (M : Model) (A : Around) (t : Sem α) (Q : α → Shared → Prop) (E : Value → Shared → Prop) (s : Shared) : Prop :=
  ∀ Γ p, Γ.In A → Γ.code.env? = none → Blocked (Γ.below.map (·.1)) → wp M Γ t (fun a _ s' => Q a s') (fun e _ s' => E e s') p s
noncomputable def codeS (M : Model) (A : Around) (c : Code) (R : Result → Shared → Prop) (s : Shared) : Prop :=
  ∀ Γ p, Γ.code = c → Γ.Below A → Blocked (Γ.below.map (·.1)) → wpCode M Γ R p s
theorem wpS_any {t : Sem α} {Q : α → Shared → Prop} (h : wpAny M A t Q E s) : wpS M A t Q E s := fun Γ p hΓ _ _ => h Γ p hΓ
theorem wpS_bind {m : Sem α} {f : α → Sem β} {Q : β → Shared → Prop} (h : wpS M A m (fun a s' => wpS M A (f a) Q E s') E s) : wpS M A (m >>= f) Q E s := fun Γ p hΓ hc hb => by
  rw [Sem.wp_bind']
  exact Sem.wp_mono M Γ m (fun a p' s' h' => h' Γ p' hΓ hc hb) (fun _ _ _ h' => h') p s (h Γ p hΓ hc hb)
theorem wpS_holding {vs : List Value} {m : Sem α} {Q : α → Shared → Prop} (h : wpS M A m Q E s) : wpS M A (holding vs m) Q E s :=
  fun Γ p hΓ hc hb => by rw [Sem.wp_holding]; exact h Γ p hΓ hc hb
theorem wpS_call {f : Value} {pos : List Value} {kw : List (Str × Value)} {Q : Value → Shared → Prop}
    (h : codeS M A (.call f ⟨pos, kw⟩) (fun r s' => match r with | .ok (.ret v) => Q v s' | .ok _ => False | .error e => E e s') s) : wpS M A (call f pos kw) Q E s := fun Γ p hΓ hc hb => by
  unfold call
  rw [Sem.wp_runValue]
  exact h _ p rfl (hΓ.enter _ none p (by intro x; cases x)) (Blocked.push hb hc)
theorem codeS_tree {c : Code} {R : Result → Shared → Prop} (hc : c.env? = none)
    (h : wpS M (A.under c) (M.den c) (fun fin s' => match fin with | .done f => R (.ok f) s' | .again c' => c'.quiet = true ∧ codeS M A c' R s') (fun e s' => R (.error e) s') s) : codeS M A c R s := fun Γ p he hΓ hb => by
  rw [wpCode_iff_wp, he]
  refine Sem.wp_mono M Γ _ (fun fin p' s' h' => ?_) (fun _ _ _ h' => h') p s (h Γ p (he ▸ hΓ.in) (by rw [he]; exact hc) hb)
  cases fin with
  | done f => exact h'
  | again c' => exact ⟨h'.1, h'.2 (Γ.goto c') p' rfl (hΓ.goto c') hb⟩
theorem wpS_mark {e : Value} {Q : Unit → Shared → Prop} (h : Q () s) : wpS M A (markTheRefusal ["int.__new__"] e) Q E s := fun Γ p hΓ hc hb => by
  unfold markTheRefusal
  rw [Sem.wp_bind']
  show wp M Γ (if pythonCodeMadeTheCall ["int.__new__"] (((Γ.code, p) :: Γ.below).map (·.1)) = true then _ else _) _ _ p s
  rw [List.map_cons, (Blocked.push hb hc).not_made]
  exact h
end

theorem under_tc (A : Around) (T : String) (args : List Value) : A.under (.builtin "type.__call__" ⟨.type T :: args, []⟩) = A.in1 := Around.under_plain (weight_type_call_type T args []) (units_type_call_type T args [])
section
variable {prog : Program} {w : World} {A : Around} {E : Value → Shared → Prop} {s : Shared} {R : Result → Shared → Prop}
theorem codeS_builtin {id : String} {args : Args} {b : Builtin} (hb : entryFor table id = some b)
    (h : wpS (model prog w) (A.under (.builtin id args)) (b args) (fun fin s' => match fin with | .done f => R (.ok f) s' | .again c' => c'.quiet = true ∧ codeS (model prog w) A c' R s') (fun e s' => R (.error e) s') s) :
    codeS (model prog w) A (.builtin id args) R s := by
  refine codeS_tree rfl ?_
  show wpS _ _ (match entryFor table id with | some b => b args | none => unsupported ((withoutEnding? id "#data").getD id)) _ _ s
  rw [hb]; exact h
theorem codeS_call_builtin {id : String} {args : Args} {b : Builtin} (hq : plainId id = true) (hb : entryFor table id = some b) (hck : checkBuiltinCall id args = pure ())
    (h : wpS (model prog w) A.in1 (b args) (fun fin s' => match fin with | .done f => R (.ok f) s' | .again c' => c'.quiet = true ∧ codeS (model prog w) A c' R s') (fun e s' => R (.error e) s') s) :
    codeS (model prog w) A (.call (.builtin id) args) R s := by
  refine codeS_tree rfl ?_
  show wpS _ A.in1 (do checkBuiltinCall id args; again (.builtin id args)) _ _ s
  rw [hck]
  exact wpS_any (wpAny_pure ⟨plainId_quiet hq args, codeS_builtin hb (by rw [Around.under_plainId hq args]; exact h)⟩)
theorem codeS_call_type {T : String} {args : Args} (h : codeS (model prog w) A (.builtin "type.__call__" { args with pos := .type T :: args.pos }) R s) : codeS (model prog w) A (.call (.type T) args) R s := by
  refine codeS_tree rfl ?_
  show wpS _ _ (callAny (.type T) args) _ _ _
  exact wpS_any (wpAny_pure ⟨Code.quiet_builtin _ (by decide +kernel), h⟩)
theorem wpS_of_eq {α : Type} {t : Sem α} {a : α} {Q : α → Shared → Prop} (e : t = pure a) (h : Q a s) : wpS (model prog w) A t Q E s := e ▸ wpS_any (wpAny_pure h)
/-- the class's call, up to its __new__ that raises -/
theorem typeCall_raises {T newId initId : String} {Bn : Builtin} {args : List Value} (ft : TypeCalled T newId initId) (hct : checkTypeCall T ⟨args, []⟩ = pure ()) (hcn : checkBuiltinCall newId ⟨.type T :: args, []⟩ = pure ()) (entryN : entryFor table newId = some Bn)
    (h : wpS (model prog w) A.in1.in1 (Bn ⟨.type T :: args, []⟩) (fun _ _ => False) E s) {Q : Value → Shared → Prop} : codeS (model prog w) A (.call (.type T) ⟨args, []⟩) (fun r s' => match r with | .ok (.ret v) => Q v s' | .ok _ => False | .error e => E e s') s := by
  obtain ⟨c, tl, hmro⟩ := ft.mro
  refine codeS_call_type (codeS_builtin F.entry_type_call ?_)
  dsimp only
  rw [under_tc]
  have h1 := ft.notType
  have h2 := ft.canCreate
  unfold Builtin.«type.__call__»
  dsimp only
  rw [h1]
  simp only [Bool.false_eq_true, if_false]
  rw [h2]
  simp only [Bool.false_eq_true, if_false]
  refine wpS_bind (wpS_of_eq hct ?_)
  refine wpS_bind (wpS_of_eq hmro ?_)
  simp only [List.isEmpty_cons, Bool.false_eq_true, if_false]
  refine wpS_bind (wpS_of_eq ft.made ?_)
  dsimp only
  refine wpS_bind (wpS_any (wpAny_pure ?_))
  refine wpS_bind (wpS_holding (wpS_call (codeS_call_builtin ft.plain entryN hcn ?_)))
  intro Γ p hΓ hc hb
  exact Sem.wp_mono _ Γ _ (fun _ _ _ f => f.elim) (fun _ _ _ e => e) p s (h Γ p hΓ hc hb)
end
theorem ownMembersOf_ValueError (args : List Value) : ownMembersOf (.type "ValueError") args = #[] := by
  unfold ownMembersOf
  split <;> first | rfl | (rename_i h; revert h; decide) | simp_all
section
variable {M : Model} {A : Around} {E : Value → Shared → Prop} {s : Shared}
theorem newExc_value {a : Value} {Q : Value → Shared → Prop} (h : ∀ h' e, Heap.MadeExcOf s.heap h' e (.type "ValueError") [a] → Q (.ref e) { s with heap := h' }) : wpAny M A (newExc (.type "ValueError") [a]) Q E s := by
  unfold newExc newTuple
  refine wpAny_bind (wpAny_newObj_type ?_)
  refine wpAny_bind (m := firstArgMember _ _) (wpAny_of_eq (a := Value.none) (by kernel_rfl) ?_)
  rw [ownMembersOf_ValueError]
  refine wpAny_newObj_type ?_
  refine h _ _ ⟨fun b o hb => Heap.get?_push_of_some _ (Heap.get?_push_of_some _ hb), Heap.get?_none_of_le (by simp), s.heap.objs.size, ?_, Heap.get?_none_of_le (Nat.le_refl _), Heap.get?_push_of_some _ (Heap.get?_push_size _ rfl)⟩
  exact Heap.get?_push_size _ rfl
theorem raiseNew_any {α : Type} {e : Value} {Q : α → Shared → Prop} (hh : A.handled = none) (h : E e s) : wpAny M A (raiseNew e : Sem α) Q E s := by
  unfold raiseNew
  refine wpAny_bind (wpAny_handled ?_)
  rw [hh]
  cases e <;> exact wpAny_bind (wpAny_pure (wpAny_throw h))
end
theorem wpS_ite {α : Type} {M : Model} {A : Around} {E : Value → Shared → Prop} {s : Shared} {c : Prop} [Decidable c] {a b : Sem α} {Q : α → Shared → Prop} (hc : c) (h : wpS M A a Q E s) : wpS M A (if c then a else b) Q E s := by rw [if_pos hc]; exact h
theorem wpS_ite' {α : Type} {M : Model} {A : Around} {E : Value → Shared → Prop} {s : Shared} {c : Prop} [Decidable c] {a b : Sem α} {Q : α → Shared → Prop} (hc : ¬ c) (h : wpS M A b Q E s) : wpS M A (if c then a else b) Q E s := by rw [if_neg hc]; exact h

end
section
section
variable {prog : Program} {w : World} {A : Around} {E : Value → Shared → Prop} {s : Shared}
/-- the text is no number: the refusal -/
theorem text_bad {x : Str} {u : Tok} {Q : Value → Shared → Prop} (hh : A.handled = none) (hl : x.length ≤ 640) (hx : ∀ c ∈ x.cps.toList, c < 128) (hn : PySem.intText? x = none)
    (h : ∀ h' tk' e a, Heap.MadeExcOf s.heap h' e (.type "ValueError") [a] → E (.ref e) { s with heap := h', toks := tk' }) :
    wpS (model prog w) A ((int_private% "intFromText") (.str x u) (numTextOf x) 10) Q E s := by
  have hs : (numSeenOf x).length ≤ 640 := Nat.le_trans (seen_length x) hl
  refine wpS_ite (c := (numSeenOf x).length ≤ 640) hs ?_
  refine wpS_bind (wpS_any (wpAny_pure ?_))
  dsimp only
  have hsz : (reprText x).length ≤ sizeLine := by
    have := StrLaws.reprText_len x (fun c hc => Nat.lt_trans (hx c hc) (by decide))
    rw [sizeLine_eq]; omega
  have tail : ∀ s1 : Shared, s1.heap = s.heap → s1.gens = s.gens → s1.drawn = s.drawn → s1.os = s.os → wpS (model prog w) A (do
      rule "int.__new__.invalid-literal"
      let shown ← pyRepr (.str x u)
      let refusal ← newExc (.type "ValueError") [← mkStr (((s!"invalid literal for int() with base {10}: " : String) ++ ⟨shown.cps.extract 0 200⟩ : Str))]
      markTheRefusal ["int.__new__"] refusal
      raiseNew refusal) Q E s1 := by
    intro s1 e1 e2 e3 e4
    refine wpS_bind (wpS_any (wpAny_rule ?_))
    refine wpS_bind (wpS_any (wpAny_pyRepr_str ?_ hsz))
    refine wpS_bind (wpS_any (wpAny_mkStr ?_ ?_))
    · refine wpS_bind (wpS_any (newExc_value fun h' e hx => ?_))
      refine wpS_bind (wpS_mark ?_)
      refine wpS_any (raiseNew_any hh ?_)
      obtain ⟨p1, p2, p3, p4, p5⟩ := s1
      subst e1 e2 e3 e4
      exact h _ _ _ _ hx
    · rw [sizeLine_eq, Str.length_append]
      have q1 : (PySem.Str.ofString (toString "invalid literal for int() with base " ++ toString 10 ++ toString ": ")).length ≤ 60 := by decide +kernel
      have q2 : (Str.mk ((reprText x).cps.extract 0 200)).length ≤ 200 := by
        show ((reprText x).cps.extract 0 200).size ≤ 200
        rw [Array.size_extract]; omega
      omega
  rcases read0 x hs with ⟨m, h1, _⟩ | ⟨_, hr | ⟨i, hr, hne⟩⟩
  · rw [hn] at h1; cases h1
  · rw [hr]
    dsimp only
    refine wpS_bind (wpS_of_eq (a := none) rfl ?_)
    refine wpS_ite' (by simp) ?_
    exact tail s rfl rfl rfl rfl
  · rw [hr]
    dsimp only
    refine wpS_ite' hne ?_
    exact tail s rfl rfl rfl rfl
end

end
section
section
variable {prog : Program} {w : World} {A : Around} {E : Value → Shared → Prop} {s : Shared}
set_option maxRecDepth 100000 in
theorem int_bad {x : Str} {u : Tok} {Q : Value → Shared → Prop} (hh : A.handled = none) (hl : x.length ≤ 640) (hx : ∀ c ∈ x.cps.toList, c < 128) (hn : PySem.intText? x = none)
    (h : ∀ h' tk' e a, Heap.MadeExcOf s.heap h' e (.type "ValueError") [a] → E (.ref e) { s with heap := h', toks := tk' }) :
    codeS (model prog w) A (.call (.type "int") ⟨[.str x u], []⟩) (fun r s' => match r with | .ok (.ret v) => Q v s' | .ok _ => False | .error e => E e s') s := by
  refine typeCall_raises F.called_int (F.typeCall_int_1 _) (F.newCall_int_1 _) F.entry_int_new ?_
  have f1 := F.conv_sub_int
  have f2 := F.madeHere_int
  have f3 := KIN.str_int
  have f4 := KIN.str_idx
  have f5 := KIN.str_trunc
  have f6 : typeOf (.str x u) = pure (.type "str") := rfl
  unfold Builtin.«int.__new__»
  dsimp only
  refine wpS_bind (wpS_of_eq (a := true) rfl ?_)
  refine wpS_ite' (by decide) ?_
  refine wpS_bind (wpS_of_eq f1 ?_)
  refine wpS_ite' (by decide) ?_
  refine wpS_bind (wpS_of_eq f2 ?_)
  refine wpS_ite' (by simp) ?_
  refine wpS_ite' (by simp) ?_
  refine wpS_bind (wpS_of_eq rfl ?_)
  refine wpS_bind ?_
  refine wpS_bind (m := callSpecial? (.str x u) "__int__") (wpS_any ?_)
  have hT : s.TypeIs (.str x u) "str" := typeIs_str s x u
  simp only [callSpecial?]
  refine wpAny_bind (wpAny_specialOf hT f3 (wpAny_pure ?_))
  dsimp only
  refine wpS_bind (wpS_any (wpAny_specialOf hT f4 ?_))
  refine wpS_ite' (by decide) ?_
  refine wpS_bind (wpS_any (wpAny_specialOf hT f5 ?_))
  dsimp only
  refine wpS_bind (m := (int_private% "numeralText?") (.str x u)) (wpS_of_eq (a := some (numTextOf x)) rfl ?_)
  dsimp only
  refine text_bad hh hl hx hn h
end

end
section
/-- a map of int over a list of texts, i of them taken -/
structure MapAt (h : Heap) (z TI it l : Addr) (i : Nat) (xs : Array Value) : Prop where
  map : IsMap h z TI
  one : IsOne h TI (.ref it)
  iter : h.IsListIter it l i
  list : h.IsList l xs
theorem MapAt.moved {h h' : Heap} {z TI it l : Addr} {i : Nat} {xs : Array Value} (m : MapAt h z TI it l i xs) (k : Heap.SameBut it h h') (hi : h'.IsListIter it l (i + 1)) : MapAt h' z TI it l (i + 1) xs := by
  obtain ⟨oi, hoi, hci, hdi⟩ := m.iter
  obtain ⟨ol, hol, hcl, nl, hdl⟩ := m.list
  refine ⟨k.extBut _ _ (fun e => ?_) m.map, k.extBut _ _ (fun e => ?_) m.one, hi, ⟨ol, k.extBut _ _ (fun e => ?_) hol, hcl, nl, hdl⟩⟩
  · have q : h.get? z = some _ := m.map
    rw [e, hoi] at q; cases q; simp at hci
  · have q : h.get? TI = some _ := m.one
    rw [e, hoi] at q; cases q; simp at hci
  · rw [e, hoi] at hol; cases hol; rw [hdi] at hdl; cases hdl
theorem MapAt.keeps {h h' : Heap} {z TI it l : Addr} {i : Nat} {xs : Array Value} (m : MapAt h z TI it l i xs) (k : h.StaysIn h') : MapAt h' z TI it l i xs :=
  ⟨k _ _ m.map, k _ _ m.one, m.iter.at fun o e => k _ o e, m.list.at fun o e => k _ o e⟩
section
variable {prog : Program} {w : World} {A : Around} {E : Value → Shared → Prop} {s : Shared} {z TI it l : Addr} {i : Nat} {xs : Array Value}
set_option maxRecDepth 100000 in
theorem pyNext_map_item {x : Str} {u : Tok} {n : Int} {Q : Option Value → Shared → Prop} (m : MapAt s.heap z TI it l i xs) (hx : xs[i]? = some (.str x u)) (hl : x.length ≤ 640) (hn : PySem.intText? x = some n)
    (hQ : ∀ h' tk' t, MapAt h' z TI it l (i + 1) xs → Heap.SameBut it s.heap h' → Q (some (.int n t)) { s with heap := h', toks := tk' }) : wpAny (model prog w) A (pyNext (.ref z)) Q E s := by
  have hT : s.TypeIs (.ref z) "map" := ⟨_, m.map, rfl⟩
  unfold pyNext
  refine wpAny_bind (wpAny_attempt (wpAny_callSpecial?_slot (name := Str.ofString "__next__") hT slot_map_next
    (wpAny_call_entry slot_map_next hT entry_map_next ?_ (args_map_next_1 _))))
  show wpAny _ _ (field (.ref z) 0 >>= _) _ _ _
  refine wpAny_bind (wpAny_field m.map rfl (x := .ref TI) rfl ?_)
  refine wpAny_bind (wpAny_seqItems m.one rfl ?_)
  dsimp only
  refine wpAny_bind ?_
  simp only [← Array.forIn_toList, List.forIn_cons, List.forIn_nil]
  refine wpAny_bind (wpAny_bind (wpAny_holding (wpAny_nextOf_list_item m.iter m.list hx fun h₁ hi hs => wpAny_pure (wpAny_pure ?_))))
  have m1 := m.moved hs hi
  refine wpAny_bind (wpAny_field m1.map rfl (x := .type "int") rfl ?_)
  refine wpAny_bind (wpAny_holding (KIN.call_text hn hl ?_))
  refine wpAny_bind (wpAny_letGo (wpAny_pure ⟨_, rfl, wpAny_pure (hQ _ _ _ m1 hs)⟩))
set_option maxRecDepth 100000 in
theorem pyNext_map_end {Q : Option Value → Shared → Prop} (hh : A.handled = none) (m : MapAt s.heap z TI it l i xs) (hx : xs[i]? = none)
    (hQ : ∀ h', Heap.ExtBut it s.heap h' → Q none { s with heap := h' }) : wpAny (model prog w) A (pyNext (.ref z)) Q E s := by
  have hT : s.TypeIs (.ref z) "map" := ⟨_, m.map, rfl⟩
  unfold pyNext
  refine wpAny_bind (wpAny_attempt (wpAny_callSpecial?_slot (name := Str.ofString "__next__") hT slot_map_next
    (wpAny_call_entry slot_map_next hT entry_map_next ?_ (args_map_next_1 _))))
  show wpAny _ _ (field (.ref z) 0 >>= _) _ _ _
  refine wpAny_bind (wpAny_field m.map rfl (x := .ref TI) rfl ?_)
  refine wpAny_bind (wpAny_seqItems m.one rfl ?_)
  dsimp only
  refine wpAny_bind ?_
  simp only [← Array.forIn_toList, List.forIn_cons, List.forIn_nil]
  refine wpAny_bind (wpAny_bind (wpAny_holding (wpAny_nextOf_list_end hh m.iter m.list hx fun h₁ e hs he => ?_)))
  obtain ⟨o, ho, hc⟩ := he
  refine wpAny_bind (wpAny_isInstance (T := "StopIteration") (b := true) ⟨o, ho, hc⟩ isSubtype_stop ?_)
  exact wpAny_pure (hQ _ hs)
theorem sub_value_stop : isSubtype (.type "ValueError") (.type "StopIteration") = pure false := by rw [isSubtype_type]; kernel_rfl
set_option maxRecDepth 100000 in
theorem pyNext_map_bad {x : Str} {u : Tok} {Q : Option Value → Shared → Prop} (hh : A.handled = none) (m : MapAt s.heap z TI it l i xs) (hx : xs[i]? = some (.str x u)) (hl : x.length ≤ 640) (hx8 : ∀ c ∈ x.cps.toList, c < 128) (hn : PySem.intText? x = none)
    (hE : ∀ h h' tk' e a, Heap.SameBut it s.heap h → Heap.MadeExcOf h h' e (.type "ValueError") [a] → E (.ref e) { s with heap := h', toks := tk' }) : wpAny (model prog w) A (pyNext (.ref z)) Q E s := by
  have hT : s.TypeIs (.ref z) "map" := ⟨_, m.map, rfl⟩
  unfold pyNext
  refine wpAny_bind (wpAny_attempt (wpAny_callSpecial?_slot (name := Str.ofString "__next__") hT slot_map_next (wpAny_call ?_)))
  refine codeAny_call_builtin_own (plainId_quiet slot_map_next.plain _) entry_map_next (slot_map_next.check _ _ _ _ _ _ _ _ hT (args_map_next_1 _) ?_)
  have hun : A.under (.builtin "map.__next__" ⟨[.ref z], []⟩) = A.in1 := Around.under_plainId slot_map_next.plain _
  show wpOwn _ _ _ (field (.ref z) 0 >>= _) _ _ _
  refine wpOwn_bind (wpOwn_of_wpAny (wpAny_field m.map rfl (x := .ref TI) rfl ?_))
  refine wpOwn_bind (wpOwn_of_wpAny (wpAny_seqItems m.one rfl ?_))
  dsimp only
  refine wpOwn_bind (wpOwn_of_wpAny ?_)
  simp only [← Array.forIn_toList, List.forIn_cons, List.forIn_nil]
  refine wpAny_bind (wpAny_bind (wpAny_holding (wpAny_nextOf_list_item m.iter m.list hx fun h₁ hi hs => wpAny_pure (wpAny_pure ?_))))
  have m1 := m.moved hs hi
  refine wpOwn_bind (wpOwn_of_wpAny (wpAny_field m1.map rfl (x := .type "int") rfl ?_))
  refine wpOwn_bind ?_
  intro Γ p hc hΓ
  rw [Sem.wp_holding]
  unfold call
  rw [Sem.wp_runValue]
  have hin := hΓ.in
  rw [hc, hun] at hin
  refine int_bad (A := A.in1) (s := { s with heap := h₁ }) hh hl hx8 hn (fun h' tk' e a hex => ?_) _ p rfl (hin.enter _ none p (by intro x; cases x)) ⟨[], ⟨[.ref z], []⟩, Γ.below.map (·.1), by rw [← hc]; rfl, fun _ q => nomatch q⟩
  obtain ⟨t, ht, _, _⟩ := hex.there
  refine wpAny_bind (wpAny_isInstance (T := "ValueError") (b := false) ⟨_, ht, rfl⟩ sub_value_stop ?_)
  exact wpAny_throw (hE _ _ _ _ _ hs hex)
end

end
section
section
variable {prog : Program} {w : World} {A : Around} {E : Value → Shared → Prop} {s : Shared} {z TI it l : Addr} {xs : Array Value}
theorem raise_value {α : Type} {msg : String} {Q : α → Shared → Prop} (hh : A.handled = none) (hm : (msg : Str).length ≤ sizeLine)
    (h : ∀ h' tk' e a, Heap.MadeExcOf s.heap h' e (.type "ValueError") [a] → E (.ref e) { s with heap := h', toks := tk' }) : wpAny (model prog w) A (raiseErrorMade "ValueError" msg : Sem α) Q E s := by
  unfold raiseErrorMade
  refine wpAny_bind (wpAny_mkStr ?_ hm)
  refine wpAny_bind (newExc_value fun h' e hx => ?_)
  exact raiseNew_any hh (h _ _ _ _ hx)
theorem slot_iter_some : typeLookup (.type "map") (Str.ofString "__iter__") = pure (some (.builtin "map.__iter__")) := slot_map_iter.lookup
/-- what the two names get of the texts -/
noncomputable def twoOf : List Str → Option (Int × Int)
  | [a, b] => (match PySem.intText? a, PySem.intText? b with
    | some m, some n => some (m, n)
    | _, _ => none)
  | _ => none
noncomputable def TextsAt (xs : Array Value) (ps : List Str) : Prop := (∀ i : Nat, xs[i]? = none ↔ ps[i]? = none) ∧ ∀ (i : Nat) (v : Value), xs[i]? = some v → ∃ x u, v = .str x u ∧ ps[i]? = some x
theorem TextsAt.get {xs : Array Value} {ps : List Str} (h : TextsAt xs ps) {i : Nat} {x : Str} (hx : ps[i]? = some x) : ∃ u, xs[i]? = some (.str x u) := by
  cases hv : xs[i]? with
  | none => rw [(h.1 i).mp hv] at hx; cases hx
  | some v =>
    obtain ⟨y, u, rfl, hy⟩ := h.2 i v hv
    rw [hy] at hx; cases hx; exact ⟨u, rfl⟩
theorem ext_trans {it : Addr} {a b c : Heap} (x : Heap.ExtBut it a b) (y : Heap.ExtBut it b c) : Heap.ExtBut it a c := fun d o hd e => y d o hd (x d o hd e)
set_option maxRecDepth 100000 in
set_option maxHeartbeats 4000000 in
theorem unpack_map {ps : List Str} {Q : List Value → Shared → Prop} (hh : A.handled = none) (m : MapAt s.heap z TI it l 0 xs) (ht : TextsAt xs ps) (hl : ∀ x ∈ ps, x.length ≤ 640) (h8 : ∀ x ∈ ps, ∀ c ∈ x.cps.toList, c < 128)
    (hQ : ∀ a b, twoOf ps = some (a, b) → ∀ h' tk' t1 t2, Heap.ExtBut it s.heap h' → Q [.int a t1, .int b t2] { s with heap := h', toks := tk' })
    (hE : twoOf ps = none → ∀ h h' tk' e a, Heap.ExtBut it s.heap h → Heap.MadeExcOf h h' e (.type "ValueError") [a] → E (.ref e) { s with heap := h', toks := tk' }) :
    wpAny (model prog w) A (unpackItems (.ref z) 2 none) Q E s := by
  have hT : s.TypeIs (.ref z) "map" := ⟨_, m.map, rfl⟩
  unfold unpackItems
  refine wpAny_bind ?_
  unfold notIterableAtAll
  refine wpAny_bind (wpAny_specialOf hT slot_iter_some ?_)
  refine wpAny_ite_true rfl (wpAny_pure ?_)
  refine wpAny_ite_false rfl ?_
  refine wpAny_bind (wpAny_holding (pyIter_map m.map ?_))
  refine wpAny_bind (wpAny_holding ?_)
  simp only [draw]
  have sz0 : (Str.ofString (toString "not enough values to unpack (expected " ++ toString 2 ++ toString ", got " ++ toString 0 ++ toString ")")).length ≤ sizeLine := by decide +kernel
  have sz1 : (Str.ofString (toString "not enough values to unpack (expected " ++ toString 2 ++ toString ", got " ++ toString 1 ++ toString ")")).length ≤ sizeLine := by decide +kernel
  have sz2 : (Str.ofString (toString "too many values to unpack (expected " ++ toString 2 ++ toString ")")).length ≤ sizeLine := by decide +kernel
  cases ps with
  | nil =>
    refine wpAny_bind (pyNext_map_end hh m ((ht.1 0).mpr rfl) fun h1 hx1 => wpAny_pure ?_)
    refine wpAny_ite_true rfl ?_
    refine wpAny_bind (wpAny_rule ?_)
    exact wpAny_bind (raise_value (s := { s with heap := h1 }) hh sz0 fun h' tk' e a hex => hE rfl _ _ _ _ _ hx1 hex)
  | cons p0 r =>
    obtain ⟨u0, e0⟩ := ht.get (i := 0) (x := p0) rfl
    cases n0 : PySem.intText? p0 with
    | none =>
      have hno : twoOf (p0 :: r) = none := by
        unfold twoOf
        split
        · rename_i a b e; cases e; rw [n0]
        · rfl
      exact wpAny_bind (pyNext_map_bad hh m e0 (hl _ (.head _)) (h8 _ (.head _)) n0 fun h h' tk' e a hs hex => hE hno _ _ _ _ _ hs.extBut hex)
    | some k0 =>
      refine wpAny_bind (pyNext_map_item m e0 (hl _ (.head _)) n0 fun h1 tk1 t1 m1 hs1 => ?_)
      dsimp only
      refine wpAny_bind (wpAny_holding ?_)
      cases r with
      | nil =>
        refine wpAny_bind (pyNext_map_end (s := { s with heap := h1, toks := tk1 }) hh m1 ((ht.1 1).mpr rfl) fun h2 hx2 => wpAny_pure (wpAny_pure ?_))
        refine wpAny_ite_true rfl ?_
        refine wpAny_bind (wpAny_rule ?_)
        exact wpAny_bind (raise_value (s := { s with heap := h2, toks := tk1 }) hh sz1 fun h' tk' e a hex => hE rfl _ _ _ _ _ (ext_trans hs1.extBut hx2) hex)
      | cons p1 r2 =>
        obtain ⟨u1, e1⟩ := ht.get (i := 1) (x := p1) rfl
        cases n1 : PySem.intText? p1 with
        | none =>
          have hno : twoOf (p0 :: p1 :: r2) = none := by
            unfold twoOf
            split
            · rename_i a b e; cases e; rw [n0, n1]
            · rfl
          exact wpAny_bind (pyNext_map_bad (s := { s with heap := h1, toks := tk1 }) hh m1 e1 (hl _ (.tail _ (.head _))) (h8 _ (.tail _ (.head _))) n1 fun h h' tk' e a hs hex => hE hno _ _ _ _ _ (ext_trans hs1.extBut hs.extBut) hex)
        | some k1 =>
          refine wpAny_bind (pyNext_map_item (s := { s with heap := h1, toks := tk1 }) m1 e1 (hl _ (.tail _ (.head _))) n1 fun h2 tk2 t2 m2 hs2 => ?_)
          dsimp only
          refine wpAny_bind (wpAny_holding (wpAny_pure (wpAny_pure (wpAny_pure ?_))))
          refine wpAny_ite_false rfl ?_
          have hx12 := ext_trans hs1.extBut hs2.extBut
          cases r2 with
          | nil =>
            refine wpAny_bind (wpAny_holding (pyNext_map_end (s := { s with heap := h2, toks := tk2 }) hh m2 ((ht.1 2).mpr rfl) fun h3 hx3 => ?_))
            refine wpAny_ite_false rfl (wpAny_pure ?_)
            exact hQ k0 k1 (by simp only [twoOf, n0, n1]) _ _ _ _ (ext_trans hx12 hx3)
          | cons p2 r3 =>
            obtain ⟨u2, e2⟩ := ht.get (i := 2) (x := p2) rfl
            have hno : twoOf (p0 :: p1 :: p2 :: r3) = none := rfl
            cases n2 : PySem.intText? p2 with
            | none => exact wpAny_bind (wpAny_holding (pyNext_map_bad (s := { s with heap := h2, toks := tk2 }) hh m2 e2 (hl _ (.tail _ (.tail _ (.head _)))) (h8 _ (.tail _ (.tail _ (.head _)))) n2 fun h h' tk' e a hs hex => hE hno _ _ _ _ _ (ext_trans hx12 hs.extBut) hex))
            | some k2 =>
              refine wpAny_bind (wpAny_holding (pyNext_map_item (s := { s with heap := h2, toks := tk2 }) m2 e2 (hl _ (.tail _ (.tail _ (.head _)))) n2 fun h3 tk3 t3 m3 hs3 => ?_))
              refine wpAny_ite_true rfl ?_
              refine wpAny_bind (wpAny_rule ?_)
              exact wpAny_bind (raise_value (s := { s with heap := h3, toks := tk3 }) hh sz2 fun h' tk' e a hex => hE hno _ _ _ _ _ (ext_trans hx12 hs3.extBut) hex)
end

end
section
theorem strs_at {l : List (Str × Tok)} : TextsAt (strValues l).toArray (l.map (·.1)) := by
  have e : strValues l = l.map fun p => Value.str p.1 p.2 := by induction l with
    | nil => rfl
    | cons a r ih => simp [strValues, ih]
  constructor
  · intro i
    simp [e]
  · intro i v hv
    have hv' : (strValues l)[i]? = some v := by simpa using hv
    rw [e, List.getElem?_map] at hv'
    cases h : l[i]? with
    | none => rw [h] at hv'; cases hv'
    | some p =>
      rw [h] at hv'
      cases hv'
      exact ⟨p.1, p.2, rfl, by simp [h]⟩
theorem join_chars (y : Str) : ∀ (l : List Str) (p : Str), p ∈ l → ∀ c ∈ p.cps.toList, c ∈ (Str.join y l).cps.toList := by
  intro l
  induction l with
  | nil => intro p h; cases h
  | cons a r ih =>
    intro p hp c hc
    cases r with
    | nil =>
      cases hp with
      | head => exact hc
      | tail _ h => cases h
    | cons b r' =>
      have e : (Str.join y (a :: b :: r')).cps.toList = a.cps.toList ++ y.cps.toList ++ (Str.join y (b :: r')).cps.toList := by
        show (a ++ y ++ Str.join y (b :: r')).cps.toList = _
        show ((a.cps ++ y.cps) ++ (Str.join y (b :: r')).cps).toList = _
        simp
      rw [e]
      cases hp with
      | head => simp [hc]
      | tail _ h => exact List.mem_append_right _ (ih p h c hc)
theorem part_chars {x p : Str} (h8 : ∀ c ∈ x.cps.toList, c < 128) (hp : p ∈ Txt.split x (Str.ofString ".")) : ∀ c ∈ p.cps.toList, c < 128 := by
  intro c hc
  refine h8 c ?_
  have := join_chars (Str.ofString ".") _ p hp c hc
  rwa [StrLaws.join_split] at this
theorem fr_extBut {h₀ h h' : Heap} {L it : Addr} {m : Str → Option Value} (F : Fr h₀ L h m) (k : Heap.ExtBut it h h') (hit : h₀.get? it = none) (hL : L ≠ it) : Fr h₀ L h' m := by
  obtain ⟨o, es, ep, hL', r⟩ := F.ns
  exact ⟨⟨o, es, ep, k _ _ hL hL', r⟩, fun b o e => k _ _ (fun q => by rw [q, hit] at e; cases e) (F.keep b o e), F.above⟩
theorem iter_new {h h' : Heap} {it : Addr} (k : Heap.ExtBut it h h') {g : Heap} (kg : g.StaysIn h) (hn : g.get? it = none) : g.StaysIn h' := fun b o e => k b o (fun q => by rw [q, hn] at e; cases e) (kg b o e)
section
variable {pr : Program} {w : World} {p : Program} {loose : List Str} {mean : ExcName → Option Value} {mg mb : Str → Option Value} {A : Around} {g h₁ : Heap} {s : Shared} {L : Addr} {R : Result → Shared → Prop}

set_option maxRecDepth 100000 in
set_option maxHeartbeats 8000000 in
theorem call_glc {x : Str} {t : Tok} (X : (hd.heap_39 w.params).In s.heap) (T : Top p loose mean mg mb s.heap) (hh : A.handled = none) (hd : A.depth ≤ 310) (hlen : x.cps.size ≤ 20) (h8 : ∀ c ∈ x.cps.toList, c < 128)
    (retS : ∀ a b, twoOf (Txt.split x (Str.ofString ".")) = some (a, b) → ∀ h' tk' d t1 t2, s.heap.StaysIn h' → h'.get? d = some { cls := .type "tuple", data := .seq #[.int a t1, .int b t2] } → s.heap.get? d = none → R (.ok (.ret (.ref d))) { s with heap := h', toks := tk' })
    (retE : twoOf (Txt.split x (Str.ofString ".")) = none → ∀ (sc : Scope) L h h' tk' e a o, sc.kind = .function → s.heap.StaysIn h → s.heap.get? L = none → h.get? L = some o → (∀ vs, o.data ≠ .fields vs) → Heap.MadeExcOf h h' e (.type "ValueError") [a] →
      wpAny (model pr w) (A.deeper (envOf (Str.ofString "get_line_col") sc L 28 (.ref 27))) (leaving (envOf (Str.ofString "get_line_col") sc L 28 (.ref 27)) (.ref e)) (fun _ s'' => R (.error (.ref e)) s'') (fun e' s'' => R (.error e') s'') { s with heap := h', toks := tk' }) :
    codeAny (model pr w) A (.call (.ref 28) ⟨[.str x t], []⟩) R s := by
  k_with_none
  refine enterH [(Str.ofString "index", .str x t)] [] (by unfold recursionLimit; omega) X T.nolimit (by k_is) (by k_is) (BindsTo.of_eq rfl) (locs rfl) ?_
  intro L h₁ F N hk1 hn1
  change Fr s.heap L h₁ _ at F
  change News s.heap L h₁ _ at N
  walk_at "mine go"
  rename_i l h2 tk2 hsp hstr hle hl F1 N1
  have e1 : h2.objs.size = h2.objs.size := rfl
  refine call_map hl fun h3 hz hone hit hk3 => ?_
  have F3 := fr_after F1 hk3
  have hl3 := hl.at fun o e => hk3 _ o e
  have hps : ∀ y ∈ l.map (·.1), y.length ≤ 640 ∧ ∀ c ∈ y.cps.toList, c < 128 := by
    intro y hy
    refine ⟨?_, ?_⟩
    · have := hle y hy
      have : x.length ≤ 20 := hlen
      omega
    · exact part_chars h8 (hsp ▸ hy)
  have hM : MapAt h3 (h2.objs.size + 2) (h2.objs.size + 1) h2.objs.size h₁.objs.size 0 (strValues l).toArray := ⟨hz, hone, hit, hl3⟩
  have hnew : s.heap.get? h2.objs.size = none := by
    cases q : s.heap.get? h2.objs.size with
    | none => rfl
    | some o => exact absurd (Heap.lt_size (F1.keep _ _ q)) (Nat.lt_irrefl _)
  have hsz : s.heap.StaysIn h3 := F3.keep
  have hLit : L ≠ h2.objs.size := by
    obtain ⟨o, es, ep, hL, _⟩ := F1.ns
    exact Nat.ne_of_lt (Heap.lt_size hL)
  rw [arm_assign_Tuple]
  refine wpAny_bind (wpAny_standAt ?_)
  unfold unpack
  refine wpAny_bind (wpAny_holding ?_)
  refine unpack_map (ps := l.map (·.1)) hh hM strs_at (fun y hy => (hps y hy).1) (fun y hy => (hps y hy).2) (fun a b hab h4 tk4 t1 t2 hx4 => ?_) (fun hno h4 h5 tk5 e a hx4 hme => ?_)
  · have F4 := fr_extBut F3 hx4 hnew hLit
    have N4 : News s.heap L h4 [] := News.nil
    clear hM hz hone hit hk3 F3 hl3 hl N1 F1 hps hx4
    dsimp only [assignEach, List.map, assignInOrder]
    refine wpAny_bind (wpAny_holding ?_)
    walk_at "mine go"
    refine wpAny_bind (wpAny_holding ?_)
    walk_at "mine go"
    refine wpAny_pure ?_
    walk_at "mine go"
    rename_i F9 N9 _
    refine retS a b (hsp ▸ hab) _ _ _ _ _ F9.keep (N9 _ (.head _)).1 ?_
    exact (N9 _ (.head _)).2.2
  · have F4 := fr_extBut F3 hx4 hnew hLit
    obtain ⟨o, es, ep, hL, hns⟩ := F4.ns
    refine retE (hsp ▸ hno) _ L h4 h5 tk5 e a o rfl F4.keep hn1 hL ?_ hme
    intro vs q
    rw [hns.1] at q
    cases q
end

end
section
section
variable {pr : Program} {w : World} {p : Program} {loose : List Str} {mean : ExcName → Option Value} {mg mb : Str → Option Value} {A : Around} {h₀ : Heap} {s : Shared} {Q E : Value → Shared → Prop} {L : Addr} {m : Str → Option Value} {news : List (Addr × Obj)} {env : Env}

theorem hidden_in {K : Frag} {h₀ h : Heap} {L : Addr} {m : Str → Option Value} (F : Fr h₀ L h m) : h₀.StaysIn (hideAll h [L]) := fun b o e => hideAll_get _ (F.keep b o e) fun q => by
  have : b = L := by simpa using q
  subst this
  exact absurd (Heap.lt_size e) (Nat.not_lt.mpr F.above)

theorem caught_any {hb h B : Heap} {outer : List Env} {A₀ : Around} {s' : Shared} {L a e : Addr} {a0 : Value} {m : Str → Option Value} {name : Str} {scope : Scope} {cd : Value} {b₀ : Stmt} {suite : List Stmt} {pos np : Pos} {rest : List ExceptHandler} {Q : Flow → Shared → Prop} {E : Value → Shared → Prop} {mg mb : Str → Option Value}
    (stack : A₀.frames = some outer) (F : Fr hb L h m) (hsm : h.UpToSlots s'.heap) (hfl : Heap.FlyingW B (envOf name scope L a cd :: outer) e (.type "ValueError") a0 s'.heap) (hB : hb.StaysIn B)
    (hg : hb.Ns mainGlobals mg) (hmiss : mg (Str.ofString "ValueError") = none) (hbn : hb.Ns builtinsNs mb) (hv : mb (Str.ofString "ValueError") = some (.type "ValueError"))
    (k : ∀ h', Fr hb L h' m → B.StaysIn h' → h.UpToSlots h' →
      wpAny (model pr w) ((A₀.deeper (envOf name scope L a cd)).mark (some (.ref e))) (execs (b₀ :: suite) (envOf name scope L a cd)) Q E { s' with heap := h' })
    (hk : scope.kind = .function := by rfl) (hx : (envOf name scope L a cd).kindOf (Str.ofString "ValueError") = some .globalImplicit := by rfl)
    (hE : PassesOwnAt (model pr w) ((A₀.deeper (envOf name scope L a cd)).mark (some (.ref e))) (A₀.deeper (envOf name scope L a cd)) (envOf name scope L a cd) E := by passes_own) :
    wpAny (model pr w) (A₀.deeper (envOf name scope L a cd)) (noteFrame (.ref e) (envOf name scope L a cd))
      (fun _ s₂ => wpAny (model pr w) (A₀.deeper (envOf name scope L a cd)) (setFlight (.ref e) none) (fun _ s₃ =>
        wpAny (model pr w) (A₀.deeper (envOf name scope L a cd)) (handleBy (.ref e) (envOf name scope L a cd) (.ExceptHandler (some (.Name (Str.ofString "ValueError") np)) none (b₀ :: suite) pos :: rest)) Q E s₃) E s₂) E s' := by
  refine wpAny_looks_onW (Around.frames_deeper stack) rfl hfl fun h₄ hheld₄ hsm₄ => ?_
  refine wpAny_landsW hheld₄ fun h₅ hheld hsm₅' => ?_
  have hsm₅ := hsm₄.trans hsm₅'
  have hheld' := flyingW_base hB hheld
  have F₅ := F.of_stays hheld'.1 (hsm.trans hsm₅)
  obtain ⟨ob, hob, hobc⟩ := hheld'.there
  refine wpAny_handleBy_builtin (X := "ValueError") (T := "ValueError") (b := true) PySem.F.isExc_ValueError PySem.F.notTuple_ValueError (by rw [isSubtype_type]; kernel_rfl) (ld_builtin_at F₅ hg hmiss hbn hv ⟨rfl, ⟨ob, hob, hobc⟩, ?_⟩ hk hx (by decide))
  refine lands_againW hheld fun h₆ hfl₆ hsm₆ => ?_
  have hfl₆' := flyingW_base hB hfl₆
  have F₆ := F.of_stays hfl₆'.1 ((hsm.trans hsm₅).trans hsm₆)
  exact wpAny_passesOwnAt hE (k h₆ F₆ hfl₆.1 ((hsm.trans hsm₅).trans hsm₆))

set_option maxRecDepth 100000 in
set_option maxHeartbeats 8000000 in
theorem call_told {x : Str} {t : Tok} (F : Fr h₀ L s.heap m) (X : (hd.heap_39 w.params).In h₀) (N : News h₀ L s.heap news) (T : Top p loose mean mg mb h₀)
    (hA : A.frames = some [env]) (hf : env.frame = some L) (hke : env.scope.kind = .function) (hh : A.handled = none) (hd : A.depth ≤ 305) (hlen : x.cps.size ≤ 20) (h8 : ∀ c ∈ x.cps.toList, c < 128)
    (retN : twoOf (Txt.split x (Str.ofString ".")) = none → ∀ h' tk' tt, Fr h₀ L h' m → News h₀ L h' news → Q (.str (Str.ofString "refused") tt) { s with heap := h', toks := tk' })
    (retS : ∀ a b, twoOf (Txt.split x (Str.ofString ".")) = some (a, b) → ∀ h' tk' d t1 t2, Fr h₀ L h' m → News h₀ L h' ((d, { cls := .type "tuple", data := .seq #[.int a t1, .int b t2] }) :: news) → Q (.ref d) { s with heap := h', toks := tk' }) :
    wpAny (model pr w) A (call (.ref 135) [.str x t]) Q E s := by
  k_with_none
  have hst := hidden_in (K := Mine.hd.heap_39 w.params) F
  have X1 := X.keeps hst
  have T1 := T.keeps hst
  refine wpAny_call ?_
  refine enterH [(Str.ofString "text", .str x t)] [L] (by unfold recursionLimit; omega) (X.keeps F.keep) (T.nolimit.keeps F.keep) (by k_is) (by k_is) (BindsTo.of_eq rfl) (locs rfl) ?_
  intro L1 h₁ F1 N1 hk1 hn1
  walk_at "mine go"
  refine wpAny_call ?_
  refine call_glc (X1.keeps F1.keep) (T1.keeps F1.keep) hh (by show A.depth + 1 ≤ 310; omega) hlen h8 (fun a b hab h' tk' d t1 t2 hk2 hd2 hn2 => ?_) (fun hno sc L2 h h' tk' e a o hsk hk2 hn2 hL2 ho hme => ?_)
  · have hall : s.heap.StaysIn h' := fun b o q => hk2 b o (hk1 b o q)
    refine retS a b hab h' tk' d t1 t2 (fr_after F hall) ?_
    intro q hq
    rcases List.mem_cons.mp hq with rfl | hq
    · refine ⟨hd2, ?_, ?_⟩
      · intro z
        obtain ⟨o, es, ep, hL, _⟩ := F.ns
        have := hk1 _ _ hL
        rw [← z] at this
        rw [hn2] at this
        cases this
      · cases z : h₀.get? d with
        | none => rfl
        | some o =>
          have := hk1 _ _ (F.keep _ _ z)
          rw [hn2] at this
          cases this
    · exact ⟨hall _ _ (N q hq).1, (N q hq).2⟩
  · obtain ⟨oL, es0, ep0, hL, hLd⟩ := F.ns
    obtain ⟨oL1, es1, ep1, hL1, hL1d⟩ := F1.ns
    have hLh := hk2 _ _ (hk1 _ _ hL)
    have hL1h := hk2 _ _ hL1
    have hff : h.FunFrames (hideAll h [L2, L1, L]) [envOf (Str.ofString "get_line_col") sc L2 28 (.ref 27), envOf (Str.ofString "_law_told") { kind := ScopeKind.function, names := [(Str.ofString "text", NameKind.local), (Str.ofString "get_line_col", NameKind.globalImplicit), (Str.ofString "ValueError", NameKind.globalImplicit)], isGenerator := false, isCoroutine := false } L1 135 (Value.ref 134), env] := by
      refine ⟨?_, ⟨L2, o, rfl, hideAll_none _ (by simp), hL2, ho⟩, ?_, ⟨L1, oL1, rfl, hideAll_none _ (by simp), hL1h, ?_⟩, ?_, ⟨L, oL, hf, hideAll_none _ (by simp), hLh, ?_⟩, trivial⟩
      · show sc.kind ≠ _
        rw [hsk]; decide
      · exact (by decide : ScopeKind.function ≠ ScopeKind.module)
      · intro vs q; rw [hL1d.1] at q; cases q
      · rw [hke]; decide
      · intro vs q; rw [hLd.1] at q; cases q
    have hBb : (hideAll s.heap [L]).StaysIn (hideAll h [L2, L1, L]) := by
      intro b ob q
      have q1 := of_hideAll _ q
      refine hideAll_get _ (hk2 _ _ (hk1 _ _ q1)) fun hm => ?_
      simp only [List.mem_cons, List.not_mem_nil, or_false] at hm
      rcases hm with rfl | rfl | rfl
      · have := hk1 _ _ q1
        rw [hn2] at this; cases this
      · rw [hn1] at q1; cases q1
      · have z : (hideAll s.heap [b]).get? b = none := hideAll_none _ (by simp)
        rw [z] at q; cases q
    refine wpAny_leaves_madeW (base := hideAll h [L2, L1, L]) (outer := [_, env]) (Around.frames_deeper (Around.frames_deeper hA)) rfl (fun b o q => of_hideAll _ q) hff hme fun h6 tt hfl _ _ hup => ?_
    have hup1 : h₁.UpToSlots h6 := ((Heap.UpToSlots.of_keeps hk2).trans (Heap.UpToSlots.of_keeps hme.keeps)).trans hup
    refine caught_any hA F1 hup1 hfl hBb T1.g (mg_none_of X1 T1.g (by k_is)) T1.b ((T1.builtins _ (by decide)).trans (by boot_by_name)) (fun h7 F7 hB7 hu7 => ?_)
    have N7 : News (hideAll s.heap [L]) L1 h7 [] := News.nil
    walk_at "mine go"
    have hus : s.heap.UpToSlots h7 := (Heap.UpToSlots.of_keeps hk1).trans hu7
    refine retN hno h7 _ _ ⟨hus.ns F.ns, fun b o q => hB7 _ _ (hBb _ _ (hst _ _ q)), F.above⟩ ?_
    intro q hq
    exact ⟨hB7 _ _ (hBb _ _ (hideAll_get _ (N q hq).1 fun hm => (N q hq).2.1 (by simpa using hm))), (N q hq).2⟩
end

end
section
noncomputable def b64tab : List Int := [65, 66, 67, 68, 69, 70, 71, 72, 73, 74, 75, 76, 77, 78, 79, 80, 81, 82, 83, 84, 85, 86, 87, 88, 89, 90, 97, 98, 99, 100, 101, 102, 103, 104, 105, 106, 107, 108, 109, 110, 111, 112, 113, 114, 115, 116, 117, 118, 119, 120, 121, 122, 48, 49, 50, 51, 52, 53, 54, 55, 56, 57, 43, 47]
/-- the sign of a worth -/
noncomputable def sgn (n : Int) : Int := b64tab.getD n.toNat 0
noncomputable def b2aStep (c : List Int × Int × Int) (n : Int) : List Int × Int × Int :=
  if c.2.1 = 0 then (c.1 ++ [sgn (n / 4)], 2, n % 4) else if c.2.1 = 2 then (c.1 ++ [sgn (c.2.2 * 16 + n / 16)], 4, n % 16) else (c.1 ++ [sgn (c.2.2 * 4 + n / 64)] ++ [sgn (n % 64)], 0, 0)
noncomputable def b2aEnd (c : List Int × Int × Int) : List Int :=
  if c.2.1 = 2 then c.1 ++ [sgn (c.2.2 * 16)] ++ [61] ++ [61] else if c.2.1 = 4 then c.1 ++ [sgn (c.2.2 * 4)] ++ [61] else c.1
noncomputable def b2a (ns : List Int) : List Int := b2aEnd (ns.foldl b2aStep ([], 0, 0))
noncomputable def b2aInv (pre os : List Int) (lb lc : Int) : Prop :=
  (lb = 0 ∨ lb = 2 ∨ lb = 4) ∧ 0 ≤ lc ∧ lc < 65536 ∧ os.length ≤ 2 * pre.length ∧ (∀ n ∈ os, 0 ≤ n ∧ n < 256) ∧ pre.foldl b2aStep ([], 0, 0) = (os, lb, if lb = 0 then 0 else if lb = 2 then lc % 4 else lc % 16)
theorem and63 (x : Int) : Builtin.bitAnd x 63 = x % 64 := kbt_mask x 6
theorem and65535 (x : Int) : Builtin.bitAnd x 65535 = x % 65536 := kbt_mask x 16
theorem and3 (x : Int) : Builtin.bitAnd x 3 = x % 4 := kbt_mask x 2
theorem and15 (x : Int) : Builtin.bitAnd x 15 = x % 16 := kbt_mask x 4
theorem and_high : ∀ (m : Nat) (k n : Int), 0 ≤ n → n < 2 ^ m → Builtin.bitAnd (k * 2 ^ m) n = 0 := by
  intro m
  induction m with
  | zero =>
    intro k n h0 h1
    have e : n = 2 ^ 0 - 1 := by omega
    rw [e, kbt_mask]
    simp
  | succ m ih =>
    intro k n h0 h1
    have e : k * 2 ^ (m + 1) = 2 * (k * 2 ^ m) := by rw [Int.pow_succ, ← Int.mul_assoc, Int.mul_comm]
    have h2 : (2 : Int) ^ (m + 1) = 2 * 2 ^ m := by rw [Int.pow_succ, Int.mul_comm]
    rw [kbt_halves, e]
    have e1 : 2 * (k * 2 ^ m) / 2 = k * 2 ^ m := by omega
    have e2 : ¬ (2 * (k * 2 ^ m) % 2 = 1 ∧ n % 2 = 1) := by omega
    rw [e1, if_neg e2, ih k (n / 2) (by omega) (by omega)]
    rfl
theorem or_high (m : Nat) (k n : Int) (h0 : 0 ≤ n) (h1 : n < 2 ^ m) : Builtin.bitOr (k * 2 ^ m) n = k * 2 ^ m + n := by
  rw [bitOr_and, and_high m k n h0 h1]; omega
theorem lc_eq {lc n : Int} (h0 : 0 ≤ n) (h1 : n < 256) : Builtin.bitAnd (Builtin.bitOr (lc * 2 ^ Int.toNat 8) n) 65535 = (lc * 256 + n) % 65536 := by
  rw [and65535]
  have e := or_high 8 lc n h0 (by simpa using h1)
  have e2 : (2 : Int) ^ 8 = 256 := by decide
  rw [e2] at e
  show Builtin.bitOr (lc * 2 ^ 8) n % 65536 = _
  rw [e2, e]
theorem sgn_in (n : Int) : 0 ≤ sgn n ∧ sgn n < 256 := by
  unfold sgn
  rw [List.getD_eq_getElem?_getD]
  cases h : b64tab[n.toNat]? with
  | none => simp
  | some v =>
    have hm : v ∈ b64tab := List.mem_of_getElem? h
    have : ∀ v ∈ b64tab, 0 ≤ v ∧ v < 256 := by decide
    exact this v hm
theorem m4 {lc n : Int} (h0 : 0 ≤ n) (h1 : n < 256) : (lc * 256 + n) % 65536 / 4 % 64 = n / 4 := by
  have d := dlt (a := 4) (b := 64) h0 (by decide) h1
  refine (cut (x := lc * 256 + n) (a := 4) (b := 16384) (by decide) (by decide)).trans ?_
  rw [dv (y := lc * 64) (by decide) (by rw [Int.mul_assoc]; rfl), lo d.1 d.2]
theorem m16 {lc n : Int} (h0 : 0 ≤ n) (h1 : n < 256) : (lc * 256 + n) % 65536 / 16 % 64 = lc % 4 * 16 + n / 16 := by
  have d := dlt (a := 16) (b := 16) h0 (by decide) h1
  refine (cut (x := lc * 256 + n) (a := 16) (b := 4096) (by decide) (by decide)).trans ?_
  rw [dv (y := lc * 16) (by decide) (by rw [Int.mul_assoc]; rfl)]
  exact md (b := 4) d.1 d.2
theorem m64 {lc n : Int} (h0 : 0 ≤ n) (h1 : n < 256) : (lc * 256 + n) % 65536 / 64 % 64 = lc % 16 * 4 + n / 64 := by
  have d := dlt (a := 64) (b := 4) h0 (by decide) h1
  refine (cut (x := lc * 256 + n) (a := 64) (b := 1024) (by decide) (by decide)).trans ?_
  rw [dv (y := lc * 4) (by decide) (by rw [Int.mul_assoc]; rfl)]
  exact md (b := 16) d.1 d.2
theorem m4' {lc n : Int} : (lc * 256 + n) % 65536 % 4 = n % 4 := by rw [Int.emod_emod_of_dvd _ (by decide), mlt (by decide)]
theorem m16' {lc n : Int} : (lc * 256 + n) % 65536 % 16 = n % 16 := by rw [Int.emod_emod_of_dvd _ (by decide), mlt (by decide)]
theorem m64' {lc n : Int} : (lc * 256 + n) % 65536 / 1 % 64 = n % 64 := by rw [Int.ediv_one, Int.emod_emod_of_dvd _ (by decide), mlt (by decide)]
theorem inv0 {pre os : List Int} {lc n : Int} (h : b2aInv pre os 0 lc) (h0 : 0 ≤ n) (h1 : n < 256) :
    b2aInv (pre ++ [n]) (os ++ [sgn (Builtin.bitAnd ((Builtin.bitAnd (Builtin.bitOr (lc * 2 ^ Int.toNat 8) n) 65535).fdiv (2 ^ (0 + 8 - 6 : Int).toNat)) 63)]) (0 + 8 - 6) (Builtin.bitAnd (Builtin.bitOr (lc * 2 ^ Int.toNat 8) n) 65535) := by
  obtain ⟨_, hl0, hl1, hlen, hin, hf⟩ := h
  rw [lc_eq h0 h1]
  have e4 : (2 : Int) ^ (0 + 8 - 6 : Int).toNat = 4 := by decide
  rw [e4, and63, Int.fdiv_eq_ediv_of_nonneg _ (by decide)]
  refine ⟨.inr (.inl rfl), (rlt _ (by decide)).1, (rlt _ (by decide)).2, ?_, ?_, ?_⟩
  · simp only [List.length_append, List.length_singleton]; omega
  · intro m hm
    rcases List.mem_append.mp hm with hm | hm
    · exact hin m hm
    · rw [List.mem_singleton.mp hm]; exact sgn_in _
  · rw [List.foldl_append, hf]
    have e5 : (lc * 256 + n) % 65536 / 4 % 64 = n / 4 := m4 h0 h1
    have e6 : (lc * 256 + n) % 65536 % 4 = n % 4 := m4'
    rw [e5]
    show b2aStep (os, 0, _) n = (_, 2, (lc * 256 + n) % 65536 % 4)
    rw [e6]
    rfl
theorem inv2 {pre os : List Int} {lc n : Int} (h : b2aInv pre os 2 lc) (h0 : 0 ≤ n) (h1 : n < 256) :
    b2aInv (pre ++ [n]) (os ++ [sgn (Builtin.bitAnd ((Builtin.bitAnd (Builtin.bitOr (lc * 2 ^ Int.toNat 8) n) 65535).fdiv (2 ^ (2 + 8 - 6 : Int).toNat)) 63)]) (2 + 8 - 6) (Builtin.bitAnd (Builtin.bitOr (lc * 2 ^ Int.toNat 8) n) 65535) := by
  obtain ⟨_, hl0, hl1, hlen, hin, hf⟩ := h
  rw [lc_eq h0 h1]
  have e4 : (2 : Int) ^ (2 + 8 - 6 : Int).toNat = 16 := by decide
  rw [e4, and63, Int.fdiv_eq_ediv_of_nonneg _ (by decide)]
  refine ⟨.inr (.inr rfl), (rlt _ (by decide)).1, (rlt _ (by decide)).2, ?_, ?_, ?_⟩
  · simp only [List.length_append, List.length_singleton]; omega
  · intro m hm
    rcases List.mem_append.mp hm with hm | hm
    · exact hin m hm
    · rw [List.mem_singleton.mp hm]; exact sgn_in _
  · rw [List.foldl_append, hf]
    have e5 : (lc * 256 + n) % 65536 / 16 % 64 = lc % 4 * 16 + n / 16 := m16 h0 h1
    have e6 : (lc * 256 + n) % 65536 % 16 = n % 16 := m16'
    rw [e5]
    show b2aStep (os, 2, lc % 4) n = (_, 4, (lc * 256 + n) % 65536 % 16)
    rw [e6]
    rfl
theorem inv4 {pre os : List Int} {lc n : Int} (h : b2aInv pre os 4 lc) (h0 : 0 ≤ n) (h1 : n < 256) :
    b2aInv (pre ++ [n]) (os ++ [sgn (Builtin.bitAnd ((Builtin.bitAnd (Builtin.bitOr (lc * 2 ^ Int.toNat 8) n) 65535).fdiv (2 ^ (4 + 8 - 6 : Int).toNat)) 63)] ++ [sgn (Builtin.bitAnd ((Builtin.bitAnd (Builtin.bitOr (lc * 2 ^ Int.toNat 8) n) 65535).fdiv (2 ^ (4 + 8 - 6 - 6 : Int).toNat)) 63)]) (4 + 8 - 6 - 6) (Builtin.bitAnd (Builtin.bitOr (lc * 2 ^ Int.toNat 8) n) 65535) := by
  obtain ⟨_, hl0, hl1, hlen, hin, hf⟩ := h
  rw [lc_eq h0 h1]
  have e4 : (2 : Int) ^ (4 + 8 - 6 : Int).toNat = 64 := by decide
  have e4' : (2 : Int) ^ (4 + 8 - 6 - 6 : Int).toNat = 1 := by decide
  rw [e4, e4', and63, and63, Int.fdiv_eq_ediv_of_nonneg _ (by decide), Int.fdiv_eq_ediv_of_nonneg _ (by decide)]
  refine ⟨.inl rfl, (rlt _ (by decide)).1, (rlt _ (by decide)).2, ?_, ?_, ?_⟩
  · simp only [List.length_append, List.length_singleton]; omega
  · intro m hm
    rcases List.mem_append.mp hm with hm | hm
    · rcases List.mem_append.mp hm with hm | hm
      · exact hin m hm
      · rw [List.mem_singleton.mp hm]; exact sgn_in _
    · rw [List.mem_singleton.mp hm]; exact sgn_in _
  · rw [List.foldl_append, hf]
    have e5 : (lc * 256 + n) % 65536 / 64 % 64 = lc % 16 * 4 + n / 64 := m64 h0 h1
    have e6 : (lc * 256 + n) % 65536 / 1 % 64 = n % 64 := m64'
    rw [e5, e6]
    rfl
theorem idx63 (x : Int) : 0 ≤ Builtin.bitAnd x 63 ∧ Builtin.bitAnd x 63 < 64 := by rw [and63]; exact rlt _ (by decide)
theorem idx3 (x : Int) : 0 ≤ Builtin.bitAnd x 3 * 2 ^ Int.toNat 4 ∧ Builtin.bitAnd x 3 * 2 ^ Int.toNat 4 < 64 := by
  rw [and3]; exact quarter x (b := 4) (by decide) (by decide)
theorem idx15 (x : Int) : 0 ≤ Builtin.bitAnd x 15 * 2 ^ Int.toNat 2 ∧ Builtin.bitAnd x 15 * 2 ^ Int.toNat 2 < 64 := by
  rw [and15]; exact quarter x (b := 16) (by decide) (by decide)
section
variable {prog : Program} {w : World} {A : Around} {E : Value → Shared → Prop} {s : Shared}
theorem b64_item {value slice : Expr} {b : Array UInt8} {t ui : Tok} {i : Int} {Q : Value → Shared → Prop} (hk : KBw.bInts b = b64tab) (hi : 0 ≤ i ∧ i < 64)
    (h : ∀ t' k, Q (.int (sgn i) t') { s with toks := k })
    (hs : subscripted slice false (.bytes b t) (.int i ui) = operate [.bytes b t, .int i ui] (getItem (.bytes b t) (.int i ui)) := by with_unfolding_all rfl)
    (ht : ∀ r, letTemporaryGo value (.bytes b t) r = pure () := by intro _; with_unfolding_all rfl) : wpAny (model prog w) A (subscriptTail value slice (.bytes b t) (.int i ui)) Q E s :=
  KBw.item_K hk (by decide) hi.1 hi.2 (fun t' k _ _ => h t' k) hs ht
end
local macro_rules | `(tactic| walk_at "subscriptTail") => `(tactic| ((with_reducible show wpAny _ _ (subscriptTail _ _ (Value.bytes _ _) (Value.int _ _)) _ _ _); refine b64_item (by decide +kernel) (by first | exact idx63 _ | exact idx3 _ | exact idx15 _) ?_; intro _ _))
theorem and_small {x m : Int} (hm : m = 3 ∨ m = 15) : (Builtin.bitAnd x m).natAbs < 2 ^ 64 := by
  have h : ∀ a : Int, 0 < a → a ≤ 16 → (x % a).natAbs < 2 ^ 64 := fun a h0 h1 => by
    have q := rlt x h0
    exact Int.ofNat_lt.mp (by rw [Int.natAbs_of_nonneg q.1]; exact Int.lt_of_lt_of_le q.2 (Int.le_trans h1 (by decide)))
  rcases hm with rfl | rfl
  · rw [and3]; exact h 4 (by decide) (by decide)
  · rw [and15]; exact h 16 (by decide) (by decide)
local macro_rules | `(tactic| walk_at "binaryOp LShift int int") => `(tactic| (refine lshift_int_small (by decide) (by decide) (and_small (by first | exact .inl rfl | exact .inr rfl)) ?_))
local macro_rules | `(tactic| walk_at "call type:bytes") => `(tactic| fail "later")
section
variable {pr : Program} {w : World} {p : Program} {loose : List Str} {mean : ExcName → Option Value} {mg mb : Str → Option Value} {A : Around} {base : Heap} {outer : List Env} {s : Shared} {R : Result → Shared → Prop}

set_option maxRecDepth 100000 in
set_option maxHeartbeats 8000000 in
theorem call_b2a {b : Array UInt8} {ks : List Int} {t : Tok} (C : Cx w p loose mean mg mb A base outer s.heap) (hd : A.depth ≤ 306) (hu : A.units ≤ 90) (hb : KBw.bInts b = ks) (hlen : ks.length ≤ 15)
    (ret : ∀ h' tk' b' t', KBw.bInts b' = b2a ks → s.heap.StaysIn h' → R (.ok (.ret (.bytes b' t'))) { s with heap := h', toks := tk' }) :
    codeAny (model pr w) A (.call (.ref 93) ⟨[.bytes b t], [(Str.ofString "newline", .bool false)]⟩) R s := by
  k_with_none
  have B := C.B
  have X := C.X
  have T := C.T
  have hh := C.hh
  refine enter [(Str.ofString "data", .bytes b t), (Str.ofString "newline", .bool false)] C (by k_is) (by k_is) (BindsTo.of_eq rfl) (locs rfl) ?_
  intro L h₁ F N
  walk_at "mine go"
  refine wpAny_call (call_buffer (Cx.of B F X T (Around.frames_deeper B.stack) rfl rfl hh (Nat.succ_le_of_lt (by omega)) (by show A.units + 3 ≤ 100; omega)) fun h2 tk2 t2 hk2 => ?_)
  have F2 := fr_after F hk2
  have N2 := news_after N hk2
  clear F N
  dsimp only
  walk_at "mine go"
  rename_i h3 F3 N3
  refine wpAny_call (call_truth (Cx.of B F3 X T (Around.frames_deeper B.stack) rfl rfl hh (Nat.succ_le_of_lt (by omega)) (by show A.units + 3 ≤ 100; omega)) fun h4 tk4 hk4 => ?_)
  have F4 := fr_after F3 hk4
  have N4 := news_after N3 hk4
  clear F3 N3
  dsimp only
  walk_at "mine go"
  rename_i l' _ _ _ tb0 _ tc0 h5 F5 N5
  refine KStb.kst_bytes (σ := (List Value × List Int × Nat) × (Int × Tok × Int × Tok)) (fun c => [(l', listOf c.1.1.toArray c.1.2.2)]) (fun c => [(Str.ofString "leftbits", .int c.2.1 c.2.2.1), (Str.ofString "leftchar", .int c.2.2.2.1 c.2.2.2.2)]) (fun c => IntsAre c.1.1 c.1.2.1 ∧ True) [] (fun pre c => b2aInv pre c.1.2.1 c.2.1 c.2.2.2.1) (([], [], 0), (0, tb0, 0, tc0)) hb rfl hh F5 N5 ⟨IntsAre.nil, trivial⟩ ?_ ?_ ?_ ?_
  · exact List.forall_mem_cons.mpr ⟨rfl, List.forall_mem_singleton.mpr rfl⟩
  · exact ⟨.inl rfl, Int.le_refl _, (by decide : (0 : Int) < 65536), Nat.le_refl _, (fun n hn => (List.not_mem_nil hn).elim), rfl⟩
  · rintro ⟨⟨us, os, e⟩, lb, tb, lc, tc⟩ pre post n tn u h tk own hsp hlt hn0 hn1 hoff ⟨hfacts, -⟩ hP F6 N6
    dsimp only at hfacts hP
    change Fr s.heap L h _ at F6
    change News s.heap L h ((l', listOf us.toArray e) :: own) at N6
    clear F5 N5
    dsimp only
    have hmk := kstMark
    obtain ⟨hlb, hlc0, hlc1, hlen1, hin, hfold⟩ := hP
    have hus : us.length ≤ 30 := by rw [hfacts.length]; omega
    have hP0 : b2aInv pre os lb lc := ⟨hlb, hlc0, hlc1, hlen1, hin, hfold⟩
    rcases hlb with rfl | rfl | rfl
    · dsimp only [kstB] at F6
      walk_at "mine whl"
      rename_i F7 N7 _
      simp only [List.push_toArray] at N7
      refine turn_end (P := fun pre c => b2aInv pre c.1.2.1 c.2.1 c.2.2.2.1) (ps := fun d => [(Str.ofString "leftbits", .int d.1 d.2.1), (Str.ofString "leftchar", .int d.2.2.1 d.2.2.2)]) (G := fun _ => True) (_, _, _, _) F7 N7 (.head _) (fun q hq => .tail _ hq) (hfacts.append (.cons _ _ .nil)) trivial (List.forall_mem_cons.mpr ⟨rfl, List.forall_mem_singleton.mpr rfl⟩) ?_ ?_
      · walk_at "mine same"
      · exact inv0 hP0 hn0 hn1
    · dsimp only [kstB] at F6
      walk_at "mine whl"
      rename_i F7 N7 _
      simp only [List.push_toArray] at N7
      refine turn_end (P := fun pre c => b2aInv pre c.1.2.1 c.2.1 c.2.2.2.1) (ps := fun d => [(Str.ofString "leftbits", .int d.1 d.2.1), (Str.ofString "leftchar", .int d.2.2.1 d.2.2.2)]) (G := fun _ => True) (_, _, _, _) F7 N7 (.head _) (fun q hq => .tail _ hq) (hfacts.append (.cons _ _ .nil)) trivial (List.forall_mem_cons.mpr ⟨rfl, List.forall_mem_singleton.mpr rfl⟩) ?_ ?_
      · walk_at "mine same"
      · exact inv2 hP0 hn0 hn1
    · dsimp only [kstB] at F6
      walk_at "mine whl"
      rename_i F7 N7 _
      simp only [List.push_toArray] at N7
      refine turn_end (P := fun pre c => b2aInv pre c.1.2.1 c.2.1 c.2.2.2.1) (ps := fun d => [(Str.ofString "leftbits", .int d.1 d.2.1), (Str.ofString "leftchar", .int d.2.2.1 d.2.2.2)]) (G := fun _ => True) (_, _, _, _) F7 N7 (.head _) (fun q hq => .tail _ hq) ((hfacts.append (.cons _ _ .nil)).append (.cons _ _ .nil)) trivial (List.forall_mem_cons.mpr ⟨rfl, List.forall_mem_singleton.mpr rfl⟩) ?_ ?_
      · walk_at "mine same"
      · exact inv4 hP0 hn0 hn1
  · rintro ⟨⟨us, os, e⟩, lb, tb, lc, tc⟩ u h tk - ⟨hfacts, -⟩ hP F6 N6
    dsimp only at hfacts hP
    change Fr s.heap L h _ at F6
    change News s.heap L h [(l', listOf us.toArray e)] at N6
    clear F5 N5
    dsimp only
    have hmk := kstMark
    obtain ⟨hlb, hlc0, hlc1, hlen1, hin, hfold⟩ := hP
    have hus : us.length ≤ 30 := by rw [hfacts.length]; omega
    rcases hlb with rfl | rfl | rfl
    · dsimp only [kstB] at F6
      walk_at "mine whl"
      have hb' : KBw.bInts (byteArr os) = b2a ks := by
        rw [KBa.ints_make hin, b2a, hfold]
        rfl
      exact KBa.make_K F6 N6 hh ⟨_, (N6 _ (.head _)).1, rfl, _, rfl⟩ hfacts hin (by omega) fun h' t' k F' _ _ => ret _ _ _ _ hb' F'.keep
    · dsimp only [kstB] at F6
      walk_at "mine whl"
      rename_i F7 N7
      simp only [List.push_toArray] at N7
      have hin' : KBa.In (os ++ [sgn (Builtin.bitAnd lc 3 * 2 ^ Int.toNat 4)] ++ [61] ++ [61]) := by
        intro m hm
        simp only [List.mem_append, List.mem_singleton] at hm
        rcases hm with ((hm | rfl) | rfl) | rfl
        · exact hin m hm
        · exact sgn_in _
        · omega
        · omega
      have hb' : KBw.bInts (byteArr (os ++ [sgn (Builtin.bitAnd lc 3 * 2 ^ Int.toNat 4)] ++ [61] ++ [61])) = b2a ks := by
        have e : (2 : Int) ^ Int.toNat 4 = 16 := by decide
        rw [KBa.ints_make hin', b2a, hfold, and3, e]
        rfl
      exact KBa.make_K F7 N7 hh ⟨_, (N7 _ (.head _)).1, rfl, _, rfl⟩ (((hfacts.append (.cons _ _ .nil)).append (.cons _ _ .nil)).append (.cons _ _ .nil)) hin' (by simp only [List.length_append, List.length_singleton]; omega) fun h' t' k F' _ _ => ret _ _ _ _ hb' F'.keep
    · dsimp only [kstB] at F6
      walk_at "mine whl"
      rename_i F7 N7
      simp only [List.push_toArray] at N7
      have hin' : KBa.In (os ++ [sgn (Builtin.bitAnd lc 15 * 2 ^ Int.toNat 2)] ++ [61]) := by
        intro m hm
        simp only [List.mem_append, List.mem_singleton] at hm
        rcases hm with (hm | rfl) | rfl
        · exact hin m hm
        · exact sgn_in _
        · omega
      have hb' : KBw.bInts (byteArr (os ++ [sgn (Builtin.bitAnd lc 15 * 2 ^ Int.toNat 2)] ++ [61])) = b2a ks := by
        have e : (2 : Int) ^ Int.toNat 2 = 4 := by decide
        rw [KBa.ints_make hin', b2a, hfold, and15, e]
        rfl
      exact KBa.make_K F7 N7 hh ⟨_, (N7 _ (.head _)).1, rfl, _, rfl⟩ ((hfacts.append (.cons _ _ .nil)).append (.cons _ _ .nil)) hin' (by simp only [List.length_append, List.length_singleton]; omega) fun h' t' k F' _ _ => ret _ _ _ _ hb' F'.keep
end

end
section
/-! bytes.maketrans, bytes.translate -/
section
open Builtin
set_option maxRecDepth 100000
theorem slot_translate : Slot "bytes" "translate" "bytes.translate" :=
  .of (owner := "bytes") (n := "translate") (by rw [typeLookup_type, builtinLookup_eq_fast]; kernel_rfl) (by decide +kernel) (by decide +kernel) (by decide +kernel)
    (by first | exact .inl (by decide +kernel) | exact .inr (by decide +kernel)) (by rw [isSubtype_type]; kernel_rfl)
theorem type_translate : typeOf (.builtin "bytes.translate") = pure (.type "method_descriptor") := by show builtinType _ = _; rw [builtinType_eq_fast]; kernel_rfl
theorem entry_translate : entryFor table "bytes.translate" = some Builtin.«bytes.translate» := entryFor_of_tree (by kernel_rfl)
theorem args_translate (a b : Value) : argsOk "bytes.translate" ⟨[a, b], []⟩ := by
  unfold argsOk; kernel_rfl
theorem entry_maketrans : entryFor table "bytes.maketrans" = some Builtin.«bytes.maketrans» := entryFor_of_tree (by kernel_rfl)
theorem check_maketrans (a b : Value) : checkBuiltinCall "bytes.maketrans" ⟨[a, b], []⟩ = pure () := by kernel_rfl
theorem plain_maketrans : plainId "bytes.maketrans" = true := by decide +kernel
noncomputable def transTab (f g : Array UInt8) : Array UInt8 := (f.toList.zip g.toList).foldl (fun t p => t.setIfInBounds p.1.toNat p.2) ((Array.range 256).map (·.toUInt8))
theorem transTab_size (f g : Array UInt8) : (transTab f g).size = 256 := by
  have : ∀ (l : List (UInt8 × UInt8)) (a : Array UInt8), (l.foldl (fun t p => t.setIfInBounds p.1.toNat p.2) a).size = a.size := by
    intro l
    induction l with
    | nil => intro a; rfl
    | cons p r ih => intro a; rw [List.foldl_cons, ih, Array.size_setIfInBounds]
  rw [transTab, this]
  simp
noncomputable def transOut (tb b : Array UInt8) : Array UInt8 := b.map fun c => tb.getD c.toNat c
variable {prog : Program} {w : World} {A : Around} {E : Value → Shared → Prop} {s : Shared}
theorem call_maketrans {f g : Array UInt8} {t u : Tok} {Q : Value → Shared → Prop} (hsz : f.size = g.size) (h : ∀ t' k, Q (.bytes (transTab f g) t') { s with toks := k }) :
    wpAny (model prog w) A (call (.builtin "bytes.maketrans") [.bytes f t, .bytes g u]) Q E s := by
  refine wpAny_call (codeAny_call_builtin plain_maketrans entry_maketrans ?_)
  refine wpAny_of_eq (check_maketrans _ _) ?_
  show wpAny _ _ (Bytes.bytesLike _ (.bytes f t) >>= fun r => _) _ _ s
  refine wpAny_bind (wpAny_of_eq KBd.like_eq ?_)
  refine wpAny_bind (wpAny_of_eq KBd.like_eq ?_)
  dsimp only
  have hne : (f.size != g.size) = false := by simp [hsz]
  refine KFB.if_not hne ?_
  refine wpAny_bind (wpAny_mkBytes ?_ ?_)
  · exact wpAny_pure (h _ _)
  · have := transTab_size f g
    show (transTab f g).size ≤ _
    rw [this]; decide
theorem call_translate {b tb : Array UInt8} {t u : Tok} {Q : Value → Shared → Prop} (hsz : tb.size = 256) (hb : b.size ≤ 1000) (h : ∀ t' k, Q (.bytes (transOut tb b) t') { s with toks := k }) :
    wpAny (model prog w) A (call (.builtin "bytes.translate") [.bytes b t, .bytes tb u]) Q E s := by
  refine wpAny_call_entry slot_translate (typeIs_bytes _ _ _) entry_translate ?_ (args_translate _ _)
  show wpAny _ _ (Bytes.translateM .bytes _) _ _ s
  unfold Bytes.translateM
  dsimp only
  rw [if_neg (show ¬ [Value.bytes tb u].length + ([] : List (Str × Value)).length > 2 from by simp)]
  refine KFB.if_not rfl ?_
  refine KFB.if_not rfl ?_
  refine wpAny_bind (wpAny_of_eq KBd.like_eq ?_)
  refine KFB.if_not (by simp [hsz]) ?_
  refine wpAny_bind (wpAny_pure ?_)
  refine wpAny_bind (wpAny_pure ?_)
  refine wpAny_bind (wpAny_of_eq (a := b) rfl ?_)
  have e : (Array.map (fun c => match some tb with | some t => t.getD c.toNat c | none => c) (Array.filter (fun x => !(#[] : Array UInt8).contains x) b)) = transOut tb b := by
    have ef : Array.filter (fun x => !(#[] : Array UInt8).contains x) b = b := by
      apply Array.filter_eq_self.mpr
      intro a _
      simp
    rw [ef]
    rfl
  rw [e]
  by_cases hq : (transOut tb b == b) = true
  · rw [if_pos hq]
    refine wpAny_bind (wpAny_rule ?_)
    have hs : Bytes.Kind.bytes.same (Value.bytes b t) = pure (Value.bytes b t) := by rfl
    rw [hs]
    refine wpAny_bind (wpAny_pure (wpAny_pure ⟨_, rfl, ?_⟩))
    have := h t s.toks
    rwa [eq_of_beq hq] at this
  · rw [if_neg hq]
    refine wpAny_bind (wpAny_mkBytes (wpAny_pure ⟨_, rfl, h _ _⟩) ?_)
    rw [transOut, Array.size_map, sizeLine_eq]; omega
end
noncomputable def tr (f0 f1 g0 g1 n : Int) : Int := if n = f1 then g1 else if n = f0 then g0 else n
theorem two_of {f : Array UInt8} {a b : Int} (h : KBw.bInts f = [a, b]) : ∃ x y : UInt8, f = #[x, y] ∧ (x.toNat : Int) = a ∧ (y.toNat : Int) = b := by
  obtain ⟨l⟩ := f
  match l, h with
  | [x, y], h =>
    simp only [KBw.bInts, List.map_cons, List.map_nil, List.cons.injEq, and_true] at h
    exact ⟨x, y, rfl, h.1, h.2⟩
  | [], h => simp [KBw.bInts] at h
  | [_], h => simp [KBw.bInts] at h
  | _ :: _ :: _ :: _, h => simp [KBw.bInts] at h
theorem pair_tab (x0 x1 y0 y1 : UInt8) (t : Array UInt8) : (#[x0, x1].toList.zip #[y0, y1].toList).foldl (fun t p => t.setIfInBounds p.1.toNat p.2) t = (t.setIfInBounds x0.toNat y0).setIfInBounds x1.toNat y1 := rfl
theorem tab_at (x0 x1 y0 y1 c : UInt8) : (transTab #[x0, x1] #[y0, y1]).getD c.toNat c = if c = x1 then y1 else if c = x0 then y0 else c := by
  have hc := c.toNat_lt
  have h0 := x0.toNat_lt
  have h1 := x1.toNat_lt
  have e : transTab #[x0, x1] #[y0, y1] = (((Array.range 256).map (·.toUInt8)).setIfInBounds x0.toNat y0).setIfInBounds x1.toNat y1 := pair_tab x0 x1 y0 y1 _
  have ei : ((Array.range 256).map (·.toUInt8))[c.toNat]? = some c := by
    simp only [Array.getElem?_map, Array.getElem?_range]
    rw [if_pos (by omega)]
    simp
  have n0 : x0.toNat = c.toNat ↔ c = x0 := ⟨fun q => (UInt8.toNat_inj.mp q).symm, fun q => by rw [q]⟩
  have n1 : x1.toNat = c.toNat ↔ c = x1 := ⟨fun q => (UInt8.toNat_inj.mp q).symm, fun q => by rw [q]⟩
  rw [e, Array.getD_eq_getD_getElem?, Array.getElem?_setIfInBounds]
  by_cases q1 : c = x1
  · rw [if_pos (n1.mpr q1), if_pos q1]
    simp only [Array.size_setIfInBounds, Array.size_map, Array.size_range]
    rw [if_pos (by omega)]
    rfl
  · rw [if_neg (fun z => q1 (n1.mp z)), if_neg q1, Array.getElem?_setIfInBounds]
    by_cases q0 : c = x0
    · rw [if_pos (n0.mpr q0), if_pos q0]
      simp only [Array.size_map, Array.size_range]
      rw [if_pos (by omega)]
      rfl
    · rw [if_neg (fun z => q0 (n0.mp z)), if_neg q0, ei]
      rfl
theorem trans_ints {f g b : Array UInt8} {f0 f1 g0 g1 : Int} (hf : KBw.bInts f = [f0, f1]) (hg : KBw.bInts g = [g0, g1]) : KBw.bInts (transOut (transTab f g) b) = (KBw.bInts b).map (tr f0 f1 g0 g1) := by
  obtain ⟨x0, x1, rfl, rfl, rfl⟩ := two_of hf
  obtain ⟨y0, y1, rfl, rfl, rfl⟩ := two_of hg
  obtain ⟨l⟩ := b
  simp only [KBw.bInts, transOut, List.map_toArray, List.map_map]
  apply List.map_congr_left
  intro c _
  simp only [Function.comp]
  rw [tab_at]
  unfold tr
  have n0 : ((c.toNat : Int) = (x0.toNat : Int)) ↔ c = x0 := ⟨fun q => UInt8.toNat_inj.mp (by exact_mod_cast q), fun q => by rw [q]⟩
  have n1 : ((c.toNat : Int) = (x1.toNat : Int)) ↔ c = x1 := ⟨fun q => UInt8.toNat_inj.mp (by exact_mod_cast q), fun q => by rw [q]⟩
  simp only [n0, n1]
  split
  · rfl
  · split <;> rfl

end
theorem find_maketrans : findCls [] (.type "bytes") (.type "type") (Str.ofString "maketrans") = some (.val (.builtin "bytes.maketrans")) := by kernel_rfl
theorem typeOf_bytesT : typeOf (.type "bytes") = pure (.type "type") := by kernel_rfl
theorem stub_bytes : Manifest.isStub "bytes" = false := by decide +kernel
theorem handed_maketrans : handedIn (.builtin "bytes.maketrans") = true := by decide +kernel
theorem nil_in (h : Heap) : Frag.In [] h := fun _ _ e => by cases e
theorem meth_maketrans {prog : Program} {w : World} {A : Around} {E : Value → Shared → Prop} {s : Shared} {h₀ : Heap} {L : Addr} {m : Str → Option Value} {pl : Sem Bool} {Q : Value × List Value → Shared → Prop} (F : Fr h₀ L s.heap m)
    (h : Q (.builtin "bytes.maketrans", []) { s with toks := s.toks + 1 }) : wpAny (model prog w) A (getMethod (.type "bytes") (Str.ofString "maketrans") pl) Q E s := by
  with_reducible exact method_type (T := "bytes") (name := Str.ofString "maketrans") (v := .builtin "bytes.maketrans") F (nil_in h₀) typeOf_bytesT stub_bytes find_maketrans handed_maketrans h
theorem b2a_step_length (c : List Int × Int × Int) (n : Int) : (b2aStep c n).1.length ≤ c.1.length + 2 := by
  unfold b2aStep
  split
  · simp
  · split <;> simp
theorem b2a_fold_length : ∀ (ns : List Int) (c : List Int × Int × Int), (ns.foldl b2aStep c).1.length ≤ c.1.length + 2 * ns.length
  | [], c => by simp
  | n :: r, c => by
    rw [List.foldl_cons]
    have h1 := b2a_fold_length r (b2aStep c n)
    have h2 := b2a_step_length c n
    simp only [List.length_cons]
    omega
theorem b2a_length (ns : List Int) : (b2a ns).length ≤ 2 * ns.length + 3 := by
  have h := b2a_fold_length ns ([], 0, 0)
  unfold b2a b2aEnd
  split
  · simp only [List.length_append, List.length_singleton, List.length_nil] at *; omega
  · split
    · simp only [List.length_append, List.length_singleton, List.length_nil] at *; omega
    · simp only [List.length_nil] at *; omega
theorem two_size {g : Array UInt8} {a b : Int} {x y : UInt8} (h : KBw.bInts g = [a, b]) : (#[x, y] : Array UInt8).size = g.size := by
  obtain ⟨_, _, rfl, _⟩ := two_of h
  rfl
local macro_rules | `(tactic| walk_at "getMethod bytes") => `(tactic| (refine KBd.method_of _ (typeIs_bytes _ _ _) slot_translate type_translate KBd.noRef ?_))
local macro_rules | `(tactic| walk_at "call builtin:bytes.maketrans") => `(tactic| (refine call_maketrans (by first | exact two_size (by assumption) | exact (two_size (by assumption)).symm) ?_; intro _ _))
local macro_rules | `(tactic| walk_at "call builtin:bytes.translate") => `(tactic| (refine call_translate (transTab_size _ _) (by assumption) ?_; intro _ _))
local macro_rules | `(tactic| walk_at "getMethod type:bytes") => `(tactic| (refine meth_maketrans (by assumption) ?_))
section
variable {pr : Program} {w : World} {p : Program} {loose : List Str} {mean : ExcName → Option Value} {mg mb : Str → Option Value} {A : Around} {base : Heap} {outer : List Env} {s : Shared} {R : Result → Shared → Prop}

set_option maxRecDepth 100000 in
set_option maxHeartbeats 8000000 in
theorem call_enc {b a2 : Array UInt8} {ks : List Int} {t u : Tok} {c0 c1 : Int} (C : Cx w p loose mean mg mb A base outer s.heap) (hd : A.depth ≤ 304) (hu : A.units ≤ 80) (hb : KBw.bInts b = ks) (hlen : ks.length ≤ 15) (ha2 : KBw.bInts a2 = [c0, c1])
    (ret : ∀ h' tk' b' t', KBw.bInts b' = (b2a ks).map (tr 43 47 c0 c1) → s.heap.StaysIn h' → R (.ok (.ret (.bytes b' t'))) { s with heap := h', toks := tk' }) :
    codeAny (model pr w) A (.call (.ref 101) ⟨[.bytes b t, .bytes a2 u], []⟩) R s := by
  k_with_none
  have B := C.B
  have X := C.X
  have T := C.T
  have hh := C.hh
  refine enter [(Str.ofString "s", .bytes b t), (Str.ofString "altchars", .bytes a2 u)] C (by k_is) (by k_is) (binds_K X rfl (by k_is) rfl rfl rfl) (locs rfl) ?_
  intro L h₁ F N
  walk_at "mine go"
  refine wpAny_call (kw := [(Str.ofString "newline", .bool false)]) (call_b2a (Cx.of B F X T (Around.frames_deeper B.stack) rfl rfl hh (Nat.succ_le_of_lt (by omega)) (by show A.units + 3 ≤ 100; omega)) (Nat.succ_le_of_lt (by omega)) (by show A.units + 3 ≤ 90; omega) hb hlen fun h2 tk2 e2 t2 he2 hk2 => ?_)
  have F2 := fr_after F hk2
  have N2 := news_after N hk2
  clear F N
  dsimp only
  have hsz : e2.size ≤ 1000 := by
    rw [← KBw.ints_length, he2]
    have := b2a_length ks
    omega
  walk_at "mine go"
  refine ret _ _ _ _ ?_ (Fr.keep (by assumption))
  rw [trans_ints (f0 := 43) (f1 := 47) (by decide) ha2, he2]
end

section
/-- the state between two signs: the octets, the place in the four, the bits left, the pads -/
noncomputable def a2bStep (c : List Int × Int × Int × Int) (n : Int) : List Int × Int × Int × Int :=
  if n = 61 then (c.1, c.2.1, c.2.2.1, c.2.2.2 + 1) else if 64 ≤ b64val n then c else
  if c.2.1 = 0 then (c.1, 1, b64val n, 0) else if c.2.1 = 1 then (c.1 ++ [c.2.2.1 * 4 + b64val n / 16], 2, b64val n % 16, 0) else
  if c.2.1 = 2 then (c.1 ++ [c.2.2.1 * 16 + b64val n / 4], 3, b64val n % 4, 0) else (c.1 ++ [c.2.2.1 * 64 + b64val n], 0, 0, 0)
noncomputable def a2bInv (pre os : List Int) (q lc pads i : Int) : Prop :=
  (q = 0 ∨ q = 1 ∨ q = 2 ∨ q = 3) ∧ 0 ≤ lc ∧ lc < 64 ∧ (q = 2 → lc < 16) ∧ (q = 3 → lc < 4) ∧ 0 ≤ pads ∧ pads ≤ (pre.length : Int) ∧ 0 ≤ i ∧ i ≤ (pre.length : Int) ∧ os.length ≤ pre.length ∧ (∀ n ∈ os, 0 ≤ n ∧ n < 256) ∧ pre.foldl a2bStep ([], 0, 0, 0) = (os, q, lc, pads)
theorem b64val_in (n : Int) : 0 ≤ b64val n ∧ b64val n ≤ 64 := by
  unfold b64val
  repeat' split
  all_goals omega
theorem a2b_next {pre os os1 : List Int} {q lc pads i q1 lc1 p1 n : Int} (h : a2bInv pre os q lc pads i) (e : a2bStep (os, q, lc, pads) n = (os1, q1, lc1, p1))
    (hq : q1 = 0 ∨ q1 = 1 ∨ q1 = 2 ∨ q1 = 3) (hl0 : 0 ≤ lc1) (hl1 : lc1 < 64) (hl2 : q1 = 2 → lc1 < 16) (hl3 : q1 = 3 → lc1 < 4) (hp0 : 0 ≤ p1) (hp1 : p1 ≤ pads + 1) (hlen : os1.length ≤ os.length + 1) (hin : ∀ n ∈ os1, 0 ≤ n ∧ n < 256) :
    a2bInv (pre ++ [n]) os1 q1 lc1 p1 (i + 1) := by
  obtain ⟨_, _, _, _, _, _, hp, hi0, hi1, hl, _, hf⟩ := h
  have el : (pre ++ [n]).length = pre.length + 1 := by simp
  refine ⟨hq, hl0, hl1, hl2, hl3, hp0, by rw [el]; omega, by omega, by rw [el]; omega, by rw [el]; omega, hin, ?_⟩
  rw [List.foldl_append, hf]
  exact e
theorem in_more {os : List Int} {x : Int} (h : ∀ n ∈ os, 0 ≤ n ∧ n < 256) (h0 : 0 ≤ x) (h1 : x < 256) : ∀ n ∈ os ++ [x], 0 ≤ n ∧ n < 256 := by
  intro m hm
  rcases List.mem_append.mp hm with hm | hm
  · exact h m hm
  · rw [List.mem_singleton.mp hm]; exact ⟨h0, h1⟩
theorem pads_up {p : Int} (h : 0 ≤ p) : 0 ≤ p + 1 := Int.add_nonneg h (by decide)
theorem ia61 {pre os : List Int} {q lc pads i n : Int} (h : a2bInv pre os q lc pads i) (hn : n = 61) : a2bInv (pre ++ [n]) os q lc (pads + 1) (i + 1) := by
  have h0 := h
  obtain ⟨hq, hl0, hl1, hl2, hl3, hp0, hp, hi0, hi1, hl, hin, hf⟩ := h
  exact a2b_next h0 (by rw [a2bStep, if_pos hn]) hq hl0 hl1 hl2 hl3 (pads_up hp0) (Int.le_refl _) (Nat.le_succ _) hin
theorem iaSkip {pre os : List Int} {q lc pads i n : Int} (h : a2bInv pre os q lc pads i) (hn : n ≠ 61) (hv : 64 ≤ b64val n) : a2bInv (pre ++ [n]) os q lc pads (i + 1) := by
  have h0 := h
  obtain ⟨hq, hl0, hl1, hl2, hl3, hp0, hp, hi0, hi1, hl, hin, hf⟩ := h
  exact a2b_next h0 (by rw [a2bStep, if_neg hn, if_pos hv]) hq hl0 hl1 hl2 hl3 hp0 (Int.le_add_of_nonneg_right (by decide)) (Nat.le_succ _) hin
theorem ia0 {pre os : List Int} {lc pads i n : Int} (h : a2bInv pre os 0 lc pads i) (hn : n ≠ 61) (hv : ¬ 64 ≤ b64val n) : a2bInv (pre ++ [n]) os 1 (b64val n) 0 (i + 1) := by
  have h0 := h
  obtain ⟨hq, hl0, hl1, hl2, hl3, hp0, hp, hi0, hi1, hl, hin, hf⟩ := h
  have hb := b64val_in n
  exact a2b_next h0 (by rw [a2bStep, if_neg hn, if_neg hv]; rfl) (.inr (.inl rfl)) hb.1 (Int.not_le.mp hv) (fun h => nomatch h) (fun h => nomatch h) (Int.le_refl _) (pads_up hp0) (Nat.le_succ _) hin
theorem orr {m : Nat} {k x y : Int} (hy : y = 2 ^ m) (h0 : 0 ≤ x) (h1 : x < y) : Builtin.bitOr (k * 2 ^ m) x = k * y + x := by
  subst hy
  exact or_high m k x h0 h1
theorem ia1 {pre os : List Int} {lc pads i n : Int} (h : a2bInv pre os 1 lc pads i) (hn : n ≠ 61) (hv : ¬ 64 ≤ b64val n) : a2bInv (pre ++ [n]) (os ++ [Builtin.bitOr (lc * 2 ^ Int.toNat 2) ((b64val n).fdiv (2 ^ Int.toNat 4))]) 2 (Builtin.bitAnd (b64val n) 15) 0 (i + 1) := by
  have h0 := h
  obtain ⟨hq, hl0, hl1, hl2, hl3, hp0, hp, hi0, hi1, hl, hin, hf⟩ := h
  have hb := b64val_in n
  have e1 : (b64val n).fdiv (2 ^ Int.toNat 4) = b64val n / 16 := Int.fdiv_eq_ediv_of_nonneg _ (by decide)
  have d := dlt (a := 16) (b := 4) hb.1 (by decide) (Int.not_le.mp hv)
  have e2 : Builtin.bitOr (lc * 2 ^ Int.toNat 2) (b64val n / 16) = lc * 4 + b64val n / 16 := orr (m := 2) (by decide) d.1 d.2
  have r := rlt (b64val n) (a := 16) (by decide)
  have u := two ⟨hl0, hl1⟩ d
  rw [e1, e2, and15]
  exact a2b_next h0 (by rw [a2bStep, if_neg hn, if_neg hv]; rfl) (.inr (.inr (.inl rfl))) r.1 (Int.lt_trans r.2 (by decide)) (fun _ => r.2) (fun h => nomatch h) (Int.le_refl _) (pads_up hp0) (by simp) (in_more hin u.1 u.2)
theorem ia2 {pre os : List Int} {lc pads i n : Int} (h : a2bInv pre os 2 lc pads i) (hn : n ≠ 61) (hv : ¬ 64 ≤ b64val n) : a2bInv (pre ++ [n]) (os ++ [Builtin.bitOr (lc * 2 ^ Int.toNat 4) ((b64val n).fdiv (2 ^ Int.toNat 2))]) 3 (Builtin.bitAnd (b64val n) 3) 0 (i + 1) := by
  have h0 := h
  obtain ⟨hq, hl0, hl1, hl2, hl3, hp0, hp, hi0, hi1, hl, hin, hf⟩ := h
  have hb := b64val_in n
  have e1 : (b64val n).fdiv (2 ^ Int.toNat 2) = b64val n / 4 := Int.fdiv_eq_ediv_of_nonneg _ (by decide)
  have d := dlt (a := 4) (b := 16) hb.1 (by decide) (Int.not_le.mp hv)
  have e2 : Builtin.bitOr (lc * 2 ^ Int.toNat 4) (b64val n / 4) = lc * 16 + b64val n / 4 := orr (m := 4) (by decide) d.1 d.2
  have r := rlt (b64val n) (a := 4) (by decide)
  have u := two ⟨hl0, hl2 rfl⟩ d
  rw [e1, e2, and3]
  exact a2b_next h0 (by rw [a2bStep, if_neg hn, if_neg hv]; rfl) (.inr (.inr (.inr rfl))) r.1 (Int.lt_trans r.2 (by decide)) (fun h => nomatch h) (fun _ => r.2) (Int.le_refl _) (pads_up hp0) (by simp) (in_more hin u.1 u.2)
theorem ia3 {pre os : List Int} {lc pads i n : Int} (h : a2bInv pre os 3 lc pads i) (hn : n ≠ 61) (hv : ¬ 64 ≤ b64val n) : a2bInv (pre ++ [n]) (os ++ [Builtin.bitOr (lc * 2 ^ Int.toNat 6) (b64val n)]) 0 0 0 (i + 1) := by
  have h0 := h
  obtain ⟨hq, hl0, hl1, hl2, hl3, hp0, hp, hi0, hi1, hl, hin, hf⟩ := h
  have hb := b64val_in n
  have e2 : Builtin.bitOr (lc * 2 ^ Int.toNat 6) (b64val n) = lc * 64 + b64val n := orr (m := 6) (by decide) hb.1 (Int.not_le.mp hv)
  have u := two ⟨hl0, hl3 rfl⟩ ⟨hb.1, Int.not_le.mp hv⟩
  rw [e2]
  exact a2b_next h0 (by rw [a2bStep, if_neg hn, if_neg hv]; rfl) (.inl rfl) (Int.le_refl _) (by decide) (fun h => nomatch h) (fun h => nomatch h) (Int.le_refl _) (pads_up hp0) (by simp) (in_more hin u.1 u.2)
local macro_rules | `(tactic| walk_at "call type:bytes") => `(tactic| fail "later")
local macro_rules | `(tactic| walk_at "binaryOp LShift int int") => `(tactic| (refine lshift_int_small (by decide) (by decide) (by omega) ?_))
section
variable {pr : Program} {w : World} {p : Program} {loose : List Str} {mean : ExcName → Option Value} {mg mb : Str → Option Value} {A : Around} {base : Heap} {outer : List Env} {s : Shared} {R : Result → Shared → Prop}

set_option maxRecDepth 100000 in
set_option maxHeartbeats 8000000 in
theorem call_a2b {b : Array UInt8} {ks os' : List Int} {q' lc' p' : Int} {t : Tok} (C : Cx w p loose mean mg mb A base outer s.heap) (hd : A.depth ≤ 306) (hu : A.units ≤ 90) (hb : KBw.bInts b = ks) (hlen : ks.length ≤ 40)
    (hend : ks.foldl a2bStep ([], 0, 0, 0) = (os', q', lc', p')) (hq1 : q' ≠ 1) (hq2 : q' = 0 ∨ 4 ≤ q' + p')
    (ret : ∀ h' tk' b' t', KBw.bInts b' = os' → s.heap.StaysIn h' → R (.ok (.ret (.bytes b' t'))) { s with heap := h', toks := tk' }) :
    codeAny (model pr w) A (.call (.ref 85) ⟨[.bytes b t], [(Str.ofString "strict_mode", .bool false)]⟩) R s := by
  k_with_none
  have B := C.B
  have X := C.X
  have T := C.T
  have hh := C.hh
  refine enter [(Str.ofString "data", .bytes b t), (Str.ofString "strict_mode", .bool false)] C (by k_is) (by k_is) (BindsTo.of_eq rfl) (locs rfl) ?_
  intro L h₁ F N
  walk_at "mine go"
  refine wpAny_call (call_ascb (Cx.of B F X T (Around.frames_deeper B.stack) rfl rfl hh (Nat.succ_le_of_lt (by omega)) (by show A.units + 3 ≤ 100; omega)) fun h2 tk2 t2 hk2 => ?_)
  have F2 := fr_after F hk2
  have N2 := news_after N hk2
  clear F N
  dsimp only
  walk_at "mine go"
  rename_i h3 F3 N3
  refine wpAny_call (call_truth (Cx.of B F3 X T (Around.frames_deeper B.stack) rfl rfl hh (Nat.succ_le_of_lt (by omega)) (by show A.units + 3 ≤ 100; omega)) fun h4 tk4 hk4 => ?_)
  have F4 := fr_after F3 hk4
  have N4 := news_after N3 hk4
  clear F3 N3
  dsimp only
  walk_at "mine go"
  rename_i l' _ _ _ tq _ tl _ tp _ ti h5 F5 N5
  refine KStb.kst_bytes (σ := (List Value × List Int × Nat) × (Int × Tok × Int × Tok × Int × Tok × Int × Tok)) (fun c => [(l', listOf c.1.1.toArray c.1.2.2)]) (fun c => [(Str.ofString "quad_pos", .int c.2.1 c.2.2.1), (Str.ofString "leftchar", .int c.2.2.2.1 c.2.2.2.2.1), (Str.ofString "pads", .int c.2.2.2.2.2.1 c.2.2.2.2.2.2.1), (Str.ofString "i", .int c.2.2.2.2.2.2.2.1 c.2.2.2.2.2.2.2.2)]) (fun c => IntsAre c.1.1 c.1.2.1 ∧ True) [] (fun pre c => a2bInv pre c.1.2.1 c.2.1 c.2.2.2.1 c.2.2.2.2.2.1 c.2.2.2.2.2.2.2.1) (([], [], 0), (0, tq, 0, tl, 0, tp, 0, ti)) hb rfl hh F5 N5 ⟨IntsAre.nil, trivial⟩ ?_ ?_ ?_ ?_
  · exact List.forall_mem_cons.mpr ⟨rfl, List.forall_mem_cons.mpr ⟨rfl, List.forall_mem_cons.mpr ⟨rfl, List.forall_mem_singleton.mpr rfl⟩⟩⟩
  · exact ⟨.inl rfl, Int.le_refl _, (by decide : (0 : Int) < 64), (fun _ => (by decide : (0 : Int) < 16)), (fun _ => (by decide : (0 : Int) < 4)), Int.le_refl _, Int.le_refl _, Int.le_refl _, Int.le_refl _, Nat.le_refl _, (fun n hn => (List.not_mem_nil hn).elim), rfl⟩
  · rintro ⟨⟨us, os, e⟩, q, tq1, lc, tl1, pads, tp1, i, ti1⟩ pre post n tn u h tk own hsp hlt hn0 hn1 hoff ⟨hfacts, -⟩ hP F6 N6
    dsimp only at hfacts hP
    change Fr s.heap L h _ at F6
    change News s.heap L h ((l', listOf us.toArray e) :: own) at N6
    clear F5 N5
    dsimp only
    have hmk := kstMark
    have hP0 := hP
    obtain ⟨hq, hl0, hl1, hl2, hl3, hp0, hp1, hi0, hi1, hlen1, hin, hfold⟩ := hP
    have hus : us.length ≤ 40 := by rw [hfacts.length]; omega
    have hpr : pre.length ≤ 40 := by omega
    dsimp only [kstB] at F6
    walk_at "mine go"
    · skip
      rename_i F7 N7
      refine turn_end (P := fun pre c => a2bInv pre c.1.2.1 c.2.1 c.2.2.2.1 c.2.2.2.2.2.1 c.2.2.2.2.2.2.2.1) (ps := fun d => [(Str.ofString "quad_pos", .int d.1 d.2.1), (Str.ofString "leftchar", .int d.2.2.1 d.2.2.2.1), (Str.ofString "pads", .int d.2.2.2.2.1 d.2.2.2.2.2.1), (Str.ofString "i", .int d.2.2.2.2.2.2.1 d.2.2.2.2.2.2.2)]) (G := fun _ => True) (_, _, _, _, _, _, _, _) F7 N7 (.head _) (fun q hq => .tail _ hq) hfacts trivial (List.forall_mem_cons.mpr ⟨rfl, List.forall_mem_cons.mpr ⟨rfl, List.forall_mem_cons.mpr ⟨rfl, List.forall_mem_singleton.mpr rfl⟩⟩⟩) ?_ ?_
      · walk_at "mine same"
      · exact ia61 hP0 (by assumption)
    · skip
      rename_i F7 N7
      refine turn_end (P := fun pre c => a2bInv pre c.1.2.1 c.2.1 c.2.2.2.1 c.2.2.2.2.2.1 c.2.2.2.2.2.2.2.1) (ps := fun d => [(Str.ofString "quad_pos", .int d.1 d.2.1), (Str.ofString "leftchar", .int d.2.2.1 d.2.2.2.1), (Str.ofString "pads", .int d.2.2.2.2.1 d.2.2.2.2.2.1), (Str.ofString "i", .int d.2.2.2.2.2.2.1 d.2.2.2.2.2.2.2)]) (G := fun _ => True) (_, _, _, _, _, _, _, _) F7 N7 (.head _) (fun q hq => .tail _ hq) hfacts trivial (List.forall_mem_cons.mpr ⟨rfl, List.forall_mem_cons.mpr ⟨rfl, List.forall_mem_cons.mpr ⟨rfl, List.forall_mem_singleton.mpr rfl⟩⟩⟩) ?_ ?_
      · walk_at "mine same"
      · exact ia61 hP0 (by assumption)
    · skip
      rename_i F7 N7
      refine turn_end (P := fun pre c => a2bInv pre c.1.2.1 c.2.1 c.2.2.2.1 c.2.2.2.2.2.1 c.2.2.2.2.2.2.2.1) (ps := fun d => [(Str.ofString "quad_pos", .int d.1 d.2.1), (Str.ofString "leftchar", .int d.2.2.1 d.2.2.2.1), (Str.ofString "pads", .int d.2.2.2.2.1 d.2.2.2.2.2.1), (Str.ofString "i", .int d.2.2.2.2.2.2.1 d.2.2.2.2.2.2.2)]) (G := fun _ => True) (_, _, _, _, _, _, _, _) F7 N7 (.head _) (fun q hq => .tail _ hq) hfacts trivial (List.forall_mem_cons.mpr ⟨rfl, List.forall_mem_cons.mpr ⟨rfl, List.forall_mem_cons.mpr ⟨rfl, List.forall_mem_singleton.mpr rfl⟩⟩⟩) ?_ ?_
      · walk_at "mine same"
      · exact ia61 hP0 (by assumption)
    · rename_i h61
      refine wpAny_call (call_b64val (Cx.of B F6 X T (Around.frames_deeper B.stack) rfl rfl hh (Nat.succ_le_of_lt (by omega)) (by show A.units + 3 ≤ 100; omega)) fun h8 tk8 t8 v8 hv8 hk8 => ?_)
      have F8 := fr_after F6 hk8
      have N8 := news_after N6 hk8
      clear F6 N6
      dsimp only
      have hbv := b64val_in n
      by_cases hv64 : 64 ≤ v8
      · walk_at "mine go"
        rename_i F7 N7
        refine turn_end (P := fun pre c => a2bInv pre c.1.2.1 c.2.1 c.2.2.2.1 c.2.2.2.2.2.1 c.2.2.2.2.2.2.2.1) (ps := fun d => [(Str.ofString "quad_pos", .int d.1 d.2.1), (Str.ofString "leftchar", .int d.2.2.1 d.2.2.2.1), (Str.ofString "pads", .int d.2.2.2.2.1 d.2.2.2.2.2.1), (Str.ofString "i", .int d.2.2.2.2.2.2.1 d.2.2.2.2.2.2.2)]) (G := fun _ => True) (_, _, _, _, _, _, _, _) F7 N7 (.head _) (fun q hq => .tail _ hq) hfacts trivial (List.forall_mem_cons.mpr ⟨rfl, List.forall_mem_cons.mpr ⟨rfl, List.forall_mem_cons.mpr ⟨rfl, List.forall_mem_singleton.mpr rfl⟩⟩⟩) ?_ ?_
        · walk_at "mine same"
        · exact iaSkip hP0 h61 (hv8 ▸ hv64)
      · walk_at "mine cont"
        walk_at "mine one"
        rename Fr _ _ _ _ => F9
        rename News _ _ _ _ => N9
        refine NxtAt.cons F9 N9 ?_ ?_
        · walk_at "mine go"
          all_goals (
            rename Fr _ _ _ _ => Fq
            rename News _ _ _ _ => Nq
            exact NxtAt.intro Fq Nq (fun q hq => hq) rfl)
        intro h10 tk10 F10 N10
        clear F9 N9
        (try dsimp only)
        rcases hq with rfl | rfl | rfl | rfl
        · walk_at "mine go"
          rename_i F7 N7
          refine turn_end (P := fun pre c => a2bInv pre c.1.2.1 c.2.1 c.2.2.2.1 c.2.2.2.2.2.1 c.2.2.2.2.2.2.2.1) (ps := fun d => [(Str.ofString "quad_pos", .int d.1 d.2.1), (Str.ofString "leftchar", .int d.2.2.1 d.2.2.2.1), (Str.ofString "pads", .int d.2.2.2.2.1 d.2.2.2.2.2.1), (Str.ofString "i", .int d.2.2.2.2.2.2.1 d.2.2.2.2.2.2.2)]) (G := fun _ => True) (_, _, _, _, _, _, _, _) F7 N7 (.head _) (fun q hq => .tail _ hq) hfacts trivial (List.forall_mem_cons.mpr ⟨rfl, List.forall_mem_cons.mpr ⟨rfl, List.forall_mem_cons.mpr ⟨rfl, List.forall_mem_singleton.mpr rfl⟩⟩⟩) ?_ ?_
          · walk_at "mine same"
          · exact by subst hv8; exact ia0 hP0 h61 hv64
        · walk_at "mine go"
          rename_i F7 N7
          simp only [List.push_toArray] at N7
          refine turn_end (P := fun pre c => a2bInv pre c.1.2.1 c.2.1 c.2.2.2.1 c.2.2.2.2.2.1 c.2.2.2.2.2.2.2.1) (ps := fun d => [(Str.ofString "quad_pos", .int d.1 d.2.1), (Str.ofString "leftchar", .int d.2.2.1 d.2.2.2.1), (Str.ofString "pads", .int d.2.2.2.2.1 d.2.2.2.2.2.1), (Str.ofString "i", .int d.2.2.2.2.2.2.1 d.2.2.2.2.2.2.2)]) (G := fun _ => True) (_, _, _, _, _, _, _, _) F7 N7 (.head _) (fun q hq => .tail _ hq) (hfacts.append (.cons _ _ .nil)) trivial (List.forall_mem_cons.mpr ⟨rfl, List.forall_mem_cons.mpr ⟨rfl, List.forall_mem_cons.mpr ⟨rfl, List.forall_mem_singleton.mpr rfl⟩⟩⟩) ?_ ?_
          · walk_at "mine same"
          · exact by subst hv8; exact ia1 hP0 h61 hv64
        · walk_at "mine go"
          rename_i F7 N7
          simp only [List.push_toArray] at N7
          refine turn_end (P := fun pre c => a2bInv pre c.1.2.1 c.2.1 c.2.2.2.1 c.2.2.2.2.2.1 c.2.2.2.2.2.2.2.1) (ps := fun d => [(Str.ofString "quad_pos", .int d.1 d.2.1), (Str.ofString "leftchar", .int d.2.2.1 d.2.2.2.1), (Str.ofString "pads", .int d.2.2.2.2.1 d.2.2.2.2.2.1), (Str.ofString "i", .int d.2.2.2.2.2.2.1 d.2.2.2.2.2.2.2)]) (G := fun _ => True) (_, _, _, _, _, _, _, _) F7 N7 (.head _) (fun q hq => .tail _ hq) (hfacts.append (.cons _ _ .nil)) trivial (List.forall_mem_cons.mpr ⟨rfl, List.forall_mem_cons.mpr ⟨rfl, List.forall_mem_cons.mpr ⟨rfl, List.forall_mem_singleton.mpr rfl⟩⟩⟩) ?_ ?_
          · walk_at "mine same"
          · exact by subst hv8; exact ia2 hP0 h61 hv64
        · walk_at "mine go"
          rename_i F7 N7
          simp only [List.push_toArray] at N7
          refine turn_end (P := fun pre c => a2bInv pre c.1.2.1 c.2.1 c.2.2.2.1 c.2.2.2.2.2.1 c.2.2.2.2.2.2.2.1) (ps := fun d => [(Str.ofString "quad_pos", .int d.1 d.2.1), (Str.ofString "leftchar", .int d.2.2.1 d.2.2.2.1), (Str.ofString "pads", .int d.2.2.2.2.1 d.2.2.2.2.2.1), (Str.ofString "i", .int d.2.2.2.2.2.2.1 d.2.2.2.2.2.2.2)]) (G := fun _ => True) (_, _, _, _, _, _, _, _) F7 N7 (.head _) (fun q hq => .tail _ hq) (hfacts.append (.cons _ _ .nil)) trivial (List.forall_mem_cons.mpr ⟨rfl, List.forall_mem_cons.mpr ⟨rfl, List.forall_mem_cons.mpr ⟨rfl, List.forall_mem_singleton.mpr rfl⟩⟩⟩) ?_ ?_
          · walk_at "mine same"
          · exact by subst hv8; exact ia3 hP0 h61 hv64
  · rintro ⟨⟨us, os, e⟩, q, tq1, lc, tl1, pads, tp1, i, ti1⟩ u h tk - ⟨hfacts, -⟩ hP F6 N6
    dsimp only at hfacts hP
    change Fr s.heap L h _ at F6
    change News s.heap L h [(l', listOf us.toArray e)] at N6
    clear F5 N5
    dsimp only
    have hmk := kstMark
    obtain ⟨hq, hl0, hl1, hl2, hl3, hp0, hp1, hi0, hi1, hlen1, hin, hfold⟩ := hP
    have hus : us.length ≤ 40 := by rw [hfacts.length]; omega
    rw [hend] at hfold
    simp only [Prod.mk.injEq] at hfold
    obtain ⟨rfl, rfl, rfl, rfl⟩ := hfold
    dsimp only [kstB] at F6
    rcases hq with rfl | rfl | rfl | rfl
    · walk_at "mine go"
      exact KBa.make_K F6 N6 hh ⟨_, (N6 _ (.head _)).1, rfl, _, rfl⟩ hfacts hin (by omega) fun h' t' k F' _ _ => ret _ _ _ _ (KBa.ints_make hin) F'.keep
    · exact absurd rfl hq1
    · have hq3 : 4 ≤ 2 + p' := by omega
      walk_at "mine go"
      exact KBa.make_K F6 N6 hh ⟨_, (N6 _ (.head _)).1, rfl, _, rfl⟩ hfacts hin (by omega) fun h' t' k F' _ _ => ret _ _ _ _ (KBa.ints_make hin) F'.keep
    · have hq3 : 4 ≤ 3 + p' := by omega
      walk_at "mine go"
      exact KBa.make_K F6 N6 hh ⟨_, (N6 _ (.head _)).1, rfl, _, rfl⟩ hfacts hin (by omega) fun h' t' k F' _ _ => ret _ _ _ _ (KBa.ints_make hin) F'.keep
end

end
section
theorem two_size' {g : Array UInt8} {a b : Int} {x y : UInt8} (h : KBw.bInts g = [a, b]) : g.size = (#[x, y] : Array UInt8).size := (two_size h).symm
section
variable {pr : Program} {w : World} {p : Program} {loose : List Str} {mean : ExcName → Option Value} {mg mb : Str → Option Value} {A : Around} {base : Heap} {outer : List Env} {s : Shared} {R : Result → Shared → Prop}

set_option maxRecDepth 100000 in
set_option maxHeartbeats 8000000 in
theorem call_dec {b a2 : Array UInt8} {ks os' : List Int} {q' lc' p' : Int} {t u : Tok} {c0 c1 : Int} (C : Cx w p loose mean mg mb A base outer s.heap) (hd : A.depth ≤ 304) (hu : A.units ≤ 80) (hb : KBw.bInts b = ks) (hlen : ks.length ≤ 40) (ha2 : KBw.bInts a2 = [c0, c1])
    (hend : (ks.map (tr c0 c1 43 47)).foldl a2bStep ([], 0, 0, 0) = (os', q', lc', p')) (hq1 : q' ≠ 1) (hq2 : q' = 0 ∨ 4 ≤ q' + p')
    (ret : ∀ h' tk' b' t', KBw.bInts b' = os' → s.heap.StaysIn h' → R (.ok (.ret (.bytes b' t'))) { s with heap := h', toks := tk' }) :
    codeAny (model pr w) A (.call (.ref 109) ⟨[.bytes b t, .bytes a2 u], []⟩) R s := by
  k_with_none
  have B := C.B
  have X := C.X
  have T := C.T
  have hh := C.hh
  refine enter [(Str.ofString "s", .bytes b t), (Str.ofString "altchars", .bytes a2 u), (Str.ofString "validate", .bool false)] C (by k_is) (by k_is) (binds_K X rfl (by k_is) rfl rfl rfl) (locs rfl) ?_
  intro L h₁ F N
  walk_at "mine go"
  refine wpAny_call (call_bfdd (Cx.of B F X T (Around.frames_deeper B.stack) rfl rfl hh (Nat.succ_le_of_lt (by omega)) (by show A.units + 3 ≤ 100; omega)) fun h2 tk2 t2 hk2 => ?_)
  have F2 := fr_after F hk2
  have N2 := news_after N hk2
  clear F N
  dsimp only
  walk_at "mine go"
  rename_i h3 F3 N3
  refine wpAny_call (call_bfdd (Cx.of B F3 X T (Around.frames_deeper B.stack) rfl rfl hh (Nat.succ_le_of_lt (by omega)) (by show A.units + 3 ≤ 100; omega)) fun h4 tk4 t4 hk4 => ?_)
  have F4 := fr_after F3 hk4
  have N4 := news_after N3 hk4
  clear F3 N3
  dsimp only
  have hsz : b.size ≤ 1000 := by
    rw [← KBw.ints_length, hb]
    omega
  walk_at "mine go"
  rename_i F5 N5
  refine wpAny_call (kw := [(Str.ofString "strict_mode", .bool false)]) (call_a2b (Cx.of B F5 X T (Around.frames_deeper B.stack) rfl rfl hh (Nat.succ_le_of_lt (by omega)) (by show A.units + 3 ≤ 100; omega)) (Nat.succ_le_of_lt (by omega)) (by show A.units + 3 ≤ 90; omega) (trans_ints ha2 (g0 := 43) (g1 := 47) (by decide)) (by rw [List.length_map, hb]; omega) (by rw [hb]; exact hend) hq1 hq2 fun h6 tk6 e6 t6 he6 hk6 => ?_)
  have F6 := fr_after F5 hk6
  have N6 := news_after N5 hk6
  clear F5 N5
  dsimp only
  walk_at "mine go"
  exact ret _ _ _ _ he6 (Fr.keep (by assumption))
end

end
section
/-! str.encode('ascii'), bytes.decode('ascii') -/
section
open Builtin Builtin._codecs
set_option maxRecDepth 100000
theorem forIn_steps {σ : Type} (f : Nat → Nat × Array Nat × σ → Sem (ForInStep (Nat × Array Nat × σ))) (pre : Nat → Array Nat) (st : σ) (n : Nat)
    (hf : ∀ x i, i < n → f x (i, pre i, st) = pure (.yield (i + 1, pre (i + 1), st))) : ∀ (l : List Nat) (i : Nat), i + l.length = n → (forIn l (i, pre i, st) f : Sem _) = pure (n, pre n, st)
  | [], i, h => by
    have : i = n := by simpa using h
    subst this
    rfl
  | x :: l, i, h => by
    rw [List.length_cons] at h
    rw [List.forIn_cons, hf x i (by omega)]
    show (forIn l (i + 1, pre (i + 1), st) f : Sem _) = _
    exact forIn_steps f pre st n hf l (i + 1) (by omega)
noncomputable def preOf (b : Array UInt8) (i : Nat) : Array Nat := ((b.toList.take i).map (·.toNat)).toArray
theorem preOf_all (b : Array UInt8) : preOf b b.size = b.map (·.toNat) := by
  apply Array.toList_inj.mp
  simp only [preOf, Array.toList_map]
  rw [List.take_of_length_le (by simp)]
theorem preOf_next {b : Array UInt8} {i : Nat} (h : i < b.size) : preOf b i ++ [(b.getD i 0).toNat].toArray = preOf b (i + 1) := by
  apply Array.toList_inj.mp
  have e : b.toList.take (i + 1) = b.toList.take i ++ [b.getD i 0] := by
    rw [List.take_add_one]
    congr 1
    have : b.toList[i]? = some (b.getD i 0) := by
      rw [Array.getElem?_toList, Array.getD_eq_getD_getElem?, Array.getElem?_eq_getElem h]; rfl
    rw [this]; rfl
  simp [preOf, e]
theorem run_ascii {id : String} {b : Array UInt8} (h : ∀ c ∈ b.toList, c.toNat < 128) (hs : b.size ≤ 1000) : runDecoder id asciiDecoder none true b 0 [] = pure (b.map (·.toNat), b.size) := by
  unfold runDecoder
  simp only [Std.Legacy.Range.forIn_eq_forIn_range']
  have e0 : (#[] : Array Nat) = preOf b 0 := by simp [preOf]
  rw [e0, forIn_steps _ (preOf b) _ b.size ?_ _ 0 (by simp [Std.Legacy.Range.size]), preOf_all]
  · rfl
  · intro x i hi
    have hp : (preOf b i).size ≤ 1000 := by simp [preOf]; omega
    have hc : (b.getD i 0).toNat < 128 := by
      refine h _ ?_
      rw [Array.getD_eq_getD_getElem?, Array.getElem?_eq_getElem hi]
      exact Array.getElem_mem_toList hi
    have hfind : asciiDecoder.find true b i = .text [(b.getD i 0).toNat] (i + 1) := by
      show (if (b.getD i 0).toNat < 128 then Found.char (b.getD i 0).toNat (i + 1) else _) = _
      rw [if_pos hc]
      rfl
    dsimp only
    rw [if_neg (by rw [sizeLine_eq]; omega), if_neg (by omega), hfind]
    dsimp only
    rw [preOf_next hi]
theorem entry_decode2 {c : UInt8} {cs : List UInt8} {t u : Tok} : «bytes.decode» ⟨[.bytes (c :: cs).toArray t, .str (Str.ofString "ascii") u], []⟩ = (mkStr (Str.ofString "utf-8") >>= fun _ => mkStr (Str.ofString "ascii") >>= fun e => mkStr (Str.ofString "bytes.decode") >>= fun d =>
    call (.builtin "_codecs.decode.text") [.bytes (c :: cs).toArray t, e, .none, d] >>= fun v => ret v) := by kernel_rfl
theorem road_ascii {id : String} {b : Array UInt8} : decodeRoad id b (Str.ofString "ascii") none [] = (runDecoder id asciiDecoder none true b 0 [] >>= fun r => mkStr ⟨r.1⟩) := by kernel_rfl
theorem meets_text2 {b : Array UInt8} {x : Str} {n : Nat} {t t1 t2 : Tok} {d : PySem.Str} (hd : ∀ id, runDecoder id asciiDecoder none true b 0 [] = pure (x.cps, n)) :
    Meets («_codecs.decode.text» ⟨[.bytes b t, .str (PySem.Str.ofString "ascii") t1, .none, .str d t2], []⟩) (fun _ R s => x.length ≤ sizeLine ∧ R (.ok (.ret (.str x s.toks))) { s with toks := s.toks + 1 }) := by
  refine .of_wp fun prog w A R s hS => ?_
  obtain ⟨hsz, h⟩ := hS
  show wpAny _ _ (Bytes.bytesLike _ (.bytes b t) >>= fun r => _) _ _ s
  refine wpAny_bind (wpAny_of_eq KBd.like_eq ?_)
  refine wpAny_bind (wpAny_of_eq KBd.held_eq ?_)
  show wpAny _ _ (decodeRoad _ b (PySem.Str.ofString "ascii") none [] >>= fun v => _) _ _ s
  rw [road_ascii, hd]
  refine wpAny_bind (wpAny_bind (wpAny_pure ?_))
  exact wpAny_mkStr (wpAny_pure ⟨_, rfl, h⟩) hsz
theorem meets_decode2 {c : UInt8} {cs : List UInt8} {t u : Tok} {x : Str} {n : Nat} (hd : ∀ id, runDecoder id asciiDecoder none true (c :: cs).toArray 0 [] = pure (x.cps, n)) :
    Meets («bytes.decode» ⟨[.bytes (c :: cs).toArray t, .str (Str.ofString "ascii") u], []⟩) (fun _ R s => x.length ≤ sizeLine ∧ ∀ t' k, R (.ok (.ret (.str x t'))) { s with toks := k }) := by
  refine .of_wp fun prog w A R s hS => ?_
  obtain ⟨hsz, h⟩ := hS
  rw [entry_decode2]
  refine wpAny_bind (wpAny_mkStr ?_ (by decide))
  refine wpAny_bind (wpAny_mkStr ?_ (by decide))
  refine wpAny_bind (wpAny_mkStr ?_ (by decide))
  exact wpAny_bind (call_function_meets KBd.kind_text KBd.plain_text KBd.entry_text (KBd.args_text _ _ _ _) (meets_text2 hd) ⟨hsz, wpAny_pure ⟨_, rfl, h _ _⟩⟩)
theorem args_decode2 (a b : Value) : argsOk "bytes.decode" ⟨[a, b], []⟩ := by
  unfold argsOk; kernel_rfl
theorem call_decode2 {prog : Program} {w : World} {A : Around} {E : Value → Shared → Prop} {s : Shared} {b : Array UInt8} {t u : Tok} {Q : Value → Shared → Prop} (hne : b.size ≠ 0) (h8 : ∀ c ∈ b.toList, c.toNat < 128) (hs : b.size ≤ 1000) (h : ∀ t' k, Q (.str ⟨b.map (·.toNat)⟩ t') { s with toks := k }) :
    wpAny (model prog w) A (call (.builtin "bytes.decode") [.bytes b t, .str (Str.ofString "ascii") u]) Q E s := by
  obtain ⟨l⟩ := b
  match l, hne, h8, hs, h with
  | c :: cs, _, h8, hs, h =>
    refine call_meets FB.slot_bytes_decode (typeIs_bytes _ _ _) FB.entry_bytes_decode (args_decode2 _ _) (meets_decode2 (x := ⟨(c :: cs).toArray.map (·.toNat)⟩) fun id => run_ascii h8 hs) ⟨?_, h⟩
    show ((c :: cs).toArray.map _).size ≤ sizeLine
    have hs' : (c :: cs).toArray.size ≤ 1000 := hs
    rw [sizeLine_eq, Array.size_map]; omega
/-- one of the two-sign texts that the law writes -/
noncomputable def AscPair (x : Str) (g : Array UInt8) : Prop := ∀ self, encodeNarrow "str.encode" asciiCodec none self x = pure g
theorem entry_encode2 {x : Str} {t u : Tok} : «str.encode» ⟨[.str x t, .str (Str.ofString "ascii") u], []⟩ = (encodeRoad "str.encode" (.str x t) x (Str.ofString "ascii") none >>= fun v => ret v) := by kernel_rfl
theorem eroad_ascii {id : String} {v : Value} {x : Str} : encodeRoad id v x (Str.ofString "ascii") none = (encodeNarrow id asciiCodec none v x >>= fun b => mkBytes b) := by kernel_rfl
theorem meets_encode2 {x : Str} {g : Array UInt8} {t u : Tok} (hx : AscPair x g) :
    Meets («str.encode» ⟨[.str x t, .str (Str.ofString "ascii") u], []⟩) (fun _ R s => g.size ≤ sizeLine ∧ ∀ t' k, R (.ok (.ret (.bytes g t'))) { s with toks := k }) := by
  refine .of_wp fun prog w A R s hS => ?_
  obtain ⟨hsz, h⟩ := hS
  rw [entry_encode2, eroad_ascii, hx]
  refine wpAny_bind (wpAny_bind (wpAny_pure ?_))
  exact wpAny_mkBytes (wpAny_pure ⟨_, rfl, h _ _⟩) hsz
theorem call_encode2 {prog : Program} {w : World} {A : Around} {E : Value → Shared → Prop} {s : Shared} {x : Str} {g : Array UInt8} {t u : Tok} {Q : Value → Shared → Prop} (hx : AscPair x g) (hs : g.size ≤ 1000) (h : ∀ t' k, Q (.bytes g t') { s with toks := k }) :
    wpAny (model prog w) A (call (.builtin "str.encode") [.str x t, .str (Str.ofString "ascii") u]) Q E s :=
  call_meets PySem.F.slot_str_encode (typeIs_str _ _ _) PySem.F.entry_str_encode (PySem.F.args_str_encode_2 _ _) (meets_encode2 hx) ⟨by rw [sizeLine_eq]; omega, h⟩
theorem asc_d0 : AscPair (Str.ofString "..") #[46, 46] := fun self => by kernel_rfl
theorem asc_u0 : AscPair (Str.ofString "._") #[46, 95] := fun self => by kernel_rfl
theorem asc_u1 : AscPair (Str.ofString "_.") #[95, 46] := fun self => by kernel_rfl
theorem asc_m0 : AscPair (Str.ofString ".-") #[46, 45] := fun self => by kernel_rfl
theorem asc_m1 : AscPair (Str.ofString "-.") #[45, 46] := fun self => by kernel_rfl
theorem asc_p0 : AscPair (Str.ofString ".+") #[46, 43] := fun self => by kernel_rfl
theorem asc_p1 : AscPair (Str.ofString "+.") #[43, 46] := fun self => by kernel_rfl
theorem asc_b0 : AscPair (Str.ofString ". ") #[46, 32] := fun self => by kernel_rfl
theorem asc_b1 : AscPair (Str.ofString " .") #[32, 46] := fun self => by kernel_rfl
theorem asc_of {x : Str} {c0 c1 : Int} {oth : Nat} (ho : oth = 46 ∨ oth = 95 ∨ oth = 45 ∨ oth = 43 ∨ oth = 32) (hc : (c0 = 46 ∧ c1 = (oth : Int)) ∨ (c0 = (oth : Int) ∧ c1 = 46)) (hx : x.cps.toList = [c0.toNat, c1.toNat]) : ∃ g, AscPair x g ∧ KBw.bInts g = [c0, c1] := by
  have key : ∀ (y : Str) (g : Array UInt8), AscPair y g → KBw.bInts g = [c0, c1] → y.cps.toList = [c0.toNat, c1.toNat] → ∃ g, AscPair x g ∧ KBw.bInts g = [c0, c1] := by
    intro y g h1 h2 h3
    have : x = y := Str.ext' (Array.toList_inj.mp (hx.trans h3.symm))
    exact ⟨g, this ▸ h1, h2⟩
  rcases ho with rfl | rfl | rfl | rfl | rfl <;> rcases hc with ⟨rfl, rfl⟩ | ⟨rfl, rfl⟩
  · exact key _ _ asc_d0 rfl (by decide +kernel)
  · exact key _ _ asc_d0 rfl (by decide +kernel)
  · exact key _ _ asc_u0 rfl (by decide +kernel)
  · exact key _ _ asc_u1 rfl (by decide +kernel)
  · exact key _ _ asc_m0 rfl (by decide +kernel)
  · exact key _ _ asc_m1 rfl (by decide +kernel)
  · exact key _ _ asc_p0 rfl (by decide +kernel)
  · exact key _ _ asc_p1 rfl (by decide +kernel)
  · exact key _ _ asc_b0 rfl (by decide +kernel)
  · exact key _ _ asc_b1 rfl (by decide +kernel)
end

end
section
/-! the plain law: what the writing is, what its two numbers are -/
theorem sgn_at {P : Int → Prop} [DecidablePred P] (m : Nat) (h : ∀ k, k < m → P (sgn ((k : Nat) : Int))) (n : Int) (h0 : 0 ≤ n) (h1 : n < (m : Int)) : P (sgn n) := by
  obtain ⟨k, rfl⟩ := Int.eq_ofNat_of_zero_le h0
  exact h k (by omega)
theorem sgn_letter {n : Int} (h0 : 0 ≤ n) (h1 : n < 52) : (65 ≤ sgn n ∧ sgn n ≤ 90) ∨ (97 ≤ sgn n ∧ sgn n ≤ 122) :=
  sgn_at (P := fun c => (65 ≤ c ∧ c ≤ 90) ∨ (97 ≤ c ∧ c ≤ 122)) 52 (by decide) n h0 h1
theorem sgn_figure {n : Int} (h0 : 52 ≤ n) (h1 : n ≤ 61) : sgn n = n - 4 := by
  obtain ⟨k, rfl⟩ := Int.eq_ofNat_of_zero_le (Int.le_trans (by decide : (0 : Int) ≤ 52) h0)
  have : ∀ k, k < 62 → 52 ≤ k → sgn ((k : Nat) : Int) = ((k : Nat) : Int) - 4 := by decide
  exact this k (by omega) (by omega)
theorem val_sgn {n : Int} (h0 : 0 ≤ n) (h1 : n < 64) : b64val (sgn n) = n ∧ sgn n ≠ 61 := by
  obtain ⟨k, rfl⟩ := Int.eq_ofNat_of_zero_le h0
  have : ∀ k, k < 64 → b64val (sgn ((k : Nat) : Int)) = ((k : Nat) : Int) ∧ sgn ((k : Nat) : Int) ≠ 61 := by decide
  exact this k (by omega)

noncomputable def In64 (ns : List Int) : Prop := ∀ n ∈ ns, 0 ≤ n ∧ n < 64
theorem oct_vals {a b c d : Int} (hc : 0 ≤ c ∧ c < 64) (hd : 0 ≤ d ∧ d < 64) :
    (((a * 64 + b) * 64 + c) * 64 + d) / 65536 = a * 4 + b / 16 ∧ (((a * 64 + b) * 64 + c) * 64 + d) / 256 % 256 = b % 16 * 16 + c / 4 ∧ (((a * 64 + b) * 64 + c) * 64 + d) % 256 = c % 4 * 64 + d := by
  have hq := dlt (a := 4) (b := 16) hc.1 (by decide) hc.2
  have e : ∀ k : Int, (((a * 64 + b) * 64 + c) * 64 + d) / (64 * k) = ((a * 64 + b) * 64 + c) / k := fun k => by
    rw [← Int.ediv_ediv_of_nonneg (by decide), dv0 hd.1 hd.2]
  refine ⟨?_, ?_, ?_⟩
  · refine (e 1024).trans ?_
    rw [show (1024 : Int) = 64 * 16 from rfl, ← Int.ediv_ediv_of_nonneg (by decide), dv0 hc.1 hc.2]
    exact dv (y := a * 4) (by decide) (by rw [Int.mul_assoc]; rfl)
  · rw [show (256 : Int) = 64 * 4 from rfl, e 4, dv (y := (a * 64 + b) * 16) (by decide) (by rw [Int.mul_assoc]; rfl)]
    refine (md (b := 16) hq.1 hq.2).trans ?_
    rw [mlt (by decide)]
  · refine (md (b := 4) hd.1 hd.2).trans ?_
    rw [mlt (by decide)]
theorem b2a_four {a b c d o1 o2 o3 : Int} {os : List Int} (hb : 0 ≤ b ∧ b < 64) (hc : 0 ≤ c ∧ c < 64) (hd : 0 ≤ d ∧ d < 64)
    (h1 : o1 = a * 4 + b / 16) (h2 : o2 = b % 16 * 16 + c / 4) (h3 : o3 = c % 4 * 64 + d) :
    b2aStep (os, 0, 0) o1 = (os ++ [sgn a], 2, o1 % 4) ∧ b2aStep (os ++ [sgn a], 2, o1 % 4) o2 = (os ++ [sgn a] ++ [sgn b], 4, o2 % 16) ∧
    b2aStep (os ++ [sgn a] ++ [sgn b], 4, o2 % 16) o3 = (os ++ [sgn a, sgn b, sgn c, sgn d], 0, 0) := by
  have k1 := dlt (a := 16) (b := 4) hb.1 (by decide) hb.2
  have k2 := dlt (a := 4) (b := 16) hc.1 (by decide) hc.2
  subst h1 h2 h3
  refine ⟨?_, ?_, ?_⟩
  · show (os ++ [sgn ((a * 4 + b / 16) / 4)], (2 : Int), _) = _
    rw [dv0 k1.1 k1.2]
  · show (os ++ [sgn a] ++ [sgn ((a * 4 + b / 16) % 4 * 16 + (b % 16 * 16 + c / 4) / 16)], (4 : Int), _) = _
    rw [lo k1.1 k1.2, dv0 k2.1 k2.2, Int.ediv_mul_add_emod]
  · show (os ++ [sgn a] ++ [sgn b] ++ [sgn ((b % 16 * 16 + c / 4) % 16 * 4 + (c % 4 * 64 + d) / 64)] ++ [sgn ((c % 4 * 64 + d) % 64)], (0 : Int), (0 : Int)) = _
    rw [lo k2.1 k2.2, dv0 hd.1 hd.2, lo hd.1 hd.2, Int.ediv_mul_add_emod]
    simp
theorem b2a_octs : ∀ (n : Nat) (l : List Int) (os : List Int), l.length = 4 * n → In64 l → (octs l).foldl b2aStep (os, 0, 0) = (os ++ l.map sgn, 0, 0)
  | 0, l, os, h, _ => by
    have : l = [] := List.length_eq_zero_iff.mp (by omega)
    subst this; simp [octs]
  | n + 1, a :: b :: c :: d :: r, os, h, hi => by
    have hr : r.length = 4 * n := by simp only [List.length_cons] at h; omega
    have hm : ∀ x, x ∈ [a, b, c, d] → 0 ≤ x ∧ x < 64 := fun x hx => hi x (List.mem_append_left r hx)
    obtain ⟨q1, q2, q3⟩ := oct_vals (a := a) (b := b) (hm c (.tail _ (.tail _ (.head _)))) (hm d (.tail _ (.tail _ (.tail _ (.head _)))))
    obtain ⟨s1, s2, s3⟩ := b2a_four (os := os) (hm b (.tail _ (.head _))) (hm c (.tail _ (.tail _ (.head _)))) (hm d (.tail _ (.tail _ (.tail _ (.head _))))) q1 q2 q3
    rw [octs, List.foldl_cons, List.foldl_cons, List.foldl_cons, s1, s2, s3, b2a_octs n r _ hr (fun x hx => hi x (List.mem_append_right [a, b, c, d] hx))]
    simp
  | n + 1, [], _, h, _ => by simp at h
  | n + 1, [_], _, h, _ => by simp at h; omega
  | n + 1, [_, _], _, h, _ => by simp at h; omega
  | n + 1, [_, _, _], _, h, _ => by simp at h; omega
theorem a2b_four {a b c d o1 o2 o3 : Int} {os : List Int} (ha : 0 ≤ a ∧ a < 64) (hb : 0 ≤ b ∧ b < 64) (hc : 0 ≤ c ∧ c < 64) (hd : 0 ≤ d ∧ d < 64)
    (h1 : o1 = a * 4 + b / 16) (h2 : o2 = b % 16 * 16 + c / 4) (h3 : o3 = c % 4 * 64 + d) :
    a2bStep (os, 0, 0, 0) (sgn a) = (os, 1, a, 0) ∧ a2bStep (os, 1, a, 0) (sgn b) = (os ++ [o1], 2, b % 16, 0) ∧
    a2bStep (os ++ [o1], 2, b % 16, 0) (sgn c) = (os ++ [o1] ++ [o2], 3, c % 4, 0) ∧ a2bStep (os ++ [o1] ++ [o2], 3, c % 4, 0) (sgn d) = (os ++ [o1, o2, o3], 0, 0, 0) := by
  have va := val_sgn ha.1 ha.2
  have vb := val_sgn hb.1 hb.2
  have vc := val_sgn hc.1 hc.2
  have vd := val_sgn hd.1 hd.2
  refine ⟨?_, ?_, ?_, ?_⟩
  · rw [a2bStep, if_neg va.2, va.1, if_neg (Int.not_le.mpr ha.2)]; rfl
  · rw [a2bStep, if_neg vb.2, vb.1, if_neg (Int.not_le.mpr hb.2)]
    show (os ++ [a * 4 + b / 16], (2 : Int), b % 16, (0 : Int)) = _
    have : a * 4 + b / 16 = o1 := h1.symm
    rw [this]
  · rw [a2bStep, if_neg vc.2, vc.1, if_neg (Int.not_le.mpr hc.2)]
    show (os ++ [o1] ++ [b % 16 * 16 + c / 4], (3 : Int), c % 4, (0 : Int)) = _
    have : b % 16 * 16 + c / 4 = o2 := h2.symm
    rw [this]
  · rw [a2bStep, if_neg vd.2, vd.1, if_neg (Int.not_le.mpr hd.2)]
    show (os ++ [o1] ++ [o2] ++ [c % 4 * 64 + d], (0 : Int), (0 : Int), (0 : Int)) = _
    have : c % 4 * 64 + d = o3 := h3.symm
    rw [this]; simp
theorem a2b_signs : ∀ (n : Nat) (l : List Int) (os : List Int), l.length = 4 * n → In64 l → (l.map sgn).foldl a2bStep (os, 0, 0, 0) = (os ++ octs l, 0, 0, 0)
  | 0, l, os, h, _ => by
    have : l = [] := List.length_eq_zero_iff.mp (by omega)
    subst this; simp [octs]
  | n + 1, a :: b :: c :: d :: r, os, h, hi => by
    have hr : r.length = 4 * n := by simp only [List.length_cons] at h; omega
    have hm : ∀ x, x ∈ [a, b, c, d] → 0 ≤ x ∧ x < 64 := fun x hx => hi x (List.mem_append_left r hx)
    obtain ⟨q1, q2, q3⟩ := oct_vals (a := a) (b := b) (hm c (.tail _ (.tail _ (.head _)))) (hm d (.tail _ (.tail _ (.tail _ (.head _)))))
    obtain ⟨s1, s2, s3, s4⟩ := a2b_four (os := os) (hm a (.head _)) (hm b (.tail _ (.head _))) (hm c (.tail _ (.tail _ (.head _)))) (hm d (.tail _ (.tail _ (.tail _ (.head _))))) q1 q2 q3
    simp only [List.map_cons, List.foldl_cons]
    rw [s1, s2, s3, s4, a2b_signs n r _ hr (fun x hx => hi x (List.mem_append_right [a, b, c, d] hx)), octs]
    simp
  | n + 1, [], _, h, _ => by simp at h
  | n + 1, [_], _, h, _ => by simp at h; omega
  | n + 1, [_, _], _, h, _ => by simp at h; omega
  | n + 1, [_, _, _], _, h, _ => by simp at h; omega

/-- what is asked of the writing's signs -/
structure Signs (W ks : List Int) (off : Nat) (ss : List Int) : Prop where
  len : ss.length = W.length
  all : off = 0 → ss = W.map sgn
  pad : off ≠ 0 → ∃ l, ss = l ++ [61]
  back : ∃ q lc p, ss.foldl a2bStep ([], 0, 0, 0) = (ks, q, lc, p) ∧ q ≠ 1 ∧ (q = 0 ∨ 4 ≤ q + p)
  are : ∀ s ∈ ss, s = 61 ∨ ∃ n, 0 ≤ n ∧ n < 64 ∧ s = sgn n
theorem last_four (m : Nat) (W : List Int) (h : W.length = 4 * (m + 1)) : ∃ l a b c d, W = l ++ [a, b, c, d] ∧ l.length = 4 * m := by
  refine ⟨W.take (4 * m), W.getD (4 * m) 0, W.getD (4 * m + 1) 0, W.getD (4 * m + 2) 0, W.getD (4 * m + 3) 0, ?_, by rw [List.length_take]; omega⟩
  rw [← take4 W m (by omega), List.take_of_length_le (by omega)]
theorem signs_of {W : List Int} {m off : Nat} (hl : W.length = 4 * (m + 1)) (hi : In64 W) (ho : off ≤ 2) : Signs W ((octs W).take ((octs W).length - off)) off (b2a ((octs W).take ((octs W).length - off))) := by
  obtain ⟨l, a, b, c, d, rfl, hll⟩ := last_four m W hl
  have hil : In64 l := fun x hx => hi x (List.mem_append_left _ hx)
  have hm : ∀ x, x ∈ [a, b, c, d] → 0 ≤ x ∧ x < 64 := fun x hx => hi x (List.mem_append.mpr (.inr hx))
  have eo : octs (l ++ [a, b, c, d]) = octs l ++ octs [a, b, c, d] := octs_append m _ _ hll
  have hm' : ∀ s ∈ l.map sgn, s = 61 ∨ ∃ n, 0 ≤ n ∧ n < 64 ∧ s = sgn n := by
    intro s hs
    obtain ⟨x, hx, rfl⟩ := List.mem_map.mp hs
    exact .inr ⟨x, (hil x hx).1, (hil x hx).2, rfl⟩
  have sg : ∀ x, 0 ≤ x → x < 64 → (sgn x = 61 ∨ ∃ n, 0 ≤ n ∧ n < 64 ∧ sgn x = sgn n) := fun x h0 h1 => .inr ⟨x, h0, h1, rfl⟩
  have ha := hm a (.head _)
  have hb := hm b (.tail _ (.head _))
  have hc := hm c (.tail _ (.tail _ (.head _)))
  have hd := hm d (.tail _ (.tail _ (.tail _ (.head _))))
  obtain ⟨q1, q2, q3⟩ := oct_vals (a := a) (b := b) hc hd
  have k1 := dlt (a := 16) (b := 4) hb.1 (by decide) hb.2
  have k2 := dlt (a := 4) (b := 16) hc.1 (by decide) hc.2
  have B0 := b2a_octs m l [] hll hil
  have A0 := a2b_signs m l [] hll hil
  simp only [List.nil_append] at B0 A0
  have h61 : a2bStep = a2bStep := rfl
  have p61 : ∀ (c : List Int × Int × Int × Int), a2bStep c 61 = (c.1, c.2.1, c.2.2.1, c.2.2.2 + 1) := fun c => if_pos rfl
  have : off = 0 ∨ off = 1 ∨ off = 2 := by omega
  rcases this with rfl | rfl | rfl
  · have et : (octs (l ++ [a, b, c, d])).take ((octs (l ++ [a, b, c, d])).length - 0) = octs (l ++ [a, b, c, d]) := List.take_of_length_le (by omega)
    rw [et]
    have e : b2a (octs (l ++ [a, b, c, d])) = (l ++ [a, b, c, d]).map sgn := by
      rw [b2a, b2a_octs (m + 1) _ [] hl hi]
      rfl
    rw [e]
    refine ⟨by simp, fun _ => rfl, fun h => absurd rfl h, ⟨0, 0, 0, a2b_signs (m + 1) _ [] hl hi, by decide, .inl rfl⟩, ?_⟩
    intro s hs
    obtain ⟨x, hx, rfl⟩ := List.mem_map.mp hs
    exact .inr ⟨x, (hi x hx).1, (hi x hx).2, rfl⟩
  · obtain ⟨s1, s2, s3⟩ := b2a_four (os := l.map sgn) hb hc hd q1 q2 q3
    have et : (octs (l ++ [a, b, c, d])).take ((octs (l ++ [a, b, c, d])).length - 1) = octs l ++ [(((a * 64 + b) * 64 + c) * 64 + d) / 65536, (((a * 64 + b) * 64 + c) * 64 + d) / 256 % 256] := by
      rw [eo, ← List.dropLast_eq_take]
      simp only [octs]
      rw [List.dropLast_append_of_ne_nil (by simp)]
      rfl
    rw [et]
    generalize h2 : (((a * 64 + b) * 64 + c) * 64 + d) / 256 % 256 = o2 at *
    generalize h1 : (((a * 64 + b) * 64 + c) * 64 + d) / 65536 = o1 at *
    have e : b2a (octs l ++ [o1, o2]) = l.map sgn ++ [sgn a] ++ [sgn b] ++ [sgn (o2 % 16 * 4)] ++ [61] := by
      rw [b2a, List.foldl_append, B0, List.foldl_cons, List.foldl_cons, List.foldl_nil, s1, s2]
      rfl
    rw [e]
    have hc' : 0 ≤ o2 % 16 * 4 ∧ o2 % 16 * 4 < 64 := quarter o2 (b := 16) (by decide) (by decide)
    obtain ⟨t1, t2, t3, _⟩ := a2b_four (os := octs l) (a := a) (b := b) (c := o2 % 16 * 4) (d := 0) (o1 := o1) (o2 := o2) ha hb hc' (by decide) q1 (by rw [Int.mul_ediv_cancel _ (by decide), q2, lo k2.1 k2.2]) rfl
    refine ⟨by simp, fun h => absurd h (by decide), fun _ => ⟨_, rfl⟩, ⟨3, o2 % 16 * 4 % 4, 1, ?_, by decide, .inr (by decide)⟩, ?_⟩
    · simp only [List.foldl_append, List.foldl_cons, List.foldl_nil]
      rw [A0, t1, t2, t3, p61]
      simp
    · intro s hs
      simp only [List.mem_append, List.mem_singleton] at hs
      rcases hs with (((hs | rfl) | rfl) | rfl) | rfl
      · exact hm' s hs
      · exact sg _ ha.1 ha.2
      · exact sg _ hb.1 hb.2
      · exact sg _ hc'.1 hc'.2
      · exact .inl rfl
  · obtain ⟨s1, s2, s3⟩ := b2a_four (os := l.map sgn) hb hc hd q1 q2 q3
    have et : (octs (l ++ [a, b, c, d])).take ((octs (l ++ [a, b, c, d])).length - 2) = octs l ++ [(((a * 64 + b) * 64 + c) * 64 + d) / 65536] := by
      have el : (octs (l ++ [a, b, c, d])).length - 2 = (octs l).length + 1 := by rw [eo]; simp [octs]
      rw [el, eo, List.take_length_add_append]
      rfl
    rw [et]
    generalize h1 : (((a * 64 + b) * 64 + c) * 64 + d) / 65536 = o1 at *
    have e : b2a (octs l ++ [o1]) = l.map sgn ++ [sgn a] ++ [sgn (o1 % 4 * 16)] ++ [61] ++ [61] := by
      rw [b2a, List.foldl_append, B0, List.foldl_cons, List.foldl_nil, s1]
      rfl
    rw [e]
    have hb' : 0 ≤ o1 % 4 * 16 ∧ o1 % 4 * 16 < 64 := quarter o1 (b := 4) (by decide) (by decide)
    obtain ⟨t1, t2, _, _⟩ := a2b_four (os := octs l) (a := a) (b := o1 % 4 * 16) (c := 0) (d := 0) (o1 := o1) ha hb' (by decide) (by decide) (by rw [Int.mul_ediv_cancel _ (by decide), q1, lo k1.1 k1.2]) rfl rfl
    refine ⟨by simp, fun h => absurd h (by decide), fun _ => ⟨_, rfl⟩, ⟨2, o1 % 4 * 16 % 16, 2, ?_, by decide, .inr (by decide)⟩, ?_⟩
    · simp only [List.foldl_append, List.foldl_cons, List.foldl_nil]
      rw [A0, t1, t2, p61, p61]
      simp
    · intro s hs
      simp only [List.mem_append, List.mem_singleton] at hs
      rcases hs with (((hs | rfl) | rfl) | rfl) | rfl
      · exact hm' s hs
      · exact sg _ ha.1 ha.2
      · exact sg _ hb'.1 hb'.2
      · exact .inl rfl
      · exact .inl rfl

end
section
/-! the plain law: the two numbers -/
/-- one sign's code by its worth -/
structure Cod (oth : Nat) (mark : Int) (cd : Int → Nat) (n : Int) : Prop where
  one : (0 ≤ n ∧ n < 52 ∧ ((65 ≤ cd n ∧ cd n ≤ 90) ∨ (97 ≤ cd n ∧ cd n ≤ 122))) ∨ (52 ≤ n ∧ n ≤ 61 ∧ (cd n : Int) = n - 4) ∨ (n = mark ∧ 62 ≤ n ∧ cd n = oth)
structure Oth (other : Str) (oth : Nat) : Prop where
  is : oth = 46 ∨ oth = 95 ∨ oth = 45 ∨ oth = 43 ∨ oth = 32
  bl : (other == Str.ofString " ") = decide (oth = 32)
  us : (other == Str.ofString "_") = decide (oth = 95)
  sg : ([Str.ofString "-", Str.ofString "+"].any fun x => x == other) = decide (oth = 45 ∨ oth = 43)
  mi : (other == Str.ofString "-") = decide (oth = 45)
  dt : (other == Str.ofString ".") = decide (oth = 46)
theorem oth_dot : Oth (Str.ofString ".") 46 := ⟨by decide, by decide +kernel, by decide +kernel, by decide +kernel, by decide +kernel, by decide +kernel⟩
theorem oth_us : Oth (Str.ofString "_") 95 := ⟨by decide, by decide +kernel, by decide +kernel, by decide +kernel, by decide +kernel, by decide +kernel⟩
theorem oth_mi : Oth (Str.ofString "-") 45 := ⟨by decide, by decide +kernel, by decide +kernel, by decide +kernel, by decide +kernel, by decide +kernel⟩
theorem oth_pl : Oth (Str.ofString "+") 43 := ⟨by decide, by decide +kernel, by decide +kernel, by decide +kernel, by decide +kernel, by decide +kernel⟩
theorem oth_bl : Oth (Str.ofString " ") 32 := ⟨by decide, by decide +kernel, by decide +kernel, by decide +kernel, by decide +kernel, by decide +kernel⟩
noncomputable def worthOf (ds : Array Nat) : Nat := ds.foldl (fun a d => a * 10 + d) 0
theorem worthOf_push (ds : Array Nat) (d : Nat) : worthOf (ds.push d) = worthOf ds * 10 + d := by simp [worthOf]
section
open PySem.NumText
variable {oth : Nat} {mark : Int} {cd : Int → Nat}
theorem step_letter {p : Array Nat × Bool} {c : Nat} (h : (65 ≤ c ∧ c ≤ 90) ∨ (97 ≤ c ∧ c ≤ 122)) : step 10 p c = none := by
  unfold NumText.step
  rw [if_neg (by rw [beq_iff_eq]; omega)]
  have : ∃ d, digit? c = some d ∧ ¬ d < 10 := by
    unfold digit?
    by_cases h1 : (decide (97 ≤ c) && decide (c ≤ 122)) = true
    · rw [if_neg (by simp only [Bool.and_eq_true, decide_eq_true_eq]; omega), if_pos h1]
      exact ⟨_, rfl, by simp only [Bool.and_eq_true, decide_eq_true_eq] at h1; omega⟩
    · rw [if_neg (by simp only [Bool.and_eq_true, decide_eq_true_eq]; omega), if_neg h1, if_pos (by simp only [Bool.and_eq_true, decide_eq_true_eq] at h1 ⊢; omega)]
      exact ⟨_, rfl, by simp only [Bool.and_eq_true, decide_eq_true_eq] at h1; omega⟩
  obtain ⟨d, e, hd⟩ := this
  rw [e]
  exact if_neg hd
theorem step_sign {p : Array Nat × Bool} {c : Nat} (h : c = 46 ∨ c = 45 ∨ c = 43 ∨ c = 32 ∨ c = 61) : step 10 p c = none := by
  rcases h with rfl | rfl | rfl | rfl | rfl <;> rfl
theorem oth_sign {oth : Nat} (h : oth = 46 ∨ oth = 95 ∨ oth = 45 ∨ oth = 43 ∨ oth = 32) (hu : ¬ oth = 95) : oth = 46 ∨ oth = 45 ∨ oth = 43 ∨ oth = 32 ∨ oth = 61 := by
  rcases h with h | h | h | h | h
  · exact .inl h
  · exact absurd h hu
  · exact .inr (.inl h)
  · exact .inr (.inr (.inl h))
  · exact .inr (.inr (.inr (.inl h)))
theorem worth_step {arr : Array Nat} {c : Nat} {n : Int} (h : 48 ≤ c) (h2 : (c : Int) = n - 4) : (worthOf arr : Int) * 10 + n - 52 = (worthOf (arr.push (c - 48)) : Int) := by
  rw [worthOf_push]; omega
theorem scan_fold (hmk : 62 ≤ mark) (hoth : oth = 46 ∨ oth = 95 ∨ oth = 45 ∨ oth = 43 ∨ oth = 32) : ∀ (ns : List Int) (arr : Array Nat) (f : Bool), (∀ n ∈ ns, Cod oth mark cd n) →
    numScan (decide (oth = 95)) mark ns (worthOf arr : Int) f = ((ns.map cd).foldlM (step 10) (arr, f)).bind fun q => if q.2 then some (worthOf q.1 : Int) else none
  | [], arr, f, _ => by simp only [numScan, List.map_nil]; rfl
  | n :: r, arr, f, h => by
    rw [List.map_cons, List.foldlM_cons]
    have hr : ∀ n ∈ r, Cod oth mark cd n := fun m hm => h m (List.mem_cons_of_mem _ hm)
    rcases (h n (List.mem_cons_self ..)).one with ⟨h0, h1, h2⟩ | ⟨h0, h1, h2⟩ | ⟨h0, h1, h2⟩
    · rw [step_letter h2, numScan, if_neg (by omega)]
      rw [if_neg (fun hu => absurd hu.2.1 (by omega))]
      rfl
    · have hd : 48 ≤ cd n ∧ cd n ≤ 57 := by omega
      rw [step_digit hd, scan_dig ⟨h0, h1⟩]
      have e : (worthOf arr : Int) * 10 + n - 52 = (worthOf (arr.push (cd n - 48)) : Int) := worth_step hd.1 h2
      rw [e, scan_fold hmk hoth r _ _ hr]
      rfl
    · by_cases hu : oth = 95
      · have hs : step 10 (arr, f) (cd n) = if f then some (arr, false) else none := by
          rw [h2, hu]; rfl
        rw [hs]
        cases f with
        | true =>
          rw [scan_under (by omega) (decide_eq_true hu) h0 rfl, scan_fold hmk hoth r _ _ hr]
          rfl
        | false =>
          rw [scan_no3 (by omega) rfl]; rfl
      · rw [step_sign (h2.symm ▸ oth_sign hoth hu), scan_no1 (by omega) (decide_eq_false hu)]; rfl

theorem scan_digits (hmk : 62 ≤ mark) (hoth : oth = 46 ∨ oth = 95 ∨ oth = 45 ∨ oth = 43 ∨ oth = 32) {ns : List Int} (h : ∀ n ∈ ns, Cod oth mark cd n) :
    numScan (decide (oth = 95)) mark ns 0 false = (digits? 10 (ns.map cd)).map fun ds => (worthOf ds : Int) := by
  have := scan_fold hmk hoth ns #[] false h
  refine this.trans ?_
  unfold digits?
  cases (ns.map cd).foldlM (step 10) ((#[] : Array Nat), false) with
  | none => rfl
  | some q =>
    show (if q.2 = true then _ else _) = Option.map _ (if q.2 = true then _ else _)
    split <;> rfl
theorem dropWhile_as {α : Type} {p q : α → Bool} : ∀ {l : List α}, (∀ x ∈ l, p x = q x) → l.dropWhile p = l.dropWhile q
  | [], _ => rfl
  | x :: r, h => by
    rw [List.dropWhile_cons, List.dropWhile_cons, h x (List.mem_cons_self ..), dropWhile_as (l := r) fun y hy => h y (List.mem_cons_of_mem _ hy)]
theorem dropWhile_none {α : Type} {p : α → Bool} {l : List α} (h : ∀ x ∈ l, p x = false) : l.dropWhile p = l := by
  cases l with
  | nil => rfl
  | cons x r => rw [List.dropWhile_cons, if_neg (by rw [h x (List.mem_cons_self ..)]; decide)]
theorem dropWhile_sub {α : Type} {p : α → Bool} {l : List α} {x : α} (h : x ∈ l.dropWhile p) : x ∈ l := (List.dropWhile_sublist p).subset h
theorem cod_blank {n : Int} (hoth : oth = 46 ∨ oth = 95 ∨ oth = 45 ∨ oth = 43 ∨ oth = 32) (h : Cod oth mark cd n) (hmk : 62 ≤ mark) : NumText.blank (cd n) = (decide (oth = 32) && (n == mark)) := by
  have bn : ∀ c, (33 ≤ c) → NumText.blank c = false := fun c hc => blank_of hc
  rcases h.one with ⟨h0, h1, h2⟩ | ⟨h0, h1, h2⟩ | ⟨h0, h1, h2⟩
  · rw [bn _ (by omega)]
    have : (n == mark) = false := by rw [beq_eq_false_iff_ne]; omega
    rw [this, Bool.and_false]
  · rw [bn _ (by omega)]
    have : (n == mark) = false := by rw [beq_eq_false_iff_ne]; omega
    rw [this, Bool.and_false]
  · rw [h2, h0, beq_self_eq_true, Bool.and_true]
    rcases hoth with rfl | rfl | rfl | rfl | rfl <;> rfl
theorem sign_plain {t : List Nat} (h : ∀ c ∈ t, c ≠ 45 ∧ c ≠ 43) : sign t = (false, t) := by
  cases t with
  | nil => rfl
  | cons c r => exact sign_of (h c (List.mem_cons_self ..)).1 (h c (List.mem_cons_self ..)).2
theorem cod_sign {n : Int} (h : Cod oth mark cd n) (h1 : oth ≠ 45) (h2 : oth ≠ 43) : cd n ≠ 45 ∧ cd n ≠ 43 := by
  rcases h.one with ⟨h0, h1, h2⟩ | ⟨h0, h1, h2⟩ | ⟨h0, h1, h2⟩ <;> omega
theorem numText_ascii {x : Str} (h : ∀ c ∈ x.cps.toList, 0 < c ∧ c < 128) : numTextOf x = x.cps.toList ∧ numSeenOf x = x.cps.toList := by
  have e1 : numTextOf x = x.cps.toList := by
    refine if_pos ?_
    rw [← Array.all_toList, List.all_eq_true]
    intro c hc
    have := h c hc
    exact decide_eq_true (by omega)
  refine ⟨e1, ?_⟩
  show (numTextOf x).takeWhile _ = _
  rw [e1]
  refine takeWhile_all fun c hc => ?_
  have := h c hc
  exact bne_iff_ne.mpr (by omega)
theorem intText_ascii {x : Str} (h : ∀ c ∈ x.cps.toList, 0 < c ∧ c < 128) (hl : x.cps.toList.length ≤ 4300) :
    PySem.intText? x = (digits? 10 (core x.cps.toList)).map fun ds => (if (sign (x.cps.toList.dropWhile NumText.blank)).1 then (-1 : Int) else 1) * (worthOf ds : Int) := by
  obtain ⟨e1, e2⟩ := numText_ascii h
  unfold PySem.intText?
  rw [e1, e2, if_pos (beq_self_eq_true _)]
  cases hd : digits? 10 (core x.cps.toList) with
  | none => rfl
  | some ds =>
    have h1 := digits_size hd
    have h2 := core_length x.cps.toList
    show (if ds.size ≤ 4300 then _ else _) = _
    rw [if_pos (by omega)]
    show some (worth _ ds) = some _
    unfold worth worthOf
    split <;> simp
theorem lawNum_core {other : Str} (ho : Oth other oth) (hmk : 62 ≤ mark) {ns : List Int} (h : ∀ n ∈ ns, Cod oth mark cd n) :
    (unsign other mark (trimR other mark (trimL other mark ns))).map cd = core (ns.map cd) ∧
    signOf other mark (trimR other mark (trimL other mark ns)) = (if (sign ((ns.map cd).dropWhile NumText.blank)).1 then (-1 : Int) else 1) := by
  by_cases hb : oth = 32
  · have eb : (other == Mine.blank) = true := ho.bl.trans (decide_eq_true hb)
    have hs : ∀ l, signed other mark l = false := fun l => by
      unfold signed
      rw [ho.sg, decide_eq_false (by omega), Bool.false_and]
    have hdw : ∀ l : List Int, (∀ n ∈ l, Cod oth mark cd n) → (l.map cd).dropWhile NumText.blank = (l.dropWhile (· == mark)).map cd := by
      intro l hl
      rw [List.dropWhile_map]
      congr 1
      refine dropWhile_as fun x hx => ?_
      show NumText.blank (cd x) = _
      rw [cod_blank ho.is (hl x hx) hmk, decide_eq_true hb, Bool.true_and]
    have h1 : ∀ n ∈ ns.dropWhile (· == mark), Cod oth mark cd n := fun n hn => h n (dropWhile_sub hn)
    have h2 : ∀ n ∈ (ns.dropWhile (· == mark)).reverse, Cod oth mark cd n := fun n hn => h1 n (List.mem_reverse.mp hn)
    have hsg : sign ((ns.dropWhile (· == mark)).map cd) = (false, (ns.dropWhile (· == mark)).map cd) := by
      refine sign_plain fun c hc => ?_
      obtain ⟨n, hn, rfl⟩ := List.mem_map.mp hc
      exact cod_sign (h1 n hn) (by omega) (by omega)
    unfold unsign signOf core
    rw [hs, Bool.false_and, if_neg (by decide), if_neg (by decide), hdw ns h, hsg]
    refine ⟨?_, rfl⟩
    unfold trimR trimL
    rw [if_pos eb, if_pos eb]
    show _ = (((ns.dropWhile (· == mark)).map cd).reverse.dropWhile NumText.blank).reverse
    rw [← List.map_reverse, hdw _ h2, ← List.map_reverse]
  · have eb : (other == Str.ofString " ") = false := ho.bl.trans (decide_eq_false hb)
    have hnb : ∀ n ∈ ns, NumText.blank (cd n) = false := fun n hn => by rw [cod_blank ho.is (h n hn) hmk, decide_eq_false hb, Bool.false_and]
    have hmb : ∀ c ∈ ns.map cd, NumText.blank c = false := by
      intro c hc
      obtain ⟨n, hn, rfl⟩ := List.mem_map.mp hc
      exact hnb n hn
    rw [trimL_off eb, trimR_off eb]
    unfold core
    rw [dropWhile_none hmb]
    by_cases hsg : oth = 45 ∨ oth = 43
    · cases ns with
      | nil =>
        refine ⟨?_, ?_⟩
        · unfold unsign; split <;> rfl
        · unfold signOf signed
          simp [sign]
      | cons n r =>
        have htail : ∀ c ∈ r.map cd, NumText.blank c = false := fun c hc => hmb c (List.mem_cons_of_mem _ hc)
        have hrev : ∀ l : List Nat, (∀ c ∈ l, NumText.blank c = false) → (l.reverse.dropWhile NumText.blank).reverse = l := fun l hl => by
          rw [dropWhile_none fun c hc => hl c (List.mem_reverse.mp hc), List.reverse_reverse]
        by_cases hn : n = mark
        · have hc : cd n = oth := by
            rcases (h n (List.mem_cons_self ..)).one with q | q | q
            · omega
            · omega
            · exact q.2.2
          have hsd : signed other mark (n :: r) = true := by
            unfold signed
            rw [ho.sg, decide_eq_true hsg, hn]
            simp
          unfold unsign signOf
          rw [hsd, if_pos rfl, Bool.true_and, ho.mi, List.map_cons, hc]
          rcases hsg with rfl | rfl
          · refine ⟨?_, rfl⟩
            show r.map cd = ((r.map cd).reverse.dropWhile NumText.blank).reverse
            rw [hrev _ htail]
          · refine ⟨?_, rfl⟩
            show r.map cd = ((r.map cd).reverse.dropWhile NumText.blank).reverse
            rw [hrev _ htail]
        · have hsd : signed other mark (n :: r) = false := by
            unfold signed
            rw [show (List.take 1 (n :: r) == [mark]) = false from by simpa using hn, Bool.and_false]
          have hc : cd n ≠ 45 ∧ cd n ≠ 43 := by
            rcases (h n (List.mem_cons_self ..)).one with q | q | q <;> omega
          unfold unsign signOf
          rw [hsd, if_neg (by decide), Bool.false_and, if_neg (by decide)]
          have es : sign ((n :: r).map cd) = (false, (n :: r).map cd) := by
            rw [List.map_cons]
            exact sign_of hc.1 hc.2
          rw [es]
          exact ⟨(hrev _ hmb).symm, rfl⟩
    · have hs : signed other mark ns = false := by
        unfold signed
        rw [ho.sg, decide_eq_false hsg, Bool.false_and]
      have es : sign (ns.map cd) = (false, ns.map cd) := by
        refine sign_plain fun c hc => ?_
        obtain ⟨n, hn, rfl⟩ := List.mem_map.mp hc
        exact cod_sign (h n hn) (by omega) (by omega)
      unfold unsign signOf
      rw [hs, if_neg (by decide), Bool.false_and, if_neg (by decide), es]
      refine ⟨?_, rfl⟩
      show _ = ((ns.map cd).reverse.dropWhile NumText.blank).reverse
      rw [dropWhile_none fun c hc => hmb c (List.mem_reverse.mp hc), List.reverse_reverse]
theorem cod_ascii {n : Int} (hoth : oth = 46 ∨ oth = 95 ∨ oth = 45 ∨ oth = 43 ∨ oth = 32) (h : Cod oth mark cd n) : 0 < cd n ∧ cd n < 128 := by
  rcases h.one with ⟨h0, h1, h2⟩ | ⟨h0, h1, h2⟩ | ⟨h0, h1, h2⟩ <;> omega
/-- a side's number is int of its text -/
theorem lawNum_text {other : Str} (ho : Oth other oth) (hmk : 62 ≤ mark) {ns : List Int} (hlen : ns.length ≤ 20) (h : ∀ n ∈ ns, Cod oth mark cd n) {x : Str} (hx : x.cps.toList = ns.map cd) :
    PySem.intText? x = lawNum other mark ns := by
  have ha : ∀ c ∈ x.cps.toList, 0 < c ∧ c < 128 := by
    rw [hx]
    intro c hc
    obtain ⟨n, hn, rfl⟩ := List.mem_map.mp hc
    exact cod_ascii ho.is (h n hn)
  rw [intText_ascii ha (by rw [hx, List.length_map]; omega), hx]
  obtain ⟨e1, e2⟩ := lawNum_core ho hmk h
  unfold lawNum
  have hsub : ∀ n ∈ unsign other mark (trimR other mark (trimL other mark ns)), Cod oth mark cd n := by
    intro n hn
    refine h n ?_
    have h1 : n ∈ trimR other mark (trimL other mark ns) := by
      unfold unsign at hn
      split at hn
      · exact List.mem_of_mem_drop hn
      · exact hn
    have h2 : n ∈ trimL other mark ns := by
      unfold trimR at h1
      split at h1
      · exact List.mem_reverse.mp (dropWhile_sub (List.mem_reverse.mp h1))
      · exact h1
    unfold trimL at h2
    split at h2
    · exact dropWhile_sub h2
    · exact h2
  rw [ho.us, scan_digits hmk ho.is hsub, e1, e2, Option.map_map]
  rfl
/-- a text with an = in it is no number -/
theorem digits_eqsign {l : List Nat} (h : 61 ∈ l) : digits? 10 l = none := by
  have : ∀ (l : List Nat) (p : Array Nat × Bool), 61 ∈ l → l.foldlM (step 10) p = none := by
    intro l
    induction l with
    | nil => intro p h; cases h
    | cons c r ih =>
      intro p h
      rw [List.foldlM_cons]
      cases hs : step 10 p c with
      | none => rfl
      | some q =>
        show r.foldlM (step 10) q = none
        refine ih q ?_
        rcases List.mem_cons.mp h with e | e
        · rw [← e, step_sign (by omega)] at hs
          cases hs
        · exact e
  unfold digits?
  rw [this l _ h]
  rfl
theorem mem_dropWhile {p : Nat → Bool} {c : Nat} (hp : p c = false) : ∀ {l : List Nat}, c ∈ l → c ∈ l.dropWhile p
  | x :: r, h => by
    rw [List.dropWhile_cons]
    split
    · rename_i hx
      rcases List.mem_cons.mp h with e | e
      · rw [← e, hp] at hx; cases hx
      · exact mem_dropWhile hp e
    · exact h
theorem mem_sign {c : Nat} (h1 : c ≠ 45) (h2 : c ≠ 43) {t : List Nat} (h : c ∈ t) : c ∈ (sign t).2 := by
  unfold sign
  split
  · rcases List.mem_cons.mp h with e | e
    · exact absurd e h1
    · exact e
  · rcases List.mem_cons.mp h with e | e
    · exact absurd e h2
    · exact e
  · exact h
theorem int_eqsign {x : Str} (h : ∀ c ∈ x.cps.toList, 0 < c ∧ c < 128) (hl : x.cps.toList.length ≤ 4300) (h61 : 61 ∈ x.cps.toList) : PySem.intText? x = none := by
  rw [intText_ascii h hl]
  have : 61 ∈ core x.cps.toList := by
    unfold core
    exact List.mem_reverse.mpr (mem_dropWhile rfl (List.mem_reverse.mpr (mem_sign (by decide) (by decide) (mem_dropWhile rfl h61))))
  rw [digits_eqsign this]
  rfl
end

/-! split at a sign -/
theorem split_some (x y : Str) : Txt.split x y ≠ [] := by
  unfold Txt.split
  split
  · exact List.cons_ne_nil _ _
  · split
    · exact List.cons_ne_nil _ _
    · rw [StrLaws.partsBetween_eq]
      obtain ⟨p, q, e⟩ := StrLaws.partsFrom_ne x y.length 0 (Builtin.Str.occurrences x y 0 x.length (x.length + 1))
      rw [e]
      exact List.cons_ne_nil _ _
theorem join_list (c : Nat) (a b : Str) (r : List Str) : (Str.join ⟨#[c]⟩ (a :: b :: r)).cps.toList = a.cps.toList ++ c :: (Str.join ⟨#[c]⟩ (b :: r)).cps.toList := by
  show ((a.cps ++ #[c]) ++ (Str.join ⟨#[c]⟩ (b :: r)).cps).toList = _
  simp
theorem cut_same {c : Nat} : ∀ {p q a b : List Nat}, c ∉ p → c ∉ a → p ++ c :: q = a ++ c :: b → p = a ∧ q = b
  | [], q, [], b, _, _, h => ⟨rfl, (List.cons.inj h).2⟩
  | [], q, x :: a, b, _, h2, h => absurd (List.mem_cons.mpr (.inl (List.cons.inj h).1)) h2
  | x :: p, q, [], b, h1, _, h => absurd (List.mem_cons.mpr (.inl (List.cons.inj h).1.symm)) h1
  | x :: p, q, y :: a, b, h1, h2, h => by
    obtain ⟨rfl, e⟩ := List.cons.inj h
    obtain ⟨rfl, rfl⟩ := cut_same (fun hm => h1 (List.mem_cons_of_mem _ hm)) (fun hm => h2 (List.mem_cons_of_mem _ hm)) e
    exact ⟨rfl, rfl⟩
theorem str_of_list {x y : Str} (h : x.cps.toList = y.cps.toList) : x = y := Str.ext' (Array.toList_inj.mp h)
theorem split_two {x : Str} {c : Nat} {p q : List Nat} (hx : x.cps.toList = p ++ c :: q) (hp : c ∉ p) (hq : c ∉ q) : ∃ a b, Txt.split x ⟨#[c]⟩ = [a, b] ∧ a.cps.toList = p ∧ b.cps.toList = q := by
  have hj := congrArg (fun z : Str => z.cps.toList) (StrLaws.join_split x ⟨#[c]⟩)
  have hf := StrLaws.split_free x c
  have hne := split_some x ⟨#[c]⟩
  revert hj hf hne
  generalize Txt.split x ⟨#[c]⟩ = l
  intro hj hf hne
  rw [hx] at hj
  match l, hj, hf, hne with
  | [], _, _, hne => exact absurd rfl hne
  | [a], hj, hf, _ =>
    have : c ∈ a.cps.toList := by
      have e : a.cps.toList = p ++ c :: q := hj
      rw [e]; simp
    exact absurd this (hf a (List.mem_cons_self ..))
  | [a, b], hj, hf, _ =>
    rw [join_list] at hj
    obtain ⟨rfl, rfl⟩ := cut_same hp (hf a (List.mem_cons_self ..)) hj.symm
    exact ⟨a, b, rfl, rfl, rfl⟩
  | a :: b :: d :: r, hj, hf, _ =>
    rw [join_list] at hj
    obtain ⟨rfl, e⟩ := cut_same hp (hf a (List.mem_cons_self ..)) hj.symm
    rw [join_list] at e
    refine absurd ?_ hq
    rw [e]; simp
theorem two_split {x a b : Str} {c : Nat} (h : Txt.split x ⟨#[c]⟩ = [a, b]) : x.cps.toList = a.cps.toList ++ c :: b.cps.toList ∧ c ∉ a.cps.toList ∧ c ∉ b.cps.toList := by
  have hj := congrArg (fun z : Str => z.cps.toList) (StrLaws.join_split x ⟨#[c]⟩)
  have hf := StrLaws.split_free x c
  rw [h] at hj hf
  rw [join_list] at hj
  exact ⟨hj.symm, hf a (by simp), hf b (by simp)⟩
theorem two_none {x : Str} (h : ∀ p q, x.cps.toList = p ++ 46 :: q → 46 ∉ p → 46 ∈ q) : twoOf (Txt.split x (Str.ofString ".")) = none := by
  have e : Str.ofString "." = ⟨#[46]⟩ := by decide +kernel
  rw [e]
  unfold twoOf
  split
  · rename_i a b hs
    obtain ⟨h1, h2, h3⟩ := two_split hs
    exact absurd (h _ _ h1 h2) h3
  · rfl
theorem two_some {x : Str} {p q : List Nat} {m n : Option Int} (hx : x.cps.toList = p ++ 46 :: q) (hp : 46 ∉ p) (hq : 46 ∉ q)
    (hm : ∀ a : Str, a.cps.toList = p → PySem.intText? a = m) (hn : ∀ a : Str, a.cps.toList = q → PySem.intText? a = n) : twoOf (Txt.split x (Str.ofString ".")) = pairUp m n := by
  have e : Str.ofString "." = ⟨#[46]⟩ := by decide +kernel
  obtain ⟨a, b, h1, h2, h3⟩ := split_two hx hp hq
  rw [e, h1]
  unfold twoOf
  dsimp only
  rw [hm a h2, hn b h3]
  cases m <;> cases n <;> rfl
theorem two_eqsign {x : Str} {l : List Nat} (hx : x.cps.toList = l ++ [61]) (h : ∀ c ∈ x.cps.toList, 0 < c ∧ c < 128) (hl : x.cps.toList.length ≤ 4300) : twoOf (Txt.split x (Str.ofString ".")) = none := by
  have e : Str.ofString "." = ⟨#[46]⟩ := by decide +kernel
  rw [e]
  unfold twoOf
  split
  · rename_i a b hs
    obtain ⟨h1, h2, h3⟩ := two_split hs
    have hb : 61 ∈ b.cps.toList := by
      have h4 := congrArg List.getLast? (h1.symm.trans hx)
      rcases hc : b.cps.toList with _ | ⟨y, r⟩
      · rw [hc] at h4
        simp at h4
      · rw [hc] at h4
        rw [List.getLast?_append, List.getLast?_concat, List.getLast?_cons_cons] at h4
        have h5 : (y :: r).getLast? = some 61 := by
          cases hz : (y :: r).getLast? with
          | none => simp at hz
          | some z => rw [hz] at h4; simpa using h4
        exact List.mem_of_getLast? h5
    have ib := int_eqsign (x := b) (fun c hc => h c (by rw [h1]; simp [hc])) (by rw [h1, List.length_append, List.length_cons] at hl; omega) hb
    rw [ib]
    split
    · rename_i q; cases q
    · rfl
  · rfl

end
section
/-! the plain law: joined -/
theorem dots_mem {other : Str} {dot : Int} {W : List Int} {j : Nat} : j ∈ dots other dot W W.length ↔ j < W.length ∧ dotAt other dot (W.getD j 0) = true := by
  unfold dots
  rw [List.mem_filter, List.mem_range]
theorem dots_nodup (other : Str) (dot : Int) (W : List Int) : (dots other dot W W.length).Nodup := List.Nodup.sublist List.filter_sublist List.nodup_range
theorem one_of {l : List Nat} {k : Nat} (hn : l.Nodup) (hk : k ∈ l) (h : ∀ j ∈ l, j = k) : l = [k] := by
  match l, hn, hk, h with
  | [a], _, _, h => rw [h a (by simp)]
  | a :: b :: r, hn, _, h =>
    have e1 := h a (by simp)
    have e2 := h b (by simp)
    rw [e1, e2] at hn
    simp at hn
theorem getD_app (P : List Int) (d : Int) (Q : List Int) : (P ++ d :: Q).getD P.length 0 = d := by simp
theorem dots_at {other : Str} {dot d : Int} {P Q : List Int} (hd : dotAt other dot d = true) (hP : ∀ n ∈ P, dotAt other dot n = false) (hQ : ∀ n ∈ Q, dotAt other dot n = false) :
    dots other dot (P ++ d :: Q) (P ++ d :: Q).length = [P.length] := by
  refine one_of (dots_nodup _ _ _) (dots_mem.mpr ⟨by simp, by rw [getD_app]; exact hd⟩) fun j hj => ?_
  obtain ⟨h1, h2⟩ := dots_mem.mp hj
  by_cases hlt : j < P.length
  · have e : (P ++ d :: Q).getD j 0 = P[j] := by
      rw [List.getD_eq_getElem?_getD, List.getElem?_append_left hlt, List.getElem?_eq_getElem hlt]; rfl
    rw [e, hP _ (List.getElem_mem hlt)] at h2
    cases h2
  · by_cases he : j = P.length
    · exact he
    · have hj2 : j - P.length - 1 < Q.length := by simp at h1; omega
      have e : (P ++ d :: Q).getD j 0 = Q[j - P.length - 1] := by
        obtain ⟨i, rfl⟩ : ∃ i, j = P.length + (i + 1) := ⟨j - P.length - 1, by omega⟩
        have : P.length + (i + 1) - P.length - 1 = i := by omega
        simp only [this] at hj2 ⊢
        rw [List.getD_eq_getElem?_getD, List.getElem?_append_right (by omega)]
        simp only [Nat.add_sub_cancel_left, List.getElem?_cons_succ]
        rw [List.getElem?_eq_getElem hj2]; rfl
      rw [e, hQ _ (List.getElem_mem hj2)] at h2
      cases h2
theorem dots_one {other : Str} {dot : Int} {W : List Int} {k : Nat} (h : dots other dot W W.length = [k]) :
    ∃ d, W = W.take k ++ d :: W.drop (k + 1) ∧ dotAt other dot d = true ∧ (∀ n ∈ W.take k, dotAt other dot n = false) ∧ (∀ n ∈ W.drop (k + 1), dotAt other dot n = false) := by
  obtain ⟨h1, h2⟩ := dots_mem.mp (h ▸ List.mem_singleton.mpr rfl : k ∈ dots other dot W W.length)
  have hno : ∀ j, j < W.length → j ≠ k → dotAt other dot (W.getD j 0) = false := by
    intro j hj hne
    cases hd : dotAt other dot (W.getD j 0) with
    | false => rfl
    | true =>
      have := dots_mem.mpr ⟨hj, hd⟩
      rw [h] at this
      exact absurd (List.mem_singleton.mp this) hne
  have hg : ∀ j (hj : j < W.length), W.getD j 0 = W[j] := fun j hj => by rw [List.getD_eq_getElem?_getD, List.getElem?_eq_getElem hj]; rfl
  refine ⟨W[k], ?_, (hg k h1) ▸ h2, ?_, ?_⟩
  · rw [← List.drop_eq_getElem_cons h1, List.take_append_drop]
  · intro n hn
    obtain ⟨j, hj, rfl⟩ := List.getElem_of_mem hn
    rw [List.length_take] at hj
    rw [List.getElem_take, ← hg j (by omega)]
    exact hno j (by omega) (by omega)
  · intro n hn
    obtain ⟨j, hj, rfl⟩ := List.getElem_of_mem hn
    rw [List.length_drop] at hj
    rw [List.getElem_drop, ← hg _ (by omega)]
    exact hno _ (by omega) (by omega)
section
variable {other : Str} {oth : Nat} {dot : Int} {cd : Int → Nat} {W : List Int} {x : Str}
theorem dot_cod (ho : Oth other oth) (hdot : dot = 62 ∨ dot = 63) {n : Int} (h : (n = dot ∧ cd n = 46) ∨ Cod oth (125 - dot) cd n) : dotAt other dot n = decide (cd n = 46) := by
  unfold dotAt
  rw [ho.dt]
  rcases h with ⟨rfl, h2⟩ | h
  · rw [h2]; simp
  · have his := ho.is
    rcases h.one with ⟨h0, h1, h2⟩ | ⟨h0, h1, h2⟩ | ⟨h0, h1, h2⟩
    · have e1 : (n == dot) = false := by rw [beq_eq_false_iff_ne]; omega
      rw [e1, decide_eq_false (by omega : ¬ 61 < n), decide_eq_false (by omega : ¬ cd n = 46)]; simp
    · have e1 : (n == dot) = false := by rw [beq_eq_false_iff_ne]; omega
      rw [e1, decide_eq_false (by omega : ¬ 61 < n), decide_eq_false (by omega : ¬ cd n = 46)]; simp
    · have e1 : (n == dot) = false := by rw [beq_eq_false_iff_ne]; omega
      rw [e1, decide_eq_true (by omega : 61 < n), h2]; simp
theorem due_text (ho : Oth other oth) (hdot : dot = 62 ∨ dot = 63) (hW : In64 W) (hlen : W.length ≤ 20) (hcd : ∀ n, 0 ≤ n → n < 64 → (n = dot ∧ cd n = 46) ∨ Cod oth (125 - dot) cd n) (hx : x.cps.toList = W.map cd) :
    twoOf (Txt.split x (Str.ofString ".")) = dueOf other dot W := by
  have hd : ∀ n ∈ W, dotAt other dot n = decide (cd n = 46) := fun n hn => dot_cod ho hdot (hcd n (hW n hn).1 (hW n hn).2)
  have hmk : 62 ≤ 125 - dot := by omega
  have hcod : ∀ n ∈ W, dotAt other dot n = false → Cod oth (125 - dot) cd n := by
    intro n hn hf
    rcases hcd n (hW n hn).1 (hW n hn).2 with h | h
    · rw [hd n hn, h.2] at hf
      simp at hf
    · exact h
  have hno : ∀ L : List Int, (∀ n ∈ L, n ∈ W) → (∀ n ∈ L, dotAt other dot n = false) → 46 ∉ L.map cd := by
    intro L h1 h2 hm
    obtain ⟨n, hn, e⟩ := List.mem_map.mp hm
    have := h2 n hn
    rw [hd n (h1 n hn), e] at this
    simp at this
  unfold dueOf
  split
  · rename_i k hk
    obtain ⟨d, e, h1, h2, h3⟩ := dots_one hk
    have hs1 : ∀ n ∈ W.take k, n ∈ W := fun n hn => List.mem_of_mem_take hn
    have hs2 : ∀ n ∈ W.drop (k + 1), n ∈ W := fun n hn => List.mem_of_mem_drop hn
    have hdm : d ∈ W := by rw [e]; simp
    have hd46 : cd d = 46 := by
      rw [hd d hdm] at h1
      exact of_decide_eq_true h1
    refine two_some (p := (W.take k).map cd) (q := (W.drop (k + 1)).map cd) ?_ (hno _ hs1 h2) (hno _ hs2 h3) (fun a ha => ?_) (fun a ha => ?_)
    · rw [hx]
      conv => lhs; rw [e]
      rw [List.map_append, List.map_cons, hd46]
    · exact lawNum_text ho hmk (by rw [List.length_take]; omega) (fun n hn => hcod n (hs1 n hn) (h2 n hn)) ha
    · exact lawNum_text ho hmk (by rw [List.length_drop]; omega) (fun n hn => hcod n (hs2 n hn) (h3 n hn)) ha
  · rename_i hk
    refine two_none fun p q hpq hp => ?_
    refine Classical.byContradiction fun hq => ?_
    rw [hx] at hpq
    obtain ⟨P, R, rfl, rfl, hR⟩ := List.map_eq_append_iff.mp hpq
    obtain ⟨d, Q, rfl, hd46, rfl⟩ := List.map_eq_cons_iff.mp hR
    refine hk P.length (dots_at ?_ ?_ ?_)
    · rw [hd d (by simp)]; exact decide_eq_true hd46
    · intro n hn
      rw [hd n (by simp [hn])]
      exact decide_eq_false fun e => hp (List.mem_map.mpr ⟨n, hn, e⟩)
    · intro n hn
      rw [hd n (by simp [hn])]
      exact decide_eq_false fun e => hq (List.mem_map.mpr ⟨n, hn, e⟩)
end
/-- the two altchars' codes -/
structure Pair (oth : Nat) (dot c0 c1 : Int) : Prop where
  is : (dot = 62 ∧ c0 = 46 ∧ c1 = (oth : Int)) ∨ (dot = 63 ∧ c0 = (oth : Int) ∧ c1 = 46)
theorem Pair.dot {oth : Nat} {dot c0 c1 : Int} (h : Pair oth dot c0 c1) : dot = 62 ∨ dot = 63 := by
  rcases h.is with h | h
  · exact .inl h.1
  · exact .inr h.1
theorem pair_cod {oth : Nat} {dot c0 c1 : Int} (h : Pair oth dot c0 c1) (n : Int) (h0 : 0 ≤ n) (h1 : n < 64) :
    (n = dot ∧ (tr 43 47 c0 c1 (sgn n)).toNat = 46) ∨ Cod oth (125 - dot) (fun n => (tr 43 47 c0 c1 (sgn n)).toNat) n := by
  have e62 : sgn 62 = 43 := by decide
  have e63 : sgn 63 = 47 := by decide
  have t62 : tr 43 47 c0 c1 (sgn 62) = c0 := by rw [e62]; rfl
  have t63 : tr 43 47 c0 c1 (sgn 63) = c1 := by rw [e63]; rfl
  have hn : n < 52 ∨ (52 ≤ n ∧ n ≤ 61) ∨ n = 62 ∨ n = 63 := by omega
  rcases hn with hn | hn | rfl | rfl
  · have hl := sgn_letter h0 hn
    have e : tr 43 47 c0 c1 (sgn n) = sgn n := by
      unfold tr; rw [if_neg (by omega), if_neg (by omega)]
    refine .inr ⟨.inl ⟨h0, hn, ?_⟩⟩
    rw [e]; omega
  · have hl := sgn_figure hn.1 hn.2
    have e : tr 43 47 c0 c1 (sgn n) = sgn n := by
      unfold tr; rw [if_neg (by omega), if_neg (by omega)]
    refine .inr ⟨.inr (.inl ⟨hn.1, hn.2, ?_⟩)⟩
    rw [e]; omega
  · rcases h.is with ⟨rfl, rfl, rfl⟩ | ⟨rfl, rfl, rfl⟩
    · exact .inl ⟨rfl, by rw [t62]; rfl⟩
    · exact .inr ⟨.inr (.inr ⟨rfl, by decide, by rw [t62]; rfl⟩)⟩
  · rcases h.is with ⟨rfl, rfl, rfl⟩ | ⟨rfl, rfl, rfl⟩
    · exact .inr ⟨.inr (.inr ⟨rfl, by decide, by rw [t63]; rfl⟩)⟩
    · exact .inl ⟨rfl, by rw [t63]; rfl⟩
theorem oth_far {oth : Nat} (his : oth = 46 ∨ oth = 95 ∨ oth = 45 ∨ oth = 43 ∨ oth = 32) : (oth : Int) ≤ 46 ∨ (oth : Int) = 95 := by omega
theorem pair_far {oth : Nat} {dot c0 c1 s : Int} (h : Pair oth dot c0 c1) (ho2 : (oth : Int) ≤ 46 ∨ (oth : Int) = 95) (hs : (47 < s ∧ s < 95) ∨ 95 < s) : s ≠ 43 ∧ s ≠ 47 ∧ s ≠ c0 ∧ s ≠ c1 := by
  have h1 : s ≠ 43 ∧ s ≠ 47 ∧ s ≠ 46 ∧ s ≠ (oth : Int) := by omega
  rcases h.is with ⟨rfl, rfl, rfl⟩ | ⟨rfl, rfl, rfl⟩
  · exact h1
  · exact ⟨h1.1, h1.2.1, h1.2.2.2, h1.2.2.1⟩
theorem tr_back {oth : Nat} {dot c0 c1 : Int} {other : Str} (ho : Oth other oth) (h : Pair oth dot c0 c1) (hne : oth ≠ 46) {s : Int} (hs : s = 61 ∨ ∃ n, 0 ≤ n ∧ n < 64 ∧ s = sgn n) : tr c0 c1 43 47 (tr 43 47 c0 c1 s) = s := by
  have ho2 : (oth : Int) ≤ 46 ∨ (oth : Int) = 95 := oth_far ho.is
  have key : (s = 43 ∨ s = 47) ∨ (s ≠ 43 ∧ s ≠ 47 ∧ s ≠ c0 ∧ s ≠ c1) := by
    rcases hs with rfl | ⟨n, h0, h1, rfl⟩
    · exact .inr (pair_far h ho2 (.inl (by decide)))
    · have hn : n < 52 ∨ (52 ≤ n ∧ n ≤ 61) ∨ n = 62 ∨ n = 63 := by clear hne ho2; omega
      rcases hn with hn | hn | rfl | rfl
      · have hl := sgn_letter h0 hn
        refine .inr (pair_far h ho2 ?_)
        clear h0 h1 hn hne ho2
        omega
      · have hl := sgn_figure hn.1 hn.2
        refine .inr (pair_far h ho2 (.inl ?_))
        clear h0 h1 hne ho2
        omega
      · exact .inl (.inl (by decide))
      · exact .inl (.inr (by decide))
  have hc : c0 ≠ c1 := by clear hs; rcases h.is with ⟨rfl, rfl, rfl⟩ | ⟨rfl, rfl, rfl⟩ <;> omega
  rcases key with (rfl | rfl) | ⟨k1, k2, k3, k4⟩
  · show tr c0 c1 43 47 c0 = 43
    unfold tr
    rw [if_neg hc, if_pos rfl]
  · show tr c0 c1 43 47 c1 = 47
    unfold tr
    rw [if_pos rfl]
  · have e : tr 43 47 c0 c1 s = s := by unfold tr; rw [if_neg k2, if_neg k1]
    rw [e]
    unfold tr
    rw [if_neg k4, if_neg k3]
/-- what the law asks, of the plain values -/
structure Told (other : Str) (oth : Nat) (dot c0 c1 : Int) (W ks : List Int) (off : Nat) (ss : List Int) (x : Str) : Prop where
  len : ss.length = W.length
  code : ∀ c ∈ ss, 0 < c ∧ c < 128
  two : twoOf (Txt.split x (Str.ofString ".")) = if off = 0 then dueOf other dot W else none
  back : oth ≠ 46 → ∃ q lc p, (ss.map (tr c0 c1 43 47)).foldl a2bStep ([], 0, 0, 0) = (ks, q, lc, p) ∧ q ≠ 1 ∧ (q = 0 ∨ 4 ≤ q + p)
theorem code_in {oth : Nat} {dot c0 c1 : Int} {other : Str} (ho : Oth other oth) (h : Pair oth dot c0 c1) {W ks : List Int} {off : Nat} {ss : List Int} (hs : Signs W ks off ss) : ∀ c ∈ ss.map (tr 43 47 c0 c1), 0 < c ∧ c < 128 := by
  intro c hc
  obtain ⟨s, hm, rfl⟩ := List.mem_map.mp hc
  have his := ho.is
  rcases hs.are s hm with rfl | ⟨n, h0, h1, rfl⟩
  · exact ⟨(by decide : (0 : Int) < 61), (by decide : (61 : Int) < 128)⟩
  · rcases pair_cod h n h0 h1 with ⟨_, e⟩ | e
    · omega
    · have := cod_ascii his e
      omega
theorem told_of {other : Str} {oth : Nat} {dot c0 c1 : Int} {W : List Int} {m off : Nat} {x : Str} (ho : Oth other oth) (hp : Pair oth dot c0 c1) (hl : W.length = 4 * (m + 1)) (h20 : W.length ≤ 20) (hi : In64 W) (hoff : off ≤ 2)
    (hx : x.cps.toList = ((b2a ((octs W).take ((octs W).length - off))).map (tr 43 47 c0 c1)).map Int.toNat) :
    Told other oth dot c0 c1 W ((octs W).take ((octs W).length - off)) off ((b2a ((octs W).take ((octs W).length - off))).map (tr 43 47 c0 c1)) x := by
  have hs := signs_of hl hi hoff
  have hc := code_in ho hp hs
  generalize (octs W).take ((octs W).length - off) = ks at *
  refine ⟨by rw [List.length_map]; exact hs.len, hc, ?_, fun hne => ?_⟩
  · by_cases h0 : off = 0
    · rw [if_pos h0]
      refine due_text (cd := fun n => (tr 43 47 c0 c1 (sgn n)).toNat) ho hp.dot hi h20 (pair_cod hp) ?_
      rw [hx, hs.all h0, List.map_map, List.map_map]
      rfl
    · rw [if_neg h0]
      obtain ⟨l, e⟩ := hs.pad h0
      refine two_eqsign (l := (l.map (tr 43 47 c0 c1)).map Int.toNat) ?_ ?_ ?_
      · rw [hx, e, List.map_append, List.map_append]
        rfl
      · intro c hcm
        rw [hx] at hcm
        obtain ⟨s, hm, rfl⟩ := List.mem_map.mp hcm
        have := hc s hm
        omega
      · rw [hx, List.length_map, List.length_map, hs.len]; omega
  · obtain ⟨q, lc, p, h1, h2, h3⟩ := hs.back
    refine ⟨q, lc, p, ?_, h2, h3⟩
    have e : ((b2a ks).map (tr 43 47 c0 c1)).map (tr c0 c1 43 47) = b2a ks := by
      rw [List.map_map]
      refine (List.map_congr_left fun s hm => ?_).trans (List.map_id _)
      exact tr_back ho hp hne (hs.are s hm)
    rw [e]
    exact h1

end
section
local macro_rules | `(tactic| walk_at "call builtin:str.encode") => `(tactic| (refine call_encode2 (by assumption) (by assumption) ?_; intro _ _))
local macro_rules | `(tactic| walk_at "call builtin:bytes.decode") => `(tactic| (refine call_decode2 (by assumption) (by assumption) (by assumption) ?_; intro _ _))
noncomputable def numsOf (l : List Int) : List Int := if l.take 19 = [] then [42, 1, 2, 3, 18, 4, 5, 6] else l.take 19
theorem numsOf_length (l : List Int) : 1 ≤ (numsOf l).length ∧ (numsOf l).length ≤ 19 := by
  unfold numsOf
  split
  · decide
  · rename_i h
    exact ⟨Nat.pos_of_ne_zero fun q => h (List.length_eq_zero_iff.mp q), List.length_take_le _ _⟩
theorem in64_app {l m : List Int} (h1 : In64 l) (h2 : In64 m) : In64 (l ++ m) := fun n hn => (List.mem_append.mp hn).elim (h1 n) (h2 n)
theorem in64_one {x : Int} (h0 : 0 ≤ x) (h1 : x < 64) : In64 [x] := fun n hn => by rw [List.mem_singleton.mp hn]; exact ⟨h0, h1⟩
theorem in64_take {l : List Int} (h : In64 l) (k : Nat) : In64 (l.take k) := fun n hn => h n (List.mem_of_mem_take hn)
theorem in64_drop {l : List Int} (h : In64 l) (k : Nat) : In64 (l.drop k) := fun n hn => h n (List.mem_of_mem_drop hn)
theorem worths_of {os m : List Int} {k : Nat} (h : In64 os) (hm : In64 m) (h1 : 1 ≤ m.length) (h2 : m.length ≤ 2) (hl : os.length ≤ 18) :
    In64 (os.take k ++ m ++ os.drop k) ∧ 1 ≤ (os.take k ++ m ++ os.drop k).length ∧ (os.take k ++ m ++ os.drop k).length ≤ 20 := by
  refine ⟨in64_app (in64_app (in64_take h k) hm) (in64_drop h k), ?_, ?_⟩
  · simp only [List.length_append, List.length_take, List.length_drop]; omega
  · simp only [List.length_append, List.length_take, List.length_drop]; omega
theorem pad_len : ∀ n : Nat, n < 21 → 1 ≤ n → ∃ k : Nat, k < 4 ∧ ∃ m : Nat, m < 5 ∧ (-(n : Int)).fmod 4 = (k : Int) ∧ k + n = 4 * (m + 1) := by decide
theorem pad_of {W : List Int} (h : In64 W) (h1 : 1 ≤ W.length) (h2 : W.length ≤ 20) :
    In64 ((List.replicate ((-(W.length : Int)).fmod 4).toNat [52]).flatten ++ W) ∧ (∃ m, ((List.replicate ((-(W.length : Int)).fmod 4).toNat [(52 : Int)]).flatten ++ W).length = 4 * (m + 1)) ∧ ((List.replicate ((-(W.length : Int)).fmod 4).toNat [(52 : Int)]).flatten ++ W).length ≤ 20 := by
  obtain ⟨k, _, m, hm, ek, e⟩ := pad_len W.length (Nat.lt_succ_of_le h2) h1
  rw [ek, Int.toNat_natCast]
  have hl : ((List.replicate k [(52 : Int)]).flatten ++ W).length = k + W.length := by simp
  refine ⟨in64_app ?_ h, ⟨m, hl.trans e⟩, ?_⟩
  · intro n hn
    obtain ⟨l, hl, hn⟩ := List.mem_flatten.mp hn
    rw [(List.mem_replicate.mp hl).2] at hn
    rw [List.mem_singleton.mp hn]
    decide
  · rw [hl, e]; exact Nat.mul_le_mul_left 4 (Nat.succ_le_of_lt hm)
theorem dot_in {dot : Int} (h : dot = 62 ∨ dot = 63) : (0 ≤ dot ∧ dot < 64) ∧ (0 ≤ 125 - dot ∧ 125 - dot < 64) ∧ (0 ≤ dot ∧ dot ≤ 63) := by omega
theorem len_mod {n m : Nat} (h : n = 4 * (m + 1)) : n % 4 = 0 := by omega
theorem sub_in {n off m : Nat} (h : n = 3 * (m + 1)) (ho : off ≤ 2) : 0 ≤ (n : Int) - (off : Int) := by omega
theorem sub_nat {n off : Nat} : ((n : Int) - (off : Int)).toNat = n - off := Int.toNat_sub n off
theorem oct_len {n m l : Nat} (h : n = 3 * (m + 1)) (hl : l = 4 * (m + 1)) (h20 : l ≤ 20) : n ≤ 15 := by omega
theorem take_le {α : Type} {l : List α} {k n : Nat} (h : l.length ≤ n) : (l.take k).length ≤ n := by rw [List.length_take]; exact Nat.le_trans (Nat.min_le_right _ _) h
theorem off_zero {off : Nat} (h : (off : Int) = 0) : off = 0 := by omega
theorem off_not {off : Nat} (h : ¬ (off : Int) = 0) : ¬ off = 0 := by omega
theorem size_ne {n l m : Nat} (h : n = l) (hl : l = 4 * (m + 1)) : n ≠ 0 := by omega
theorem news_add {h₀ h h' : Heap} {L l : Addr} {m : Str → Option Value} {news : List (Addr × Obj)} {o : Obj} (F : Fr h₀ L h m) (N : News h₀ L h news) (k : h.StaysIn h') (hl : h'.get? l = some o) (hn : h.get? l = none) : News h₀ L h' ((l, o) :: news) := by
  refine List.forall_mem_cons.mpr ⟨⟨hl, ?_, ?_⟩, news_after N k⟩
  · intro z
    obtain ⟨o', es, ep, hL, _⟩ := F.ns
    change l = L at z
    rw [z, hL] at hn
    cases hn
  · cases z : h₀.get? l with
    | none => rfl
    | some o' =>
      have := F.keep _ _ z
      rw [hn] at this
      cases this
theorem oct_in : ∀ (l : List Int), In64 l → ∀ n ∈ octs l, 0 ≤ n ∧ n < 256
  | a :: b :: c :: d :: r, h, n, hn => by
    have ha := h a (.head _)
    have hb := h b (.tail _ (.head _))
    have hc := h c (.tail _ (.tail _ (.head _)))
    have hd := h d (.tail _ (.tail _ (.tail _ (.head _))))
    obtain ⟨q1, q2, q3⟩ := oct_vals (a := a) (b := b) hc hd
    simp only [octs, List.mem_cons] at hn
    rcases hn with rfl | rfl | rfl | hn
    · rw [q1]; exact two (b := 64) ha (dlt hb.1 (by decide) hb.2)
    · rw [q2]; exact two (rlt b (by decide)) (dlt hc.1 (by decide) hc.2)
    · rw [q3]; exact two (rlt c (by decide)) hd
    · exact oct_in r (fun x hx => h x (List.mem_append_right [a, b, c, d] hx)) n hn
  | [], _, _, hn => nomatch hn
  | [_], _, _, hn => nomatch hn
  | [_, _], _, _, hn => nomatch hn
  | [_, _, _], _, _, hn => nomatch hn
theorem fm_pos (x : Int) {m : Int} (h : 0 < m) : 0 ≤ x.fmod m ∧ x.fmod m < m := by
  rw [Int.fmod_eq_emod_of_nonneg _ (Int.le_of_lt h)]
  exact rlt x h
theorem fm_fig (x : Int) : 0 ≤ 52 + x.fmod 10 ∧ 52 + x.fmod 10 < 64 :=
  have q := fm_pos x (m := 10) (by decide)
  ⟨Int.add_nonneg (by decide) q.1, Int.lt_trans (Int.add_lt_add_left q.2 52) (by decide)⟩
/-- behind a statement: the name x holds a v -/
structure ValAt (g : Heap) (L : Addr) (s : Shared) (x : Str) (m₀ : Str → Option Value) (news : List (Addr × Obj)) (P : Value → Prop) (f : Flow) (s' : Shared) : Prop where
  next : f = .next
  all : ∃ v h tk, s' = { s with heap := h, toks := tk } ∧ Fr g L h (fun y => if y = x then some v else m₀ y) ∧ News g L h news ∧ P v
theorem ValAt.intro {g : Heap} {L : Addr} {s s' : Shared} {x : Str} {m₀ m' : Str → Option Value} {news news' : List (Addr × Obj)} {P : Value → Prop} {v : Value} (F : Fr g L s'.heap m') (N : News g L s'.heap news') (hk : m' x = some v) (hn : ∀ q ∈ news, q ∈ news') (hP : P v)
    (hm : ∀ z, z ≠ x → m' z = m₀ z) (hs : s' = { s with heap := s'.heap, toks := s'.toks }) : ValAt g L s x m₀ news P .next s' := by
  have e : m' = fun y => if y = x then some v else m₀ y := by
    funext y
    by_cases h : y = x
    · rw [if_pos h, h, hk]
    · rw [if_neg h, hm y h]
  exact ⟨rfl, v, s'.heap, s'.toks, hs, e ▸ F, fun q hq => N q (hn q hq), hP⟩
theorem ValAt.cons {prog : Program} {w : World} {A : Around} {E : Value → Shared → Prop} {Q : Flow → Shared → Prop} {st : Stmt} {r : List Stmt} {env : Env} {g : Heap} {L : Addr} {s : Shared} {m₀ : Str → Option Value} {news : List (Addr × Obj)} (F : Fr g L s.heap m₀) (N : News g L s.heap news) (x : Str) (P : Value → Prop)
    (one : wpAny (model prog w) A (exec st env) (ValAt g L s x m₀ news P) E s)
    (rest : ∀ v h tk, P v → Fr g L h (fun y => if y = x then some v else m₀ y) → News g L h news → wpAny (model prog w) A (execs r env) Q E { s with heap := h, toks := tk }) : wpAny (model prog w) A (execs (st :: r) env) Q E s := by
  refine wpAny_execs_cons (wpAny_mono one ?_ (fun _ _ x => x))
  rintro f s' ⟨rfl, v, h, tk, rfl, F', N', hP⟩
  exact rest v h tk hP F' N'
/-- behind a statement: the name x holds a list of ints -/
structure LstAt (g : Heap) (L : Addr) (s : Shared) (x : Str) (m₀ : Str → Option Value) (news : List (Addr × Obj)) (G : List Int → Prop) (f : Flow) (s' : Shared) : Prop where
  next : f = .next
  all : ∃ r vs l e h tk, s' = { s with heap := h, toks := tk } ∧ Fr g L h (fun y => if y = x then some (.ref r) else m₀ y) ∧ News g L h ((r, listOf vs.toArray e) :: news) ∧ IntsAre vs l ∧ G l
theorem LstAt.intro {g : Heap} {L : Addr} {s s' : Shared} {x : Str} {m₀ m' : Str → Option Value} {news news' : List (Addr × Obj)} {G : List Int → Prop} {r : Addr} {vs : List Value} {l : List Int} {e : Nat} (F : Fr g L s'.heap m') (N : News g L s'.heap news') (hk : m' x = some (.ref r)) (hr : (r, listOf vs.toArray e) ∈ news') (hn : ∀ q ∈ news, q ∈ news') (hI : IntsAre vs l) (hG : G l)
    (hm : ∀ z, z ≠ x → m' z = m₀ z) (hs : s' = { s with heap := s'.heap, toks := s'.toks }) : LstAt g L s x m₀ news G .next s' := by
  have e : m' = fun y => if y = x then some (.ref r) else m₀ y := by
    funext y
    by_cases h : y = x
    · rw [if_pos h, h, hk]
    · rw [if_neg h, hm y h]
  exact ⟨rfl, r, vs, l, _, s'.heap, s'.toks, hs, e ▸ F, List.forall_mem_cons.mpr ⟨N _ hr, fun q hq => N q (hn q hq)⟩, hI, hG⟩
theorem LstAt.cons {prog : Program} {w : World} {A : Around} {E : Value → Shared → Prop} {Q : Flow → Shared → Prop} {st : Stmt} {r : List Stmt} {env : Env} {g : Heap} {L : Addr} {s : Shared} {m₀ : Str → Option Value} {news : List (Addr × Obj)} (F : Fr g L s.heap m₀) (N : News g L s.heap news) (x : Str) (G : List Int → Prop)
    (one : wpAny (model prog w) A (exec st env) (LstAt g L s x m₀ news G) E s)
    (rest : ∀ r' vs l e h tk, G l → IntsAre vs l → Fr g L h (fun y => if y = x then some (.ref r') else m₀ y) → News g L h ((r', listOf vs.toArray e) :: news) → wpAny (model prog w) A (execs r env) Q E { s with heap := h, toks := tk }) : wpAny (model prog w) A (execs (st :: r) env) Q E s := by
  refine wpAny_execs_cons (wpAny_mono one ?_ (fun _ _ x => x))
  rintro f s' ⟨rfl, r', vs, l, e, h, tk, rfl, F', N', hI, hG⟩
  exact rest r' vs l e h tk hG hI F' N'
/-- the law's end -/
structure EndAt (g : Heap) (L : Addr) (s : Shared) (f : Flow) (s' : Shared) : Prop where
  ret : f = .ret (.bool true)
  all : ∃ h tk m, s' = { s with heap := h, toks := tk } ∧ Fr g L h m
theorem meth_encode {M : Model} {A : Around} {E : Value → Shared → Prop} {s : Shared} {x : Str} {t : Tok} {pl : Sem Bool} {Q : Value × List Value → Shared → Prop} (h : Q (.builtin "str.encode", [.str x t]) s) : wpAny M A (getMethod (.str x t) (Str.ofString "encode") pl) Q E s := by
  with_reducible exact getMethod_builtin (typeIs_str _ _ _) PySem.F.plainAttrs_str PySem.F.slot_str_encode PySem.F.type_str_encode (fun _ e => nomatch e) h
local macro_rules | `(tactic| walk_at "getMethod str") => `(tactic| ((with_reducible show wpAny _ _ (getMethod (Value.str _ _) (PySem.Str.ofString "encode") _) _ _ _); refine meth_encode ?_))
theorem bInts_text (b : Array UInt8) : (⟨b.map (·.toNat)⟩ : Str).cps.toList = (KBw.bInts b).map Int.toNat := by
  show (b.map _).toList = _
  simp only [KBw.bInts, Array.toList_map, List.map_map]
  rfl
theorem bInts_same {b c : Array UInt8} (h : KBw.bInts b = KBw.bInts c) : b = c := by
  apply Array.toList_inj.mp
  exact (List.map_inj_right (fun x y (q : ((x.toNat : Nat) : Int) = ((y.toNat : Nat) : Int)) => UInt8.toNat_inj.mp (by exact_mod_cast q))).mp h
theorem bInts_ascii {b : Array UInt8} (h : ∀ c ∈ KBw.bInts b, 0 < c ∧ c < 128) : ∀ c ∈ b.toList, c.toNat < 128 := by
  intro c hc
  have := h (c.toNat : Int) (List.mem_map.mpr ⟨c, hc, rfl⟩)
  omega
/-- what the law expects -/
noncomputable def dueV (off : Nat) (o : Str) (dot : Int) (W : List Int) : Option (Int × Int) := if off = 0 then dueOf o dot W else none
abbrev tupOf (k1 k2 : Int) (t1 t2 : Tok) : Obj := { cls := .type "tuple", data := .seq #[.int k1 t1, .int k2 t2] }
noncomputable def DueIs (dv : Option (Int × Int)) (dl : List (Addr × Obj)) (v : Value) : Prop :=
  (dv = none ∧ ∃ t, v = .str (Str.ofString "refused") t) ∨ (∃ k1 k2 d t1 t2, dv = some (k1, k2) ∧ v = .ref d ∧ dl = [(d, tupOf k1 k2 t1 t2)])
structure DueAt (g : Heap) (L : Addr) (s : Shared) (m₀ : Str → Option Value) (q : Addr × Obj) (dv : Option (Int × Int)) (f : Flow) (s' : Shared) : Prop where
  next : f = .next
  all : ∃ v dl h tk, s' = { s with heap := h, toks := tk } ∧ Fr g L h (fun y => if y = Str.ofString "due" then some v else m₀ y) ∧ News g L h (q :: dl) ∧ DueIs dv dl v
theorem DueAt.intro {g : Heap} {L : Addr} {s s' : Shared} {m₀ m' : Str → Option Value} {q : Addr × Obj} {news' : List (Addr × Obj)} {dv : Option (Int × Int)} {v : Value} (dl : List (Addr × Obj)) (F : Fr g L s'.heap m') (N : News g L s'.heap news') (hk : m' (Str.ofString "due") = some v) (hn : ∀ p ∈ q :: dl, p ∈ news') (hP : DueIs dv dl v)
    (hm : ∀ z, z ≠ Str.ofString "due" → m' z = m₀ z) (hs : s' = { s with heap := s'.heap, toks := s'.toks }) : DueAt g L s m₀ q dv .next s' := by
  have e : m' = fun y => if y = Str.ofString "due" then some v else m₀ y := by
    funext y
    by_cases h : y = Str.ofString "due"
    · rw [if_pos h, h, hk]
    · rw [if_neg h, hm y h]
  exact ⟨rfl, v, dl, s'.heap, s'.toks, hs, e ▸ F, fun q hq => N q (hn q hq), hP⟩
theorem DueAt.cons {prog : Program} {w : World} {A : Around} {E : Value → Shared → Prop} {Q : Flow → Shared → Prop} {st : Stmt} {r : List Stmt} {env : Env} {g : Heap} {L : Addr} {s : Shared} {m₀ : Str → Option Value} {q : Addr × Obj} (F : Fr g L s.heap m₀) (N : News g L s.heap [q]) (dv : Option (Int × Int))
    (one : wpAny (model prog w) A (exec st env) (DueAt g L s m₀ q dv) E s)
    (rest : ∀ v dl h tk, DueIs dv dl v → Fr g L h (fun y => if y = Str.ofString "due" then some v else m₀ y) → News g L h (q :: dl) → wpAny (model prog w) A (execs r env) Q E { s with heap := h, toks := tk }) : wpAny (model prog w) A (execs (st :: r) env) Q E s := by
  refine wpAny_execs_cons (wpAny_mono one ?_ (fun _ _ x => x))
  rintro f s' ⟨rfl, v, dl, h, tk, rfl, F', N', hP⟩
  exact rest v dl h tk hP F' N'
structure TldAt (g : Heap) (L : Addr) (s : Shared) (m₀ : Str → Option Value) (q : Addr × Obj) (dl : List (Addr × Obj)) (dv : Option (Int × Int)) (f : Flow) (s' : Shared) : Prop where
  next : f = .next
  all : ∃ v dl2 h tk, s' = { s with heap := h, toks := tk } ∧ Fr g L h (fun y => if y = Str.ofString "told" then some v else m₀ y) ∧ News g L h (q :: (dl2 ++ dl)) ∧ DueIs dv dl2 v
theorem TldAt.intro {g : Heap} {L : Addr} {s s' : Shared} {m₀ m' : Str → Option Value} {q : Addr × Obj} {news' dl : List (Addr × Obj)} {dv : Option (Int × Int)} {v : Value} (dl2 : List (Addr × Obj)) (F : Fr g L s'.heap m') (N : News g L s'.heap news') (hk : m' (Str.ofString "told") = some v) (hn : ∀ p ∈ q :: (dl2 ++ dl), p ∈ news') (hP : DueIs dv dl2 v)
    (hm : ∀ z, z ≠ Str.ofString "told" → m' z = m₀ z) (hs : s' = { s with heap := s'.heap, toks := s'.toks }) : TldAt g L s m₀ q dl dv .next s' := by
  have e : m' = fun y => if y = Str.ofString "told" then some v else m₀ y := by
    funext y
    by_cases h : y = Str.ofString "told"
    · rw [if_pos h, h, hk]
    · rw [if_neg h, hm y h]
  exact ⟨rfl, v, dl2, s'.heap, s'.toks, hs, e ▸ F, fun q hq => N q (hn q hq), hP⟩
theorem TldAt.cons {prog : Program} {w : World} {A : Around} {E : Value → Shared → Prop} {Q : Flow → Shared → Prop} {st : Stmt} {r : List Stmt} {env : Env} {g : Heap} {L : Addr} {s : Shared} {m₀ : Str → Option Value} {q : Addr × Obj} {dl : List (Addr × Obj)} (F : Fr g L s.heap m₀) (N : News g L s.heap (q :: dl)) (dv : Option (Int × Int))
    (one : wpAny (model prog w) A (exec st env) (TldAt g L s m₀ q dl dv) E s)
    (rest : ∀ v dl2 h tk, DueIs dv dl2 v → Fr g L h (fun y => if y = Str.ofString "told" then some v else m₀ y) → News g L h (q :: (dl2 ++ dl)) → wpAny (model prog w) A (execs r env) Q E { s with heap := h, toks := tk }) : wpAny (model prog w) A (execs (st :: r) env) Q E s := by
  refine wpAny_execs_cons (wpAny_mono one ?_ (fun _ _ x => x))
  rintro f s' ⟨rfl, v, dl, h, tk, rfl, F', N', hP⟩
  exact rest v dl h tk hP F' N'
theorem ne_tup_str {prog : Program} {w : World} {A : Around} {E : Value → Shared → Prop} {Q : Value → Shared → Prop} {s : Shared} {d : Addr} {k1 k2 : Int} {t1 t2 u : Tok} {b : Str} (hl : s.heap.get? d = some (tupOf k1 k2 t1 t2)) (hu : A.units < cLine) (h : Q (.bool true) s) : wpAny (model prog w) A (compareOp .NotEq (.ref d) (.str b u)) Q E s := by
  show wpAny _ A (richCompare .NotEq _ _) Q E s
  exact PySem.SeqAt.RcNeAt.tuple_str b u ⟨_, hl, rfl, _, rfl⟩ hu prog w E Q h
local macro_rules | `(tactic| walk_at "compareOp NotEq ref str") => `(tactic| (refine ne_tup_str (by assumption) (Nat.le_of_ble_eq_true rfl) ?_))
theorem ite_shadow {α : Type} {p : Prop} [Decidable p] {a b c : α} : (if p then a else if p then b else c) = if p then a else c := by
  by_cases h : p
  · rw [if_pos h, if_pos h]
  · rw [if_neg h, if_neg h, if_neg h]
theorem fr_as {g h : Heap} {L : Addr} {m m' : Str → Option Value} (F : Fr g L h m) (e : ∀ y, m y = m' y) : Fr g L h m' := (funext e : m = m') ▸ F
theorem other_is {i : Int} (h0 : 0 ≤ i) (h1 : i < 5) : ∃ oth, Oth (Txt.item (Str.ofString "._-+ ") i) oth ∧ (Txt.item (Str.ofString "._-+ ") i).cps.toList = [oth] := by
  have : i = 0 ∨ i = 1 ∨ i = 2 ∨ i = 3 ∨ i = 4 := by omega
  have e0 : Txt.item (Str.ofString "._-+ ") 0 = Str.ofString "." := by decide +kernel
  have e1 : Txt.item (Str.ofString "._-+ ") 1 = Str.ofString "_" := by decide +kernel
  have e2 : Txt.item (Str.ofString "._-+ ") 2 = Str.ofString "-" := by decide +kernel
  have e3 : Txt.item (Str.ofString "._-+ ") 3 = Str.ofString "+" := by decide +kernel
  have e4 : Txt.item (Str.ofString "._-+ ") 4 = Str.ofString " " := by decide +kernel
  rcases this with rfl | rfl | rfl | rfl | rfl
  · rw [e0]; exact ⟨46, oth_dot, by decide +kernel⟩
  · rw [e1]; exact ⟨95, oth_us, by decide +kernel⟩
  · rw [e2]; exact ⟨45, oth_mi, by decide +kernel⟩
  · rw [e3]; exact ⟨43, oth_pl, by decide +kernel⟩
  · rw [e4]; exact ⟨32, oth_bl, by decide +kernel⟩
/-- the two altchars' text -/
noncomputable def PairIs (o : Str) (z : Int) (v : Value) : Prop := ∃ pr t, v = .str pr t ∧ pr = if z = 1 then o ++ Str.ofString "." else Str.ofString "." ++ o
theorem pair_text {o pr : Str} {oth : Nat} {z : Int} (ho : o.cps.toList = [oth]) (hz : z = 0 ∨ z = 1) (hp : pr = if z = 1 then o ++ Str.ofString "." else Str.ofString "." ++ o) :
    ∃ c0 c1 : Int, Pair oth (62 + z) c0 c1 ∧ pr.cps.toList = [c0.toNat, c1.toNat] := by
  have hd : (Str.ofString ".").cps.toList = [46] := by decide +kernel
  have ha : ∀ a b : Str, (a ++ b).cps.toList = a.cps.toList ++ b.cps.toList := fun a b => by
    show (a.cps ++ b.cps).toList = _
    simp
  rcases hz with rfl | rfl
  · refine ⟨46, (oth : Int), ⟨.inl ⟨rfl, rfl, rfl⟩⟩, ?_⟩
    rw [hp, if_neg (by decide), ha, hd, ho]
    rfl
  · refine ⟨(oth : Int), 46, ⟨.inr ⟨rfl, rfl, rfl⟩⟩, ?_⟩
    rw [hp, if_pos rfl, ha, hd, ho]
    rfl
section
variable {prog : Program} {w : World} {A : Around} {E : Value → Shared → Prop} {s : Shared}
theorem item_offs {value slice : Expr} {l : Addr} {k : Int} {u t0 t1 t2 t3 t4 t5 t6 t7 : Tok} {Q : Value → Shared → Prop} (hl : s.heap.IsList l [Value.int 0 t0, Value.int 0 t1, Value.int 0 t2, Value.int 0 t3, Value.int 0 t4, Value.int 0 t5, Value.int 1 t6, Value.int 2 t7].toArray)
    (h0 : 0 ≤ k) (h1 : k < 8) (h : ∀ (o : Nat) t, o ≤ 2 → Q (.int (o : Int) t) s) (hs : subscripted slice false (.ref l) (.int k u) = operate [.ref l, .int k u] (getItem (.ref l) (.int k u))) :
    wpAny (model prog w) A (subscriptTail value slice (.ref l) (.int k u)) Q E s := by
  have hi : IntsAre [Value.int 0 t0, Value.int 0 t1, Value.int 0 t2, Value.int 0 t3, Value.int 0 t4, Value.int 0 t5, Value.int 1 t6, Value.int 2 t7] [0, 0, 0, 0, 0, 0, 1, 2] :=
    .cons _ _ (.cons _ _ (.cons _ _ (.cons _ _ (.cons _ _ (.cons _ _ (.cons _ _ (.cons _ _ .nil)))))))
  refine item_anyK hl hi h0 h1 (Int.lt_trans h1 (by decide)) (fun t => ?_) hs
  have : ∀ i, i < 8 → ∃ o : Nat, o ≤ 2 ∧ List.getD [0, 0, 0, 0, 0, 0, 1, 2] i 0 = (o : Int) := by
    have : ∀ i, i < 8 → ∃ o : Nat, o < 3 ∧ List.getD [0, 0, 0, 0, 0, 0, 1, 2] i 0 = (o : Int) := by decide
    exact fun i hi => (this i hi).imp fun _ q => ⟨Nat.le_of_lt_succ q.1, q.2⟩
  obtain ⟨o, ho, e⟩ := this k.toNat ((Int.toNat_lt h0).mpr h1)
  rw [e]
  exact h o t ho
end
local macro_rules | `(tactic| walk_at "subscriptTail") => `(tactic| (k_here; (with_unfolding_all refine' item_offs ?k1 ?k2 ?k3 ?_ ?k6; (case k2 => with_reducible assumption); (case k3 => with_reducible assumption); (case k1 => is_list); (case k6 => with_unfolding_all rfl); k_whole); intro _ _ _))
set_option maxRecDepth 100000 in
set_option maxHeartbeats 8000000 in
theorem law_holds : PySem.Challenge.rw_pa0002_01.Holds := hd (by
  k_go0
  rename World => w0
  rename_i _ _ _ _ _ _ _ _ _ _ _ _ _ _ _ _ _ _ _ _ _ _ _ _ _ _ _ sA vs0 _ _ _ _ _ _ _ _ _ _ _ _ _ _
  rename Fr _ _ _ _ => F
  rename News _ _ _ _ => N
  rename Top _ _ _ _ _ _ => T
  rename Below _ _ _ _ => B
  rename Frag.In _ _ => X
  replace B : Below callerA _ [] _ := B
  dsimp only [Top.heap] at B
  rename IntsAre _ _ => hI
  rename Heap.IsList _ _ _ => hls
  rename ¬ _ < _ => hr
  rename List Int => K0
  rename Shared => s1
  refine wpAny_mono (Q := EndAt s1.heap s1.heap.objs.size s1) ?_ ?_ (fun _ _ x => x)
  rotate_left
  · rintro f s' ⟨rfl, h9, tk9, m9, rfl, F9⟩
    clear F N
    dsimp only
    walk_at "mine go"
  walk_at "mine toif"
  rename IntsAre _ (List.take 19 K0) => hI1
  rename Fr _ _ _ _ => F1
  rename News _ _ _ _ => N1
  refine wpAny_execs_cons (wpAny_mono (Q := RestAt s1.heap s1.heap.objs.size s1 (Str.ofString "numbers") (fun y => [(Str.ofString "script", Value.ref sA)].lookup y) [] (numsOf K0)) ?_ ?_ (fun _ _ x => x))
  ·
    walk_at "mine go"
    · rename Fr _ _ _ _ => F2
      rename News _ _ _ _ => N2
      rename decide _ = true => he
      refine RestAt.intro F2 N2 (.head _) (fun q hq => nomatch hq) (.cons _ _ (.cons _ _ (.cons _ _ (.cons _ _ (.cons _ _ (.cons _ _ (.cons _ _ (.cons _ _ .nil)))))))) ?_ ?_ rfl
      · unfold numsOf; rw [if_pos (of_decide_eq_true he)]
      · intro z; by_cases hz : z = Str.ofString "numbers" <;> simp [hz]
    · rename Fr _ _ _ _ => F2
      rename News _ _ _ _ => N2
      rename decide _ = false => he
      refine RestAt.intro F2 N2 (.tail _ (.head _)) (fun q hq => nomatch hq) hI1 ?_ ?_ rfl
      · unfold numsOf; rw [if_neg (of_decide_eq_false he)]
      · intro z; by_cases hz : z = Str.ofString "numbers" <;> simp [hz]
  · rintro f s' ⟨rfl, r1, vs1, e1, h3, tk3, rfl, F2, N2, hI2⟩
    clear F1 N1 hI1
    have hnl := numsOf_length K0
    generalize numsOf K0 = ns at *
    clear hls hI hr
    dsimp only
    walk_at "mine toif"
    rename Fr _ _ _ _ => F3
    rename News _ _ _ _ => N3
    generalize htot : ns.sum = tot at *
    have hi0 := fm_pos tot (m := 5) (by decide)
    obtain ⟨oth, hOth, hoc⟩ := other_is hi0.1 hi0.2
    generalize hoo : Txt.item (Str.ofString "._-+ ") (tot.fmod 5) = o at *
    have hz : (tot.fdiv 5).fmod 2 = 0 ∨ (tot.fdiv 5).fmod 2 = 1 := by
      rw [Int.fmod_eq_emod_of_nonneg _ (by decide : (0 : Int) ≤ 2)]; omega
    with_reducible refine ValAt.cons F3 N3 (Str.ofString "pair") (PairIs o ((tot.fdiv 5).fmod 2)) ?_ ?_
    ·
      walk_at "mine go"
      · rename Fr _ _ _ _ => F4
        rename News _ _ _ _ => N4
        exact ValAt.intro F4 N4 rfl (fun q hq => hq) ⟨_, _, rfl, (if_pos (by assumption)).symm⟩ (fun z hz => if_neg hz) rfl
      · exact ValAt.intro F3 N3 rfl (fun q hq => hq) ⟨_, _, rfl, (if_neg (by assumption)).symm⟩ (fun _ _ => rfl) rfl
    · rintro v h4 tk4 ⟨pr, tpr, rfl, hpr⟩ F4 N4
      clear F3 N3
      dsimp only at F4 ⊢
      simp only [ite_shadow] at F4
      obtain ⟨c0, c1, hPair, hprc⟩ := pair_text hoc hz hpr
      with_reducible refine ValAt.cons F4 N4 (Str.ofString "dot") (fun v => ∃ t, v = .int (62 + (tot.fdiv 5).fmod 2) t) ?_ ?_
      ·
        walk_at "mine go"
        rename Fr _ _ _ _ => F5
        rename News _ _ _ _ => N5
        exact ValAt.intro F5 N5 rfl (fun q hq => hq) ⟨_, rfl⟩ (fun z hz => if_neg hz) rfl
      · rintro v h5 tk5 ⟨tdo, rfl⟩ F5 N5
        clear F4 N4
        dsimp only at F5 ⊢
        generalize hdot : 62 + (tot.fdiv 5).fmod 2 = dot at *
        have hd01 := hPair.dot
        have hdi := dot_in hd01
        clear hi0 hz
        walk_at "mine one"
        rename Fr _ _ _ _ => F6
        rename News _ _ _ _ => N6
        rename_i lW hW h6 _ 
        walk_at "mine one"
        rename Fr _ _ _ _ => F7
        rename News _ _ _ _ => N7
        rename IntsAre _ (List.drop 1 ns) => hI7
        clear hoo
        rename_i D7 ws7 h7 _ _ _
        refine kst_listL (σ := List Value × List Int × Nat) (fun c => [(D7, _), (lW, listOf c.1.toArray c.2.2), (r1, listOf vs1.toArray e1)]) (fun _ => []) (fun c => IntsAre c.1 c.2.1) [] (fun pre c => c.2.1.length = pre.length ∧ In64 c.2.1) ([], [], 0) rfl (fun _ => .head _) hI7 F7 N7 .nil (fun q hq => nomatch hq) ⟨rfl, fun n hn => nomatch hn⟩ ?_ ?_
        · rintro ⟨us, os, e⟩ pre post n tn u h tk own hsp hx hoff hfacts ⟨hP, hP2⟩ F8 N8
          dsimp only at hfacts hP hP2
          change News s1.heap s1.heap.objs.size h ((D7, _) :: (lW, listOf us.toArray e) :: (r1, listOf vs1.toArray e1) :: own) at N8
          clear F7 N7
          have hmk := kstMark
          have hus : us.length ≤ 18 := by
            rw [hfacts.length, hP]
            have := congrArg List.length hsp
            simp at this
            omega
          dsimp only
          walk_at "mine go"
          all_goals (
            rename Fr _ _ _ _ => F9
            rename News _ _ _ _ => N9
            simp only [List.push_toArray] at N9
            refine kst_end (us ++ [_], os ++ [_], _) F9 N9 (List.forall_mem_cons.mpr ⟨.head _, List.forall_mem_cons.mpr ⟨.tail _ (.head _), List.forall_mem_singleton.mpr (.tail _ (.tail _ (.head _)))⟩⟩)
              (fun q hq => .tail _ (.tail _ (.tail _ hq))) rfl (hfacts.append (.cons _ _ .nil)) (fun q hq => nomatch hq) ?_ ⟨?_, ?_⟩
            · walk_at "mine same"
            · simp only [List.length_append, List.length_singleton, hP]
            · have m1 := fm_pos n (m := 10) (by decide)
              have m2 := fm_pos (n.fdiv 20) (m := 64) (by decide)
              exact in64_app hP2 (in64_one (by omega) (by omega)))
        · rintro ⟨us, os, e⟩ u h tk hfacts ⟨hP, hP2⟩ F8 N8
          dsimp only at hfacts hP hP2
          k_unfold
          simp only [kstB, List.contains_nil, Bool.false_eq_true, if_false] at F8
          change Fr s1.heap s1.heap.objs.size h _ at F8
          change News s1.heap s1.heap.objs.size h [(D7, _), (lW, listOf us.toArray e), (r1, listOf vs1.toArray e1)] at N8
          dsimp only
          clear F7 N7 hI7
          have hol : os.length ≤ 18 := by rw [List.length_drop] at hP; omega
          walk_at "mine one"
          rename Fr _ _ _ _ => F9
          rename News _ _ _ _ => N9
          have hat := fm_pos (ns.getD (Int.toNat 0) 0) (m := (os.length : Int) + 1) (by omega)
          generalize (ns.getD (Int.toNat 0) 0).fmod ((os.length : Int) + 1) = at0 at *
          obtain ⟨hat0, hat1⟩ := hat
          with_reducible refine LstAt.cons F9 News.nil (Str.ofString "worths") (fun l => In64 l ∧ 1 ≤ l.length ∧ l.length ≤ 20) ?_ ?_
          ·
            walk_at "mine go"
            · rename Fr _ _ _ _ => F10
              rename News _ _ _ _ => N10
              exact LstAt.intro F10 N10 rfl (.head _) (fun q hq => nomatch hq) (by assumption) (worths_of hP2 (in64_app (in64_one (x := dot) hdi.1.1 hdi.1.2) (in64_one (x := 125 - dot) hdi.2.1.1 hdi.2.1.2)) (by simp) (by simp) hol) (fun z hz => if_neg hz) rfl
            · rename Fr _ _ _ _ => F10
              rename News _ _ _ _ => N10
              exact LstAt.intro F10 N10 rfl (.head _) (fun q hq => nomatch hq) (by assumption) (worths_of hP2 (in64_one (x := 52) (by decide) (by decide)) (by simp) (by simp) hol) (fun z hz => if_neg hz) rfl
            · rename Fr _ _ _ _ => F10
              rename News _ _ _ _ => N10
              exact LstAt.intro F10 N10 rfl (.head _) (fun q hq => nomatch hq) (by assumption) (worths_of hP2 (in64_one (x := dot) hdi.1.1 hdi.1.2) (by simp) (by simp) hol) (fun z hz => if_neg hz) rfl
          · rintro rW vsW W eW h10 tk10 ⟨hW1, hW2, hW3⟩ hIW F10 N10
            clear F9 N9 hP hP2 hol hat0 hat1 hfacts
            dsimp only at F10 ⊢
            with_reducible refine LstAt.cons F10 News.nil (Str.ofString "worths") (fun l => In64 l ∧ (∃ m, l.length = 4 * (m + 1)) ∧ l.length ≤ 20) ?_ ?_
            ·
              walk_at "mine go"
              rename Fr _ _ _ _ => F11
              rename News _ _ _ _ => N11
              exact LstAt.intro F11 N11 rfl (.head _) (fun q hq => nomatch hq) (by assumption) (pad_of hW1 hW2 hW3) (fun z hz => if_neg hz) rfl
            · rintro rW vsW W eW h11 tk11 ⟨hW1, ⟨mW, hW2⟩, hW3⟩ hIW F11 N11
              clear F10 N10
              dsimp only at F11 ⊢
              with_reducible refine ValAt.cons F11 N11 (Str.ofString "off") (fun v => ∃ (off : Nat) (t : Tok), v = .int (off : Int) t ∧ off ≤ 2) ?_ ?_
              ·
                obtain ⟨h80, h81⟩ := fm_pos (tot.fdiv 20) (m := 8) (by decide)
                walk_at "mine go"
                rename Fr _ _ _ _ => F12
                rename News _ _ _ _ => N12
                exact ValAt.intro F12 N12 rfl (by walk_at "mine sub") ⟨_, _, rfl, by assumption⟩ (fun z hz => if_neg hz) rfl
              · rintro v h12 tk12 ⟨off, tof, rfl, hof2⟩ F12 N12
                clear F11 N11
                simp only [ite_shadow] at F12
                dsimp only at F12 ⊢
                walk_at "mine one"
                have hW1' : ∀ n ∈ W, 0 ≤ n ∧ n < 64 := hW1
                have hls12 : h12.IsList rW vsW.toArray := ⟨_, (N12 _ (.head _)).1, rfl, _, rfl⟩
                refine wpAny_call ?_
                with_reducible refine call_octets (Cx.of B F12 X T (Around.frames_deeper B.stack) ?_ ?_ ?_ ?_ ?_) hls12 hIW ?_ hW3 hW1' (fun h13 tk13 lO usO os13 nO hos hIO hgO hnO hk13 => ?_)
                · rfl
                · rfl
                · rfl
                · exact Nat.le_of_ble_eq_true rfl
                · exact Nat.le_of_ble_eq_true rfl
                · exact len_mod hW2
                have F13 := fr_after F12 hk13
                have N13 := news_add F12 N12 hk13 hgO hnO
                clear F12 N12
                have hlo : (octs W).length = 3 * (mW + 1) := octs_length _ _ hW2
                dsimp only
                walk_at "mine cont"
                rename Fr _ _ _ _ => F14
                rename News _ _ _ _ => N14
                have hol : os13.length = 3 * (mW + 1) := by rw [hos, hlo]
                have hof : 0 ≤ (os13.length : Int) - off := sub_in hol hof2
                have hol2 : os13.length ≤ 15 := oct_len hol hW2 hW3
                have hks : os13.take ((os13.length : Int) - (off : Int)).toNat = (octs W).take ((octs W).length - off) := by
                  rw [hos, sub_nat]
                have hin : KBa.In (os13.take ((os13.length : Int) - (off : Int)).toNat) := by
                  rw [hks]
                  exact fun n hn => oct_in W hW1 n (List.mem_of_mem_take hn)
                have hkl : (os13.take ((os13.length : Int) - (off : Int)).toNat).length ≤ 15 := take_le hol2
                walk_at "mine one"
                rename Fr _ _ _ _ => F15
                rename News _ _ _ _ => N15
                rename IntsAre _ (List.take ((os13.length : Int) - (off : Int)).toNat os13) => hI15
                have hb16 := (KBa.ints_make hin).trans hks
                generalize byteArr (os13.take ((os13.length : Int) - (off : Int)).toNat) = b16 at *
                replace N15 : News _ _ _ [(rW, listOf vsW.toArray eW)] := fun q hq => N15 q (.tail _ (.tail _ hq))
                have hkl : (KBw.bInts b16).length ≤ 15 := by rw [hb16]; exact take_le (oct_len hlo hW2 hW3)
                clear hin hI15 hks hof hol hol2 hIO hgO hnO hk13 hls12 hlo hos
                simp only [ite_shadow] at F15
                with_reducible refine ValAt.cons F15 N15 (Str.ofString "due") (fun v => ∃ t, v = .str (Str.ofString "refused") t) ?_ ?_
                ·
                  walk_at "mine go"
                  rename Fr _ _ _ _ => F16
                  rename News _ _ _ _ => N16
                  exact ValAt.intro F16 N16 rfl (fun q hq => hq) ⟨_, rfl⟩ (fun z hz => if_neg hz) rfl
                rintro v h16 tk16 ⟨tdu, rfl⟩ F16 N16
                clear F15 N15
                dsimp only at F16 ⊢
                with_reducible refine DueAt.cons F16 N16 (dueV off o dot W) ?_ ?_
                ·
                  walk_at "mine go"
                  · rename_i hoff0
                    with_reducible refine call_due B F16 X N16 T (Around.frames_deeper B.stack) ?_ ?_ ?_ ?_ ?_ List.mem_cons_self hIW hW3 ?_ ?_ ?_
                    · rfl
                    · rfl
                    · rfl
                    · exact Nat.le_of_ble_eq_true rfl
                    · exact Nat.le_of_ble_eq_true rfl
                    · exact hdi.2.2
                    · intro hdn h' tk' t F' N'
                      clear F16 N16
                      dsimp only
                      walk_at "mine cont"
                      rename Fr _ _ _ _ => F17
                      rename News _ _ _ _ => N17
                      exact DueAt.intro [] F17 N17 rfl (fun q hq => hq) (.inl ⟨by rw [dueV, if_pos (off_zero (by assumption))]; exact hdn, _, rfl⟩) (fun z hz => if_neg hz) rfl
                    · intro k1 k2 hds h' tk' d t3 t4 F' N'
                      clear F16 N16
                      dsimp only
                      walk_at "mine cont"
                      rename Fr _ _ _ _ => F17
                      rename News _ _ _ _ => N17
                      exact DueAt.intro [(d, _)] F17 N17 rfl (List.forall_mem_cons.mpr ⟨.tail _ (.head _), List.forall_mem_singleton.mpr (.head _)⟩) (.inr ⟨k1, k2, d, t3, t4, by rw [dueV, if_pos (off_zero (by assumption))]; exact hds, rfl, rfl⟩) (fun z hz => if_neg hz) rfl
                  · exact DueAt.intro [] F16 N16 rfl (fun q hq => hq) (.inl ⟨by rw [dueV, if_neg (off_not (by assumption))], _, rfl⟩) (fun _ _ => rfl) rfl
                rintro v dl h17 tk17 hDue F17 N17
                clear F16 N16
                simp only [ite_shadow] at F17
                dsimp only at F17 ⊢
                obtain ⟨g2, hAsc, hg2⟩ := asc_of hOth.is (c0 := c0) (c1 := c1) (hPair.is.imp And.right And.right) hprc
                have hg2s : g2.size ≤ 1000 := by rw [← KBw.ints_length, hg2]; simp
                walk_at "mine one"
                refine wpAny_call ?_
                with_reducible refine call_enc (Cx.of B F17 X T (Around.frames_deeper B.stack) ?_ ?_ ?_ ?_ ?_) ?_ ?_ hb16 ?_ hg2 ?_
                · rfl
                · rfl
                · rfl
                · exact Nat.le_of_ble_eq_true rfl
                · exact Nat.le_of_ble_eq_true rfl
                · exact Nat.le_of_ble_eq_true rfl
                · exact Nat.le_of_ble_eq_true rfl
                · rw [← hb16]; exact hkl
                intro h18 tk18 b18 t18 hb18 hk18
                have F18 := fr_after F17 hk18
                have N18 := news_after N17 hk18
                clear F17 N17 hk18
                have hT := told_of (x := ⟨b18.map (·.toNat)⟩) hOth hPair hW2 hW3 hW1 hof2 (by rw [bInts_text, hb18])
                rw [← hb18] at hT
                have hl18 : b18.size = W.length := by rw [← KBw.ints_length]; exact hT.len
                have hs18 : b18.size ≤ 1000 := Nat.le_trans (Nat.le_of_eq hl18) (Nat.le_trans hW3 (by decide))
                have hz18 : b18.size ≠ 0 := size_ne hl18 hW2
                have h818 := bInts_ascii hT.code
                have htwo : twoOf (Txt.split ⟨b18.map (·.toNat)⟩ (Str.ofString ".")) = dueV off o dot W := hT.two
                have h8t : ∀ c ∈ (⟨b18.map (·.toNat)⟩ : Str).cps.toList, c < 128 := by
                  rw [bInts_text]
                  intro c hc
                  obtain ⟨y, hy, rfl⟩ := List.mem_map.mp hc
                  have := hT.code y hy
                  omega
                have h20t : (⟨b18.map (·.toNat)⟩ : Str).cps.size ≤ 20 := by
                  show (b18.map _).size ≤ 20
                  rw [Array.size_map, hl18]; exact hW3
                obtain ⟨ss, hss⟩ : ∃ ss, KBw.bInts b18 = ss := ⟨_, rfl⟩
                have hlss : (ss.length : Int) = (W.length : Int) := by rw [← hss, hT.len]
                have hlss20 : ss.length ≤ 20 := Nat.le_trans (Nat.le_of_eq (Int.ofNat_inj.mp hlss)) hW3
                clear hb18
                dsimp only
                walk_at "mine cont"
                rename Fr _ _ _ _ => F19
                rename News _ _ _ _ => N19
                with_reducible refine TldAt.cons F19 N19 (dueV off o dot W) ?_ ?_
                ·
                  walk_at "mine go"
                  rename Fr _ _ _ _ => F20
                  rename News _ _ _ _ => N20
                  with_reducible refine call_told F20 X N20 T (Around.frames_deeper B.stack) ?_ ?_ ?_ ?_ h20t h8t ?_ ?_
                  · rfl
                  · rfl
                  · rfl
                  · exact Nat.le_of_ble_eq_true rfl
                  · intro h2 h21 tk21 tt F21 N21
                    clear F20 N20
                    dsimp only
                    walk_at "mine cont"
                    rename Fr _ _ _ _ => F22
                    rename News _ _ _ _ => N22
                    exact TldAt.intro [] F22 N22 rfl (fun q hq => hq) (.inl ⟨htwo.symm.trans h2, _, rfl⟩) (fun z hz => if_neg hz) rfl
                  · intro k3 k4 h2 h21 tk21 d2 t3 t4 F21 N21
                    clear F20 N20
                    dsimp only
                    walk_at "mine cont"
                    rename Fr _ _ _ _ => F22
                    rename News _ _ _ _ => N22
                    exact TldAt.intro [(d2, _)] F22 N22 rfl (List.forall_mem_cons.mpr ⟨.tail _ (.head _), List.forall_mem_cons.mpr ⟨.head _, fun q hq => .tail _ (.tail _ hq)⟩⟩) (.inr ⟨k3, k4, d2, t3, t4, htwo.symm.trans h2, rfl, rfl⟩) (fun z hz => if_neg hz) rfl
                rintro v2 dl2 h23 tk23 hTld F23 N23
                clear F19 N19
                dsimp only at F23 ⊢
                with_reducible refine NxtAt.cons F23 N23 ?_ ?_
                ·
                  rcases hDue with ⟨hdn, td, rfl⟩ | ⟨k1, k2, d, t1, t2, hds, rfl, rfl⟩
                  · rcases hTld with ⟨hdn2, td2, rfl⟩ | ⟨k3, k4, d2, t3, t4, hds2, rfl, rfl⟩
                    · walk_at "mine go"
                      · exact absurd hlss (by assumption)
                      · rename Fr _ _ _ _ => Fq
                        rename News _ _ _ _ => Nq
                        exact NxtAt.intro Fq Nq (by walk_at "mine sub") rfl
                    · rw [hdn] at hds2
                      cases hds2
                  · rcases hTld with ⟨hdn2, td2, rfl⟩ | ⟨k3, k4, d2, t3, t4, hds2, rfl, rfl⟩
                    · rw [hds] at hdn2
                      cases hdn2
                    · rw [hds] at hds2
                      cases hds2
                      walk_at "mine go"
                      · exact absurd hlss (by assumption)
                      · rename Fr _ _ _ _ => Fq
                        rename News _ _ _ _ => Nq
                        exact NxtAt.intro Fq Nq (by walk_at "mine sub") rfl
                intro h24 tk24 F24 N24
                clear F23 N23
                dsimp only
                with_reducible refine NxtAt.cons F24 N24 ?_ ?_
                ·
                  rcases hTld with ⟨hdn2, td2, rfl⟩ | ⟨k3, k4, d2, t3, t4, hds2, rfl, rfl⟩
                  · walk_at "mine go"
                    rename Fr _ _ _ _ => Fq
                    rename News _ _ _ _ => Nq
                    exact NxtAt.intro Fq Nq (by walk_at "mine sub") rfl
                  · have hgd : h24.get? d2 = some (tupOf k3 k4 t3 t4) := (N24 _ (.tail _ (.head _))).1
                    walk_at "mine go"
                    rename Fr _ _ _ _ => Fq
                    rename News _ _ _ _ => Nq
                    exact NxtAt.intro Fq Nq (by walk_at "mine sub") rfl
                intro h25 tk25 F25 N25
                clear F24 N24
                dsimp only
                walk_at "mine one"
                · walk_at "mine go"
                  rename Fr _ _ _ _ => F26
                  exact ⟨rfl, _, _, _, rfl, F26⟩
                · rename (_ == _) = false => hne
                  rename Fr _ _ _ _ => F26
                  rename News _ _ _ _ => N26
                  have hne46 : oth ≠ 46 := by
                    intro q
                    rw [hOth.dt, q] at hne
                    exact absurd hne (by decide)
                  obtain ⟨qb, lb, pb, hbk, hq1, hq2⟩ := hT.back hne46
                  (try dsimp only)
                  with_reducible refine ValAt.cons F26 N26 (Str.ofString "back") (fun v => ∃ t, v = .bytes b16 t) ?_ ?_
                  ·
                    walk_at "mine go"
                    rename Fr _ _ _ _ => F27
                    rename News _ _ _ _ => N27
                    refine wpAny_call ?_
                    have hss' : KBw.bInts b18 = KBw.bInts b18 := rfl
                    have hl18' : (KBw.bInts b18).length ≤ 40 := by rw [hss]; exact Nat.le_trans hlss20 (by decide)
                    with_reducible refine call_dec (Cx.of B F27 X T (Around.frames_deeper B.stack) ?_ ?_ ?_ ?_ ?_) ?_ ?_ hss' hl18' hg2 hbk hq1 hq2 ?_
                    · rfl
                    · rfl
                    · rfl
                    · exact Nat.le_of_ble_eq_true rfl
                    · exact Nat.le_of_ble_eq_true rfl
                    · exact Nat.le_of_ble_eq_true rfl
                    · exact Nat.le_of_ble_eq_true rfl
                    intro h28 tk28 b28 t28 hb28 hk28
                    have F28 := fr_after F27 hk28
                    have N28 := news_after N27 hk28
                    clear F27 N27 hk28
                    have e28 : b28 = b16 := bInts_same (hb28.trans hb16.symm)
                    subst e28
                    dsimp only
                    walk_at "mine cont"
                    rename Fr _ _ _ _ => F29
                    rename News _ _ _ _ => N29
                    exact ValAt.intro F29 N29 rfl (by walk_at "mine sub") ⟨_, rfl⟩ (fun z hz => if_neg hz) rfl
                  rintro v h30 tk30 ⟨t30, rfl⟩ F30 N30
                  clear F26 N26
                  dsimp only at F30 ⊢
                  walk_at "mine go"
                  exact ⟨by rw [beq_self_eq_true], _, _, _, rfl, F30⟩)

end
end Mine
open Mine
theorem PySem.Challenge.cw_pa0002_01_holds : PySem.Challenge.rw_pa0002_01.Holds := by
  exact Mine.law_holds

