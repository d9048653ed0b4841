import PyProof.Rows.All
import Wide.All
import OpenK.AllK
import Wide.FinOn
import PySem.Challenge.RW_nb0083_01
set_option Elab.async false
set_option rowWalk.seconds 0
theorem Mine.freshL0 : True := by
  w_top off
  trivial
section
-- text L0
open PySem PySem.W PyProof.Rows
set_option Elab.async false
set_option maxRecDepth 100000
set_option maxHeartbeats 8000000
set_option linter.unusedVariables false
namespace Mine
section
variable {prog : Program} {w : World} {A : Around} {E : Value → Shared → Prop} {s : Shared} {env : Env} {h₀ : Heap}
open PyProof.Rows.LCg

/-- a turn's end: the ledger anew, the iterator's object as it was -/
def TurnEnd (h₀ : Heap) (L : Addr) (J : (Str → Option Value) → List (Addr × Obj) → Prop) (s : Shared) (I : Addr) (oI : Obj) (s₃ : Shared) : Prop :=
  ∃ h' tk' m' nx', s₃ = { s with heap := h', toks := tk' } ∧ Fr h₀ L h' m' ∧ News h₀ L h' ((I, oI) :: nx') ∧ (∀ p ∈ nx', p.1 ≠ I) ∧ J m' nx'
def TurnPost (h₀ : Heap) (L : Addr) (J : (Str → Option Value) → List (Addr × Obj) → Prop) (s : Shared) (I : Addr) (oI : Obj) (Q : Flow → Shared → Prop) (f : Flow) (s₃ : Shared) : Prop :=
  match f with
  | .next => TurnEnd h₀ L J s I oI s₃
  | .cont => TurnEnd h₀ L J s I oI s₃
  | .brk => Q .next s₃
  | .ret v => Q (.ret v) s₃

theorem forLoop_list {R : Flow → Shared → Prop} {EE : Value → Shared → Prop} {target : Expr} {body orelse : List Stmt} {I l : Addr} {vs : List Value} {ne : Nat} {m : Str → Option Value} {nx₀ : List (Addr × Obj)}
    (J : Nat → (Str → Option Value) → List (Addr × Obj) → Prop)
    (hh : A.handled = none) (hIL : env.locals ≠ I) (hI0 : h₀.get? I = none)
    (hl : ∀ i m nx, J i m nx → (l, listOf vs.toArray ne) ∈ nx)
    (hit : s.heap.IsListIter I l 0) (F : Fr h₀ env.locals s.heap m) (N : News h₀ env.locals s.heap nx₀) (hoff : ∀ p ∈ nx₀, p.1 ≠ I) (hJ : J 0 m nx₀)
    (turn : ∀ i v m₁ nx h tk oI, vs[i]? = some v → J i m₁ nx → (∀ p ∈ nx, p.1 ≠ I) → h.IsListIter I l (i + 1) → h.get? I = some oI → Fr h₀ env.locals h m₁ → News h₀ env.locals h ((I, oI) :: nx) →
      wpAny (model prog w) A (letOwnedTupleGo target (.ref I) v) (fun _ s₁ => wpAny (model prog w) A (assign target env v) (fun _ s₂ => wpAny (model prog w) A (execs body env) (TurnPost h₀ env.locals (J (i + 1)) s I oI R) (fun _ _ => False) s₂) (fun _ _ => False) s₁) (fun _ _ => False) { s with heap := h, toks := tk })
    (done : ∀ h' tk m' nx', Fr h₀ env.locals h' m' → News h₀ env.locals h' nx' → J vs.length m' nx' → wpAny (model prog w) A (execs orelse env) R (notedBy (model prog w) A env EE) { s with heap := h', toks := tk }) :
    codeAny (model prog w) A (.forLoop target (.ref I) body orelse env) (fun r s' => match r with | .ok f => R f s' | .error e => EE e s') s := by
  refine codeAny_forLoop_any
    (fun k s' => ∃ h' tk m' nx' i, s' = { s with heap := h', toks := tk } ∧ i ≤ vs.length ∧ k = vs.length + 1 - i ∧ h'.IsListIter I l i ∧ Fr h₀ env.locals h' m' ∧ News h₀ env.locals h' nx' ∧ (∀ p ∈ nx', p.1 ≠ I) ∧ J i m' nx') ?_ (vs.length + 1)
    ⟨s.heap, s.toks, m, nx₀, 0, rfl, Nat.zero_le _, rfl, hit, F, N, hoff, hJ⟩
  rintro k s' ⟨h', tk, m', nx', i, rfl, hi, rfl, hit', F', N', hoff', hJ'⟩
  have hm := hl _ _ _ hJ'
  have hne : l ≠ I := hoff' _ hm
  have hlist : h'.IsList l vs.toArray := ⟨_, (N' _ hm).1, rfl, _, rfl⟩
  have W := Walks.list (prog := prog) (w := w) hh I l hne vs.toArray
  by_cases hlt : i < vs.length
  · refine W.item i _ _ _ (by simpa using hlt) ⟨hit', hlist⟩ fun v h₁ tk₁ hP hst₁ hk₁ => ?_
    have hv : vs[i]? = some v := by simpa using hP
    obtain ⟨oI, hoI, _⟩ := id hst₁.1
    have N₁ : News h₀ env.locals h₁ ((I, oI) :: nx') := fun p hp => by
      rcases List.mem_cons.mp hp with rfl | hp
      · exact ⟨hoI, Ne.symm hIL, hI0⟩
      · exact news_but N' hk₁ hoff' p hp
    refine wpAny_mono (turn i v m' nx' h₁ tk₁ oI hv hJ' hoff' hst₁.1 hoI (fr_but F' hk₁ hIL hI0) N₁) (fun _ s₁ x₁ => wpAny_mono x₁ (fun _ s₂ x₂ => wpAny_mono x₂ (fun f s₃ x₃ => ?_) fun _ _ x => x.elim) fun _ _ x => x.elim) fun _ _ x => x.elim
    have fin : TurnEnd h₀ env.locals (J (i + 1)) s I oI s₃ → ∃ m, m < vs.length + 1 - i ∧ ∃ h' tk m' nx' j, s₃ = { s with heap := h', toks := tk } ∧ j ≤ vs.length ∧ m = vs.length + 1 - j ∧ h'.IsListIter I l j ∧ Fr h₀ env.locals h' m' ∧ News h₀ env.locals h' nx' ∧ (∀ p ∈ nx', p.1 ≠ I) ∧ J j m' nx' := by
      rintro ⟨h₃, tk₃, m₃, nx₃, rfl, F₃, N₃, off₃, J₃⟩
      refine ⟨vs.length + 1 - (i + 1), by omega, h₃, tk₃, m₃, nx₃, i + 1, rfl, hlt, rfl, ?_, F₃, fun p hp => N₃ p (List.mem_cons_of_mem _ hp), off₃, J₃⟩
      obtain ⟨o, ho, r⟩ := hst₁.1
      rw [hoI] at ho
      cases ho
      exact ⟨oI, (N₃ _ List.mem_cons_self).1, r⟩
    cases f with
    | next => exact fin x₃
    | cont => exact fin x₃
    | brk => exact x₃
    | ret v => exact x₃
  · obtain rfl : i = vs.length := by omega
    refine W.done _ _ _ ⟨by simpa using hit', hlist⟩ fun h₁ tk₁ hk₁ => ?_
    exact done h₁ tk₁ m' nx' (fr_but F' hk₁ hIL hI0) (news_but N' hk₁ hoff') hJ'

/-- what a for asks of the value that its source came to -/
def ForAt (prog : Program) (w : World) (A : Around) (env : Env) (target : Expr) (body orelse : List Stmt) (Q : Flow → Shared → Prop) (E : Value → Shared → Prop) (xv : Value) (s : Shared) : Prop :=
  wpAny (model prog w) A (pyIter xv) (fun it s₂ => codeAny (model prog w) A (.forLoop target it body orelse env) (fun r s' => match r with | .ok f => Q f s' | .error e => cameBackBy (model prog w) A env E e s') s₂) E s

theorem For_at {target iter : Expr} {body orelse : List Stmt} {pos : Pos} {Q : Flow → Shared → Prop} (h : wpAny (model prog w) A (eval iter env) (fun xv s₁ => ForAt prog w A env target body orelse Q E xv s₁) E s)
    (hs : ∀ x, foldedSetIterable iter env x = pure x := by intro _; rfl) : wpAny (model prog w) A (exec (.For target iter body orelse pos) env) Q E s :=
  wpAny_For h hs

theorem forAt_name {x : Str} {px : Pos} {body orelse : List Stmt} {Q : Flow → Shared → Prop} {l : Addr} {vs : List Value} {ne : Nat} {m : Str → Option Value} {nx₀ : List (Addr × Obj)}
    (J : Nat → (Str → Option Value) → List (Addr × Obj) → Prop) (hh : A.handled = none)
    (hx : env.kindOf x = some .local) (hp : (env.scope.kind == .class || (env.scope.kind == .module && env.locals != env.globals)) = false)
    (hl : ∀ i m nx, J i m nx → (l, listOf vs.toArray ne) ∈ nx) (F : Fr h₀ env.locals s.heap m) (N : News h₀ env.locals s.heap nx₀) (hJ : J 0 m nx₀)
    (turn : ∀ i v m₁ nx h tk I oI, vs[i]? = some v → J i m₁ nx → (∀ p ∈ nx, p.1 ≠ I) → Fr h₀ env.locals h (fun y => if y = x then some v else m₁ y) → News h₀ env.locals h ((I, oI) :: nx) →
      wpAny (model prog w) A (execs body env) (TurnPost h₀ env.locals (J (i + 1)) s I oI Q) (fun _ _ => False) { s with heap := h, toks := tk })
    (done : ∀ h' tk m' nx', Fr h₀ env.locals h' m' → News h₀ env.locals h' nx' → J vs.length m' nx' → wpAny (model prog w) A (execs orelse env) Q (notedBy (model prog w) A env (cameBackBy (model prog w) A env E)) { s with heap := h', toks := tk }) :
    ForAt prog w A env (.Name x px) body orelse Q E (.ref l) s := by
  have hm := hl _ _ _ hJ
  have hls : s.heap.IsList l vs.toArray := ⟨_, (N _ hm).1, rfl, _, rfl⟩
  refine wpAny_pyIter_list hls ?_
  have up : ∀ b o, s.heap.get? b = some o → (s.heap.push { cls := .type "list_iterator", data := .fields #[.ref l, .int 0 0] }).get? b = some o := fun b o e => Heap.get?_push_of_some _ e
  refine forLoop_list (h₀ := h₀) (l := l) (vs := vs) (ne := ne) (m := m) (nx₀ := nx₀) J hh (Nat.ne_of_lt F.ns.lt) (next_is_new F) hl ⟨_, Heap.get?_push_size _ rfl, rfl, rfl⟩ (F.keeps up) (N.grown up) (fun p hp => Nat.ne_of_lt (Heap.lt_size (N p hp).1)) hJ ?_ ?_
  · intro i v m₁ nx h tk oI hv hJ₁ off hit ho F₁ N₁
    refine wpAny_pure (wpAny_assign_Name (wpAny_storeName_local hx F₁.ns (fun h₂ hn₂ hs₂ => ?_) hp))
    exact turn i v m₁ nx h₂ _ _ oI hv hJ₁ off (F₁.set hn₂ hs₂) (N₁.set hs₂)
  · exact fun h' tk m' nx' F' N' J' => done h' tk m' nx' F' N' J'

theorem forAt_pair {x y : Str} {px py pt : Pos} {tk0 : Nat} {body orelse : List Stmt} {Q : Flow → Shared → Prop} {l : Addr} {vs : List Value} {ne : Nat} {m : Str → Option Value} {nx₀ : List (Addr × Obj)}
    (J : Nat → (Str → Option Value) → List (Addr × Obj) → Prop) (hh : A.handled = none)
    (hx : env.kindOf x = some .local) (hy : env.kindOf y = some .local) (hp : (env.scope.kind == .class || (env.scope.kind == .module && env.locals != env.globals)) = false)
    (hl : ∀ i m nx, J i m nx → (l, listOf vs.toArray ne) ∈ nx) (F : Fr h₀ env.locals s.heap m) (N : News h₀ env.locals s.heap nx₀) (hJ : J 0 m nx₀)
    (turn : ∀ i v m₁ nx, vs[i]? = some v → J i m₁ nx → ∃ T v₁ v₂ nt, v = .ref T ∧ (T, ({ cls := .type "tuple", data := .seq #[v₁, v₂] nt } : Obj)) ∈ nx ∧
      ∀ h tk I oI, (∀ p ∈ nx, p.1 ≠ I) → Fr h₀ env.locals h (fun z => if z = y then some v₂ else if z = x then some v₁ else m₁ z) → News h₀ env.locals h ((I, oI) :: nx) →
      wpAny (model prog w) A (execs body env) (TurnPost h₀ env.locals (J (i + 1)) s I oI Q) (fun _ _ => False) { s with heap := h, toks := tk })
    (done : ∀ h' tk m' nx', Fr h₀ env.locals h' m' → News h₀ env.locals h' nx' → J vs.length m' nx' → wpAny (model prog w) A (execs orelse env) Q (notedBy (model prog w) A env (cameBackBy (model prog w) A env E)) { s with heap := h', toks := tk }) :
    ForAt prog w A env (.Tuple [.Name x px, .Name y py] tk0 pt) body orelse Q E (.ref l) s := by
  have hm := hl _ _ _ hJ
  have hls : s.heap.IsList l vs.toArray := ⟨_, (N _ hm).1, rfl, _, rfl⟩
  refine wpAny_pyIter_list hls ?_
  have up : ∀ b o, s.heap.get? b = some o → (s.heap.push { cls := .type "list_iterator", data := .fields #[.ref l, .int 0 0] }).get? b = some o := fun b o e => Heap.get?_push_of_some _ e
  refine forLoop_list (h₀ := h₀) (l := l) (vs := vs) (ne := ne) (m := m) (nx₀ := nx₀) J hh (Nat.ne_of_lt F.ns.lt) (next_is_new F) hl ⟨_, Heap.get?_push_size _ rfl, rfl, rfl⟩ (F.keeps up) (N.grown up) (fun p hp => Nat.ne_of_lt (Heap.lt_size (N p hp).1)) hJ ?_ ?_
  · intro i v m₁ nx h tk oI hv hJ₁ off hit ho F₁ N₁
    obtain ⟨T, v₁, v₂, nt, rfl, hT, tn⟩ := turn i v m₁ nx hv hJ₁
    refine wpAny_letOwnedTupleGo_listiter hit ?_
    have ht : IsTup h T #[v₁, v₂] := ⟨_, (N₁ _ (List.mem_cons_of_mem _ hT)).1, rfl, nt, rfl⟩
    refine assign_Tuple_tuple hh ht rfl rfl fun h₅ he => ?_
    have he' : ∀ b o, h.get? b = some o → h₅.get? b = some o := fun b o e => he b o (Nat.ne_of_lt (Heap.lt_size e)) e
    have F₅ := F₁.keeps he'
    have N₅ := N₁.grown he'
    refine assignInOrder_cons (wpAny_assign_Name (wpAny_storeName_local hx F₅.ns (fun h₆ hn₆ hs₆ => ?_) hp))
    refine assignInOrder_cons (wpAny_assign_Name (wpAny_storeName_local hy hn₆ (fun h₇ hn₇ hs₇ => ?_) hp))
    refine assignInOrder_nil ?_
    exact tn h₇ _ _ oI off ((F₅.set hn₆ hs₆).set hn₇ hs₇) ((N₅.set hs₆).set hs₇)
  · exact fun h' tk m' nx' F' N' J' => done h' tk m' nx' F' N' J'
end
end Mine
end
theorem Mine.freshL1 : True := by
  w_top off
  trivial
section
-- text L1
open PySem PySem.W PyProof.Rows
set_option Elab.async false
set_option maxRecDepth 100000
set_option maxHeartbeats 8000000
set_option linter.unusedVariables false
namespace Mine
section
open PyProof.Rows.LCg PyProof.Rows.LCp
variable {prog : Program} {w : World} {A : Around} {s : Shared} {h₀ : Heap} {L : Addr} {m : Str → Option Value} {env : Env} {elt : Expr} {x x₂ : Str} {scope : Scope} {cl : List (Str × Addr)} {S : List (Addr × Obj) → Prop} {P : Nat → Value → Prop} {Fin : List Value → List (Addr × Obj) → Prop}

theorem compEnd_mono {s₁ s₂ : Shared} {I C D : Addr} {oI oC oD : Obj} {r r' : Value → List (Addr × Obj) → Prop} {y : Value} (h : CompEnd h₀ L m s₁ I oI C oC D oD S r y s₂) (k : ∀ nx, r y nx → r' y nx) : CompEnd h₀ L m s₁ I oI C oC D oD S r' y s₂ := by
  obtain ⟨h', tk, nx, e, F, N, o, hS, hr⟩ := h
  exact ⟨h', tk, nx, e, F, N, o, hS, k nx hr⟩

theorem compRest_of (J : Nat → List Value → List (Addr × Obj) → Prop) (n : Nat) (fin : ∀ ys nx, J n ys nx → Fin ys nx)
    (turn : ∀ i ys nx v I oI C oC D m₂ h tk (E' : Value → Shared → Prop), i < n → J i ys nx → P i v → NsObj oC m₂ → m₂ x = some v → Fr h₀ L h m → News h₀ L h ((I, oI) :: (C, oC) :: (D, lst ys) :: nx) → Off3 I C D nx → ((@Ne Nat I C) ∧ (@Ne Nat I D) ∧ (@Ne Nat C D)) →
      wpAny (model prog w) A (eval elt (compEnvC scope cl C env)) (CompEnd h₀ L m { s with heap := h, toks := tk } I oI C oC D (lst ys) S (fun y nx' => J (i + 1) (ys ++ [y]) nx')) E' { s with heap := h, toks := tk }) :
    ∀ k i ys nx, i + k = n → J i ys nx → CompRest prog w A h₀ L m env elt x scope cl s S P Fin k i ys nx
  | 0, i, ys, nx, e, hJ => .zero (fin ys nx (by rw [← e]; exact hJ))
  | k + 1, i, ys, nx, e, hJ => .succ fun v I oI C oC D m₂ h tk E' hP hC hx F N off ne =>
    wpAny_mono (turn i ys nx v I oI C oC D m₂ h tk E' (by omega) hJ hP hC hx F N off ne) (fun y s₂ hy => compEnd_mono hy fun nx' hJ' => compRest_of J n fin turn k (i + 1) (ys ++ [y]) nx' (by omega) hJ') fun _ _ x => x

theorem compRestP_of (J : Nat → List Value → List (Addr × Obj) → Prop) (n : Nat) (fin : ∀ ys nx, J n ys nx → Fin ys nx)
    (turn : ∀ i ys nx v, i < n → J i ys nx → P i v → ∃ (t : Addr) (v₁ v₂ : Value) (nt : Nat), v = .ref t ∧ (t, ({ cls := .type "tuple", data := .seq #[v₁, v₂] nt } : Obj)) ∈ nx ∧
      ∀ I oI C oC D m₂ h tk (E' : Value → Shared → Prop), NsObj oC m₂ → m₂ x = some v₁ → m₂ x₂ = some v₂ → Fr h₀ L h m → News h₀ L h ((I, oI) :: (C, oC) :: (D, lst ys) :: nx) → Off3 I C D nx → ((@Ne Nat I C) ∧ (@Ne Nat I D) ∧ (@Ne Nat C D)) →
      wpAny (model prog w) A (eval elt (compEnvC scope cl C env)) (CompEnd h₀ L m { s with heap := h, toks := tk } I oI C oC D (lst ys) S (fun y nx' => J (i + 1) (ys ++ [y]) nx')) E' { s with heap := h, toks := tk }) :
    ∀ k i ys nx, i + k = n → J i ys nx → CompRestP prog w A h₀ L m env elt x x₂ scope cl s S P Fin k i ys nx
  | 0, i, ys, nx, e, hJ => .zero (fin ys nx (by rw [← e]; exact hJ))
  | k + 1, i, ys, nx, e, hJ => .succ fun v hP => by
    obtain ⟨t, v₁, v₂, nt, rfl, hm, tn⟩ := turn i ys nx v (by omega) hJ hP
    refine ⟨t, _, v₁, v₂, nt, rfl, hm, rfl, rfl, fun I oI C oC D m₂ h tk E' hC hx hx₂ F N off ne => ?_⟩
    exact wpAny_mono (tn I oI C oC D m₂ h tk E' hC hx hx₂ F N off ne) (fun y s₂ hy => compEnd_mono hy fun nx' hJ' => compRestP_of J n fin turn k (i + 1) (ys ++ [y]) nx' (by omega) hJ') fun _ _ x => x

theorem compEnd_of {s₁ : Shared} {I C D : Addr} {oI oC oD : Obj} {r : Value → List (Addr × Obj) → Prop} {y : Value} {h' : Heap} {tk : Nat} {all nx : List (Addr × Obj)} (F : Fr h₀ L h' m) (N : News h₀ L h' all)
    (sub : ∀ p ∈ (I, oI) :: (C, oC) :: (D, oD) :: nx, p ∈ all) (off : ∀ p ∈ nx, p.1 ≠ I ∧ p.1 ≠ C ∧ p.1 ≠ D) (hS : S nx) (hr : r y nx) : CompEnd h₀ L m s₁ I oI C oC D oD S r y { s₁ with heap := h', toks := tk } :=
  CompEnd.intro F N nx sub (Off3.of off) hS hr
end
end Mine
end
theorem Mine.freshL2 : True := by
  w_top off
  trivial
section
-- text L2
open PySem PySem.W PyProof.Rows
set_option Elab.async false
set_option maxRecDepth 100000
set_option maxHeartbeats 8000000
set_option linter.unusedVariables false
namespace Mine
section
variable {prog : Program} {w : World} {A : Around} {E : Value → Shared → Prop} {s : Shared} {env : Env} {h₀ : Heap}
/-- a turn over enumerate: the two iterators' objects stay as they were -/
def TurnEnd2 (h₀ : Heap) (L : Addr) (J : (Str → Option Value) → List (Addr × Obj) → Prop) (s : Shared) (its : List (Addr × Obj)) (s₃ : Shared) : Prop :=
  ∃ h' tk' m' nx', s₃ = { s with heap := h', toks := tk' } ∧ Fr h₀ L h' m' ∧ News h₀ L h' (its ++ nx') ∧ (∀ p ∈ nx', p.1 ∉ its.map (·.1)) ∧ J m' nx'
def TurnPost2 (h₀ : Heap) (L : Addr) (J : (Str → Option Value) → List (Addr × Obj) → Prop) (s : Shared) (its : List (Addr × Obj)) (Q : Flow → Shared → Prop) (f : Flow) (s₃ : Shared) : Prop :=
  match f with
  | .next => TurnEnd2 h₀ L J s its s₃
  | .cont => TurnEnd2 h₀ L J s its s₃
  | .brk => Q .next s₃
  | .ret v => Q (.ret v) s₃
theorem fr_buts {h₀ h h' : Heap} {L : Addr} {wr : List Addr} {m : Str → Option Value} (F : Fr h₀ L h m) (hk : ∀ b o, b ∉ wr → h.get? b = some o → h'.get? b = some o) (hL : L ∉ wr) (hI : ∀ b ∈ wr, h₀.get? b = none) : Fr h₀ L h' m :=
  ⟨F.ns.at' fun o e => hk L o hL e, fun b o e => hk b o (fun hm => by rw [hI b hm] at e; cases e) (F.keep b o e), F.above⟩
theorem news_buts {h₀ h h' : Heap} {L : Addr} {wr : List Addr} {news : List (Addr × Obj)} (N : News h₀ L h news) (hk : ∀ b o, b ∉ wr → h.get? b = some o → h'.get? b = some o) (off : ∀ p ∈ news, p.1 ∉ wr) : News h₀ L h' news :=
  fun p hp => ⟨hk _ _ (off p hp) (N p hp).1, (N p hp).2⟩
theorem forLoop_enum {R : Flow → Shared → Prop} {EE : Value → Shared → Prop} {x y : Str} {px py pt : Pos} {tk0 : Nat} {body orelse : List Stmt} {e it l : Addr} {vs : List Value} {ne : Nat} {m : Str → Option Value} {nx₀ : List (Addr × Obj)} {old : Value}
    (J : Nat → (Str → Option Value) → List (Addr × Obj) → Prop)
    (hh : A.handled = none) (hx : env.kindOf x = some .local) (hy : env.kindOf y = some .local) (hp : (env.scope.kind == .class || (env.scope.kind == .module && env.locals != env.globals)) = false)
    (hei : e ≠ it) (hLw : env.locals ∉ [e, it]) (hw0 : ∀ b ∈ [e, it], h₀.get? b = none)
    (hl : ∀ i m nx, J i m nx → (l, listOf vs.toArray ne) ∈ nx)
    (hen : IsEnum s.heap e it 0 old) (hit : s.heap.IsListIter it l 0) (F : Fr h₀ env.locals s.heap m) (N : News h₀ env.locals s.heap nx₀) (hoff : ∀ p ∈ nx₀, p.1 ∉ [e, it]) (hJ : J 0 m nx₀)
    (turn : ∀ i v t m₁ nx h tk oe oi, vs[i]? = some v → J i m₁ nx → (∀ p ∈ nx, p.1 ∉ [e, it]) → Fr h₀ env.locals h (fun z => if z = y then some v else if z = x then some (.int (i : Int) t) else m₁ z) → News h₀ env.locals h ([(e, oe), (it, oi)] ++ nx) →
      wpAny (model prog w) A (execs body env) (TurnPost2 h₀ env.locals (J (i + 1)) s [(e, oe), (it, oi)] R) (fun _ _ => False) { s with heap := h, toks := tk })
    (done : ∀ h' tk m' nx', Fr h₀ env.locals h' m' → News h₀ env.locals h' nx' → J vs.length m' nx' → wpAny (model prog w) A (execs orelse env) R (notedBy (model prog w) A env EE) { s with heap := h', toks := tk }) :
    codeAny (model prog w) A (.forLoop (.Tuple [.Name x px, .Name y py] tk0 pt) (.ref e) body orelse env) (fun r s' => match r with | .ok f => R f s' | .error e => EE e s') s := by
  refine codeAny_forLoop_any
    (fun k s' => ∃ h' tk m' nx' i, s' = { s with heap := h', toks := tk } ∧ i ≤ vs.length ∧ k = vs.length + 1 - i ∧ (∃ old, IsEnum h' e it i old) ∧ h'.IsListIter it l i ∧ Fr h₀ env.locals h' m' ∧ News h₀ env.locals h' nx' ∧ (∀ p ∈ nx', p.1 ∉ [e, it]) ∧ J i m' nx') ?_ (vs.length + 1)
    ⟨s.heap, s.toks, m, nx₀, 0, rfl, Nat.zero_le _, rfl, ⟨old, hen⟩, hit, F, N, hoff, hJ⟩
  rintro k s' ⟨h', tk, m', nx', i, rfl, hi, rfl, hen', hit', F', N', hoff', hJ'⟩
  have hm := hl _ _ _ hJ'
  have hle : l ≠ e := fun q => hoff' _ hm (by rw [q]; simp)
  have hli : l ≠ it := fun q => hoff' _ hm (by rw [q]; simp)
  have hlist : h'.IsList l vs.toArray := ⟨_, (N' _ hm).1, rfl, _, rfl⟩
  have W := WalksT.enumerate (prog := prog) (w := w) hh e it l hei hle hli vs.toArray
  by_cases hlt : i < vs.length
  · refine W.item i _ _ _ (by simpa using hlt) ⟨hen', hit', hlist⟩ fun T vals h₁ tk₁ hPt _ hT hMid hk₁ => ?_
    obtain ⟨t, v, hv, rfl⟩ := hPt
    have hv : vs[i]? = some v := by simpa using hv
    refine W.go _ tk0 pt i T _ _ _ hMid fun h₂ hst₂ hk₂ => ?_
    have ht₂ : h₂.IsTuple T #[.int i t, v] := hT.at fun o q => hk₂ T o (W.apart i T h₁ hMid) q
    refine wpAny_assign_Tuple hh ht₂ rfl rfl fun h₃ hx₃ => ?_
    replace hx₃ : Heap.ExtBut h₂.objs.size h₂ h₃ := hx₃
    have up₃ : ∀ b o, h₂.get? b = some o → h₃.get? b = some o := fun b o q => hx₃ b o (Nat.ne_of_lt (Heap.lt_size q)) q
    have hk₃ : ∀ b o, b ∉ [e, it] → h'.get? b = some o → h₃.get? b = some o := fun b o hb q => up₃ b o (hk₂ b o hb (hk₁ b o hb q))
    have F₃ := fr_buts F' hk₃ hLw hw0
    have N₃ := news_buts N' hk₃ hoff'
    show wpAny _ A (do holding [v] (assign (.Name x px) env (.int i t)); do holding [] (assign (.Name y py) env v); pure ()) _ _ _
    refine wpAny_bind (wpAny_holding (wpAny_assign_Name (wpAny_storeName_local hx F₃.ns (fun h₄ hn₄ hs₄ => ?_) hp)))
    replace hs₄ : Heap.SameBut env.locals h₃ h₄ := hs₄
    have F₄ := F₃.set hn₄ hs₄
    refine wpAny_bind (wpAny_holding (wpAny_assign_Name (wpAny_storeName_local hy F₄.ns (fun h₅ hn₅ hs₅ => wpAny_pure ?_) hp)))
    replace hs₅ : Heap.SameBut env.locals h₄ h₅ := hs₅
    have F₅ := F₄.set hn₅ hs₅
    have N₅ : News h₀ env.locals h₅ nx' := (N₃.set hs₄).set hs₅
    have up₅ : ∀ b o, b ≠ env.locals → h₂.get? b = some o → h₅.get? b = some o := fun b o hb q => hs₅.extBut b o hb (hs₄.extBut b o hb (up₃ b o q))
    have heL : e ≠ env.locals := fun q => hLw (by rw [← q]; simp)
    have hiL : it ≠ env.locals := fun q => hLw (by rw [← q]; simp)
    obtain ⟨⟨old₂, he₂⟩, hi₂, _⟩ := hst₂
    have he₅ := up₅ _ _ heL he₂
    obtain ⟨oe, hoe₅, hback⟩ : ∃ oe, h₅.get? e = some oe ∧ ∀ h'' : Heap, h''.get? e = some oe → IsEnum h'' e it ((i + 1 : Nat) : Int) old₂ := ⟨_, he₅, fun _ q => q⟩
    obtain ⟨oi, hoi, hir⟩ := id hi₂
    have hoi₅ := up₅ _ _ hiL hoi
    have Nall : News h₀ env.locals h₅ ([(e, oe), (it, oi)] ++ nx') := fun p hp => by
      rcases List.mem_append.mp hp with hp | hp
      · rcases List.mem_cons.mp hp with rfl | hp
        · exact ⟨hoe₅, heL, hw0 e (by simp)⟩
        · rcases List.mem_singleton.mp hp with rfl
          exact ⟨hoi₅, hiL, hw0 it (by simp)⟩
      · exact N₅ p hp
    refine wpAny_mono (turn i v t m' nx' h₅ _ oe oi hv hJ' hoff' F₅ Nall) (fun f s₃ x₃ => ?_) fun _ _ q => q.elim
    have fin : TurnEnd2 h₀ env.locals (J (i + 1)) s [(e, oe), (it, oi)] s₃ → ∃ m, m < vs.length + 1 - i ∧ ∃ h' tk m' nx' j, s₃ = { s with heap := h', toks := tk } ∧ j ≤ vs.length ∧ m = vs.length + 1 - j ∧ (∃ old, IsEnum h' e it j old) ∧ h'.IsListIter it l j ∧ Fr h₀ env.locals h' m' ∧ News h₀ env.locals h' nx' ∧ (∀ p ∈ nx', p.1 ∉ [e, it]) ∧ J j m' nx' := by
      rintro ⟨h₆, tk₆, m₆, nx₆, rfl, F₆, N₆, off₆, J₆⟩
      refine ⟨vs.length + 1 - (i + 1), by omega, h₆, tk₆, m₆, nx₆, i + 1, rfl, hlt, rfl, ⟨old₂, ?_⟩, ⟨oi, ?_, hir⟩, F₆, fun p hp => N₆ p (List.mem_append_right _ hp), off₆, J₆⟩
      · exact hback _ (N₆ _ (List.mem_append_left _ List.mem_cons_self)).1
      · exact (N₆ _ (List.mem_append_left _ (List.mem_cons_of_mem _ List.mem_cons_self))).1
    cases f with
    | next => exact fin x₃
    | cont => exact fin x₃
    | brk => exact x₃
    | ret v => exact x₃
  · obtain rfl : i = vs.length := by omega
    refine W.done _ _ _ ⟨by simpa using hen', by simpa using hit', hlist⟩ fun h₁ tk₁ hk₁ => ?_
    exact done h₁ tk₁ m' nx' (fr_buts F' hk₁ hLw hw0) (news_buts N' hk₁ hoff') hJ'
theorem enum_for {x y : Str} {px py pt : Pos} {tk0 : Nat} {body orelse : List Stmt} {Q : Flow → Shared → Prop} {l : Addr} {vs : List Value} {ne : Nat} {m : Str → Option Value} {nx₀ : List (Addr × Obj)}
    (J : Nat → (Str → Option Value) → List (Addr × Obj) → Prop) (hh : A.handled = none)
    (hx : env.kindOf x = some .local) (hy : env.kindOf y = some .local) (hp : (env.scope.kind == .class || (env.scope.kind == .module && env.locals != env.globals)) = false)
    (hl : ∀ i m nx, J i m nx → (l, listOf vs.toArray ne) ∈ nx) (F : Fr h₀ env.locals s.heap m) (N : News h₀ env.locals s.heap nx₀) (hJ : J 0 m nx₀)
    (turn : ∀ i v t m₁ nx h tk e it oe oi, vs[i]? = some v → J i m₁ nx → (∀ p ∈ nx, p.1 ∉ [e, it]) → Fr h₀ env.locals h (fun z => if z = y then some v else if z = x then some (.int (i : Int) t) else m₁ z) → News h₀ env.locals h ([(e, oe), (it, oi)] ++ nx) →
      wpAny (model prog w) A (execs body env) (TurnPost2 h₀ env.locals (J (i + 1)) s [(e, oe), (it, oi)] Q) (fun _ _ => False) { s with heap := h, toks := tk })
    (done : ∀ h' tk m' nx', Fr h₀ env.locals h' m' → News h₀ env.locals h' nx' → J vs.length m' nx' → wpAny (model prog w) A (execs orelse env) Q (notedBy (model prog w) A env (cameBackBy (model prog w) A env E)) { s with heap := h', toks := tk }) :
    wpAny (model prog w) A (call (.type "enumerate") [.ref l]) (fun xv s₁ => ForAt prog w A env (.Tuple [.Name x px, .Name y py] tk0 pt) body orelse Q E xv s₁) E s := by
  have hm := hl _ _ _ hJ
  have hls : s.heap.IsList l vs.toArray := ⟨_, (N _ hm).1, rfl, _, rfl⟩
  have hLs : env.locals < s.heap.objs.size := F.ns.lt
  have fresh : ∀ a, s.heap.objs.size ≤ a → h₀.get? a = none := fun a ha => by
    cases q : h₀.get? a with
    | none => rfl
    | some o => exact absurd (Heap.lt_size (F.keep a o q)) (Nat.not_lt.mpr ha)
  refine call_enumerate_list hls fun h' hen hit hsz up => ?_
  unfold ForAt
  refine wpAny_pyIter_enum hen ?_
  refine forLoop_enum (h₀ := h₀) (s := { s with heap := h' }) (l := l) (vs := vs) (ne := ne) (m := m) (nx₀ := nx₀) J hh hx hy hp (Nat.succ_ne_self _) ?_ ?_ hl hen hit (F.keeps up) (N.grown up) ?_ hJ ?_ ?_
  · simp only [List.mem_cons, List.not_mem_nil, or_false, not_or]
    exact ⟨Nat.ne_of_lt (Nat.lt_succ_of_lt hLs), Nat.ne_of_lt hLs⟩
  · intro b hb
    rcases List.mem_cons.mp hb with rfl | hb
    · exact fresh _ (Nat.le_succ _)
    · rw [List.mem_singleton.mp hb]; exact fresh _ (Nat.le_refl _)
  · intro p hp
    have := Heap.lt_size (N p hp).1
    simp only [List.mem_cons, List.not_mem_nil, or_false, not_or]
    exact ⟨Nat.ne_of_lt (Nat.lt_succ_of_lt this), Nat.ne_of_lt this⟩
  · exact fun i v t m₁ nx h tk oe oi hv hJ' off F' N' => turn i v t m₁ nx h tk _ _ oe oi hv hJ' off F' N'
  · exact fun h' tk m' nx' F' N' J' => done h' tk m' nx' F' N' J'
end
end Mine
end
theorem Mine.freshL3 : True := by
  w_top off
  trivial
section
-- text L3
open PySem PySem.W PyProof.Rows
set_option Elab.async false
set_option maxRecDepth 100000
set_option maxHeartbeats 8000000
set_option linter.unusedVariables false
namespace Mine
section
open PyProof.Rows.LCg
variable {prog : Program} {w : World} {A : Around} {E : Value → Shared → Prop} {s : Shared} {env : Env} {h₀ : Heap}
/-- a for over range(n): the ledger stays, the frame changes at x and z alone -/
theorem forLoop_rangeJ {Q : Flow → Shared → Prop} {EE : Value → Shared → Prop} {x z : Str} {px : Pos} {body : List Stmt} {I : Addr} {n : Nat} {m : Str → Option Value} {nx : List (Addr × Obj)}
    (hh : A.handled = none) (hx : env.kindOf x = some .local) (hp : (env.scope.kind == .class || (env.scope.kind == .module && env.locals != env.globals)) = false)
    (hIL : env.locals ≠ I) (hI0 : h₀.get? I = none) (hit : IsRangeIter s.heap I (0 + ((0 : Nat) : Int) * 1) ((n : Int) - ((0 : Nat) : Int)) 1) (F : Fr h₀ env.locals s.heap m) (N : News h₀ env.locals s.heap nx) (off : ∀ p ∈ nx, p.1 ≠ I)
    (turn : ∀ (i : Nat) (xv : Option Value) h tk (t : Tok) oI, i < n → Fr h₀ env.locals h (fun q => if q = x then some (.int ((i : Nat) : Int) t) else if q = z then xv else m q) → News h₀ env.locals h ((I, oI) :: nx) →
      wpAny (model prog w) A (execs body env) (TurnPost h₀ env.locals (fun m' nx' => nx' = nx ∧ ∀ q, q ≠ x → q ≠ z → m' q = m q) s I oI Q) (fun _ _ => False) { s with heap := h, toks := tk })
    (done : ∀ (m' : Str → Option Value) h tk, (∀ q, q ≠ x → q ≠ z → m' q = m q) → Fr h₀ env.locals h m' → News h₀ env.locals h nx → Q .next { s with heap := h, toks := tk }) :
    codeAny (model prog w) A (.forLoop (.Name x px) (.ref I) body [] env) (fun r s' => match r with | .ok f => Q f s' | .error e => EE e s') s := by
  refine codeAny_forLoop_any
    (fun k s' => ∃ h' tk m' i, s' = { s with heap := h', toks := tk } ∧ i ≤ n ∧ k = n + 1 - i ∧ IsRangeIter h' I (0 + ((i : Nat) : Int) * 1) ((n : Int) - ((i : Nat) : Int)) 1 ∧ Fr h₀ env.locals h' m' ∧ News h₀ env.locals h' nx ∧ (∀ q, q ≠ x → q ≠ z → m' q = m q)) ?_ (n + 1)
    ⟨s.heap, s.toks, m, 0, rfl, Nat.zero_le _, rfl, hit, F, N, fun _ _ _ => rfl⟩
  rintro k s' ⟨h', tk, m', i, rfl, hi, rfl, hit', F', N', keep⟩
  have W := Walks.range (prog := prog) (w := w) hh I 0 1 n
  by_cases hlt : i < n
  · refine W.item i _ _ _ hlt hit' fun v h₁ tk₁ hP hst₁ hk₁ => ?_
    obtain ⟨t, rfl⟩ := hP
    obtain ⟨oI, hoI⟩ : ∃ oI : Obj, oI = { cls := .type "range_iterator", dict := none, data := .fields #[rawInt (0 + ((i + 1 : Nat) : Int) * 1), rawInt ((n : Int) - ((i + 1 : Nat) : Int)), rawInt 1], slots := #[] } := ⟨_, rfl⟩
    have hst₁' : h₁.get? I = some oI := by rw [hoI]; exact hst₁
    have F₁ := fr_but F' hk₁ hIL hI0
    have N₁ := news_but N' hk₁ off
    refine wpAny_pure (wpAny_assign_Name (wpAny_storeName_local hx F₁.ns (fun h₂ hn₂ hs₂ => ?_) hp))
    have F₂ := F₁.set hn₂ hs₂
    have N₂ := N₁.set hs₂
    have hst₂ : h₂.get? I = some oI := hs₂.extBut I _ (Ne.symm hIL) hst₁'
    have eF : (fun q => if q = x then some (Value.int (0 + (i : Int) * 1) t) else m' q) = (fun q => if q = x then some (.int ((i : Nat) : Int) t) else if q = z then m' z else m q) := by
      funext q
      by_cases h1 : q = x
      · rw [if_pos h1, if_pos h1]; simp
      · rw [if_neg h1, if_neg h1]
        by_cases h2 : q = z
        · rw [if_pos h2, h2]
        · rw [if_neg h2, keep q h1 h2]
    rw [eF] at F₂
    have N₃ : News h₀ env.locals h₂ ((I, oI) :: nx) := fun p hp => by
      rcases List.mem_cons.mp hp with rfl | hp
      · exact ⟨hst₂, Ne.symm hIL, hI0⟩
      · exact N₂ p hp
    refine wpAny_mono (turn i (m' z) h₂ _ t oI hlt F₂ N₃) (fun f s₃ x₃ => ?_) fun _ _ x => x.elim
    have fin : TurnEnd h₀ env.locals (fun m' nx' => nx' = nx ∧ ∀ q, q ≠ x → q ≠ z → m' q = m q) s I oI s₃ → ∃ m_1, m_1 < n + 1 - i ∧ ∃ h' tk m' j, s₃ = { s with heap := h', toks := tk } ∧ j ≤ n ∧ m_1 = n + 1 - j ∧ IsRangeIter h' I (0 + ((j : Nat) : Int) * 1) ((n : Int) - ((j : Nat) : Int)) 1 ∧ Fr h₀ env.locals h' m' ∧ News h₀ env.locals h' nx ∧ (∀ q, q ≠ x → q ≠ z → m' q = m q) := by
      rintro ⟨h₃, tk₃, m₃, nx₃, rfl, F₄, N₄, off₃, e₄, keep₃⟩
      subst e₄
      exact ⟨n + 1 - (i + 1), by omega, h₃, tk₃, m₃, i + 1, rfl, hlt, rfl, by rw [hoI] at N₄; exact (N₄ _ List.mem_cons_self).1, F₄, fun p hp => N₄ p (List.mem_cons_of_mem _ hp), keep₃⟩
    cases f with
    | next => exact fin x₃
    | cont => exact fin x₃
    | brk => exact x₃
    | ret v => exact x₃
  · obtain rfl : i = n := by omega
    refine W.done _ _ _ hit' fun h₁ tk₁ hk₁ => ?_
    exact wpAny_execs_nil (done m' h₁ tk₁ keep (fr_but F' hk₁ hIL hI0) (news_but N' hk₁ off))
theorem forAt_rangeJ {Q : Flow → Shared → Prop} {x z : Str} {px : Pos} {body : List Stmt} {r : Addr} {n : Nat} {t u v : Tok} {m : Str → Option Value} {nx : List (Addr × Obj)}
    (hr : IsRange s.heap r 0 (n : Int) 1 t u v) (hn : n ≤ 1000) (hh : A.handled = none) (hx : env.kindOf x = some .local) (hp : (env.scope.kind == .class || (env.scope.kind == .module && env.locals != env.globals)) = false)
    (F : Fr h₀ env.locals s.heap m) (N : News h₀ env.locals s.heap nx)
    (turn : ∀ (i : Nat) (xv : Option Value) h tk (t : Tok) I oI, i < n → (∀ p ∈ nx, p.1 ≠ I) → Fr h₀ env.locals h (fun q => if q = x then some (.int ((i : Nat) : Int) t) else if q = z then xv else m q) → News h₀ env.locals h ((I, oI) :: nx) →
      wpAny (model prog w) A (execs body env) (TurnPost h₀ env.locals (fun m' nx' => nx' = nx ∧ ∀ q, q ≠ x → q ≠ z → m' q = m q) s I oI Q) (fun _ _ => False) { s with heap := h, toks := tk })
    (done : ∀ (m' : Str → Option Value) h tk, (∀ q, q ≠ x → q ≠ z → m' q = m q) → Fr h₀ env.locals h m' → News h₀ env.locals h nx → Q .next { s with heap := h, toks := tk }) :
    ForAt prog w A env (.Name x px) body [] Q E (.ref r) s := by
  have hs : Builtin.Range.small 0 (n : Int) 1 = true := small_one (by decide) (by decide) (by omega) (by omega)
  have hz : Builtin.Range.rangeSize 0 (n : Int) 1 = (n : Int) := by
    rw [rangeSize_one]
    split <;> omega
  have hI0 : h₀.get? s.heap.objs.size = none := next_is_new F
  refine wpAny_pyIter_range hr hs ?_
  have up : ∀ b o, s.heap.get? b = some o → (s.heap.push { cls := .type "range_iterator", data := .fields #[rawInt 0, rawInt (Builtin.Range.rangeSize 0 n 1), rawInt 1] }).get? b = some o := fun b o e => Heap.get?_push_of_some _ e
  refine forLoop_rangeJ (z := z) hh hx hp (Nat.ne_of_lt F.ns.lt) hI0 (by show Heap.get? _ _ = _; rw [hz]; simpa using Heap.get?_push_size _ rfl) (F.keeps up) (N.grown up) (fun p hp => Nat.ne_of_lt (Heap.lt_size (N p hp).1)) ?_ ?_
  · intro i xv h tk t oI hi F₁ N₁
    exact turn i xv h tk t _ oI hi (fun p hp => Nat.ne_of_lt (Heap.lt_size (N p hp).1)) F₁ N₁
  · exact done
end
end Mine
end
theorem Mine.freshR0 : True := by
  w_top off
  trivial
section
-- text R0
set_option Elab.async false
set_option maxRecDepth 100000
set_option maxHeartbeats 8000000
set_option linter.unusedVariables false
namespace Mine
open PySem PySem.Sre
def CD : Array Nat := #[14, 4, 0, 1, 4294967295, 17, 0, 7, 14, 24, 10, 1, 4294967295, 13, 5, 22, 48, 57, 0, 1, 15, 17, 15, 13, 11, 9, 0, 26624, 2147483648, 0, 0, 0, 0, 0, 0, 15, 2, 0, 17, 1, 1]
def isDg (c : Nat) : Bool := 48 ≤ c && c ≤ 57
def isSp (c : Nat) : Bool := c == 46 || c == 95 || c == 43 || c == 45
def isLt (c : Nat) : Bool := (65 ≤ c && c ≤ 90) || (97 ≤ c && c ≤ 122)
/-- the frame that waits for the next start -/
def fS (s : Nat) (o : Bool) : PySem.Sre.Frame := { wait := .nextStart, pc := 5, pos := s, outermost := o }
/-- the machine at a start -/
def SS (text : Array Nat) (lim s : Nat) (mA o : Bool) (a b : Option Nat) (seen : Seen) : M :=
  { code := CD, text := text, lim := lim, start := s, lastStart := lim, mustAdvance := mA, pc := 5, pos := s, handed := s, outermost := o, marks := #[a, b], frames := [fS s o], weight := 1, seen := seen }
theorem runFor_add (a b : Nat) (m : M) : M.runFor (a + b) m = M.runFor b (M.runFor a m) := by
  induction a generalizing m with
  | zero => rw [Nat.zero_add]; rfl
  | succ a ih =>
    rw [Nat.succ_add]
    show (if m.outcome.isSome then m else M.runFor (a + b) m.step) = M.runFor b (if m.outcome.isSome then m else M.runFor a m.step)
    by_cases h : m.outcome.isSome = true
    · rw [if_pos h, if_pos h]
      clear ih
      cases b with
      | zero => rfl
      | succ b => show m = (if m.outcome.isSome then m else _); rw [if_pos h]
    · rw [if_neg h, if_neg h, ih]
theorem runFor_done {m : M} (h : m.outcome.isSome = true) (n : Nat) : M.runFor n m = m := by
  cases n with
  | zero => rfl
  | succ n => show (if m.outcome.isSome then m else _) = m; rw [if_pos h]
theorem runFor_one {m : M} (h : m.outcome = none) : M.runFor 1 m = m.step := by
  show (if m.outcome.isSome then m else M.runFor 0 m.step) = _
  rw [h]; rfl

theorem run_cons {m m' : M} {n : Nat} (h : m.outcome = none) (e : m.step = m') : M.runFor (n + 1) m = M.runFor n m' := by
  show (if m.outcome.isSome then m else M.runFor n m.step) = _
  rw [h, e]; rfl
/-- two steps: to the first alternative -/
theorem go2 (text : Array Nat) (lim s : Nat) (mA o : Bool) (a b : Option Nat) (seen : Seen) : ∃ sn, M.runFor 2 (SS text lim s mA o a b seen) =
   { code := CD, text := text, lim := lim, start := s, lastStart := lim, mustAdvance := mA, pc := 9, pos := s, handed := s, outermost := o, marks := #[some s, b], lastmark := 0, lastindex := -1,
     frames := [{ wait := .nextBranch, pc := 8, pos := s, outermost := o, kept := { lastmark := 0, lastindex := -1 } }, fS s o], weight := 2, seen := sn } := ⟨_, rfl⟩
/-- the machine at the first alternative -/
def A1 (text : Array Nat) (lim s : Nat) (mA o : Bool) (b : Option Nat) (sn : Seen) : M :=
   { code := CD, text := text, lim := lim, start := s, lastStart := lim, mustAdvance := mA, pc := 9, pos := s, handed := s, outermost := o, marks := #[some s, b], lastmark := 0, lastindex := -1,
     frames := [{ wait := .nextBranch, pc := 8, pos := s, outermost := o, kept := { lastmark := 0, lastindex := -1 } }, fS s o], weight := 2, seen := sn }
/-- the machine at the second alternative -/
def A2 (text : Array Nat) (lim s : Nat) (mA o : Bool) (b : Option Nat) (sn : Seen) : M :=
   { code := CD, text := text, lim := lim, start := s, lastStart := lim, mustAdvance := mA, pc := 23, pos := s, handed := s, outermost := o, marks := #[some s, b], lastmark := 0, lastindex := -1,
     frames := [{ wait := .nextBranch, pc := 22, pos := s, outermost := o, kept := { lastmark := 0, lastindex := -1 } }, fS s o], weight := 2, seen := sn }
theorem run_no {text : Array Nat} {n p : Nat} {sn : Seen} (h : isDg (text.getD p 0) = false) : ∃ sn', PySem.Sre.run CD text 13 n p 0 sn = .ok (0, sn') := by
  cases n with
  | zero => exact ⟨sn, rfl⟩
  | succ n =>
    have h1 : (48 ≤ text.getD p 0 && text.getD p 0 ≤ 57) = false := h
    have : ∃ sn', accepts CD 13 (text.getD p 0) sn = .ok (false, sn') := by
      refine ⟨(sn.add 22).add 0, ?_⟩
      show (if (48 ≤ text.getD p 0 && text.getD p 0 ≤ 57) then Except.ok (true, _) else Except.ok (!true, _)) = _
      rw [h1]; rfl
    obtain ⟨sn', e⟩ := this
    refine ⟨sn', ?_⟩
    unfold PySem.Sre.run
    rw [e]
    rfl
theorem run_dg {text : Array Nat} {n p f d : Nat} {sn : Seen} (hd : ∀ k, k < d → isDg (text.getD (p + k) 0) = true) (he : n = d ∨ (d < n ∧ isDg (text.getD (p + d) 0) = false)) : ∃ sn', PySem.Sre.run CD text 13 n p f sn = .ok (f + d, sn') := by
  induction d generalizing n p f sn with
  | zero =>
    rcases he with rfl | ⟨h1, h2⟩
    · exact ⟨sn, rfl⟩
    · cases n with
      | zero => exact absurd h1 (Nat.lt_irrefl _)
      | succ n =>
        have h3 : (48 ≤ text.getD p 0 && text.getD p 0 ≤ 57) = false := h2
        have : ∃ sn', accepts CD 13 (text.getD p 0) sn = .ok (false, sn') := by
          refine ⟨(sn.add 22).add 0, ?_⟩
          show (if (48 ≤ text.getD p 0 && text.getD p 0 ≤ 57) then Except.ok (true, _) else Except.ok (!true, _)) = _
          rw [h3]; rfl
        obtain ⟨sn', e⟩ := this
        refine ⟨sn', ?_⟩
        unfold PySem.Sre.run
        rw [e]
        rfl
  | succ d ih =>
    cases n with
    | zero => rcases he with h | h <;> omega
    | succ n =>
      have h3 : (48 ≤ text.getD p 0 && text.getD p 0 ≤ 57) = true := hd 0 (by omega)
      have : ∃ sn', accepts CD 13 (text.getD p 0) sn = .ok (true, sn') := by
        refine ⟨(sn.add 22), ?_⟩
        show (if (48 ≤ text.getD p 0 && text.getD p 0 ≤ 57) then Except.ok (true, _) else Except.ok (!true, _)) = _
        rw [h3]; rfl
      obtain ⟨sn', e⟩ := this
      obtain ⟨sn2, e2⟩ := ih (n := n) (p := p + 1) (f := f + 1) (sn := sn') (fun k hk => by rw [Nat.add_assoc, Nat.add_comm 1 k]; exact hd (k + 1) (by omega)) (by
        rcases he with h | ⟨h, h'⟩
        · left; omega
        · right; refine ⟨by omega, ?_⟩; rw [Nat.add_assoc, Nat.add_comm 1 d]; exact h')
      refine ⟨sn2, ?_⟩
      unfold PySem.Sre.run
      rw [e]
      show PySem.Sre.run CD text 13 n (p + 1) (f + 1) sn' = _
      rw [e2, Nat.add_assoc, Nat.add_comm 1 d]
theorem A1_no {text : Array Nat} {lim s : Nat} (mA o : Bool) (b : Option Nat) (sn : Seen) (h : s < lim → isDg (text.getD s 0) = false) (hs : s ≤ lim) : ∃ sn', M.runFor 2 (A1 text lim s mA o b sn) = A2 text lim s mA o b sn' := by
  have : ∃ sn', (A1 text lim s mA o b sn).step = { A1 text lim s mA o b sn' with answer := some false } := by
    by_cases hl : s < lim
    · obtain ⟨sn', e⟩ := run_no (n := min 4294967295 ((lim : Int) - s).toNat) (sn := (sn.add 24).add 13) (h hl)
      refine ⟨sn', ?_⟩
      show (if (1 : Int) > (lim : Int) - (s : Int) then _ else _) = _
      rw [if_neg (by omega)]
      generalize hR : PySem.Sre.run _ _ _ _ _ _ _ = R
      have hR' : R = .ok (0, sn') := hR.symm.trans e
      rw [hR']
      rfl
    · refine ⟨sn.add 24, ?_⟩
      show (if (1 : Int) > (lim : Int) - (s : Int) then _ else _) = _
      rw [if_pos (by omega)]
      rfl
  obtain ⟨sn', e⟩ := this
  exact ⟨_, (run_cons rfl e).trans ((run_cons rfl rfl).trans rfl)⟩

theorem charset_lt : ∀ c : Nat, c < 128 → isLt c = true → (decide (c < 256) && (CD.getD (25 + (1 + c / 32)) 0).testBit (c % 32)) = false := by decide +kernel
theorem charset_sp : ∀ c : Nat, c < 128 → isSp c = true → (decide (c < 256) && (CD.getD (25 + (1 + c / 32)) 0).testBit (c % 32)) = true := by decide +kernel
theorem isLt_lt {c : Nat} (h : isLt c = true) : c < 128 := by
  unfold isLt at h
  simp only [Bool.or_eq_true, Bool.and_eq_true, decide_eq_true_eq] at h
  omega
theorem isSp_lt {c : Nat} (h : isSp c = true) : c < 128 := by
  unfold isSp at h
  simp only [Bool.or_eq_true, beq_iff_eq] at h
  omega
theorem isLt_dg {c : Nat} (h : isLt c = true) : isDg c = false := by
  have := isLt_lt h
  unfold isLt at h
  unfold isDg
  simp only [Bool.or_eq_true, Bool.and_eq_true, decide_eq_true_eq] at h
  simp only [Bool.and_eq_false_iff, decide_eq_false_iff_not]
  omega
theorem isSp_dg {c : Nat} (h : isSp c = true) : isDg c = false := by
  unfold isSp at h
  unfold isDg
  simp only [Bool.or_eq_true, beq_iff_eq] at h
  simp only [Bool.and_eq_false_iff, decide_eq_false_iff_not]
  omega
theorem acc_lt {c : Nat} (h : isLt c = true) (sn : Seen) : ∃ sn', accepts CD 23 c sn = .ok (false, sn') := by
  refine ⟨(sn.add 9).add 0, ?_⟩
  show (if (decide (c < 256) && (CD.getD (25 + (1 + c / 32)) 0).testBit (c % 32)) then Except.ok (true, _) else Except.ok (!true, _)) = _
  rw [charset_lt c (isLt_lt h) h]
  rfl
theorem acc_sp {c : Nat} (h : isSp c = true) (sn : Seen) : ∃ sn', accepts CD 23 c sn = .ok (true, sn') := by
  refine ⟨(sn.add 9), ?_⟩
  show (if (decide (c < 256) && (CD.getD (25 + (1 + c / 32)) 0).testBit (c % 32)) then Except.ok (true, _) else Except.ok (!true, _)) = _
  rw [charset_sp c (isSp_lt h) h]
  rfl
theorem A2_lt {text : Array Nat} {lim s : Nat} (mA o : Bool) (b : Option Nat) (sn : Seen) (h : s < lim) (hc : isLt (text.getD s 0) = true) :
    ∃ sn', M.runFor 3 (A2 text lim s mA o b sn) = SS text lim (s + 1) false false (some s) b sn' := by
  have : ∃ sn', (A2 text lim s mA o b sn).step = { A2 text lim s mA o b sn' with answer := some false } := by
    obtain ⟨sn', e⟩ := acc_lt hc (sn.add 13)
    refine ⟨sn', ?_⟩
    show (if s ≥ lim then _ else _) = _
    rw [if_neg (by omega)]
    generalize hR : accepts _ _ _ _ = R
    have hR' : R = .ok (false, sn') := hR.symm.trans e
    rw [hR']
    rfl
  obtain ⟨sn', e⟩ := this
  refine ⟨sn', (run_cons rfl e).trans ((run_cons (m' := { A2 text lim s mA o b sn' with frames := [fS s o], weight := 1, pc := 22, answer := some false }) rfl rfl).trans ((run_cons rfl ?_).trans rfl))⟩
  show (if s < lim then _ else _) = _
  rw [if_pos h]
  rfl
theorem A2_end {text : Array Nat} {lim : Nat} (mA o : Bool) (b : Option Nat) (sn : Seen) :
    ∃ m', M.runFor 4 (A2 text lim lim mA o b sn) = m' ∧ m'.outcome = some .failed := by
  have : ∃ sn', (A2 text lim lim mA o b sn).step = { A2 text lim lim mA o b sn' with answer := some false } := by
    refine ⟨sn.add 13, ?_⟩
    show (if lim ≥ lim then _ else _) = _
    rw [if_pos (Nat.le_refl _)]
    rfl
  obtain ⟨sn', e⟩ := this
  refine ⟨_, (run_cons rfl e).trans ((run_cons (m' := { A2 text lim lim mA o b sn' with frames := [fS lim o], weight := 1, pc := 22, answer := some false }) rfl rfl).trans ((run_cons (m' := { A2 text lim lim mA o b sn' with frames := [], weight := 0, pc := 5, answer := some false }) rfl ?_).trans ((run_cons (m' := { A2 text lim lim mA o b sn' with frames := [], weight := 0, pc := 5, answer := some false, outcome := some .failed }) rfl rfl).trans rfl))), rfl⟩
  show (if lim < lim then _ else _) = _
  rw [if_neg (Nat.lt_irrefl _)]
  rfl
/-- a found piece -/
structure Fnd (m : M) (s e : Nat) : Prop where
  outcome : m.outcome = some .matched
  start : m.start = s
  handed : m.handed = e
  lastmark : m.lastmark = 1
  marks : m.marks = #[some s, some e]
theorem A2_sp {text : Array Nat} {lim s : Nat} (o : Bool) (b : Option Nat) (sn : Seen) (h : s < lim) (hc : isSp (text.getD s 0) = true) :
    ∃ m', M.runFor 7 (A2 text lim s false o b sn) = m' ∧ Fnd m' s (s + 1) := by
  have : ∃ sn', (A2 text lim s false o b sn).step = { A2 text lim s false o b sn' with pc := 35, pos := s + 1 } := by
    obtain ⟨sn', e⟩ := acc_sp hc (sn.add 13)
    refine ⟨sn', ?_⟩
    show (if s ≥ lim then _ else _) = _
    rw [if_neg (by omega)]
    generalize hR : accepts _ _ _ _ = R
    have hR' : R = .ok (true, sn') := hR.symm.trans e
    rw [hR']
    rfl
  obtain ⟨sn', e⟩ := this
  cases o
  · exact ⟨_, (run_cons rfl e).trans ((run_cons (m' := { A2 text lim s false false b sn' with pc := 38, pos := s + 1, handed := s, frames := { wait := .nextBranch, pc := 22, pos := s, outermost := false, kept := { lastmark := 0, lastindex := -1 } } :: [fS s false], weight := 2, seen := sn'.add 15 }) rfl rfl).trans ((run_cons (m' := { A2 text lim s false false b sn' with pc := 40, pos := s + 1, handed := s, frames := { wait := .nextBranch, pc := 22, pos := s, outermost := false, kept := { lastmark := 0, lastindex := -1 } } :: [fS s false], weight := 2, seen := (sn'.add 15).add 17, marks := #[some s, some (s + 1)], lastmark := 1, lastindex := ((CD.getD 39 0 / 2 + 1 : Nat) : Int) }) rfl rfl).trans ((run_cons (m' := { A2 text lim s false false b sn' with pc := 40, pos := s + 1, handed := s + 1, frames := { wait := .nextBranch, pc := 22, pos := s, outermost := false, kept := { lastmark := 0, lastindex := -1 } } :: [fS s false], weight := 2, seen := ((sn'.add 15).add 17).add 1, marks := #[some s, some (s + 1)], lastmark := 1, lastindex := ((CD.getD 39 0 / 2 + 1 : Nat) : Int), answer := some true }) rfl rfl).trans ((run_cons (m' := { A2 text lim s false false b sn' with pc := 22, pos := s, handed := s + 1, frames := [fS s false], weight := 1, seen := ((sn'.add 15).add 17).add 1, marks := #[some s, some (s + 1)], lastmark := 1, lastindex := ((CD.getD 39 0 / 2 + 1 : Nat) : Int), answer := some true }) rfl rfl).trans ((run_cons (m' := { A2 text lim s false false b sn' with pc := 5, pos := s, handed := s + 1, frames := [], weight := 0, seen := ((sn'.add 15).add 17).add 1, marks := #[some s, some (s + 1)], lastmark := 1, lastindex := ((CD.getD 39 0 / 2 + 1 : Nat) : Int), answer := some true }) rfl rfl).trans ((run_cons (m' := { A2 text lim s false false b sn' with pc := 5, pos := s, handed := s + 1, frames := [], weight := 0, seen := ((sn'.add 15).add 17).add 1, marks := #[some s, some (s + 1)], lastmark := 1, lastindex := ((CD.getD 39 0 / 2 + 1 : Nat) : Int), answer := some true, outcome := some .matched }) rfl rfl).trans rfl)))))), ⟨rfl, rfl, rfl, rfl, rfl⟩⟩
  · exact ⟨_, (run_cons rfl e).trans ((run_cons (m' := { A2 text lim s false true b sn' with pc := 38, pos := s + 1, handed := s, frames := { wait := .nextBranch, pc := 22, pos := s, outermost := true, kept := { lastmark := 0, lastindex := -1 } } :: [fS s true], weight := 2, seen := sn'.add 15 }) rfl rfl).trans ((run_cons (m' := { A2 text lim s false true b sn' with pc := 40, pos := s + 1, handed := s, frames := { wait := .nextBranch, pc := 22, pos := s, outermost := true, kept := { lastmark := 0, lastindex := -1 } } :: [fS s true], weight := 2, seen := (sn'.add 15).add 17, marks := #[some s, some (s + 1)], lastmark := 1, lastindex := ((CD.getD 39 0 / 2 + 1 : Nat) : Int) }) rfl rfl).trans ((run_cons (m' := { A2 text lim s false true b sn' with pc := 40, pos := s + 1, handed := s + 1, frames := { wait := .nextBranch, pc := 22, pos := s, outermost := true, kept := { lastmark := 0, lastindex := -1 } } :: [fS s true], weight := 2, seen := ((sn'.add 15).add 17).add 1, marks := #[some s, some (s + 1)], lastmark := 1, lastindex := ((CD.getD 39 0 / 2 + 1 : Nat) : Int), answer := some true }) rfl rfl).trans ((run_cons (m' := { A2 text lim s false true b sn' with pc := 22, pos := s, handed := s + 1, frames := [fS s true], weight := 1, seen := ((sn'.add 15).add 17).add 1, marks := #[some s, some (s + 1)], lastmark := 1, lastindex := ((CD.getD 39 0 / 2 + 1 : Nat) : Int), answer := some true }) rfl rfl).trans ((run_cons (m' := { A2 text lim s false true b sn' with pc := 5, pos := s, handed := s + 1, frames := [], weight := 0, seen := ((sn'.add 15).add 17).add 1, marks := #[some s, some (s + 1)], lastmark := 1, lastindex := ((CD.getD 39 0 / 2 + 1 : Nat) : Int), answer := some true }) rfl rfl).trans ((run_cons (m' := { A2 text lim s false true b sn' with pc := 5, pos := s, handed := s + 1, frames := [], weight := 0, seen := ((sn'.add 15).add 17).add 1, marks := #[some s, some (s + 1)], lastmark := 1, lastindex := ((CD.getD 39 0 / 2 + 1 : Nat) : Int), answer := some true, outcome := some .matched }) rfl rfl).trans rfl)))))), ⟨rfl, rfl, rfl, rfl, rfl⟩⟩
theorem A1_dg {text : Array Nat} {lim s d : Nat} (o : Bool) (b : Option Nat) (sn : Seen) (hl : s + d ≤ lim) (hbig : lim < 4294967295) (h0 : 0 < d)
    (hd : ∀ k, k < d → isDg (text.getD (s + k) 0) = true) (he : s + d = lim ∨ isDg (text.getD (s + d) 0) = false) :
    ∃ m', M.runFor 8 (A1 text lim s false o b sn) = m' ∧ Fnd m' s (s + d) := by
  have : ∃ sn', (A1 text lim s false o b sn).step = { A1 text lim s false o b sn' with pc := 20, pos := s + d, handed := s + d, frames := { wait := .giveBack, pc := 9, pos := s + d, outermost := o, count := d, kept := { lastmark := 0, lastindex := -1 } } :: (A1 text lim s false o b sn').frames, weight := 3 } := by
    obtain ⟨sn', e⟩ := run_dg (text := text) (n := min 4294967295 ((lim : Int) - s).toNat) (p := s) (f := 0) (d := d) (sn := (sn.add 24).add 13) hd (by
      rcases he with h | h
      · left; omega
      · by_cases q : s + d = lim
        · left; omega
        · right; exact ⟨by omega, h⟩)
    refine ⟨sn', ?_⟩
    show (if (1 : Int) > (lim : Int) - (s : Int) then _ else _) = _
    rw [if_neg (by omega)]
    generalize hR : PySem.Sre.run _ _ _ _ _ _ _ = R
    have hR' : R = .ok (d, sn') := hR.symm.trans (e.trans (by rw [Nat.zero_add]))
    rw [hR']
    show (if d < 1 then _ else _) = _
    rw [if_neg (by omega)]
    rfl
  obtain ⟨sn', e⟩ := this
  cases o
  · exact ⟨_, (run_cons rfl e).trans ((run_cons (m' := { A1 text lim s false false b sn' with pc := 38, pos := s + d, handed := s + d, frames := { wait := .giveBack, pc := 9, pos := s + d, outermost := false, count := d, kept := { lastmark := 0, lastindex := -1 } } :: { wait := .nextBranch, pc := 8, pos := s, outermost := false, kept := { lastmark := 0, lastindex := -1 } } :: [fS s false], weight := 3, seen := sn'.add 15 }) rfl rfl).trans ((run_cons (m' := { A1 text lim s false false b sn' with pc := 40, pos := s + d, handed := s + d, frames := { wait := .giveBack, pc := 9, pos := s + d, outermost := false, count := d, kept := { lastmark := 0, lastindex := -1 } } :: { wait := .nextBranch, pc := 8, pos := s, outermost := false, kept := { lastmark := 0, lastindex := -1 } } :: [fS s false], weight := 3, seen := (sn'.add 15).add 17, marks := #[some s, some (s + d)], lastmark := 1, lastindex := ((CD.getD 39 0 / 2 + 1 : Nat) : Int) }) rfl rfl).trans ((run_cons (m' := { A1 text lim s false false b sn' with pc := 40, pos := s + d, handed := s + d, frames := { wait := .giveBack, pc := 9, pos := s + d, outermost := false, count := d, kept := { lastmark := 0, lastindex := -1 } } :: { wait := .nextBranch, pc := 8, pos := s, outermost := false, kept := { lastmark := 0, lastindex := -1 } } :: [fS s false], weight := 3, seen := ((sn'.add 15).add 17).add 1, marks := #[some s, some (s + d)], lastmark := 1, lastindex := ((CD.getD 39 0 / 2 + 1 : Nat) : Int), answer := some true }) rfl rfl).trans ((run_cons (m' := { A1 text lim s false false b sn' with pc := 9, pos := s + d, handed := s + d, frames := { wait := .nextBranch, pc := 8, pos := s, outermost := false, kept := { lastmark := 0, lastindex := -1 } } :: [fS s false], weight := 2, seen := ((sn'.add 15).add 17).add 1, marks := #[some s, some (s + d)], lastmark := 1, lastindex := ((CD.getD 39 0 / 2 + 1 : Nat) : Int), answer := some true }) rfl rfl).trans ((run_cons (m' := { A1 text lim s false false b sn' with pc := 8, pos := s, handed := s + d, frames := [fS s false], weight := 1, seen := ((sn'.add 15).add 17).add 1, marks := #[some s, some (s + d)], lastmark := 1, lastindex := ((CD.getD 39 0 / 2 + 1 : Nat) : Int), answer := some true }) rfl rfl).trans ((run_cons (m' := { A1 text lim s false false b sn' with pc := 5, pos := s, handed := s + d, frames := [], weight := 0, seen := ((sn'.add 15).add 17).add 1, marks := #[some s, some (s + d)], lastmark := 1, lastindex := ((CD.getD 39 0 / 2 + 1 : Nat) : Int), answer := some true }) rfl rfl).trans ((run_cons (m' := { A1 text lim s false false b sn' with pc := 5, pos := s, handed := s + d, frames := [], weight := 0, seen := ((sn'.add 15).add 17).add 1, marks := #[some s, some (s + d)], lastmark := 1, lastindex := ((CD.getD 39 0 / 2 + 1 : Nat) : Int), answer := some true, outcome := some .matched }) rfl rfl).trans rfl))))))), ⟨rfl, rfl, rfl, rfl, rfl⟩⟩
  · exact ⟨_, (run_cons rfl e).trans ((run_cons (m' := { A1 text lim s false true b sn' with pc := 38, pos := s + d, handed := s + d, frames := { wait := .giveBack, pc := 9, pos := s + d, outermost := true, count := d, kept := { lastmark := 0, lastindex := -1 } } :: { wait := .nextBranch, pc := 8, pos := s, outermost := true, kept := { lastmark := 0, lastindex := -1 } } :: [fS s true], weight := 3, seen := sn'.add 15 }) rfl rfl).trans ((run_cons (m' := { A1 text lim s false true b sn' with pc := 40, pos := s + d, handed := s + d, frames := { wait := .giveBack, pc := 9, pos := s + d, outermost := true, count := d, kept := { lastmark := 0, lastindex := -1 } } :: { wait := .nextBranch, pc := 8, pos := s, outermost := true, kept := { lastmark := 0, lastindex := -1 } } :: [fS s true], weight := 3, seen := (sn'.add 15).add 17, marks := #[some s, some (s + d)], lastmark := 1, lastindex := ((CD.getD 39 0 / 2 + 1 : Nat) : Int) }) rfl rfl).trans ((run_cons (m' := { A1 text lim s false true b sn' with pc := 40, pos := s + d, handed := s + d, frames := { wait := .giveBack, pc := 9, pos := s + d, outermost := true, count := d, kept := { lastmark := 0, lastindex := -1 } } :: { wait := .nextBranch, pc := 8, pos := s, outermost := true, kept := { lastmark := 0, lastindex := -1 } } :: [fS s true], weight := 3, seen := ((sn'.add 15).add 17).add 1, marks := #[some s, some (s + d)], lastmark := 1, lastindex := ((CD.getD 39 0 / 2 + 1 : Nat) : Int), answer := some true }) rfl rfl).trans ((run_cons (m' := { A1 text lim s false true b sn' with pc := 9, pos := s + d, handed := s + d, frames := { wait := .nextBranch, pc := 8, pos := s, outermost := true, kept := { lastmark := 0, lastindex := -1 } } :: [fS s true], weight := 2, seen := ((sn'.add 15).add 17).add 1, marks := #[some s, some (s + d)], lastmark := 1, lastindex := ((CD.getD 39 0 / 2 + 1 : Nat) : Int), answer := some true }) rfl rfl).trans ((run_cons (m' := { A1 text lim s false true b sn' with pc := 8, pos := s, handed := s + d, frames := [fS s true], weight := 1, seen := ((sn'.add 15).add 17).add 1, marks := #[some s, some (s + d)], lastmark := 1, lastindex := ((CD.getD 39 0 / 2 + 1 : Nat) : Int), answer := some true }) rfl rfl).trans ((run_cons (m' := { A1 text lim s false true b sn' with pc := 5, pos := s, handed := s + d, frames := [], weight := 0, seen := ((sn'.add 15).add 17).add 1, marks := #[some s, some (s + d)], lastmark := 1, lastindex := ((CD.getD 39 0 / 2 + 1 : Nat) : Int), answer := some true }) rfl rfl).trans ((run_cons (m' := { A1 text lim s false true b sn' with pc := 5, pos := s, handed := s + d, frames := [], weight := 0, seen := ((sn'.add 15).add 17).add 1, marks := #[some s, some (s + d)], lastmark := 1, lastindex := ((CD.getD 39 0 / 2 + 1 : Nat) : Int), answer := some true, outcome := some .matched }) rfl rfl).trans rfl))))))), ⟨rfl, rfl, rfl, rfl, rfl⟩⟩
end Mine
end
theorem Mine.freshR1 : True := by
  w_top off
  trivial
section
-- text R1
set_option Elab.async false
set_option maxRecDepth 100000
set_option maxHeartbeats 8000000
set_option linter.unusedVariables false
namespace Mine
open PySem PySem.Sre
theorem SS_word {text : Array Nat} {lim : Nat} : ∀ (k s : Nat) (o : Bool) (a b : Option Nat) (sn : Seen), s + k ≤ lim → (∀ j, j < k → isLt (text.getD (s + j) 0) = true) →
    ∃ o' a' sn', M.runFor (7 * k) (SS text lim s false o a b sn) = SS text lim (s + k) false o' a' b sn'
  | 0, s, o, a, b, sn, _, _ => ⟨o, a, sn, rfl⟩
  | k + 1, s, o, a, b, sn, hl, h => by
    obtain ⟨s1, e1⟩ := go2 text lim s false o a b sn
    have h0 : isLt (text.getD s 0) = true := h 0 (by omega)
    obtain ⟨s2, e2⟩ := A1_no (text := text) (lim := lim) (s := s) false o b s1 (fun _ => isLt_dg h0) (by omega)
    obtain ⟨s3, e3⟩ := A2_lt (text := text) (lim := lim) (s := s) false o b s2 (by omega) h0
    obtain ⟨o', a', sn', e4⟩ := SS_word (text := text) (lim := lim) k (s + 1) false (some s) b s3 (by omega) (fun j hj => by rw [Nat.add_assoc, Nat.add_comm 1 j]; exact h (j + 1) (by omega))
    refine ⟨o', a', sn', ?_⟩
    rw [show 7 * (k + 1) = 2 + (2 + (3 + 7 * k)) by omega, runFor_add, e1]
    show M.runFor _ (A1 text lim s false o b s1) = _
    rw [runFor_add, e2, runFor_add, e3, e4, show s + 1 + k = s + (k + 1) by omega]
theorem find_sp {text : Array Nat} {lim k s : Nat} (o : Bool) (a b : Option Nat) (sn : Seen) (hl : s + k < lim) (h : ∀ j, j < k → isLt (text.getD (s + j) 0) = true) (hc : isSp (text.getD (s + k) 0) = true) :
    ∃ m', M.runFor (7 * k + 11) (SS text lim s false o a b sn) = m' ∧ Fnd m' (s + k) (s + k + 1) := by
  obtain ⟨o', a', sn', e⟩ := SS_word (text := text) (lim := lim) k s o a b sn (by omega) h
  obtain ⟨s1, e1⟩ := go2 text lim (s + k) false o' a' b sn'
  obtain ⟨s2, e2⟩ := A1_no (text := text) (lim := lim) (s := s + k) false o' b s1 (fun _ => isSp_dg hc) (by omega)
  obtain ⟨m', e3, hm⟩ := A2_sp (text := text) (lim := lim) (s := s + k) o' b s2 hl hc
  refine ⟨m', ?_, hm⟩
  rw [runFor_add, e, show 11 = 2 + (2 + 7) from rfl, runFor_add, e1]
  show M.runFor _ (A1 text lim (s + k) false o' b s1) = _
  rw [runFor_add, e2, e3]
theorem find_dg {text : Array Nat} {lim k s d : Nat} (o : Bool) (a b : Option Nat) (sn : Seen) (hl : s + k + d ≤ lim) (hbig : lim < 4294967295) (h0 : 0 < d) (h : ∀ j, j < k → isLt (text.getD (s + j) 0) = true)
    (hd : ∀ j, j < d → isDg (text.getD (s + k + j) 0) = true) (he : s + k + d = lim ∨ isDg (text.getD (s + k + d) 0) = false) :
    ∃ m', M.runFor (7 * k + 10) (SS text lim s false o a b sn) = m' ∧ Fnd m' (s + k) (s + k + d) := by
  obtain ⟨o', a', sn', e⟩ := SS_word (text := text) (lim := lim) k s o a b sn (by omega) h
  obtain ⟨s1, e1⟩ := go2 text lim (s + k) false o' a' b sn'
  obtain ⟨m', e3, hm⟩ := A1_dg (text := text) (lim := lim) (s := s + k) (d := d) o' b s1 hl hbig h0 hd he
  refine ⟨m', ?_, hm⟩
  rw [runFor_add, e, show 10 = 2 + 8 from rfl, runFor_add, e1]
  show M.runFor _ (A1 text lim (s + k) false o' b s1) = _
  rw [e3]
theorem find_none {text : Array Nat} {lim k s : Nat} (o : Bool) (a b : Option Nat) (sn : Seen) (hl : s + k = lim) (h : ∀ j, j < k → isLt (text.getD (s + j) 0) = true) :
    ∃ m', M.runFor (7 * k + 8) (SS text lim s false o a b sn) = m' ∧ m'.outcome = some .failed := by
  obtain ⟨o', a', sn', e⟩ := SS_word (text := text) (lim := lim) k s o a b sn (by omega) h
  obtain ⟨s1, e1⟩ := go2 text lim (s + k) false o' a' b sn'
  obtain ⟨s2, e2⟩ := A1_no (text := text) (lim := lim) (s := s + k) false o' b s1 (fun q => absurd q (by omega)) (by omega)
  rw [runFor_add, e, show 8 = 2 + (2 + 4) from rfl, runFor_add, e1]
  show ∃ m', M.runFor _ (A1 text lim (s + k) false o' b s1) = m' ∧ _
  rw [runFor_add, e2, hl]
  exact A2_end false o' b s2
/-- the search's own start -/
theorem search_SS {text : Array Nat} {start lim : Nat} (h : start < lim) : forSearch CD text 1 start lim false = SS text lim start false true none none (({} : Seen).add 14) := by
  unfold forSearch
  dsimp only
  rw [if_neg (by simp only [Bool.or_eq_true, decide_eq_true_eq, not_or]; exact ⟨by omega, by show ¬ (lim - start < 1); omega⟩)]
  rfl
theorem search_end {text : Array Nat} {lim : Nat} : ∃ m', M.runFor 1 (forSearch CD text 1 lim lim false) = m' ∧ m'.outcome = some .failed := by
  unfold forSearch
  dsimp only
  rw [if_pos (by simp only [Bool.or_eq_true, decide_eq_true_eq]; right; show lim - lim < 1; omega)]
  exact ⟨_, rfl, rfl⟩
/-- what a search answers -/
def Ran (m : M) (N : Nat) (m' : M) : Prop := ∃ n, n ≤ N ∧ M.runFor n m = m' ∧ m'.outcome.isSome = true
theorem Ran.big {m m' : M} {N n : Nat} (h : Ran m N m') (hn : N ≤ n) : M.runFor n m = m' := by
  obtain ⟨k, h1, h2, h3⟩ := h
  rw [show n = k + (n - k) by omega, runFor_add, h2, runFor_done h3]
end Mine
end
theorem Mine.freshR2 : True := by
  w_top off
  trivial
section
-- text R2
open PySem PySem.W PyProof.Rows
set_option Elab.async false
set_option maxRecDepth 100000
set_option maxHeartbeats 8000000
set_option linter.unusedVariables false
namespace Mine
open PySem.Sre PySem.Builtin PySem.Builtin.Re
theorem owner_pat : Manifest.owners.lookup (String.ofList ['n', 'r', 'e', 't', 't', 'a', 'P', '.', 'e', 'r'].reverse) = some Manifest.sig_re_Pattern := by kernel_rfl
theorem plainAttrs_pat : PlainAttrs "re.Pattern" :=
  ⟨⟨"object.__getattribute__", by rw [typeLookup_type, builtinLookup_eq_fast]; kernel_rfl, by decide +kernel⟩, by rw [typeLookup_type, builtinLookup_eq_fast]; kernel_rfl⟩
theorem slot_pat_split : Slot "re.Pattern" "split" "re.Pattern.split" :=
  .of (owner := "re.Pattern") (n := "split") (by rw [typeLookup_type, builtinLookup_eq_fast]; kernel_rfl) (by decide +kernel) (by decide +kernel) (by decide +kernel)
    (by first | exact .inl (by decide +kernel) | exact .inr (by decide +kernel)) (by rw [isSubtype_type]; kernel_rfl)
theorem type_pat_split : typeOf (.builtin "re.Pattern.split") = pure (.type "method_descriptor") := by show builtinType _ = _; rw [builtinType_eq_fast]; kernel_rfl
theorem entry_pat_split : entryFor table "re.Pattern.split" = some Builtin.«re.Pattern.split» := entryFor_of_tree (by kernel_rfl)
theorem args_pat_split (a b : Value) : argsOk "re.Pattern.split" ⟨[a, b], []⟩ := by
  unfold argsOk; rw [signature?_of (id := "re.Pattern.split") (n := ['t', 'i', 'l', 'p', 's']) (o := ['n', 'r', 'e', 't', 't', 'a', 'P', '.', 'e', 'r']) (by kernel_rfl) owner_pat]; kernel_rfl

section
variable {Md : Model} {A : Around} {E : Value → Shared → Prop} {s : Shared}
theorem wp_drive (m : Sre.M) {Q : Sre.M → Shared → Prop} : ∀ (t : Nat) (m0 : Sre.M), (Sre.M.runFor (4 * (t + 1)) m0).outcome.isSome = true → Sre.M.runFor (4 * (t + 1)) m0 = m → Q m s → wpAny Md A (reDrive (t + 1) m0) Q E s
  | 0, m0, h, e, hq => by
    unfold reDrive
    dsimp only
    rw [if_pos (by exact h)]
    exact wpAny_pure (by rw [show M.runFor reTurnSteps m0 = m from e]; exact hq)
  | t + 1, m0, h, e, hq => by
    unfold reDrive
    dsimp only
    by_cases q : (M.runFor reTurnSteps m0).outcome.isSome = true
    · rw [if_pos q]
      refine wpAny_pure ?_
      rw [show 4 * (t + 1 + 1) = reTurnSteps + 4 * (t + 1) from by show _ = 4 + _; omega, runFor_add, runFor_done q] at e
      rw [e]; exact hq
    · rw [if_neg q]
      refine wpAny_bind (wpAny_rule ?_)
      rw [show 4 * (t + 1 + 1) = reTurnSteps + 4 * (t + 1) from by show _ = 4 + _; omega, runFor_add] at h e
      exact wp_drive m t _ h e hq
theorem wp_end {m0 m : Sre.M} {N : Nat} {Q : Option Sre.M → Shared → Prop} (h : Ran m0 N m) (hN : N ≤ 2 ^ 60)
    (hq : (match m.outcome with | some .matched => Q (some m) s | some .failed => Q none s | _ => False)) : wpAny Md A (reRunToEnd m0) Q E s := by
  unfold reRunToEnd
  refine wpAny_bind ?_
  have e : M.runFor (4 * ((2 ^ 64 - 1) + 1)) m0 = m := h.big (by omega)
  have h3 := h
  obtain ⟨_, _, _, h3⟩ := h3
  refine wp_drive m (2 ^ 64 - 1) m0 (by rw [e]; exact h3) e ?_
  refine wpAny_bind ?_
  refine wpAny_forIn_list _ (fun _ _ s' => s' = s) _ (fun x rest b s' hs => ?_) (fun b s' hs => ?_) _ _ rfl
  · split
    · exact wpAny_bind (wpAny_rule (wpAny_pure hs))
    · exact wpAny_pure hs
  · subst hs
    revert hq
    cases q : m.outcome with
    | none => intro hq; exact hq.elim
    | some o => cases o with
      | matched => intro hq; exact wpAny_pure hq
      | failed => intro hq; exact wpAny_pure hq
      | stuck why => intro hq; exact hq.elim
theorem named_split (v : Value) : reNamed "re.Pattern.split" "split" ["string", "maxsplit"] 1 [v] [] = pure [some v, none] := by rfl
end
end Mine
end
theorem Mine.freshR3 : True := by
  w_top off
  trivial
section
-- text R3
open PySem PySem.W PyProof.Rows
set_option Elab.async false
set_option maxRecDepth 100000
set_option maxHeartbeats 8000000
set_option linter.unusedVariables false
namespace Mine
open PySem.Sre PySem.Builtin PySem.Builtin.Re
inductive Cut : List Nat → List (List Nat) → Prop
  | last {w : List Nat} (hw : ∀ c ∈ w, isLt c = true) : Cut w [w]
  | sp {w r : List Nat} {c : Nat} {ps : List (List Nat)} (hw : ∀ c ∈ w, isLt c = true) (hc : isSp c = true) (hr : Cut r ps) : Cut (w ++ c :: r) (w :: [c] :: ps)
  | dg {w d r : List Nat} {ps : List (List Nat)} (hw : ∀ c ∈ w, isLt c = true) (hd0 : d ≠ []) (hd : ∀ c ∈ d, isDg c = true) (he : ∀ c, r.head? = some c → isDg c = false) (hr : Cut r ps) : Cut (w ++ (d ++ r)) (w :: d :: ps)
theorem getD_drop (text : Array Nat) (a j : Nat) : text.getD (a + j) 0 = (text.toList.drop a).getD j 0 := by
  rw [List.getD_eq_getElem?_getD, List.getElem?_drop, Array.getD_eq_getD_getElem?, Array.getElem?_toList]
theorem cut_step {text : Array Nat} {start : Nat} {cs : List Nat} {ps : List (List Nat)} (hd : text.toList.drop start = cs) (hs : start ≤ text.size) (hc : Cut cs ps) (hbig : text.size < 100000) :
    (∃ m', Ran (forSearch CD text 1 start text.size false) (7 * text.size + 20) m' ∧ m'.outcome = some .failed ∧ ps = [cs]) ∨
    (∃ m' b e cs' ps', Ran (forSearch CD text 1 start text.size false) (7 * text.size + 20) m' ∧ Fnd m' b e ∧ ps = (text.extract start b).toList :: (text.extract b e).toList :: ps' ∧ start ≤ b ∧ b < e ∧ e ≤ text.size ∧ text.toList.drop e = cs' ∧ Cut cs' ps') := by
  have hlen : text.size = start + cs.length := by
    rw [← hd, List.length_drop, Array.length_toList]; omega
  have hget : ∀ j, text.getD (start + j) 0 = cs.getD j 0 := fun j => by rw [getD_drop, hd]
  have hw' : ∀ (w r : List Nat), cs = w ++ r → (∀ c ∈ w, isLt c = true) → ∀ j, j < w.length → isLt (text.getD (start + j) 0) = true := fun w r e hw j hj => by
    rw [hget, e, List.getD_eq_getElem?_getD, List.getElem?_append_left hj, List.getElem?_eq_getElem hj]
    exact hw _ (List.getElem_mem hj)
  have hx1 : ∀ (w r : List Nat), cs = w ++ r → (text.extract start (start + w.length)).toList = w := fun w r e => by
    rw [Array.toList_extract, List.extract_eq_take_drop, hd, e, Nat.add_sub_cancel_left, List.take_left]
  have hx2 : ∀ (w r : List Nat), cs = w ++ r → text.toList.drop (start + w.length) = r := fun w r e => by
    rw [← List.drop_drop, hd, e, List.drop_left]
  cases hc with
  | last hw =>
    left
    by_cases q : start = text.size
    · obtain ⟨m', e1, e2⟩ := search_end (text := text) (lim := text.size)
      exact ⟨m', ⟨1, by omega, by rw [q]; exact e1, by rw [e2]; rfl⟩, e2, rfl⟩
    · obtain ⟨m', e1, e2⟩ := find_none (text := text) (lim := text.size) (k := cs.length) (s := start) true none none (({} : Sre.Seen).add 14) (by omega) (hw' cs [] (by rw [List.append_nil]) hw)
      exact ⟨m', ⟨7 * cs.length + 8, by omega, (congrArg _ (search_SS (by omega))).trans e1, by rw [e2]; rfl⟩, e2, rfl⟩
  | @sp w r c ps' hw hc hr =>
    right
    have hL : (w ++ c :: r).length = w.length + 1 + r.length := by simp only [List.length_append, List.length_cons]; omega
    have e0 : text.getD (start + w.length) 0 = c := by
      rw [hget, List.getD_eq_getElem?_getD, List.getElem?_append_right (Nat.le_refl _), Nat.sub_self]; rfl
    obtain ⟨m', e1, e2⟩ := find_sp (text := text) (lim := text.size) (k := w.length) (s := start) true none none (({} : Sre.Seen).add 14) (by omega) (hw' w _ rfl hw) (by rw [e0]; exact hc)
    have e3 := hx2 (w ++ [c]) r (by rw [List.append_assoc]; rfl)
    rw [List.length_append, List.length_singleton, ← Nat.add_assoc] at e3
    refine ⟨m', start + w.length, start + w.length + 1, r, ps', ⟨7 * w.length + 11, by omega, (congrArg _ (search_SS (by omega))).trans e1, by rw [e2.outcome]; rfl⟩, e2, ?_, by omega, by omega, by omega, e3, hr⟩
    rw [hx1 w _ rfl]
    congr 2
    rw [Array.toList_extract, List.extract_eq_take_drop, hx2 w _ rfl, Nat.add_sub_cancel_left]; rfl
  | @dg w d r ps' hw hd0 hdg he hr =>
    right
    have hL : (w ++ (d ++ r)).length = w.length + d.length + r.length := by simp only [List.length_append]; omega
    have hd1 : 0 < d.length := List.length_pos_iff.mpr hd0
    have hgd : ∀ j, j < d.length → isDg (text.getD (start + w.length + j) 0) = true := fun j hj => by
      rw [Nat.add_assoc, hget, List.getD_eq_getElem?_getD, List.getElem?_append_right (by omega), Nat.add_sub_cancel_left, List.getElem?_append_left hj, List.getElem?_eq_getElem hj]
      exact hdg _ (List.getElem_mem hj)
    obtain ⟨m', e1, e2⟩ := find_dg (text := text) (lim := text.size) (k := w.length) (s := start) (d := d.length) true none none (({} : Sre.Seen).add 14) (by omega) (by omega) hd1 (hw' w _ rfl hw) hgd (by
      cases r with
      | nil => left; rw [List.length_nil] at hL; omega
      | cons c r =>
        right
        rw [Nat.add_assoc, hget, List.getD_eq_getElem?_getD, List.getElem?_append_right (by omega), Nat.add_sub_cancel_left, List.getElem?_append_right (Nat.le_refl _), Nat.sub_self]
        exact he c rfl)
    have e3 := hx2 (w ++ d) r (by rw [List.append_assoc])
    rw [List.length_append, ← Nat.add_assoc] at e3
    refine ⟨m', start + w.length, start + w.length + d.length, r, ps', ⟨7 * w.length + 10, by omega, (congrArg _ (search_SS (by omega))).trans e1, by rw [e2.outcome]; rfl⟩, e2, ?_, by omega, by omega, by omega, e3, hr⟩
    rw [hx1 w _ rfl]
    congr 2
    rw [Array.toList_extract, List.extract_eq_take_drop, hx2 w _ rfl, Nat.add_sub_cancel_left, List.take_left]
theorem Cut.short {cs : List Nat} {ps : List (List Nat)} (h : Cut cs ps) : ps.length ≤ 2 * cs.length + 1 := by
  induction h with
  | last => simp
  | sp hw hc hr ih => simp only [List.length_cons, List.length_append]; omega
  | @dg w d r ps hw h0 hd he hr ih =>
    have := List.length_pos_iff.mpr h0
    simp only [List.length_cons, List.length_append]; omega
/-- the pieces as texts -/
def txts (ps : List (List Nat)) : List Str := ps.map fun p => ⟨p.toArray⟩
def Outs (out : Array Value) (qs : List (List Nat)) : Prop := ∃ l : List (Str × Tok), l.map (·.1) = txts qs ∧ out.toList = strValues l
theorem Outs.push {out : Array Value} {qs : List (List Nat)} (h : Outs out qs) (x : Array Nat) (t : Tok) : Outs (out.push (.str ⟨x⟩ t)) (qs ++ [x.toList]) := by
  obtain ⟨l, h1, h2⟩ := h
  refine ⟨l ++ [(⟨x⟩, t)], by simp [txts, h1], ?_⟩
  rw [Array.toList_push, h2]
  simp [strValues]
theorem wp_slice {Md : Model} {A : Around} {E : Value → Shared → Prop} {s : Shared} {text : Array Nat} {b e : Nat} {Q : Value → Shared → Prop} (hl : text.size ≤ 1000) (h : Q (.str ⟨text.extract b e⟩ s.toks) { s with toks := s.toks + 1 }) : wpAny Md A (reSlice text 0 b e) Q E s := by
  unfold reSlice
  rw [if_pos (by decide)]
  refine wpAny_mkStr h ?_
  show (text.extract b e).size ≤ sizeLine
  rw [Array.size_extract]
  have : (1000 : Nat) ≤ sizeLine := by decide
  omega
end Mine
end
theorem Mine.freshR4 : True := by
  w_top off
  trivial
section
-- text R4
open PySem PySem.W PyProof.Rows
set_option Elab.async false
set_option maxRecDepth 100000
set_option maxHeartbeats 8000000
set_option linter.unusedVariables false
namespace Mine
open PySem.Sre PySem.Builtin PySem.Builtin.Re
theorem Cut.pos {cs : List Nat} {ps : List (List Nat)} (h : Cut cs ps) : 0 < ps.length := by
  cases h <;> simp
structure PatAt (h : Heap) (P : Addr) : Prop where
  ex : ∃ oP fs c oc items n, h.get? P = some oP ∧ oP.cls = .type "re.Pattern" ∧ oP.dict = none ∧ oP.data = .fields fs ∧ fs.getD 5 .none = .ref c ∧ reRawNat (fs.getD 6 .none) = 0 ∧ reRawNat (fs.getD 2 .none) = 1 ∧ h.get? c = some oc ∧ oc.data = .seq items n ∧ (items.map reRawOf).map (·.toNat) = CD
theorem split_wp {prog : Program} {w : World} {A : Around} {E : Value → Shared → Prop} {s : Shared} {P : Addr} {x : Str} {t : Tok} {ps : List (List Nat)} {Q : Value → Shared → Prop} (hP : PatAt s.heap P) (hc : Cut x.cps.toList ps) (hl : x.length ≤ 1000)
   (h : ∀ l : List (Str × Tok), l.map (·.1) = ps.map (fun p => (⟨p.toArray⟩ : Str)) → ∀ tk', Q (.ref s.heap.objs.size) { s with heap := s.heap.push { cls := .type "list", data := .seq (strValues l).toArray }, toks := tk' }) :
   wpAny (model prog w) A (call (.builtin "re.Pattern.split") [.ref P, .str x t]) Q E s := by
  obtain ⟨oP, fs, c, oc, items, n, h1, h2, hdd, h3, h4, h5, h6, h7, h8, h9⟩ := hP.ex
  refine call_meets slot_pat_split ⟨_, h1, h2⟩ entry_pat_split (args_pat_split _ _) (S := fun A R s' => s' = s ∧ ∀ v s'', wants Q E (.ok (.ret v)) s'' → R (.ok (.ret v)) s'') ?_ ⟨rfl, fun _ _ h => h⟩
  rintro prog w A R s₁ ⟨rfl, hR⟩
  unfold «re.Pattern.split»
  dsimp only
  rw [named_split]
  refine wpAny_bind (wpAny_pure ?_)
  dsimp only
  refine wpAny_bind (wpAny_pure ?_)
  refine wpAny_bind ?_
  unfold reWholeTarget
  refine wpAny_bind (wpAny_fieldsOf h1 h3 ?_)
  unfold reTextOf
  refine wpAny_bind (wpAny_bind (wpAny_pure ?_))
  dsimp only
  refine wpAny_pure ?_
  rw [h4, h5, h6]
  rw [if_neg (by show ¬ (((0 : Nat) == 0 && (0 : Nat) == 1) = true); decide), if_neg (by show ¬ (((0 : Nat) == 1 && (0 : Nat) == 0) = true); decide)]
  unfold reNoCollectionInside
  rw [if_neg (by show ¬ (((0 : Nat) == 1) = true); decide)]
  refine wpAny_bind (wpAny_pure ?_)
  unfold reRawItems
  refine wpAny_bind (wpAny_bind (wpAny_seqItems h7 h8 (wpAny_pure ?_)))
  refine wpAny_pure ?_
  rw [show ((some items).getD #[]) = items from rfl, h9]
  generalize hT : (ReTarget.mk (Value.ref P) (Value.str x t) CD (x.cps, 0).fst (x.cps, 0).snd 1 0 (x.cps, 0).fst.size) = T
  have t1 : T.code = CD := by rw [← hT]
  have t2 : T.text = x.cps := by rw [← hT]
  have t3 : T.kind = 0 := by rw [← hT]
  have t4 : T.groups = 1 := by rw [← hT]
  have t5 : T.lim = x.cps.size := by rw [← hT]
  have hsz : x.cps.size ≤ 1000 := hl
  refine wpAny_bind ?_
  refine wpAny_forIn_list _ (fun rest (b : Array Value × Nat × Nat × Bool × Int × Bool) s' => ∃ qs, Outs b.1 qs ∧ b.2.2.2.1 = false ∧ b.2.1 = b.2.2.1 ∧ b.2.1 ≤ x.cps.size ∧ (∃ tk, s' = { s₁ with toks := tk }) ∧
      ((b.2.2.2.2.2 = true ∧ ps = qs ++ [x.cps.toList.drop b.2.1]) ∨ (b.2.2.2.2.2 = false ∧ ∃ ps', ps = qs ++ ps' ∧ Cut (x.cps.toList.drop b.2.1) ps' ∧ ps'.length ≤ rest.length))) _ ?turn ?fin _ _ ?init
  case init =>
    refine ⟨[], ⟨[], rfl, rfl⟩, rfl, rfl, Nat.zero_le _, ⟨_, rfl⟩, Or.inr ⟨rfl, ps, rfl, hc, ?_⟩⟩
    have := hc.short
    have e1 : x.cps.toList.length = x.cps.size := Array.length_toList
    rw [List.length_range]
    unfold reMostMatches
    rw [t2]
    omega
  case fin =>
    rintro ⟨out, start, last, must, n', over⟩ s' ⟨qs, ho, hm, hsl, hle, ⟨tk, hs'⟩, hor⟩
    dsimp only at ho hm hsl hle hor
    subst hsl
    rcases hor with ⟨rfl, hps⟩ | ⟨rfl, ps', hps, hcut, hlen⟩
    · dsimp only
      rw [if_neg (by decide)]
      rw [t2, t3, t5]
      refine wpAny_bind (wp_slice hsz ?_)
      have ho2 := ho.push (x.cps.extract start x.cps.size) s'.toks
      obtain ⟨l, hl1, hl2⟩ := ho2
      have e1 : (x.cps.extract start x.cps.size).toList = x.cps.toList.drop start := by
        rw [Array.toList_extract, List.extract_eq_take_drop, List.take_of_length_le (by rw [List.length_drop, Array.length_toList]; omega)]
      rw [e1, ← hps] at hl1
      rw [hl2]
      refine wpAny_bind (wpAny_newList ?_ ?_)
      · refine wpAny_pure ?_
        subst hs'
        exact hR _ _ (h l hl1 _)
      · have e2 : l.length = ps.length := by have := congrArg List.length hl1; simpa [txts] using this
        have e3 := hc.short
        have e4 : x.cps.toList.length = x.cps.size := Array.length_toList
        have e5 : (strValues l).length = l.length := by simp [strValues]
        have : (3000 : Nat) ≤ sizeLine := by decide
        omega
    · have : ps' = [] := List.length_eq_zero_iff.mp (by simpa using hlen)
      have h0 := hcut.pos
      rw [this] at h0
      exact absurd h0 (by decide)
  case turn =>
    rintro i rest ⟨out, start, last, must, n', over⟩ s' ⟨qs, ho, hm, hsl, hle, ⟨tk, hs'⟩, hor⟩
    dsimp only at ho hm hsl hle hor
    subst hsl hm
    rcases hor with ⟨rfl, hps⟩ | ⟨rfl, ps', hps, hcut, hlen⟩
    · dsimp only
      rw [if_neg (by decide)]
      exact wpAny_pure ⟨qs, ho, rfl, rfl, hle, ⟨tk, hs'⟩, Or.inl ⟨rfl, hps⟩⟩
    · dsimp only
      rw [if_pos (by decide)]
      refine wpAny_bind ?_
      rw [if_neg (show ¬ (((0 : Int) != 0 && decide (n' ≥ 0)) = true) from Bool.false_ne_true)]
      unfold reNextFound
      rw [t1, t2, t4, t5]
      rcases cut_step rfl hle hcut (by omega) with ⟨m', hran, hfail, hp1⟩ | ⟨m', b, e, cs', ps2, hran, hf, hp1, hb1, hb2, hb3, hdr, hcut2⟩
      · refine wp_end hran (by omega) ?_
        rw [hfail]
        exact wpAny_pure ⟨qs, ho, rfl, rfl, hle, ⟨tk, hs'⟩, Or.inl ⟨rfl, by rw [hps, hp1]⟩⟩
      · refine wp_end hran (by omega) ?_
        rw [hf.outcome]
        dsimp only
        rw [t3]
        refine wpAny_bind (wp_slice hsz ?_)
        rw [hf.start, hf.handed]
        refine wpAny_bind ?_
        rw [show List.range 1 = [0] from rfl, List.forIn_cons]
        refine wpAny_bind (wpAny_bind ?_)
        unfold reMachineGroup
        rw [hf.lastmark, hf.marks, if_neg (by decide)]
        show wpAny _ _ (if e < b then _ else _) _ _ _
        rw [if_neg (by omega), t2, t3]
        refine wp_slice hsz (wpAny_pure ?_)
        dsimp only
        rw [List.forIn_nil]
        refine wpAny_pure (wpAny_pure ?_)
        have o1 := (ho.push (x.cps.extract start b) s'.toks).push (x.cps.extract b e) (s'.toks + 1)
        refine ⟨_, o1, by simp only [beq_eq_false_iff_ne]; omega, rfl, hb3, ⟨_, by rw [hs']⟩, Or.inr ⟨rfl, ps2, by rw [hps, hp1]; simp, by rw [hdr]; exact hcut2, ?_⟩⟩
        rw [hp1] at hlen
        simp only [List.length_cons] at hlen
        omega
end Mine
end
theorem Mine.freshW0 : True := by
  w_top off
  trivial
section
-- text W0
open PySem PySem.W PyProof.Rows
set_option Elab.async false
set_option maxRecDepth 100000
set_option maxHeartbeats 8000000
set_option linter.unusedVariables false
namespace Mine
/-- the claim's caller stands on the stack -/
def HasC (Γ : Ctx) : Prop := (Γ.code :: Γ.below.map (·.1)).any Code.isCaller = true
def HasB (Γ : Ctx) : Prop := (Γ.below.map (·.1)).any Code.isCaller = true
theorem HasB.has {Γ : Ctx} (h : HasB Γ) : HasC Γ := by
  unfold HasC
  rw [List.any_cons, show (Γ.below.map (·.1)).any Code.isCaller = true from h, Bool.or_true]
theorem HasC.enter {Γ : Ctx} (h : HasC Γ) (c : Code) (hd : Option Value) (p : Pos) : HasB (Γ.enter c hd p) := h
theorem HasB.goto {Γ : Ctx} (h : HasB Γ) (c : Code) : HasB (Γ.goto c) := h
/-- as wpAny, of the contexts that hold the caller -/
def wpC {α : Type} (M : Model) (A : Around) (t : Sem α) (Q : α → Shared → Prop) (E : Value → Shared → Prop) (s : Shared) : Prop :=
  ∀ Γ p, Γ.In A → HasC Γ → Sem.wp M Γ t (fun a _ s' => Q a s') (fun e _ s' => E e s') p s
def codeC (M : Model) (A : Around) (c : Code) (R : Result → Shared → Prop) (s : Shared) : Prop :=
  ∀ Γ p, Γ.code = c → Γ.Below A → HasB Γ → wpCode M Γ R p s
section
variable {α β : Type} {M : Model} {A : Around} {E : Value → Shared → Prop} {s : Shared}
theorem wpC.any {t : Sem α} {Q : α → Shared → Prop} (h : wpAny M A t Q E s) : wpC M A t Q E s := fun Γ p hΓ _ => h Γ p hΓ
theorem codeC.any {c : Code} {R : Result → Shared → Prop} (h : codeAny M A c R s) : codeC M A c R s := fun Γ p hc hΓ _ => h Γ p hc hΓ
theorem wpC_pure {a : α} {Q : α → Shared → Prop} (h : Q a s) : wpC M A (pure a) Q E s := fun _ _ _ _ => h
theorem wpC_mono {t : Sem α} {Q Q' : α → Shared → Prop} {E' : Value → Shared → Prop} (h : wpC M A t Q E s) (hQ : ∀ a s, Q a s → Q' a s) (hE : ∀ e s, E e s → E' e s) : wpC M A t Q' E' s :=
  fun Γ p hΓ hC => Sem.wp_mono M Γ t (fun a _ s => hQ a s) (fun e _ s => hE e s) p s (h Γ p hΓ hC)
theorem wpC_bind {m : Sem α} {f : α → Sem β} {Q : β → Shared → Prop} (h : wpC M A m (fun a s' => wpC M A (f a) Q E s') E s) : wpC M A (m >>= f) Q E s := fun Γ p hΓ hC => by
  rw [Sem.wp_bind']
  exact Sem.wp_mono M Γ m (fun a p' s' h' => h' Γ p' hΓ hC) (fun _ _ _ h' => h') p s (h Γ p hΓ hC)
theorem wpC_onRaise {m : Sem α} {k : Value → Sem Unit} {Q : α → Shared → Prop} (h : wpC M A m Q (fun e s' => wpC M A (k e) (fun _ s'' => E e s'') E s') s) : wpC M A (m.onRaise k) Q E s := fun Γ p hΓ hC => by
  rw [Sem.wp_onRaise]
  exact Sem.wp_mono M Γ m (fun _ _ _ h' => h') (fun e p' s' h' => h' Γ p' hΓ hC) p s (h Γ p hΓ hC)
theorem wpC_tryCatch {m : Sem α} {k : Value → Sem α} {Q : α → Shared → Prop} (h : wpC M A m Q (fun e s' => wpC M A (k e) Q E s') s) : wpC M A (tryCatch m k) Q E s := fun Γ p hΓ hC => by
  rw [Sem.wp_tryCatch']
  exact Sem.wp_mono M Γ m (fun _ _ _ h' => h') (fun e p' s' h' => h' Γ p' hΓ hC) p s (h Γ p hΓ hC)
theorem wpC_attempt {m : Sem α} {Q : Except Value α → Shared → Prop} (h : wpC M A m (fun a => Q (.ok a)) (fun e => Q (.error e)) s) : wpC M A m.attempt Q E s := fun Γ p hΓ hC => by
  rw [Sem.wp_attempt]; exact h Γ p hΓ hC
theorem wpC_holding {vs : List Value} {m : Sem α} {Q : α → Shared → Prop} (h : wpC M A m Q E s) : wpC M A (holding vs m) Q E s := fun Γ p hΓ hC => by rw [Sem.wp_holding]; exact h Γ p hΓ hC
theorem wpC_run {c : Code} {h : Option Value} {Q : Flow → Shared → Prop}
    (hc : codeC M (A.mark h) c (fun r s' => match r with | .ok f => Q f s' | .error e => E e s') s) (hnb : h ≠ some byPass := by intro x; cases x) : wpC M A (run c h) Q E s :=
  fun Γ p hΓ hC => by rw [Sem.wp_run]; exact hc _ p rfl (hΓ.enter c h p hnb) (hC.enter c h p)
theorem wpC_runValue {c : Code} {Q : Value → Shared → Prop}
    (hc : codeC M A c (fun r s' => match r with | .ok (.ret v) => Q v s' | .ok _ => False | .error e => E e s') s) : wpC M A (runValue c) Q E s :=
  fun Γ p hΓ hC => by rw [Sem.wp_runValue]; exact hc _ p rfl (hΓ.enter c none p (by intro x; cases x)) (hC.enter c none p)
theorem wpC_call {f : Value} {pos : List Value} {kw : List (Str × Value)} {Q : Value → Shared → Prop}
    (hc : codeC M A (.call f ⟨pos, kw⟩) (fun r s' => match r with | .ok (.ret v) => Q v s' | .ok _ => False | .error e => E e s') s) : wpC M A (call f pos kw) Q E s := wpC_runValue hc
theorem codeC_mono {c : Code} {R R' : Result → Shared → Prop} (h : codeC M A c R s) (hR : ∀ r s, R r s → R' r s) : codeC M A c R' s := fun Γ p hc hΓ hB => wpCode_mono hR (h Γ p hc hΓ hB)
theorem codeC_of_tree {c : Code} {R : Result → Shared → Prop}
    (h : wpC M (A.under c) (M.den c) (fun fin s' => match fin with | .done f => R (.ok f) s' | .again c' => c'.quiet = true ∧ codeC M A c' R s') (fun e s' => R (.error e) s') s) : codeC M A c R s := fun Γ p hc hΓ hB => by
  rw [wpCode_iff_wp, hc]
  refine Sem.wp_mono M Γ _ (fun fin p' s' h' => ?_) (fun _ _ _ h' => h') p s (h Γ p (hc ▸ hΓ.in) hB.has)
  cases fin with
  | done f => exact h'
  | again c' => exact ⟨h'.1, h'.2 (Γ.goto c') p' rfl (hΓ.goto c') (hB.goto c')⟩
theorem codeC_loop {c : Code} {R : Result → Shared → Prop} (hq : c.quiet = true) (I : Nat → Shared → Prop)
    (turn : ∀ n s, I n s → wpC M (A.under c) (M.den c) (fun fin s' => match fin with
        | .done f => R (.ok f) s'
        | .again c' => (c' = c ∧ ∃ m, m < n ∧ I m s') ∨ (c'.quiet = true ∧ codeC M A c' R s')) (fun e s' => R (.error e) s') s)
    (n : Nat) (h : I n s) : codeC M A c R s := by
  induction n using Nat.strongRecOn generalizing s with
  | ind n ih =>
    refine codeC_of_tree (wpC_mono (turn n s h) (fun fin s' hf => ?_) fun _ _ h' => h')
    cases fin with
    | done f => exact hf
    | again c' =>
      rcases hf with ⟨rfl, m, hm, hI⟩ | hf
      · exact ⟨hq, ih m hm hI⟩
      · exact hf
theorem wpC_stack {Q : List (Code × Pos) → Shared → Prop} (h : ∀ st : List (Code × Pos), (st.map (·.1)).any Code.isCaller = true → Q st s) : wpC M A stack Q E s := fun Γ p hΓ hC => by
  show Q ((Γ.code, p) :: Γ.below) s
  exact h _ hC
end
section
variable {prog : Program} {w : World} {A : Around} {E : Value → Shared → Prop} {R : Result → Shared → Prop} {s : Shared}
theorem wpC_noted {α : Type} {env : Env} {m : Sem α} {Q : α → Shared → Prop} (h : wpC (model prog w) A m Q (notedBy (model prog w) A env E) s) : wpC (model prog w) A (m.onRaise fun x => do noteFrame x env; theTreesLotGoes x) Q E s :=
  wpC_onRaise (wpC_mono h (fun _ _ q => q) fun _ _ hx => wpC.any (wpAny_bind (wpAny_mono hx (fun _ _ e => wpAny_theTreesLotGoes e) fun _ _ e => e)))
theorem codeC_func {body : List Stmt} {env : Env}
    (h : wpC (model prog w) (A.deeper env) (execs body env) (fun f s' => R (.ok (.ret (match f with | .ret v => v | _ => .none))) s')
      (fun e s' => wpAny (model prog w) (A.deeper env) (leaving env e) (fun _ s'' => R (.error e) s'') (fun e' s'' => R (.error e') s'') s') s) :
    codeC (model prog w) A (.func body env) R s := by
  refine codeC_of_tree ?_
  show wpC _ (A.deeper env) (do point; match ← (execs body env).onRaise (leaving env) with | .ret v => ret v | _ => ret .none) _ _ s
  refine wpC_bind (wpC.any (wpAny_point (wpC_bind (wpC_onRaise (wpC_mono h (fun f s' h' => ?_) fun _ _ h' => wpC.any h')))))
  cases f <;> exact wpC_pure h'
theorem codeC_call_def {a : Addr} {o : Obj} {fd : FuncData} {body : List Stmt} {args : Args} {binds : List (Str × Value)}
    (hroom : A.depth < recursionLimit) (ho : s.heap.get? a = some o) (hdata : o.data = .func fd) (hlim : s.heap.NoLimit) (hcd : s.heap.CodeRec fd.code fd.qualname)
    (hbody : fd.body = .stmts body) (hbind : BindsTo s fd args binds)
    (hcell : ∀ x ∈ fd.scope.names, x.2 ≠ .cell) (hloc : ∀ x ∈ binds, fd.scope.names.lookup x.1 = some .local)
    (h : ∀ h₀, h₀.Ns s.heap.objs.size (fun x => binds.reverse.lookup x) → (∀ b o, s.heap.get? b = some o → h₀.get? b = some o) →
      wpC (model prog w) (A.deeper (callEnv fd s.heap.objs.size a)) (execs body (callEnv fd s.heap.objs.size a)) (fun f s' => R (.ok (.ret (match f with | .ret v => v | _ => .none))) s')
        (fun e s' => wpAny (model prog w) (A.deeper (callEnv fd s.heap.objs.size a)) (leaving (callEnv fd s.heap.objs.size a) e) (fun _ s'' => R (.error e) s'') (fun e' s'' => R (.error e') s'') s')
        { s with heap := h₀, toks := s.toks + binds.length })
    (hco : fd.scope.isCoroutine = false := by rfl) (hgen : fd.scope.isGenerator = false := by rfl) (hk : fd.scope.kind = .function := by rfl) :
    codeC (model prog w) A (.call (.ref a) args) R s := by
  refine codeC_of_tree ?_
  show wpC _ A.in1 (callAny (.ref a) args) _ _ s
  simp only [callAny]
  refine wpC.any (wpAny_bind (wpAny_load ho ?_))
  obtain ⟨c, oc, vs, tq, hc, hoc, hdc, hq⟩ := hcd
  simp only [hdata, callFunction, hco, hgen, hbody, hc]
  refine wpAny_bind (m := field (.ref c) 1) (wpAny_field hoc hdc hq (wpAny_bind (wpAny_pure ?_)))
  refine wpAny_bind (hbind _ _ _ _ (wpAny_bind (wpAny_newFunctionEnv hcell hloc (fun h₀ hns₀ hsb₀ => wpAny_bind (wpAny_enterFrame (hlim.fresh _ hsb₀) hroom (wpAny_pure ⟨rfl, ?_⟩))) hk)))
  rw [← hc]
  refine codeC_func (h h₀ hns₀ fun b o e => ?_)
  exact hsb₀.extBut b o (Nat.ne_of_lt (Heap.lt_size e)) (Heap.get?_push_of_some _ e)
end
end Mine
end
theorem Mine.freshW1 : True := by
  w_top off
  trivial
section
-- text W1
open PySem PySem.W PyProof.Rows
set_option Elab.async false
set_option maxRecDepth 100000
set_option maxHeartbeats 8000000
set_option linter.unusedVariables false
namespace Mine
open PySem.Builtin PySem.Builtin.Int
section
variable {prog : Program} {w : World} {A : Around} {E : Value → Shared → Prop} {s : Shared}
theorem codeC_builtin {id : String} {args : Args} {b : Builtin} {R : Result → Shared → Prop} (hb : entryFor table id = some b)
    (h : wpC (model prog w) (A.under (.builtin id args)) (b args) (fun fin s' => match fin with | .done f => R (.ok f) s' | .again c' => c'.quiet = true ∧ codeC (model prog w) A c' R s') (fun e s' => R (.error e) s') s) :
    codeC (model prog w) A (.builtin id args) R s := by
  refine codeC_of_tree ?_
  show wpC _ _ (match entryFor table id with | some b => b args | none => unsupported ((withoutEnding? id "#data").getD id)) _ _ s
  rw [hb]; exact h
theorem codeC_call_builtin {id : String} {args : Args} {b : Builtin} {R : Result → Shared → Prop} (hq : plainId id = true) (hb : entryFor table id = some b) (hchk : checkBuiltinCall id args = pure ())
    (h : wpC (model prog w) A.in1 (b args) (fun fin s' => match fin with | .done f => R (.ok f) s' | .again c' => c'.quiet = true ∧ codeC (model prog w) A c' R s') (fun e s' => R (.error e) s') s) :
    codeC (model prog w) A (.call (.builtin id) args) R s := by
  refine codeC_of_tree ?_
  show wpC _ _ (do checkBuiltinCall id args; again (.builtin id args)) _ _ s
  rw [hchk]
  refine wpC_bind (wpC_pure (wpC_pure ⟨plainId_quiet hq _, codeC_builtin hb ?_⟩))
  rw [Around.under_plainId hq _]
  exact h
theorem newCall_int_2 (x y : Value) : checkBuiltinCall "int.__new__" ⟨[.type "int", x, y], []⟩ = pure () := by
  kernel_rfl
theorem typeCall_int_2 (x y : Value) : checkTypeCall "int" ⟨[x, y], []⟩ = pure () := by rfl
theorem callC_int {x y : Value} {R : Result → Shared → Prop} (h : wpC (model prog w) A.in1.in1 («int.__new__» ⟨[.type "int", x, y], []⟩) (fun _ _ => False) (fun e s' => R (.error e) s') s) :
    codeC (model prog w) A (.call (.type "int") ⟨[x, y], []⟩) R s := by
  have ft := F.called_int
  refine codeC_of_tree ?_
  show wpC _ _ (callAny (.type "int") _) _ _ _
  refine wpC_pure ⟨Code.quiet_builtin _ (by decide +kernel), codeC_builtin F.entry_type_call ?_⟩
  rw [Around.under_plain (weight_type_call_type "int" [x, y] []) (units_type_call_type "int" [x, y] [])]
  obtain ⟨c, tl, hmro⟩ := ft.mro
  unfold «type.__call__»
  dsimp only
  rw [ft.notType]
  simp only [Bool.false_eq_true, if_false]
  rw [ft.canCreate]
  simp only [Bool.false_eq_true, if_false, typeCall_int_2, hmro, ft.made, pure_bind, List.isEmpty_cons]
  refine wpC_bind (wpC_holding (wpC_call (codeC_call_builtin ft.plain F.entry_int_new (newCall_int_2 x y) (wpC_mono h (fun _ _ x => x.elim) fun _ _ x => x))))
theorem wpC_neg {α : Type} {M : Model} {c : Prop} [Decidable c] {a b : Sem α} {Q : α → Shared → Prop} (hn : ¬ c) (h : wpC M A b Q E s) : wpC M A (if c then a else b) Q E s := by
  rw [if_neg hn]; exact h
theorem key3 {b1 b2 b3 : Bool} (h : b1 = true) : ¬ ((!b1 && b2) && b3) = true := by
  subst h; simp
open PySem.NumText in
theorem refuse_text {x : Str} {t : Tok} {text : List Nat} {Q : Value → Shared → Prop} (hs : (text.takeWhile (· != 0)).length ≤ 640) (hr : (int_private% "readNumeral") 0 10 (text.takeWhile (· != 0)) = int_private% "Numeral.invalid") (hl : (reprText x).length ≤ 1000) (hh : A.handled = none)
    (h : ∀ h' tk e, Heap.NewExc s.heap h' e "ValueError" → E (.ref e) { s with heap := h', toks := tk }) : wpC (model prog w) A ((int_private% "intFromText") (.str x t) text 10) Q E s := by
  show wpC (model prog w) A (if (text.takeWhile (· != 0)).length ≤ 640 then _ else _) _ _ _
  rw [if_pos hs]
  refine wpC_bind (wpC_pure ?_)
  dsimp only
  generalize hR : (int_private% "readNumeral") 0 10 (text.takeWhile (· != 0)) = R
  rw [hr] at hR
  subst hR
  dsimp only
  refine wpC_bind (show wpC _ _ (pure none) _ _ _ from wpC_pure ?_)
  rw [if_neg (show ¬ ((Option.isSome (none : Option (Array UInt8)) && _) = true) from Bool.false_ne_true)]
  refine wpC_bind (wpC.any (wpAny_rule ?_))
  refine wpC_bind (show wpC _ _ (pure none) _ _ _ from wpC_pure ?_)
  dsimp only
  refine wpC_bind (wpC.any (wpAny_pyRepr_str ?_ ?_))
  · refine wpC_bind (wpC.any (wpAny_mkStr ?_ ?_))
    · refine wpC_bind (wpC.any (wpAny_newExc_plain plainExc_ValueError (fun h' e hm => ?_) ?_))
      · refine wpC_bind ?_
        unfold markTheRefusal
        refine wpC_bind (wpC_stack fun st hst => ?_)
        rw [if_neg ?_]
        · refine wpC_pure ?_
          refine wpC.any (wpAny_raiseNew_none hh ?_)
          exact h h' _ e hm.newExc
        · exact key3 hst
      · show (1 : Nat) ≤ sizeLine
        decide
    · have e1 : ∀ a b : Str, (a ++ b).length = a.length + b.length := fun a b => Array.size_append
      rw [e1]
      have e2 : (⟨(reprText x).cps.extract 0 200⟩ : Str).length ≤ 200 := by
        show ((reprText x).cps.extract 0 200).size ≤ 200
        rw [Array.size_extract]; omega
      have e3 : (Str.ofString (toString "invalid literal for int() with base " ++ toString (10 : Nat) ++ toString ": ")).length ≤ 100 := by decide +kernel
      have : (1000 : Nat) ≤ sizeLine := by decide
      omega
  · have : (1000 : Nat) ≤ sizeLine := by decide
    omega
theorem reads_word {x : Str} (hne : x.cps.toList ≠ []) (hw : ∀ c ∈ x.cps.toList, (65 ≤ c ∧ c ≤ 90) ∨ (97 ≤ c ∧ c ≤ 122)) : (int_private% "readNumeral") 0 10 ((numTextOf x).takeWhile (· != 0)) = int_private% "Numeral.invalid" := by
  have e1 : numTextOf x = x.cps.toList := if_pos (by
    rw [Array.all_eq_true']
    intro c hc
    have := hw c (Array.mem_toList_iff.mpr hc)
    simp only [decide_eq_true_eq]; omega)
  have e2 : (numTextOf x).takeWhile (· != 0) = x.cps.toList := by
    rw [e1]
    exact NumText.takeWhile_all fun c hc => by have := hw c hc; simp; omega
  rw [e2, NumText.readNumeral_ten]
  cases hq : x.cps.toList with
  | nil => exact absurd hq hne
  | cons c r =>
    have hc := hw c (by rw [hq]; exact List.mem_cons_self)
    have h1 : (c :: r).dropWhile NumText.blank = c :: r := NumText.dropWhile_of (by omega)
    have h2 : NumText.sign (c :: r) = (false, c :: r) := NumText.sign_of (by omega) (by omega)
    have h3 : ((c :: r).reverse.dropWhile NumText.blank).reverse = c :: r := by
      cases hq2 : (c :: r).reverse with
      | nil => simp at hq2
      | cons d q =>
        have hd : d ∈ (c :: r).reverse := by rw [hq2]; exact List.mem_cons_self
        have := hw d (by rw [hq]; exact List.mem_reverse.mp hd)
        rw [NumText.dropWhile_of (by omega), ← hq2, List.reverse_reverse]
    have h4 : NumText.core (c :: r) = c :: r := by
      unfold NumText.core
      simp only [h1, h2]
      first | exact h3 | simpa using h3
    rw [h4]
    have h5 : NumText.digits? 10 (c :: r) = none := by
      unfold NumText.digits?
      rw [List.foldlM_cons]
      have : NumText.step 10 ((#[] : Array Nat), false) c = none := by
        unfold NumText.step
        rw [if_neg (by simp; omega)]
        unfold NumText.digit?
        rcases hc with hc | hc
        · rw [if_neg (by simp; omega), if_neg (by simp; omega), if_pos (by simp; omega)]
          simp; omega
        · rw [if_neg (by simp; omega), if_pos (by simp; omega)]
          simp; omega
      rw [this]; rfl
    rw [h5]
    rfl
theorem new_refused {x : Str} {t u : Tok} {Q : PySem.Fin → Shared → Prop} (hne : x.cps.toList ≠ []) (hw : ∀ c ∈ x.cps.toList, (65 ≤ c ∧ c ≤ 90) ∨ (97 ≤ c ∧ c ≤ 122)) (hl : (reprText x).length ≤ 1000) (hx : x.length ≤ 640) (hh : A.handled = none)
    (h : ∀ h' tk e, Heap.NewExc s.heap h' e "ValueError" → E (.ref e) { s with heap := h', toks := tk }) : wpC (model prog w) A («int.__new__» ⟨[.type "int", .str x t, .int 10 u], []⟩) Q E s := by
  unfold «int.__new__»
  dsimp only
  refine wpC_bind (show wpC _ _ (pure true) _ _ _ from wpC_pure ?_)
  rw [if_neg (by decide), F.conv_sub_int, pure_bind]
  rw [if_neg (by decide), F.madeHere_int]
  simp only [pure_bind]
  refine wpC_neg (by simp) (wpC_neg (by simp) ?_)
  rw [List.forIn_nil, pure_bind]
  show wpC _ _ (intIndex "int.__new__" (.int 10 u) >>= _) _ _ _
  refine wpC_bind (show wpC _ _ (pure (10 : Int)) _ _ _ from wpC_pure ?_)
  rw [if_neg (by decide)]
  refine wpC_bind (show wpC _ _ (pure (some (numTextOf x))) _ _ _ from wpC_pure ?_)
  dsimp only
  refine wpC_bind (refuse_text (Nat.le_trans (seen_length x) hx) (reads_word hne hw) hl hh h)
end
end Mine
end
theorem Mine.freshW2 : True := by
  w_top off
  trivial
section
-- text W2
open PySem PySem.W PyProof.Rows
set_option Elab.async false
set_option maxRecDepth 100000
set_option maxHeartbeats 8000000
set_option linter.unusedVariables false
namespace Mine
open PySem.Builtin PySem.Builtin.Int
section
variable {prog : Program} {w : World} {A : Around} {E : Value → Shared → Prop} {s : Shared} {env : Env}
theorem execsC {st : Stmt} {rest : List Stmt} {Q : Flow → Shared → Prop} (h : wpC (model prog w) A (exec st env) (fun f s' => match f with | .next => wpC (model prog w) A (execs rest env) Q E s' | f => Q f s') E s) :
    wpC (model prog w) A (execs (st :: rest) env) Q E s := by
  rw [execs_cons]
  refine wpC_bind (wpC_mono h (fun f s' h' => ?_) fun _ _ x => x)
  cases f <;> first | exact h' | exact wpC_pure h'
theorem IfC {test : Expr} {body orelse : List Stmt} {pos : Pos} {Q : Flow → Shared → Prop}
    (h : wpAny (model prog w) A (isTrue test env (eval test env)) (fun b s' => if b then wpC (model prog w) A (execs body env) Q E s' else wpC (model prog w) A (execs orelse env) Q E s') E s) :
    wpC (model prog w) A (exec (.If test body orelse pos) env) Q E s := by
  rw [exec_If]
  refine wpC_bind (wpC.any (wpAny_standAt (wpC_bind (wpC_mono (wpC.any h) (fun b s' h' => ?_) fun _ _ x => x))))
  cases b
  · exact h'
  · exact h'
theorem AssignC {x : Str} {px pos : Pos} {value : Expr} {Q : Flow → Shared → Prop} (hs : swapsWith value (some (.Name x px)) pos.line env = pure false)
    (h : wpC (model prog w) A (eval value env) (fun v s₁ => wpAny (model prog w) A (bindName env x v) (fun _ s' => Q .next s') E s₁) E s) :
    wpC (model prog w) A (exec (.Assign [.Name x px] value pos) env) Q E s := by
  rw [exec_Assign_Name _ _ _ _ _ hs]
  refine wpC_bind (wpC.any (wpAny_standAt (wpC_bind (wpC_mono h (fun v s₁ h₁ => ?_) fun _ _ x => x))))
  exact wpC_bind (wpC.any (wpAny_standAt (wpC_bind (wpC.any (wpAny_mono h₁ (fun _ _ q => wpC_pure q) fun _ _ x => x)))))
theorem TryC {body orelse : List Stmt} {h₀ : ExceptHandler} {hs : List ExceptHandler} {pos : Pos} {Q : Flow → Shared → Prop}
    (h : wpC (model prog w) A (execs body env) (fun f s₁ => match f with | .next => wpC (model prog w) A (execs orelse env) Q E s₁ | f => Q f s₁)
      (fun e s₁ => wpAny (model prog w) A (noteFrame e env) (fun _ s₂ => wpAny (model prog w) A (setFlight e none) (fun _ s₃ => wpAny (model prog w) A (handleBy e env (h₀ :: hs)) Q E s₃) E s₂) E s₁) s) :
    wpC (model prog w) A (exec (.Try body (h₀ :: hs) orelse [] pos) env) Q E s := by
  rw [arm_exec_Try]
  refine wpC_bind (wpC.any (wpAny_standAt ?_))
  unfold tryStmt
  simp only [List.isEmpty_nil, if_true, List.isEmpty_cons, Bool.false_and, Bool.false_eq_true, if_false]
  refine wpC_bind (wpC_attempt (wpC_mono h (fun f s₁ h₁ => ?_) fun e s₁ h₁ => ?_))
  · cases f <;> first | exact h₁ | exact wpC_pure h₁
  · exact wpC.any (wpAny_bind (wpAny_mono h₁ (fun _ _ h₂ => wpAny_bind h₂) fun _ _ x => x))
theorem CallNameC {id : Str} {p pos : Pos} {args : List Expr} {Q : Value → Shared → Prop}
    (h : wpAny (model prog w) A (eval (.Name id p) env) (fun f s₁ => wpC (model prog w) A (callWith pos f [] (backTo pos (starEach args env)) (backToKw pos (keywordEach [] env))) Q E s₁) E s) :
    wpC (model prog w) A (eval (.Call (.Name id p) args [] pos) env) Q E s := by
  rw [arm_eval_Call_Name']
  exact wpC_bind (wpC.any h)
theorem callWithC_type {pos : Pos} {T : String} {first : List Value} {args : List (Bool × Sem Value)} {Q : Value → Shared → Prop} (hplain : args.any (·.1) = false)
    (h : wpAny (model prog w) A (evalArgs (.type T) true args []) (fun a s₁ => wpC (model prog w) A (call (.type T) (first ++ a.pos) a.kw) Q E s₁) E s) :
    wpC (model prog w) A (callWith pos (.type T) first args []) Q E s := by
  unfold callWith
  refine wpC_bind (wpC_holding (wpC.any (wpAny_mono h (fun a s₁ h₁ => wpC_bind (wpC.any (wpAny_standAt ?_))) fun _ _ x => x)))
  simp only [hplain, List.any_nil, Bool.or_false]
  refine wpC_bind (wpC_pure ?_)
  exact wpC_bind (wpC_mono h₁ (fun r s₂ hr => wpC_bind (wpC_holding (wpC.any (wpAny_point (wpC_pure hr))))) fun _ _ x => x)
theorem callWithC_function {pos : Pos} {a : Addr} {o : Obj} {fd : FuncData} {first : List Value} {args : List (Bool × Sem Value)} {Q : Value → Shared → Prop} (hplain : args.any (·.1) = false)
    (h : wpC (model prog w) A (evalArgs (.ref a) true args []) (fun x s₁ => (s₁.heap.get? a = some o ∧ o.data = .func fd) ∧ wpC (model prog w) A (call (.ref a) (first ++ x.pos) x.kw) Q E s₁) E s) :
    wpC (model prog w) A (callWith pos (.ref a) first args []) Q E s := by
  unfold callWith
  refine wpC_bind (wpC_holding (wpC_mono h (fun x s₁ h₁ => wpC_bind (wpC.any (wpAny_standAt ?_))) fun _ _ x => x))
  have tail : ∀ {t : Sem Value}, wpC (model prog w) A t Q E s₁ → wpC (model prog w) A (t >>= fun r => holding [r] point >>= fun _ => pure r) Q E s₁ :=
    fun ht => wpC_bind (wpC_mono ht (fun r s₂ hr => wpC_bind (wpC_holding (wpC.any (wpAny_point (wpC_pure hr))))) fun _ _ x => x)
  simp only [hplain, List.any_nil, Bool.or_false]
  refine wpC_bind (m := keeperOf (.ref a)) ?_
  unfold keeperOf
  refine wpC_bind (wpC.any (wpAny_load h₁.1.1 ?_))
  rw [h₁.1.2]
  refine wpC_pure ?_
  dsimp only
  split
  · exact tail h₁.2
  · refine tail ?_
    unfold callMarked
    exact fun Γ p hΓ hC => by rw [Sem.wp_keep]; exact h₁.2 Γ p hΓ hC
theorem args_object_init_3 (a b c : Value) : argsOk "object.__init__" ⟨[a, b, c], []⟩ := by
  have := F.args_object_init_2 a b
  unfold argsOk at *
  kernel_rfl
theorem gives_int10 {x : PySem.Str} {t u : Tok} {n : Int} (hl : x.length ≤ 640) (hn : PySem.intText? x = some n) : Gives (Builtin.«int.__new__» ⟨[.type "int", .str x t, .int 10 u], []⟩) (.int n) :=
  .of_wp fun M A E s Q h => by
    have hs : (numSeenOf x).length ≤ 640 := Nat.le_trans (seen_length x) hl
    have hr : (int_private% "readNumeral") 0 10 (numSeenOf x) = (int_private% "Numeral.value") n ∧ ((numSeenOf x).length == (numTextOf x).length) = true := by
      rcases read0 x hs with ⟨m, h1, h2, h3⟩ | ⟨h1, _⟩
      · rw [hn] at h1
        injection h1 with h1
        subst h1
        exact ⟨h3, h2⟩
      · rw [hn] at h1
        cases h1
    unfold «int.__new__»
    dsimp only
    refine wpAny_bind (show wpAny _ _ (pure true) _ _ _ from wpAny_pure ?_)
    rw [if_neg (by decide), F.conv_sub_int, pure_bind]
    rw [if_neg (by decide), F.madeHere_int]
    simp only [pure_bind]
    rw [if_neg (by simp), if_neg (by simp)]
    rw [List.forIn_nil, pure_bind]
    show wpAny _ _ (intIndex "int.__new__" (.int 10 u) >>= _) _ _ _
    refine wpAny_bind (show wpAny _ _ (pure (10 : Int)) _ _ _ from wpAny_pure ?_)
    rw [if_neg (by decide)]
    refine wpAny_bind (show wpAny _ _ (pure (some (numTextOf x))) _ _ _ from wpAny_pure ?_)
    dsimp only
    refine wpAny_bind (KIN.wp_text hs hr.1 hr.2 ?_)
    rw [if_pos (by decide)]
    exact wpAny_pure ⟨_, rfl, h⟩
theorem call_int10 {x : PySem.Str} {t u : Tok} {n : Int} {Q : Value → Shared → Prop} (hl : x.length ≤ 640) (hn : PySem.intText? x = some n) (h : Q (.int n s.toks) { s with toks := s.toks + 1 }) : wpAny (model prog w) A (call (.type "int") [.str x t, .int 10 u]) Q E s :=
  callType_new F.called_int F.newNe_int (typeCall_int_2 _ _) (newCall_int_2 _ _) (fun obj => args_object_init_3 obj _ _) F.entry_int_new (gives_int10 hl hn).meets (show (Made.int n).post _ s from ⟨rfl, h⟩)
end
end Mine
end
theorem Mine.freshW3 : True := by
  w_top off
  trivial
section
-- text W3
open PySem PySem.W PyProof.Rows
set_option Elab.async false
set_option maxRecDepth 100000
set_option maxHeartbeats 8000000
set_option linter.unusedVariables false
namespace Mine
section
variable {prog : Program} {w : World} {A : Around} {E : Value → Shared → Prop} {s : Shared} {env : Env} {R : Result → Shared → Prop} {h₀ : Heap}
theorem codeC_forLoop {target : Expr} {it : Value} {body orelse : List Stmt} (I : Nat → Shared → Prop)
    (turn : ∀ n s, I n s → wpAny (model prog w) A (pyNext it) (fun r s₁ => match r with
      | none => wpAny (model prog w) A (execs orelse env) (fun f s₃ => R (.ok f) s₃) (notedBy (model prog w) A env fun e s' => R (.error e) s') s₁
      | some v => wpAny (model prog w) A (letOwnedTupleGo target it v) (fun _ s₁' =>
          wpAny (model prog w) A (assign target env v) (fun _ s₂ => wpC (model prog w) A (execs body env) (fun f s₃ => match f with
            | .next | .cont => ∃ m, m < n ∧ I m s₃
            | .brk => R (.ok .next) s₃
            | .ret v => R (.ok (.ret v)) s₃) (notedBy (model prog w) A env fun e s' => R (.error e) s') s₂) (notedBy (model prog w) A env fun e s' => R (.error e) s') s₁') (notedBy (model prog w) A env fun e s' => R (.error e) s') s₁) (notedBy (model prog w) A env fun e s' => R (.error e) s') s)
    (n : Nat) (h : I n s) : codeC (model prog w) A (.forLoop target it body orelse env) R s := by
  refine codeC_loop rfl I (fun n s hI => ?_) n h
  show wpC _ A ((forTurn target it body orelse env).onRaise (fun x => do noteFrame x env; theTreesLotGoes x)) _ _ s
  refine wpC_noted ?_
  simp only [forTurn]
  refine wpC_bind (wpC.any (wpAny_standAt (wpC_bind (wpC_onRaise (wpC.any (wpAny_mono (turn n s hI) (fun r s₁ h₁ => ?_) fun _ _ h' => wpC.any (wpAny_standAt h')))))))
  cases r with
  | none => exact wpC_pure (.inr ⟨rfl, codeC.any (codeAny_block h₁)⟩)
  | some v =>
    refine wpC_bind (wpC.any (wpAny_mono h₁ (fun _ s₁' h₁' => ?_) fun _ _ h' => h'))
    refine wpC_bind (wpC.any (wpAny_mono h₁' (fun _ s₂ h₂ => wpC_bind (wpC_mono h₂ (fun f s₃ h₃ => ?_) fun _ _ h' => h')) fun _ _ h' => h'))
    cases f with
    | next => exact wpC_pure (.inl ⟨rfl, h₃⟩)
    | cont => exact wpC_pure (.inl ⟨rfl, h₃⟩)
    | brk => exact wpC_pure h₃
    | ret v => exact wpC_pure h₃
theorem forLoopC_list {R : Flow → Shared → Prop} {EE : Value → Shared → Prop} {target : Expr} {body orelse : List Stmt} {I l : Addr} {vs : List Value} {ne : Nat} {m : Str → Option Value} {nx₀ : List (Addr × Obj)}
    (J : Nat → (Str → Option Value) → List (Addr × Obj) → Prop)
    (hh : A.handled = none) (hIL : env.locals ≠ I) (hI0 : h₀.get? I = none)
    (hl : ∀ i m nx, J i m nx → (l, listOf vs.toArray ne) ∈ nx)
    (hit : s.heap.IsListIter I l 0) (F : Fr h₀ env.locals s.heap m) (N : News h₀ env.locals s.heap nx₀) (hoff : ∀ p ∈ nx₀, p.1 ≠ I) (hJ : J 0 m nx₀)
    (turn : ∀ i v m₁ nx h tk oI, vs[i]? = some v → J i m₁ nx → (∀ p ∈ nx, p.1 ≠ I) → h.IsListIter I l (i + 1) → h.get? I = some oI → Fr h₀ env.locals h m₁ → News h₀ env.locals h ((I, oI) :: nx) →
      wpAny (model prog w) A (letOwnedTupleGo target (.ref I) v) (fun _ s₁ => wpAny (model prog w) A (assign target env v) (fun _ s₂ => wpC (model prog w) A (execs body env) (TurnPost h₀ env.locals (J (i + 1)) s I oI R) (fun _ _ => False) s₂) (fun _ _ => False) s₁) (fun _ _ => False) { s with heap := h, toks := tk })
    (done : ∀ h' tk m' nx', Fr h₀ env.locals h' m' → News h₀ env.locals h' nx' → J vs.length m' nx' → wpAny (model prog w) A (execs orelse env) R (notedBy (model prog w) A env EE) { s with heap := h', toks := tk }) :
    codeC (model prog w) A (.forLoop target (.ref I) body orelse env) (fun r s' => match r with | .ok f => R f s' | .error e => EE e s') s := by
  refine codeC_forLoop
    (fun k s' => ∃ h' tk m' nx' i, s' = { s with heap := h', toks := tk } ∧ i ≤ vs.length ∧ k = vs.length + 1 - i ∧ h'.IsListIter I l i ∧ Fr h₀ env.locals h' m' ∧ News h₀ env.locals h' nx' ∧ (∀ p ∈ nx', p.1 ≠ I) ∧ J i m' nx') ?_ (vs.length + 1)
    ⟨s.heap, s.toks, m, nx₀, 0, rfl, Nat.zero_le _, rfl, hit, F, N, hoff, hJ⟩
  rintro k s' ⟨h', tk, m', nx', i, rfl, hi, rfl, hit', F', N', hoff', hJ'⟩
  have hm := hl _ _ _ hJ'
  have hne : l ≠ I := hoff' _ hm
  have hlist : h'.IsList l vs.toArray := ⟨_, (N' _ hm).1, rfl, _, rfl⟩
  have W := Walks.list (prog := prog) (w := w) hh I l hne vs.toArray
  by_cases hlt : i < vs.length
  · refine W.item i _ _ _ (by simpa using hlt) ⟨hit', hlist⟩ fun v h₁ tk₁ hP hst₁ hk₁ => ?_
    have hv : vs[i]? = some v := by simpa using hP
    obtain ⟨oI, hoI, _⟩ := id hst₁.1
    have N₁ : News h₀ env.locals h₁ ((I, oI) :: nx') := fun p hp => by
      rcases List.mem_cons.mp hp with rfl | hp
      · exact ⟨hoI, Ne.symm hIL, hI0⟩
      · exact LCg.news_but N' hk₁ hoff' p hp
    refine wpAny_mono (turn i v m' nx' h₁ tk₁ oI hv hJ' hoff' hst₁.1 hoI (LCg.fr_but F' hk₁ hIL hI0) N₁) (fun _ s₁ x₁ => wpAny_mono x₁ (fun _ s₂ x₂ => wpC_mono x₂ (fun f s₃ x₃ => ?_) fun _ _ x => x.elim) fun _ _ x => x.elim) fun _ _ x => x.elim
    have fin : TurnEnd h₀ env.locals (J (i + 1)) s I oI s₃ → ∃ m, m < vs.length + 1 - i ∧ ∃ h' tk m' nx' j, s₃ = { s with heap := h', toks := tk } ∧ j ≤ vs.length ∧ m = vs.length + 1 - j ∧ h'.IsListIter I l j ∧ Fr h₀ env.locals h' m' ∧ News h₀ env.locals h' nx' ∧ (∀ p ∈ nx', p.1 ≠ I) ∧ J j m' nx' := by
      rintro ⟨h₃, tk₃, m₃, nx₃, rfl, F₃, N₃, off₃, J₃⟩
      refine ⟨vs.length + 1 - (i + 1), by omega, h₃, tk₃, m₃, nx₃, i + 1, rfl, hlt, rfl, ?_, F₃, fun p hp => N₃ p (List.mem_cons_of_mem _ hp), off₃, J₃⟩
      obtain ⟨o, ho, r⟩ := hst₁.1
      rw [hoI] at ho
      cases ho
      exact ⟨oI, (N₃ _ List.mem_cons_self).1, r⟩
    cases f with
    | next => exact fin x₃
    | cont => exact fin x₃
    | brk => exact x₃
    | ret v => exact x₃
  · obtain rfl : i = vs.length := by omega
    refine W.done _ _ _ ⟨by simpa using hit', hlist⟩ fun h₁ tk₁ hk₁ => ?_
    exact done h₁ tk₁ m' nx' (LCg.fr_but F' hk₁ hIL hI0) (LCg.news_but N' hk₁ hoff') hJ'
/-- what a for under the caller asks of the value that its source came to -/
def ForAtC (prog : Program) (w : World) (A : Around) (env : Env) (target : Expr) (body orelse : List Stmt) (Q : Flow → Shared → Prop) (E : Value → Shared → Prop) (xv : Value) (s : Shared) : Prop :=
  wpAny (model prog w) A (pyIter xv) (fun it s₂ => codeC (model prog w) A (.forLoop target it body orelse env) (fun r s' => match r with | .ok f => Q f s' | .error e => cameBackBy (model prog w) A env E e s') s₂) E s
theorem ForC {target iter : Expr} {body orelse : List Stmt} {pos : Pos} {Q : Flow → Shared → Prop} (h : wpAny (model prog w) A (eval iter env) (fun xv s₁ => ForAtC prog w A env target body orelse Q E xv s₁) E s)
    (hs : ∀ x, foldedSetIterable iter env x = pure x := by intro _; rfl) : wpC (model prog w) A (exec (.For target iter body orelse pos) env) Q E s := by
  rw [exec_For]
  refine wpC_bind (wpC.any (wpAny_standAt ?_))
  refine wpC_bind (wpC.any (wpAny_mono h (fun x s₁ h₁ => ?_) fun _ _ h' => h'))
  refine wpC_bind (wpC.any (wpAny_of_eq (hs x) ?_))
  refine wpC_bind (wpC.any (wpAny_standAt ?_))
  refine wpC_bind (wpC_holding (wpC.any (wpAny_mono h₁ (fun it s₂ h₂ => ?_) fun _ _ h' => h')))
  unfold runOwn
  exact wpC_onRaise (wpC_run (codeC_mono h₂ fun r s' hr => by
    cases r with
    | ok f => exact hr
    | error e => exact wpC.any hr))
theorem forAtC_name {x : Str} {px : Pos} {body orelse : List Stmt} {Q : Flow → Shared → Prop} {l : Addr} {vs : List Value} {ne : Nat} {m : Str → Option Value} {nx₀ : List (Addr × Obj)}
    (J : Nat → (Str → Option Value) → List (Addr × Obj) → Prop) (hh : A.handled = none)
    (hx : env.kindOf x = some .local) (hp : (env.scope.kind == .class || (env.scope.kind == .module && env.locals != env.globals)) = false)
    (hl : ∀ i m nx, J i m nx → (l, listOf vs.toArray ne) ∈ nx) (F : Fr h₀ env.locals s.heap m) (N : News h₀ env.locals s.heap nx₀) (hJ : J 0 m nx₀)
    (turn : ∀ i v m₁ nx h tk I oI, vs[i]? = some v → J i m₁ nx → (∀ p ∈ nx, p.1 ≠ I) → Fr h₀ env.locals h (fun y => if y = x then some v else m₁ y) → News h₀ env.locals h ((I, oI) :: nx) →
      wpC (model prog w) A (execs body env) (TurnPost h₀ env.locals (J (i + 1)) s I oI Q) (fun _ _ => False) { s with heap := h, toks := tk })
    (done : ∀ h' tk m' nx', Fr h₀ env.locals h' m' → News h₀ env.locals h' nx' → J vs.length m' nx' → wpAny (model prog w) A (execs orelse env) Q (notedBy (model prog w) A env (cameBackBy (model prog w) A env E)) { s with heap := h', toks := tk }) :
    ForAtC prog w A env (.Name x px) body orelse Q E (.ref l) s := by
  have hm := hl _ _ _ hJ
  have hls : s.heap.IsList l vs.toArray := ⟨_, (N _ hm).1, rfl, _, rfl⟩
  refine wpAny_pyIter_list hls ?_
  have up : ∀ b o, s.heap.get? b = some o → (s.heap.push { cls := .type "list_iterator", data := .fields #[.ref l, .int 0 0] }).get? b = some o := fun b o e => Heap.get?_push_of_some _ e
  refine forLoopC_list (h₀ := h₀) (l := l) (vs := vs) (ne := ne) (m := m) (nx₀ := nx₀) J hh (Nat.ne_of_lt F.ns.lt) (next_is_new F) hl ⟨_, Heap.get?_push_size _ rfl, rfl, rfl⟩ (F.keeps up) (N.grown up) (fun p hp => Nat.ne_of_lt (Heap.lt_size (N p hp).1)) hJ ?_ ?_
  · intro i v m₁ nx h tk oI hv hJ₁ off hit ho F₁ N₁
    refine wpAny_pure (wpAny_assign_Name (wpAny_storeName_local hx F₁.ns (fun h₂ hn₂ hs₂ => ?_) hp))
    exact turn i v m₁ nx h₂ _ _ oI hv hJ₁ off (F₁.set hn₂ hs₂) (N₁.set hs₂)
  · exact fun h' tk m' nx' F' N' J' => done h' tk m' nx' F' N' J'
end
end Mine
end
theorem Mine.freshW4 : True := by
  w_top off
  trivial
section
-- text W4
open PySem PySem.W PyProof.Rows
set_option Elab.async false
set_option maxRecDepth 100000
set_option maxHeartbeats 8000000
set_option linter.unusedVariables false
namespace Mine
open PyProof.Rows.LCg
section
variable {prog : Program} {w : World} {A : Around} {E : Value → Shared → Prop} {s : Shared} {env : Env} {R : Result → Shared → Prop} {h₀ : Heap}
theorem codeC_compLoop {elt target iter : Expr} {scope : Scope} {pos : Pos} {it acc : Value} (I : Nat → Shared → Prop)
    (turn : ∀ n s, I n s → wpAny (model prog w) A (pyNext it) (fun r s₁ => match r with
      | none => R (.ok .next) s₁
      | some v => wpAny (model prog w) A (assign target env v) (fun _ s₂ => wpC (model prog w) A (eval elt env) (fun x s₃ =>
          wpAny (model prog w) A (call (.builtin "list.append") [acc, x]) (fun _ s₄ => ∃ m, m < n ∧ I m s₄) (fun _ _ => False) s₃)
          (fun _ _ => False) s₂) (fun _ _ => False) s₁) (fun _ _ => False) s)
    (n : Nat) (h : I n s) (ht : ∀ v, letOwnedTupleGo target it v = pure () := by intro _; rfl) :
    codeC (model prog w) A (.compLoop (.ListComp elt [⟨target, iter, [], 0⟩] scope pos) 0 it acc env) R s := by
  refine codeC_loop rfl I (fun n s hI => ?_) n h
  show wpC _ A ((compTurn (.ListComp elt [⟨target, iter, [], 0⟩] scope pos) 0 it acc env).onRaise (fun x => do noteFrame x env; theTreesLotGoes x)) _ _ s
  refine wpC_onRaise (E := fun e s' => R (.error e) s') (wpC_mono (E := fun _ _ => False) ?_ (fun _ _ x => x) fun _ _ x => x.elim)
  rw [compTurn_list1]
  refine wpC_bind (wpC.any (wpAny_standAt (wpC_bind (wpC.any (wpAny_mono (turn n s hI) (fun r s₁ h₁ => ?_) fun _ _ h' => h')))))
  cases r with
  | none => exact wpC_pure h₁
  | some v =>
    refine wpC_bind (wpC.any (wpAny_of_eq (ht v) ?_))
    refine wpC_bind (wpC.any (wpAny_mono h₁ (fun _ s₂ h₂ => ?_) fun _ _ h' => h'))
    refine wpC_bind (wpC_bind (wpC_mono h₂ (fun x s₃ h₃ => ?_) fun _ _ h' => h'))
    exact wpC_bind (wpC.any (wpAny_mono h₃ (fun _ s₄ h₄ => wpC_pure (wpC_pure (.inl ⟨rfl, h₄⟩))) fun _ _ h' => h'))
theorem codeC_compStart {elt target iter : Expr} {scope : Scope} {pos : Pos} {it acc : Value}
    (h0 : codeC (model prog w) A (.compLoop (.ListComp elt [⟨target, iter, [], 0⟩] scope pos) 0 it acc env) R s)
    (h : wpAny (model prog w) A (pyIter it) (fun it' s' => codeC (model prog w) A (.compLoop (.ListComp elt [⟨target, iter, [], 0⟩] scope pos) 0 it' acc env) R s') (fun _ _ => False) s) :
    codeC (model prog w) A (.compStart (.ListComp elt [⟨target, iter, [], 0⟩] scope pos) 0 it acc env) R s := by
  refine codeC_of_tree ?_
  show wpC _ _ ((compStart (.ListComp elt [⟨target, iter, [], 0⟩] scope pos) 0 it acc env).onRaise (fun x => do noteFrame x env; standAt theWindowsPlace)) _ _ s
  refine wpC_onRaise (E := fun e s' => R (.error e) s') (wpC_mono (E := fun _ _ => False) ?_ (fun _ _ x => x) fun _ _ x => x.elim)
  unfold compStart
  show wpC _ _ (ask >>= _) _ _ s
  refine wpC_bind (wpC.any (wpAny_askSetting ?_))
  split
  · first
      | exact wpC_bind (wpC_pure (wpC_pure (And.intro rfl h0)))
      | exact wpC_pure (And.intro rfl h0)
  · refine wpC_bind (wpC.any (wpAny_rule ?_))
    show wpC _ _ (standAt iter.pos >>= _) _ _ s
    exact wpC_bind (wpC.any (wpAny_standAt (wpC_bind (wpC.any (wpAny_mono h (fun it' s' h' => wpC_pure (And.intro rfl h')) fun _ _ x => x)))))
theorem wpC_standIf {α : Type} {M : Model} {c : Prop} [Decidable c] {pos : Pos} {k : PUnit → Sem α} {Q : α → Shared → Prop} (h : wpC M A (k ()) Q E s) :
    wpC M A (if c then (standAt pos >>= k) else k ()) Q E s := by
  split
  · exact wpC_bind (wpC.any (wpAny_standAt h))
  · exact h
/-- a comprehension under the caller, whose list is named -/
def CompAtC (prog : Program) (w : World) (A : Around) (env : Env) (elt iter : Expr) (x : Str) (px : Pos) (scope : Scope) (cl : List (Str × Addr)) (pos : Pos) (u : Value → Sem Unit) (Q : Value → Shared → Prop) (xv : Value) (s₁ : Shared) : Prop :=
  wpAny (model prog w) A (pyIter xv) (fun it s₂ => wpAny (model prog w) A (newList []) (fun acc s₃ =>
      wpAny (model prog w) A (newFunctionEnv scope env.globals cl [] env.qual none .none (some env)) (fun cenv s₄ =>
        codeC (model prog w) A (.compStart (.ListComp elt [⟨.Name x px, iter, [], 0⟩] scope pos) 0 it acc { cenv with scope := relabel scope env })
          (fun r s' => match r with
            | .ok _ => wpAny (model prog w) A (u acc) (fun _ s'' => ∃ m, s''.heap.Ns cenv.locals m ∧ ∀ h', Heap.SameBut cenv.locals s''.heap h' → Q .none { s'' with heap := h' }) (fun _ _ => False) s'
            | .error _ => False) s₄) (fun _ _ => False) s₃) (fun _ _ => False) s₂) (fun _ _ => False) s₁
theorem comprehensionC {elt iter : Expr} {x : Str} {px : Pos} {scope : Scope} {cl : List (Str × Addr)} {pos pos' : Pos} {u : Value → Sem Unit} {Q : Value → Shared → Prop}
    (hs : ∀ x, foldedSetIterable iter env x = pure x) (hclos : closureFor scope env = pure cl)
    (hkind : scope.kind = .function) (hnames : ∀ x ∈ scope.names, x.2 = .local → scope.names.lookup x.1 = some .local)
    (h : wpAny (model prog w) A (eval iter env) (CompAtC prog w A env elt iter x px scope cl pos u Q) (fun _ _ => False) s) :
    wpC (model prog w) A (comprehension (.ListComp elt [⟨.Name x px, iter, [], 0⟩] scope pos) scope env pos' (newList []) false (eval iter env) (some u)) Q E s := by
  refine wpC_mono (E := fun _ _ => False) ?_ (fun _ _ x => x) fun _ _ x => x.elim
  unfold comprehension
  rw [hclos, show clausesOf (.ListComp elt [⟨.Name x px, iter, [], 0⟩] scope pos) = [⟨.Name x px, iter, [], 0⟩] from rfl]
  refine wpC_bind (wpC.any (wpAny_mono h (fun x s₁ h₁ => ?_) fun _ _ h' => h'))
  refine wpC_bind (wpC.any (wpAny_standAt ?_))
  refine wpC_bind (wpC.any (wpAny_of_eq (hs x) ?_))
  refine wpC_bind (wpC_holding (wpC.any (wpAny_mono h₁ (fun it s₂ h₂ => ?_) fun _ _ h' => h')))
  refine wpC_standIf ?_
  refine wpC_bind (wpC.any (wpAny_mono h₂ (fun acc s₃ h₃ => ?_) fun _ _ h' => h'))
  refine wpC_bind (wpC_pure ?_)
  refine wpC_bind (wpC.any (wpAny_mono h₃ (fun cenv s₄ h₄ => ?_) fun _ _ h' => h'))
  dsimp only
  have hv' : ∀ x ∈ (scope.names.filter fun x => (x.2 == .local || x.2 == .cell) && x.1 != (".0" : Str)).reverse.drop 1 ++ (scope.names.filter fun x => (x.2 == .local || x.2 == .cell) && x.1 != (".0" : Str)).reverse.take 1,
      x.2 = .local → Env.kindOf { cenv with scope := relabel scope env } x.1 = some .local := fun x hx hl => by
    refine lookup_relabel_local (hnames x ?_ hl)
    rcases List.mem_append.mp hx with h1 | h1
    · exact (List.mem_filter.mp (List.mem_reverse.mp (List.mem_of_mem_drop h1))).1
    · exact (List.mem_filter.mp (List.mem_reverse.mp (List.mem_of_mem_take h1))).1
  refine wpC_holding (wpC_bind (wpC_attempt (wpC_holding (wpC_run (codeC_mono h₄ fun r s' hr => ?_)))))
  cases r with
  | ok f =>
    refine wpC_bind (wpC.any (wpAny_rule (wpC_bind (wpC_holding (wpC.any (wpAny_mono hr (fun _ s'' hr' => ?_) fun _ _ h' => h'))))))
    obtain ⟨m, hn, hr'⟩ := hr'
    exact wpC_bind (wpC.any (wpAny_comp_letGo (cenv := { cenv with scope := relabel scope env }) hkind _ s'' m hv' hn fun h' m' _ hs' => wpC_pure (hr' h' hs')))
  | error x => exact hr.elim
theorem AssignCompC {elt iter : Expr} {x y : Str} {px py : Pos} {scope : Scope} {cl : List (Str × Addr)} {pos spos : Pos} {Q : Flow → Shared → Prop}
    (hsw : swapsWith (.ListComp elt [⟨.Name x px, iter, [], 0⟩] scope pos) (some (.Name y py)) spos.line env = pure true)
    (hclos : closureFor scope env = pure cl) (hkind : scope.kind = .function)
    (hnames : ∀ z ∈ scope.names, z.2 = .local → scope.names.lookup z.1 = some .local)
    (h : wpAny (model prog w) A (eval iter env) (CompAtC prog w A env elt iter x px scope cl pos (assign (.Name y py) env) (fun _ s' => Q .next s')) (fun _ _ => False) s)
    (hs : ∀ x, foldedSetIterable iter env x = pure x := by intro _; rfl) :
    wpC (model prog w) A (exec (.Assign [.Name y py] (.ListComp elt [⟨.Name x px, iter, [], 0⟩] scope pos) spos) env) Q E s := by
  rw [exec_Assign_Name_used _ _ _ _ hsw]
  refine wpC_bind (wpC.any (wpAny_standAt (wpC_bind ?_)))
  show wpC _ A (do let _ ← comprehension (.ListComp elt [⟨.Name x px, iter, [], 0⟩] scope pos) scope env _ (newList []) false (eval iter env) (some (assign (.Name y py) env))) _ _ s
  exact wpC_bind (wpC_mono (comprehensionC (Q := fun _ s' => Q .next s') hs hclos hkind hnames h) (fun _ s' hq => wpC_pure (wpC_pure hq)) fun _ _ e => e)
theorem compAtC_list {elt iter : Expr} {x y : Str} {px py : Pos} {scope : Scope} {cl : List (Str × Addr)} {pos : Pos} {Q : Flow → Shared → Prop} {m : Str → Option Value} {ax : Addr} {vs : List Value} {ne : Nat} {nx₀ : List (Addr × Obj)} {s₁ : Shared}
    (J : Nat → List Value → List (Addr × Obj) → Prop) (hh : A.handled = none) (hcell : ∀ y ∈ scope.names, y.2 ≠ .cell) (hkind : scope.kind = .function) (hx : scope.names.lookup x = some .local)
    (hy : env.kindOf y = some .local) (hp : (env.scope.kind == .class || (env.scope.kind == .module && env.locals != env.globals)) = false) (hsz : vs.length ≤ sizeLine)
    (F : Fr h₀ env.locals s₁.heap m) (N : News h₀ env.locals s₁.heap nx₀) (hJ : J 0 [] nx₀) (hl : ∀ i ys nx, J i ys nx → (ax, listOf vs.toArray ne) ∈ nx)
    (turn : ∀ i ys nx v I oI C oC D m₂ h tk, vs[i]? = some v → J i ys nx → NsObj oC m₂ → m₂ x = some v → Fr h₀ env.locals h m → News h₀ env.locals h ((I, oI) :: (C, oC) :: (D, lst ys) :: nx) → Off3 I C D nx → ((@Ne Nat I C) ∧ (@Ne Nat I D) ∧ (@Ne Nat C D)) →
      wpC (model prog w) A (eval elt (compEnvC scope cl C env)) (CompEnd h₀ env.locals m { s₁ with heap := h, toks := tk } I oI C oC D (lst ys) (fun _ => True) (fun y nx' => J (i + 1) (ys ++ [y]) nx')) (fun _ _ => False) { s₁ with heap := h, toks := tk })
    (fin : ∀ ys nx D h tk, J vs.length ys nx → Fr h₀ env.locals h (fun z => if z = y then some (.ref D) else m z) → News h₀ env.locals h ((D, lst ys) :: nx) → Off1 D nx → Q .next { s₁ with heap := h, toks := tk }) :
    CompAtC prog w A env elt iter x px scope cl pos (assign (.Name y py) env) (fun _ s' => Q .next s') (.ref ax) s₁ := by
  have hm0 := hl _ _ _ hJ
  have hls : s₁.heap.IsList ax vs.toArray := ⟨_, (N _ hm0).1, rfl, _, rfl⟩
  unfold CompAtC
  refine wpAny_pyIter_list hls ?_
  have up : ∀ b o, s₁.heap.get? b = some o → (s₁.heap.push { cls := .type "list_iterator", data := .fields #[.ref ax, .int 0 0] }).get? b = some o := fun b o e => Heap.get?_push_of_some _ e
  generalize hs2 : ({ s₁ with heap := s₁.heap.push { cls := .type "list_iterator", data := .fields #[.ref ax, .int 0 0] } } : Shared) = s₂
  have e2 : s₂.heap = s₁.heap.push { cls := .type "list_iterator", data := .fields #[.ref ax, .int 0 0] } := by rw [← hs2]
  have hIlt : s₁.heap.objs.size < s₂.heap.objs.size := by rw [e2, Heap.size_push]; exact Nat.lt_succ_self _
  have F2 : Fr h₀ env.locals s₂.heap m := by rw [e2]; exact F.keeps up
  have N2 : News h₀ env.locals s₂.heap nx₀ := by rw [e2]; exact N.grown up
  have hIL : env.locals ≠ s₁.heap.objs.size := Nat.ne_of_lt F.ns.lt
  have hI₀ : h₀.get? s₁.heap.objs.size = none := next_is_new F
  have off : ∀ p ∈ nx₀, p.1 ≠ s₁.heap.objs.size := fun p hp => Nat.ne_of_lt (Heap.lt_size (N p hp).1)
  have hst : s₂.heap.IsListIter s₁.heap.objs.size ax 0 := by rw [e2]; exact ⟨_, Heap.get?_push_size _ rfl, rfl, rfl⟩
  generalize hI : s₁.heap.objs.size = I at hIlt hIL hI₀ off hst ⊢
  refine wpAny_newObj_type (wpAny_newFunctionEnv hcell (by intro y hy; simp at hy) (fun h₁ hns₁ hsb₁ => ?_) hkind)
  dsimp only at hns₁ hsb₁ ⊢
  generalize hH2 : s₂.heap.push { cls := .type "list", dict := none, data := .seq ([] : List Value).toArray } = H2 at hns₁ hsb₁ ⊢
  have hC : H2.objs.size = s₂.heap.objs.size + 1 := by rw [← hH2, Heap.size_push]
  have hDC : s₂.heap.objs.size ≠ H2.objs.size := by rw [hC]; exact Nat.ne_of_lt (Nat.lt_succ_self _)
  have below : ∀ b, b < s₂.heap.objs.size → b ≠ H2.objs.size ∧ b ≠ s₂.heap.objs.size := fun b hb => ⟨by rw [hC]; exact Nat.ne_of_lt (Nat.lt_succ_of_lt hb), Nat.ne_of_lt hb⟩
  have old : ∀ b o, s₂.heap.get? b = some o → h₁.get? b = some o := fun b o e => hsb₁.extBut b o (below b (Heap.lt_size e)).1 (Heap.get?_push_of_some _ (hH2 ▸ Heap.get?_push_of_some _ e))
  have hacc : h₁.get? s₂.heap.objs.size = some (lst []) := hsb₁.extBut _ _ hDC (Heap.get?_push_of_some _ (hH2 ▸ Heap.get?_push_size _ rfl))
  have fresh₀ : ∀ a, s₂.heap.objs.size ≤ a → h₀.get? a = none := fun a ha => by
    cases e : h₀.get? a with
    | none => rfl
    | some o' => exact absurd (Heap.lt_size (F2.keep a o' e)) (Nat.not_lt.mpr ha)
  have hD₀ : h₀.get? s₂.heap.objs.size = none := fresh₀ _ (Nat.le_refl _)
  have hC₀ : h₀.get? H2.objs.size = none := fresh₀ _ (by rw [hC]; exact Nat.le_succ _)
  have hLlt : env.locals < s₂.heap.objs.size := F2.ns.lt
  have hDL : s₂.heap.objs.size ≠ env.locals := Ne.symm (below _ hLlt).2
  have hCL : H2.objs.size ≠ env.locals := Ne.symm (below _ hLlt).1
  have hCI : I ≠ H2.objs.size := (below I hIlt).1
  have hDI : I ≠ s₂.heap.objs.size := (below I hIlt).2
  have off₀ : Off3 I H2.objs.size s₂.heap.objs.size nx₀ := Off3.of fun p hp => ⟨off p hp, (below _ (Heap.lt_size (N2 p hp).1)).1, (below _ (Heap.lt_size (N2 p hp).1)).2⟩
  have hst₁ : h₁.IsListIter I ax 0 := by
    obtain ⟨o, e, r⟩ := hst
    exact ⟨o, old _ _ e, r⟩
  have loop : ∀ s₃ : Shared, s₃ = { s₂ with heap := h₁, toks := s₂.toks + ([] : List (Str × Value)).length } →
      codeC (model prog w) A (.compLoop (.ListComp elt [⟨.Name x px, iter, [], 0⟩] scope pos) 0 (.ref I) (.ref s₂.heap.objs.size) (compEnvC scope cl H2.objs.size env))
        (fun r s' => match r with
            | .ok _ => wpAny (model prog w) A (assign (.Name y py) env (.ref s₂.heap.objs.size)) (fun _ s'' => ∃ m, s''.heap.Ns H2.objs.size m ∧ ∀ h', Heap.SameBut H2.objs.size s''.heap h' → Q .next { s'' with heap := h' }) (fun _ _ => False) s'
            | .error _ => False) s₃ := by
    rintro s₃ rfl
    refine codeC_compLoop
      (fun k s' => ∃ h' tk i ys m' nx', s' = { s₂ with heap := h', toks := tk } ∧ i ≤ vs.length ∧ k = vs.length + 1 - i ∧ ys.length = i ∧ h'.IsListIter I ax i ∧ Fr h₀ env.locals h' m ∧ h'.Ns H2.objs.size m' ∧ News h₀ env.locals h' ((s₂.heap.objs.size, lst ys) :: nx') ∧
        Off3 I H2.objs.size s₂.heap.objs.size nx' ∧ J i ys nx') ?_ (vs.length + 1)
      ⟨h₁, _, 0, [], _, nx₀, rfl, Nat.zero_le _, rfl, rfl, hst₁, F2.keeps old, hns₁, fun p hp => ?_, off₀, hJ⟩
    · rintro k s' ⟨h', tk, i, ys, m', nx', rfl, hi, rfl, hyl, hst', F', hn', N', off', hJ'⟩
      have off3 := off'.mem
      have hm := hl _ _ _ hJ'
      have hne : ax ≠ I := (off3 _ hm).1
      have hlist : h'.IsList ax vs.toArray := ⟨_, (N' _ (List.mem_cons_of_mem _ hm)).1, rfl, _, rfl⟩
      have W := Walks.list (prog := prog) (w := w) hh I ax hne vs.toArray
      by_cases hlt : i < vs.length
      · refine W.item i _ _ _ (by simpa using hlt) ⟨hst', hlist⟩ fun v h₂ tk₂ hPv hst₂ hk₂ => ?_
        have hv : vs[i]? = some v := by simpa using hPv
        refine wpAny_assign_Name (wpAny_storeName_local (lookup_relabel_local hx) (hn'.at' fun o e => hk₂ _ o (by simpa using Ne.symm hCI) e) (fun h₃ hn₃ hs₃ => ?_) (by simp [compEnvC, relabel, hkind]))
        obtain ⟨oI, hoI, rI⟩ := id hst₂.1
        have heI : h₃.get? I = some oI := hs₃.extBut I oI hCI hoI
        obtain ⟨oC, heC, hoC⟩ := ns_obj hn₃
        have F₃ : Fr h₀ env.locals h₃ m := (fr_but F' hk₂ hIL hI₀).change hs₃ hCL hC₀
        have N₂ : News h₀ env.locals h₂ ((s₂.heap.objs.size, lst ys) :: nx') := news_but N' hk₂ fun p hp => by
          rcases List.mem_cons.mp hp with rfl | hp
          · exact Ne.symm hDI
          · exact (off3 p hp).1
        have N₃ : News h₀ env.locals h₃ ((I, oI) :: (H2.objs.size, oC) :: (s₂.heap.objs.size, lst ys) :: nx') := fun p hp => by
          rcases List.mem_cons.mp hp with rfl | hp
          · exact ⟨heI, Ne.symm hIL, hI₀⟩
          · rcases List.mem_cons.mp hp with rfl | hp
            · exact ⟨heC, hCL, hC₀⟩
            · have z := N₂ p hp
              refine ⟨hs₃.extBut _ _ ?_ z.1, z.2⟩
              rcases List.mem_cons.mp hp with rfl | hp
              · exact hDC
              · exact (off3 p hp).2.1
        have es2 : ∀ hh tt, ({ s₂ with heap := hh, toks := tt } : Shared) = { s₁ with heap := hh, toks := tt } := fun hh tt => by rw [← hs2]
        rw [es2]
        refine wpC_mono (turn i ys nx' v I oI H2.objs.size oC s₂.heap.objs.size _ h₃ _ hv hJ' hoC (by simp) F₃ N₃ off' ⟨hCI, hDI, Ne.symm hDC⟩) (fun y' s₄ h₄ => ?_) fun _ _ e => e
        obtain ⟨h₄, tk₄, nx₄, rfl, F₄, N₄, off₄, _, J₄⟩ := h₄
        have zI := (N₄ (I, oI) List.mem_cons_self).1
        have zC := (N₄ (H2.objs.size, oC) (List.mem_cons_of_mem _ List.mem_cons_self)).1
        have zD := (N₄ (s₂.heap.objs.size, lst ys) (List.mem_cons_of_mem _ (List.mem_cons_of_mem _ List.mem_cons_self))).1
        have N₄' : News h₀ env.locals h₄ nx₄ := fun p hp => N₄ p (List.mem_cons_of_mem _ (List.mem_cons_of_mem _ (List.mem_cons_of_mem _ hp)))
        refine append_at (hsz := by show ys.toArray.size ≤ sizeLine; rw [List.size_toArray, hyl]; exact Nat.le_trans hi hsz) zD fun h₅ hs₅ hD₅ => ?_
        have off4 := off₄.mem
        refine ⟨vs.length + 1 - (i + 1), by omega, h₅, tk₄, i + 1, ys ++ [y'], _, nx₄, (es2 h₅ tk₄).symm, hlt, rfl, by rw [List.length_append, List.length_singleton, hyl], ⟨oI, hs₅.extBut _ _ hDI zI, rI⟩, F₄.change hs₅ hDL hD₀,
          (hoC.ns zC).sameBut hs₅ (Ne.symm hDC), fun p hp => ?_, off₄, J₄⟩
        rcases List.mem_cons.mp hp with rfl | hp
        · exact ⟨hD₅.trans (congrArg some (lst_snoc ys y')), hDL, hD₀⟩
        · exact ⟨hs₅.extBut _ _ (off4 p hp).2.2 (N₄' p hp).1, (N₄' p hp).2⟩
      · obtain rfl : i = vs.length := Nat.le_antisymm hi (Nat.not_lt.mp hlt)
        refine W.done _ _ _ ⟨by simpa using hst', hlist⟩ fun h₂ tk₂ hk₂ => ?_
        have F₆ := fr_but F' hk₂ hIL hI₀
        have N₆ : News h₀ env.locals h₂ ((s₂.heap.objs.size, lst ys) :: nx') := news_but N' hk₂ fun p hp => by
          rcases List.mem_cons.mp hp with rfl | hp
          · exact Ne.symm hDI
          · exact (off3 p hp).1
        have hn₆ := hn'.at' fun o e => hk₂ _ o (by simpa using Ne.symm hCI) e
        dsimp only
        refine wpAny_assign_Name (wpAny_storeName_local hy F₆.ns (fun h₇ hn₇ hs₇ => ?_) hp)
        have F₇ : Fr h₀ env.locals h₇ (fun z => if z = y then some (.ref s₂.heap.objs.size) else m z) := F₆.set hn₇ hs₇
        refine ⟨m', hn₆.sameBut hs₇ hCL, fun h'' hs'' => ?_⟩
        have es2 : ∀ hh tt, ({ s₂ with heap := hh, toks := tt } : Shared) = { s₁ with heap := hh, toks := tt } := fun hh tt => by rw [← hs2]
        show Q .next { s₂ with heap := h'', toks := tk₂ + 1 }
        rw [es2]
        refine fin ys nx' s₂.heap.objs.size h'' _ hJ' (F₇.change hs'' hCL hC₀) (fun p hp => ?_) off'.one
        have z : h₇.get? p.1 = some p.2 := hs₇.extBut _ _ (N₆ p hp).2.1 (N₆ p hp).1
        refine ⟨hs''.extBut _ _ ?_ z, (N₆ p hp).2⟩
        rcases List.mem_cons.mp hp with rfl | hp
        · exact hDC
        · exact (off3 p hp).2.1
    · rcases List.mem_cons.mp hp with rfl | hp
      · exact ⟨hacc, hDL, hD₀⟩
      · exact ⟨old _ _ (N2 p hp).1, (N2 p hp).2⟩
  have W := Walks.list (prog := prog) (w := w) (A := A) hh I ax (off _ hm0) vs.toArray
  refine codeC_compStart (loop _ rfl) (W.self 0 _ _ _ ⟨hst₁, ⟨_, old _ _ (N2 _ hm0).1, rfl, _, rfl⟩⟩ (loop _ rfl))
end
end Mine
end
theorem Mine.freshW5 : True := by
  w_top off
  trivial
section
-- text W5
open PySem PySem.W PySem.Calls PyProof.Rows
set_option Elab.async false
set_option maxRecDepth 100000
set_option maxHeartbeats 8000000
set_option linter.unusedVariables false
namespace Mine
/-- a tree that runs under the caller alone -/
def guardC {α : Type} (t : Sem α) (d : α) : Sem α := stack >>= fun acts => if (acts.map (·.1)).any Code.isCaller = true then t else pure d
theorem guardC_any {α : Type} {M : Model} {A : Around} {E : Value → Shared → Prop} {s : Shared} {t : Sem α} {d : α} {Q : α → Shared → Prop} (h : wpC M A t Q E s) (hd : Q d s) : wpAny M A (guardC t d) Q E s := fun Γ p hΓ => by
  unfold guardC
  rw [Sem.wp_bind']
  show Sem.wp M Γ (if ((Γ.code, p) :: Γ.below).map (·.1) |>.any Code.isCaller then t else pure d) _ _ p s
  by_cases hC : HasC Γ
  · rw [if_pos (by exact hC)]; exact h Γ p hΓ hC
  · rw [if_neg (by exact hC)]; exact hd
abbrev treeOf (name : Str) (vs : List Value) : Sem PySem.Fin := do match ← nsGet mainNs name with
      | some f => do ret (← PySem.call f vs)
      | none => unsupported "claim.caller:no-such-global"
theorem sstep_guard {prog : Program} {w : World} {s : Shared} {t : Sem PySem.Fin} {d : PySem.Fin} (hz : s.asleep) : sstep (denote table) prog w (.single s ⟨guardC t d, .builtin "claim.caller" {}, default, []⟩) = .go (.single s ⟨t, .builtin "claim.caller" {}, default, []⟩) := by
  rcases sstep_single (den := denote table) (prog := prog) (w := w) s ⟨guardC t d, .builtin "claim.caller" {}, default, []⟩ rfl hz with h | h
  · rw [h]; rfl
  · exact absurd h (by intro q; cases q)
theorem holdsOpen_guard {c : ClaimW} {defs keeps : List Str} {writes : Bool} {tree : List Value → Sem PySem.Fin} {d : PySem.Fin} (h : c.HoldsOpenBy (fun vs => ⟨guardC (tree vs) d, .builtin "claim.caller" {}, default, []⟩) defs keeps writes) :
    c.HoldsOpenBy (fun vs => ⟨tree vs, .builtin "claim.caller" {}, default, []⟩) defs keeps writes := by
  obtain ⟨a, b, k⟩ := h
  refine ⟨a, b, fun w => ⟨(k w).1, fun s hs => ?_⟩⟩
  obtain ⟨s₀, hf, hg, s₁, hT, d1, d2, d3, hcall⟩ := (k w).2 s hs
  refine ⟨s₀, hf, hg, s₁, hT, d1, d2, d3, fun args hpre hlay ord hord => ?_⟩
  obtain ⟨vs, s₂, hlaid, n, o, s', hsch, rest⟩ := hcall args hpre hlay ord hord
  have A : AfterImport (opening c.prog) w s := hs
  have hz : s₂.asleep := Shared.asleep_of_life ((layAllW_rest _ _ _ hlaid).2.2.2.trans (hT.2.1.trans (fence_lifeW hf))) A.life
  cases n with
  | zero => cases hsch
  | succ n =>
    refine ⟨vs, s₂, hlaid, n, o, s', ?_, rest⟩
    have e : schedN (denote table) c.prog w (n + 1) (.single s₂ ⟨guardC (tree vs) d, .builtin "claim.caller" {}, default, []⟩) = schedN (denote table) c.prog w n (.single s₂ ⟨tree vs, .builtin "claim.caller" {}, default, []⟩) := by
      show (match sstep (denote table) c.prog w (.single s₂ ⟨guardC (tree vs) d, .builtin "claim.caller" {}, default, []⟩) with | .go c' => schedN (denote table) c.prog w n c' | .halt o s => .halted o s) = _
      rw [sstep_guard hz]
    exact e.symm.trans hsch
theorem wp_guard {α : Type} {M : Model} {Γ : Ctx} {Q : α → Pos → Shared → Prop} {E : Value → Pos → Shared → Prop} {p : Pos} {s : Shared} {t : Sem α} {d : α} : Sem.wp M Γ (guardC t d) Q E p s = Sem.wp M Γ (if (Γ.code :: Γ.below.map (·.1)).any Code.isCaller = true then t else pure d) Q E p s := by
  unfold guardC
  rw [Sem.wp_bind']
  rfl
theorem guard_tree {prog : Program} {w : World} {A : Around} {E : Value → Shared → Prop} {s : Shared} {name : Str} {mg : Str → Option Value} {f : Value} {vs : List Value} {Q : PySem.Fin → Shared → Prop} (hg : s.heap.Ns mainGlobals mg) (hf : mg name = some f)
    (h : wpAny (model prog w) A (guardC (PySem.call f vs) (.bool true)) (fun v s' => Q (.done (.ret v)) s') E s) : wpAny (model prog w) A (guardC (treeOf name vs) (.done (.ret (.bool true)))) Q E s := fun Γ p hΓ => by
  have h1 := h Γ p hΓ
  rw [wp_guard] at h1 ⊢
  by_cases hC : (Γ.code :: Γ.below.map (·.1)).any Code.isCaller = true
  · rw [if_pos hC] at h1 ⊢
    have h2 : wpAny (model prog w) A (nsGet mainNs name) (fun r s' => r = some f ∧ s' = s) (fun _ _ => False) s := wpAny_nsGet hg ⟨hf, rfl⟩
    unfold treeOf
    rw [Sem.wp_bind']
    refine Sem.wp_mono _ Γ _ (fun r p' s' hr => ?_) (fun _ _ _ x => x.elim) p s (h2 Γ p hΓ)
    obtain ⟨rfl, rfl⟩ := hr
    show Sem.wp _ Γ (PySem.call f vs >>= fun v => ret v) _ _ p' s'
    rw [Sem.wp_bind']
    have h3 := h Γ p' hΓ
    rw [wp_guard, if_pos hC] at h3
    exact h3
  · rw [if_neg hC] at h1 ⊢
    exact h1
/-- a walk under the caller -/
abbrev WalkC (q : Program) (loose : List Str) (XP : (Str → Option Value) → Heap → Prop) (YP : World → Heap → Prop) (r : RowW) (d : DefRec) (kwd : List (Str × Expr)) : Prop :=
  ∀ (w : World) (s₀ s₁ : Shared) (mg mb : Str → Option Value), Ground q loose r.records XP w s₀ mg mb s₁.heap → YP w s₁.heap → ∀ (a : Addr) (o : Obj) (pm cd doc dV kV : Value), s₁.heap.get? a = some o →
    o.data = .func { docDef d.name d.params d.body d.scope pm cd doc with defaults := dV, kwdefaults := kV } → s₁.heap.CodeRec cd d.name → Dflts mg s₁.heap d.params kwd dV kV → mg d.name = some (.ref a) → s₁.gens = #[] →
    ∀ (args : List WData) (vals : List Value) (as : List Addr), r.claim.pre args = true → WData.layableAll args = true → ReadsAllW r.records (classAt s₀.heap) s₁.heap vals args as → WellAll w.params s₁.heap vals args → (∀ a ∈ as, (a == sysModules) = false) →
      GoodWG r.claim (classAt s₀.heap) (ExcName.means s₀.heap) args s₁ (.ok (.ret (.bool true))) s₁ ∧
      wpC (model r.prog w) callerA (PySem.call (.ref a) vals) (fun v s' => GoodWG r.claim (classAt s₀.heap) (ExcName.means s₀.heap) args s₁ (.ok (.ret v)) s')
        (fun e s' => GoodWG r.claim (classAt s₀.heap) (ExcName.means s₀.heap) args s₁ (.error e) s') s₁
theorem PySem.W.holds_open {r : OpenRow} {q : Program} {loose : List Str} {Xt : Shared → Bool} {XP : (Str → Option Value) → Heap → Prop} {α : Type} {Yf : Shared → α} {Ya : World → α} {YP : World → Heap → Prop} {d : DefRec} {kwd : List (Str × Expr)} {N : Nat}
    (left : LeftO r.prog q loose Xt Yf Ya N) (hY : ∀ w s, Yf s = Ya w → YP w s.heap) (hYk : ∀ w h h', YP w h → (∀ b o, h.get? b = some o → h'.get? b = some o) → YP w h')
    (hX : ∀ s, Xt s = true → XP (s.heap.nsMap mainGlobals) s.heap) (hXk : ∀ mg h h', XP mg h → (∀ b o, h.get? b = some o → h'.get? b = some o) → XP mg h')
    (hdef : defOf q r.name = some (d, kwd)) (hp : r.prog.theDef r.name = some (d.params, d.body, d.scope)) (hk : kwWritten? d.params.kwonlyargs d.params.kw_defaults = some kwd) (hRf : ∀ s, Xt s = true → RecFacts r.records s.heap) (hwr : (!r.writes || r.records.isEmpty) = true)
    (k1 : r.wellSaid = true) (ok : (chainsOk q && opensWell r.prog && (frees r.toRowW && r.within.isEmpty)) = true) (hb : r.prog.bare) (hw : r.toRowW.promised)
    (call : WalkC q loose XP YP r.toRowW d kwd) : r.Holds := by
  refine ⟨k1, hw, holdsOpen_guard (tree := treeOf r.name) (d := .done (.ret (.bool true))) (open_anyG (r := r.toRowW) (run := fun f vs => guardC (PySem.call f vs) (.bool true)) (tree := fun vs => guardC (treeOf r.name vs) (.done (.ret (.bool true)))) left hY hYk hX hXk hRf hwr ok hb hw
    (fun vs w s mg f Q E hg hf h => guard_tree hg hf h) (fun w s hg G n hn => ?_) fun w s₀ s₁ mg mb G Y args vs as hpre hlay L low => ?_)⟩
  · obtain rfl : n = r.name := by split at hn <;> simp_all
    exact pinned_of_view hg G hdef hp hk
  · obtain ⟨a, o, pm, cd, doc, dV, kV, h1, h2, h3, h4, h5⟩ := G.fn hdef
    obtain ⟨c1, c2⟩ := call w s₀ s₁ mg mb G Y a o pm cd doc dV kV h2 h3 h4 h5 (defOf_name hdef ▸ h1) L.gens args vs as hpre hlay L.reads L.well (L.low low)
    exact ⟨.ref a, h1, guardC_any c2 c1⟩
end Mine
end
theorem Mine.freshW6 : True := by
  w_top off
  trivial
section
-- text W6
open PySem PySem.W PySem.Calls PyProof.Rows
set_option Elab.async false
set_option maxRecDepth 100000
set_option maxHeartbeats 8000000
set_option linter.unusedVariables false
namespace Mine
open PyProof.Rows.TI
/-- a def under the caller, called from the one frame: the caller's locals go into the ledger -/
theorem codeC_defT {prog : Program} {w : World} {A : Around} {s : Shared} {h₀ : Heap} {L a : Addr} {m : Str → Option Value} {cn : Str} {cs : Scope} {ccd : Value} {news : List (Addr × Obj)} {K : Frag} {p : Program} {loose : List Str} {mean : ExcName → Option Value} {mg mb : Str → Option Value}
    {R : Result → Shared → Prop} {name qual : Str} {params : Arguments} {body : List Stmt} {scope : Scope} {dV kV doc pm cdv ct oc : Value} {an od : Option Addr} {osl : Array (Option Value)} {f : Addr} {args : Args} {binds : List (Str × Value)}
    (F : Fr h₀ L s.heap m) (X₀ : K.In h₀) (N : News h₀ L s.heap news) (T : Top p loose mean mg mb h₀)
    (ho : K.lookup f = some ⟨oc, od, .func (fnOf name qual params body scope dV kV doc pm an cdv ct), osl⟩) (hcd : codeIn K cdv qual = true) (hroom : A.depth < recursionLimit)
    (hbind : BindsTo s (fnOf name qual params body scope dV kV doc pm an cdv ct) args binds) (hloc : ∀ y ∈ binds, scope.names.lookup y.1 = some .local)
    (h : ∀ oL h₁ L', Caller h₀ L m oL → Frs [envOf cn cs L a ccd] [(L, oL)] → (∀ p ∈ news, p.1 ≠ L) → Fr h₀ L' h₁ (fun y => binds.reverse.lookup y) → News h₀ L' h₁ (news ++ [(L, oL)]) →
      wpC (model prog w) (A.deeper (envOf qual scope L' f cdv)) (execs body (envOf qual scope L' f cdv)) (fun fl s' => R (.ok (.ret (match fl with | .ret v => v | _ => .none))) s') (fun _ _ => False) { s with heap := h₁, toks := s.toks + binds.length })
    (hck : cs.kind = .function := by rfl) (hco : scope.isCoroutine = false := by rfl) (hgen : scope.isGenerator = false := by rfl) (hk : scope.kind = .function := by rfl)
    (hcell : ∀ x ∈ scope.names, x.2 ≠ .cell := by decide) : codeC (model prog w) A (.call (.ref f) args) R s := by
  have X := X₀.keeps F.keep
  obtain ⟨oL, es, ep, hL, hLd, hLk, hLf⟩ := F.ns
  have hLt := Heap.lt_size hL
  have hkind : (envOf cn cs L a ccd).scope.kind ≠ .module := by
    show cs.kind ≠ .module
    rw [hck]; decide
  refine codeC_call_def (fd := fnOf name qual params body scope dV kV doc pm an cdv ct) (body := body) (binds := binds) hroom (X _ _ ho) rfl (T.nolimit.keeps F.keep) (codeRec_of X hcd) rfl hbind hcell hloc (fun h₁ hns hk₁ => ?_) hco hgen hk
  refine wpC_mono (h oL h₁ s.heap.objs.size ⟨fun h' sl e => ⟨_, es, ep, e, hLd, hLk, hLf⟩, ⟨es, ep, hLd⟩, F.above⟩ ⟨hkind, rfl, ⟨es, ep, hLd⟩, trivial⟩ (fun p hp => (N p hp).2.1)
    ⟨hns, fun b o e => hk₁ b o (F.keep b o e), Nat.le_trans F.above (Nat.le_of_lt hLt)⟩ (fun p hp => ?_)) (fun _ _ x => x) fun _ _ x => x.elim
  rcases List.mem_append.mp hp with hp | hp
  · obtain ⟨h1, h2, h3⟩ := N p hp
    exact ⟨hk₁ _ _ h1, Nat.ne_of_lt (Heap.lt_size h1), h3⟩
  · rcases List.mem_cons.mp hp with rfl | hp
    · exact ⟨hk₁ _ _ hL, Nat.ne_of_lt hLt, Heap.get?_none_of_le F.above⟩
    · exact nomatch hp
end Mine
end
theorem Mine.freshM0 : True := by
  w_top off
  trivial
section
-- text M0
open PySem PySem.W PyProof.Rows
set_option Elab.async false
set_option maxRecDepth 100000
set_option maxHeartbeats 8000000

namespace Mine
open_top hd for PySem.Challenge.rw_nb0083_01
noncomputable abbrev LS : List Str := looseW hd.view_39 [Str.ofString "_twin_re_1", Str.ofString "_ver_stages"]

def Spec (w : World) (mean : ExcName → Option Value) (mg mb : Str → Option Value) (news : List (Addr × Obj)) (f : Addr) (args : List Value) (cost : Nat) (Post : List (Addr × Obj) → Value → Prop) : Prop :=
  ∀ (dp un : Nat) (gd : Option (List Code)) (cn : Str) (cs : Scope) (a : Addr) (ccd : Value) (cl : List (Str × Addr)) (outer : List Env) (A₀ : Around) (base h₀ : Heap) (L : Addr) (m : Str → Option Value) (s : Shared)
    (Q E : Value → Shared → Prop),
    Below A₀ base outer h₀ → Fr h₀ L s.heap m → (hd.heap_39 w.params).In h₀ → News h₀ L s.heap news → Top hd.view_39 LS mean mg mb h₀ → cs.kind = .function → dp + cost < recursionLimit → un + 8 * cost < cLine →
    (∀ r tl h' tk', Fr h₀ L h' m → News h₀ L h' (tl ++ news) → (∀ q ∈ news, ∀ p ∈ tl, q.1 ≠ p.1) → Post (tl ++ news) r → Q r { s with heap := h', toks := tk' }) →
    wpAny (model PySem.Challenge.rw_nb0083_01.row.prog w) (ktrTop dp un gd cn cs L a ccd cl outer) (call (.ref f) args) Q E s

theorem spec_use {w : World} {mean : ExcName → Option Value} {mg mb : Str → Option Value} {news : List (Addr × Obj)} {f : Addr} {args : List Value} {cost : Nat} {Post : List (Addr × Obj) → Value → Prop}
    {dp un : Nat} {gd : Option (List Code)} {cn : Str} {cs : Scope} {a : Addr} {ccd : Value} {cl : List (Str × Addr)} {outer : List Env} {A₀ : Around} {base h₀ : Heap} {L : Addr} {m : Str → Option Value} {s : Shared}
    {Q E : Value → Shared → Prop} (S : Spec w mean mg mb news f args cost Post)
    (B : Below A₀ base outer h₀) (F : Fr h₀ L s.heap m) (X : (hd.heap_39 w.params).In h₀) (N : News h₀ L s.heap news) (T : Top hd.view_39 LS mean mg mb h₀) (hk : cs.kind = .function) (hd : dp + cost < recursionLimit) (hu : un + 8 * cost < cLine)
    (ret : ∀ r tl h' tk', Fr h₀ L h' m → News h₀ L h' (tl ++ news) → (∀ q ∈ news, ∀ p ∈ tl, q.1 ≠ p.1) → Post (tl ++ news) r → Q r { s with heap := h', toks := tk' }) :
    wpAny (model PySem.Challenge.rw_nb0083_01.row.prog w) (ktrTop dp un gd cn cs L a ccd cl outer) (call (.ref f) args) Q E s :=
  S dp un gd cn cs a ccd cl outer A₀ base h₀ L m s Q E B F X N T hk hd hu ret

theorem datList {nx : List (Addr × Obj)} {v : Value} {ds : List Dat} (h : DatIn nx v (.list ds)) : ∃ l vs n, v = .ref l ∧ (l, listOf vs.toArray n) ∈ nx ∧ DatAll nx vs ds := by
  cases h with
  | list a b => exact ⟨_, _, _, rfl, a, b⟩
theorem datTuple {nx : List (Addr × Obj)} {v : Value} {ds : List Dat} (h : DatIn nx v (.tuple ds)) : ∃ l vs n, v = .ref l ∧ (l, ({ cls := .type "tuple", data := .seq vs.toArray n } : Obj)) ∈ nx ∧ DatAll nx vs ds := by
  cases h with
  | tuple a b => exact ⟨_, _, _, rfl, a, b⟩
end Mine
end
theorem Mine.freshM1 : True := by
  w_top off
  trivial
section
-- text M1
open PySem PySem.W PyProof.Rows
set_option Elab.async false
set_option maxRecDepth 100000
set_option maxHeartbeats 8000000
set_option linter.unusedVariables false
namespace Mine

theorem lt_int {w mean mg mb news} (x y : Int) (t u : Tok) : Spec w mean mg mb news 51 [.int x t, .int y u] 4 (fun nx r => r = .bool (decide (x < y))) := by
  unfold Spec
  k_fill
  intro dp un gd cn cs a ccd cl outer A₀ base h₀ L m s Q E B F X N T hk hd' hu hret
  refine wpAny_call ?_
  k_dflt ktr_enter
  k_steps
  exact hret _ [] _ _ (by assumption) (by assumption) (fun _ _ _ h => nomatch h) rfl

theorem le_int {w mean mg mb news} (x y : Int) (t u : Tok) : Spec w mean mg mb news 58 [.int x t, .int y u] 4 (fun nx r => r = .bool (decide (x ≤ y))) := by
  unfold Spec
  k_fill
  intro dp un gd cn cs a ccd cl outer A₀ base h₀ L m s Q E B F X N T hk hd' hu hret
  refine wpAny_call ?_
  k_dflt ktr_enter
  k_steps
  exact hret _ [] _ _ (by assumption) (by assumption) (fun _ _ _ h => nomatch h) rfl

theorem eq_int {w mean mg mb news} (x y : Int) (t u : Tok) : Spec w mean mg mb news 65 [.int x t, .int y u] 4 (fun nx r => r = .bool (x == y)) := by
  unfold Spec
  k_fill
  intro dp un gd cn cs a ccd cl outer A₀ base h₀ L m s Q E B F X N T hk hd' hu hret
  refine wpAny_call ?_
  k_dflt ktr_enter
  k_steps
  exact hret _ [] _ _ (by assumption) (by assumption) (fun _ _ _ h => nomatch h) rfl

theorem ne_int {w mean mg mb news} (x y : Int) (t u : Tok) : Spec w mean mg mb news 72 [.int x t, .int y u] 4 (fun nx r => r = .bool (x != y)) := by
  unfold Spec
  k_fill
  intro dp un gd cn cs a ccd cl outer A₀ base h₀ L m s Q E B F X N T hk hd' hu hret
  refine wpAny_call ?_
  k_dflt ktr_enter
  k_steps
  exact hret _ [] _ _ (by assumption) (by assumption) (fun _ _ _ h => nomatch h) rfl

theorem ge_int {w mean mg mb news} (x y : Int) (t u : Tok) : Spec w mean mg mb news 79 [.int x t, .int y u] 4 (fun nx r => r = .bool (decide (x ≥ y))) := by
  unfold Spec
  k_fill
  intro dp un gd cn cs a ccd cl outer A₀ base h₀ L m s Q E B F X N T hk hd' hu hret
  refine wpAny_call ?_
  k_dflt ktr_enter
  k_steps
  exact hret _ [] _ _ (by assumption) (by assumption) (fun _ _ _ h => nomatch h) rfl

theorem gt_int {w mean mg mb news} (x y : Int) (t u : Tok) : Spec w mean mg mb news 86 [.int x t, .int y u] 4 (fun nx r => r = .bool (decide (x > y))) := by
  unfold Spec
  k_fill
  intro dp un gd cn cs a ccd cl outer A₀ base h₀ L m s Q E B F X N T hk hd' hu hret
  refine wpAny_call ?_
  k_dflt ktr_enter
  k_steps
  exact hret _ [] _ _ (by assumption) (by assumption) (fun _ _ _ h => nomatch h) rfl

theorem and_int {w mean mg mb news} (x y : Int) (t u : Tok) : Spec w mean mg mb news 93 [.int x t, .int y u] 4 (fun nx r => ∃ k, r = .int (Builtin.bitAnd x y) k) := by
  unfold Spec
  k_fill
  intro dp un gd cn cs a ccd cl outer A₀ base h₀ L m s Q E B F X N T hk hd' hu hret
  refine wpAny_call ?_
  k_dflt ktr_enter
  k_steps
  exact hret _ [] _ _ (by assumption) (by assumption) (fun _ _ _ h => nomatch h) ⟨_, rfl⟩

theorem ior_int {w mean mg mb news} (x y : Int) (t u : Tok) : Spec w mean mg mb news 142 [.int x t, .int y u] 4 (fun nx r => ∃ k, r = .int (Builtin.bitOr x y) k) := by
  unfold Spec
  k_fill
  intro dp un gd cn cs a ccd cl outer A₀ base h₀ L m s Q E B F X N T hk hd' hu hret
  refine wpAny_call ?_
  k_dflt ktr_enter
  k_steps
  exact hret _ [] _ _ (by assumption) (by assumption) (fun _ _ _ h => nomatch h) ⟨_, rfl⟩

theorem bits_le {x : Int} {k : Nat} (h0 : 0 ≤ x) (h : x < 2 ^ k) : Builtin.Int.intBits x ≤ k := by
  unfold Builtin.Int.intBits
  split
  · exact Nat.zero_le _
  · rename_i hx
    have h1 : x.natAbs ≠ 0 := by simp at hx; omega
    have h2 : x.natAbs < 2 ^ k := by
      have : ((x.natAbs : Int)) < ((2 ^ k : Nat) : Int) := by rw [Int.natAbs_of_nonneg h0]; simpa using h
      exact_mod_cast this
    exact (Nat.log2_lt h1).mpr h2

theorem rsh_int {w mean mg mb news} (x y : Int) (t u : Tok) (hx : 0 ≤ x) (hy : 0 ≤ y) (hx' : x < 2 ^ 80) (hy' : y ≤ 80) : Spec w mean mg mb news 107 [.int x t, .int y u] 4 (fun nx r => ∃ k, r = .int (x.fdiv (2 ^ y.toNat)) k) := by
  unfold Spec
  k_fill
  intro dp un gd cn cs a ccd cl outer A₀ base h₀ L m s Q E B F X N T hk hd' hu hret
  refine wpAny_call ?_
  k_dflt ktr_enter
  k_steps
  exact hret _ [] _ _ (by assumption) (by assumption) (fun _ _ _ h => nomatch h) ⟨_, rfl⟩
section
theorem shl_ok {x y : Int} (hx : 0 ≤ x) (hx' : x < 2 ^ 80) (hy' : y ≤ 80) : (Builtin.Int.intBits x : Int) + y ≤ 2 ^ 27 := by
  have := bits_le hx hx'
  omega
local macro_rules | `(tactic| walk_at "binaryOp LShift int int") => `(tactic| (refine lshift_int (by assumption) (shl_ok (by assumption) (by assumption) (by assumption)) ?_))
local macro_rules | `(tactic| walk_at "inplaceOp LShift int int") => `(tactic| (refine ilshift_int (by assumption) (shl_ok (by assumption) (by assumption) (by assumption)) ?_))
theorem lsh_int {w mean mg mb news} (x y : Int) (t u : Tok) (hx : 0 ≤ x) (hy : 0 ≤ y) (hx' : x < 2 ^ 80) (hy' : y ≤ 80) : Spec w mean mg mb news 100 [.int x t, .int y u] 4 (fun nx r => ∃ k, r = .int (x * 2 ^ y.toNat) k) := by
  unfold Spec
  k_fill
  intro dp un gd cn cs a ccd cl outer A₀ base h₀ L m s Q E B F X N T hk hd' hu hret
  refine wpAny_call ?_
  k_dflt ktr_enter
  k_steps
  exact hret _ [] _ _ (by assumption) (by assumption) (fun _ _ _ h => nomatch h) ⟨_, rfl⟩
theorem ilsh_int {w mean mg mb news} (x y : Int) (t u : Tok) (hx : 0 ≤ x) (hy : 0 ≤ y) (hx' : x < 2 ^ 80) (hy' : y ≤ 80) : Spec w mean mg mb news 135 [.int x t, .int y u] 4 (fun nx r => ∃ k, r = .int (x * 2 ^ y.toNat) k) := by
  unfold Spec
  k_fill
  intro dp un gd cn cs a ccd cl outer A₀ base h₀ L m s Q E B F X N T hk hd' hu hret
  refine wpAny_call ?_
  k_dflt ktr_enter
  k_steps
  exact hret _ [] _ _ (by assumption) (by assumption) (fun _ _ _ h => nomatch h) ⟨_, rfl⟩
end
def wordsL : List Str := [Str.ofString "A", Str.ofString "Rc", Str.ofString "al", Str.ofString "post", Str.ofString "x", Str.ofString "dev", Str.ofString "a", Str.ofString "alpha", Str.ofString "b", Str.ofString "beta", Str.ofString "c", Str.ofString "RC", Str.ofString "rc", Str.ofString "p", Str.ofString "pl"]

theorem words_spec {w mean mg mb news} : Spec w mean mg mb news 149 [] 10 (fun nx r => DatIn nx r (.list (wordsL.map .str))) := by
  unfold Spec
  k_fill
  intro dp un gd cn cs a ccd cl outer A₀ base h₀ L m s Q E B F X N T hk hd' hu hret
  refine wpAny_call ?_
  k_dflt ktr_enter
  k_steps
  refine hret _ [_] _ _ (by assumption) (by assumption) ?_ ?_
  · intro q hq p hp
    cases List.mem_singleton.mp hp
    rename_i l1 _ _ _ _
    exact Nat.ne_of_lt (l1 q hq)
  · exact .list (.head _) (by repeat constructor)

def partD (n : Int) : Dat := if (n.fdiv 4).fmod 24 < 15 then .str (wordsL.getD ((n.fdiv 4).fmod 24).toNat (Str.ofString "A")) else .int ((n.fdiv 96).fmod 1000000)

theorem part_spec {w mean mg mb news} (n : Int) (t : Tok) : Spec w mean mg mb news 156 [.int n t] 12 (fun nx r => DatIn nx r (partD n)) := by
  unfold Spec
  k_fill
  intro dp un gd cn cs a ccd cl outer A₀ base h₀ L m s Q E B F X N T hk hd' hu hret
  refine wpAny_call ?_
  k_dflt ktr_enter
  k_steps
  · refine spec_use words_spec (by k_asm) (by k_asm) (by k_asm) (by k_asm) (by k_asm) rfl ?_ ?_ ?_
    · ktr_room
    · ktr_units
    intro r tl h' tk' F' N' hlt hp
    obtain ⟨l, vs, n', rfl, hm, hD⟩ := datList hp
    k_steps
    have h0 := Int.fmod_nonneg_of_pos (n.fdiv 4) (b := 24) (by decide)
    rename (Int.fmod _ _ < 15) => hc
    refine kd_item N' hm hD h0 (by simpa [wordsL] using hc) (by omega) ?_
    intro v d hd1 _ hv
    k_steps
    refine hret _ tl _ _ (by assumption) (by assumption) hlt ?_
    have e : partD n = d := by
      unfold partD
      rw [if_pos hc]
      rw [List.getElem?_map] at hd1
      cases hq : wordsL[((n.fdiv 4).fmod 24).toNat]? with
      | none => rw [hq] at hd1; cases hd1
      | some x => rw [hq] at hd1; cases hd1; rw [List.getD_eq_getElem?_getD, hq]; rfl
    rw [e]
    exact hv
  · refine hret _ [] _ _ (by assumption) (by assumption) (fun _ _ _ h => nomatch h) ?_
    rename_i hc _ _ _ _
    unfold partD
    rw [if_neg hc]
    exact .int _ _
end Mine
end
theorem Mine.freshM2 : True := by
  w_top off
  trivial
section
-- text M2
open PySem PySem.W PyProof.Rows
set_option Elab.async false
set_option maxRecDepth 100000
set_option maxHeartbeats 8000000
set_option linter.unusedVariables false
namespace Mine

theorem code_int {w mean mg mb news} (k : Int) (t : Tok) : Spec w mean mg mb news 163 [.int k t] 4 (fun nx r => ∃ u, r = .int (14 + k) u) := by
  unfold Spec
  k_fill
  intro dp un gd cn cs a ccd cl outer A₀ base h₀ L m s Q E B F X N T hk hd' hu hret
  refine wpAny_call ?_
  k_dflt ktr_enter
  k_steps
  exact hret _ [] _ _ (by assumption) (by assumption) (fun _ _ _ h => nomatch h) ⟨_, rfl⟩

theorem datAll_get {nx : List (Addr × Obj)} {vs : List Value} {ds : List Dat} (h : DatAll nx vs ds) {k : Nat} {v : Value} (hv : vs[k]? = some v) : ∃ d, ds[k]? = some d ∧ DatIn nx v d := by
  have hk : k < ds.length := by rw [← h.length]; exact (List.getElem?_eq_some_iff.mp hv).1
  obtain ⟨v', e, hd⟩ := h.get hk
  rw [hv] at e
  cases e
  exact ⟨_, List.getElem?_eq_getElem hk, hd⟩
theorem datStr {nx : List (Addr × Obj)} {v : Value} {x : Str} (h : DatIn nx v (.str x)) : ∃ t, v = .str x t := by
  cases h with
  | str _ t => exact ⟨t, rfl⟩
theorem datInt {nx : List (Addr × Obj)} {v : Value} {x : Int} (h : DatIn nx v (.int x)) : ∃ t, v = .int x t := by
  cases h with
  | int _ t => exact ⟨t, rfl⟩
theorem strs_get {nx : List (Addr × Obj)} {vs : List Value} {xs : List Str} (h : DatAll nx vs (xs.map .str)) {k : Nat} {v : Value} (hv : vs[k]? = some v) : ∃ x t, xs[k]? = some x ∧ v = .str x t := by
  obtain ⟨d, e, hd⟩ := datAll_get h hv
  rw [List.getElem?_map] at e
  cases hx : xs[k]? with
  | none => rw [hx] at e; cases e
  | some x =>
    rw [hx] at e
    cases e
    obtain ⟨t, rfl⟩ := datStr hd
    exact ⟨x, t, rfl, rfl⟩
def isStrV (x : Str) : Value → Bool
  | .str b _ => b == x
  | _ => false
open PySem.SeqAt in
theorem index_strs {prog : Program} {w : World} {A : Around} {E : Value → Shared → Prop} {s : Shared} {Q : Value → Shared → Prop} {nx : List (Addr × Obj)} {l : Addr} {vs : List Value} {n : Nat} {xs : List Str} {x : Str} {t : Tok} {j : Nat}
    (ho : s.heap.get? l = some (listOf vs.toArray n)) (hD : DatAll nx vs (xs.map .str)) (hj : xs[j]? = some x) (hno : ∀ m, m < j → xs[m]? ≠ some x) (hs : (j : Int) < 2 ^ 63 - 1)
    (h : Q (.int j s.toks) { s with toks := s.toks + 1 }) : wpAny (model prog w) A (call (.builtin "list.index") [.ref l, .str x t]) Q E s := by
  have hl : vs.length = xs.length := by rw [hD.length, List.length_map]
  have hjx : j < xs.length := (List.getElem?_eq_some_iff.mp hj).1
  refine call_meets PySem.F.slot_list_index ⟨_, ho, rfl⟩ PySem.F.entry_list_index (PySem.F.args_list_index_2 _ _)
    (list_indexAt l vs.toArray n none #[] (.str x t) (isStrV x) j (by simpa [hl] using hjx) hs ?_ ?_) ⟨ho, fun y hy => ?_, h⟩
  · have hv : vs[j]? = some (vs.toArray[j]'(by simpa [hl] using hjx)) := by simp [hl, hjx]
    obtain ⟨y, u, hy, e⟩ := strs_get hD hv
    rw [e]
    rw [hj] at hy
    cases hy
    exact beq_self_eq_true x
  · intro m hm hmj
    have hv : vs[m]? = some vs.toArray[m] := by simp at hm; simp [hm]
    obtain ⟨y, u, hy, e⟩ := strs_get hD hv
    rw [e]
    have := hno m hmj
    rw [hy] at this
    exact beq_eq_false_iff_ne.mpr fun q => this (by rw [q])
  · obtain ⟨k, hk⟩ := List.getElem?_of_mem (by simpa using hy : y ∈ vs)
    obtain ⟨z, u, hz, rfl⟩ := strs_get hD hk
    exact EqAt.str_str z u x t

theorem words_apart : ∀ i, i < 15 → ∀ m, m < i → wordsL[m]? ≠ wordsL[i]? := by decide +kernel
theorem words_first {i : Nat} {x : Str} (h : wordsL[i]? = some x) : ∀ m, m < i → wordsL[m]? ≠ some x := fun m hm e =>
  words_apart i (List.getElem?_eq_some_iff.mp h).1 m hm (e.trans h.symm)
theorem code_str {w mean mg mb news} (i : Nat) (x : Str) (hx : wordsL[i]? = some x) (t : Tok) : Spec w mean mg mb news 163 [.str x t] 16 (fun nx r => ∃ u, r = .int (if i < 13 then (i : Int) + 1 else 1048561 + i) u) := by
  have hi : i < 15 := (List.getElem?_eq_some_iff.mp hx).1
  unfold Spec
  k_fill
  intro dp un gd cn cs a ccd cl outer A₀ base h₀ L m s Q E B F X N T hk hd' hu hret
  refine wpAny_call ?_
  k_dflt ktr_enter
  k_steps
  refine spec_use words_spec (by k_asm) (by k_asm) (by k_asm) (by k_asm) (by k_asm) rfl ?_ ?_ ?_
  · ktr_room
  · ktr_units
  intro r tl h' tk' F' N' hlt hp
  obtain ⟨l, vs, n', rfl, hm, hD⟩ := datList hp
  k_steps
  refine index_strs (N' _ hm).1 hD hx (words_first hx) (by omega) ?_
  k_steps
  · rename ((i : Int) < 13) => hc
    rw [if_pos (by omega)] at hret
    exact hret _ tl _ _ (by assumption) (by assumption) hlt ⟨_, rfl⟩
  · rename (¬ (i : Int) < 13) => hc
    rw [if_neg (by omega)] at hret
    exact hret _ tl _ _ (by assumption) (by assumption) hlt ⟨_, rfl⟩
end Mine
end
theorem Mine.freshP0 : True := by
  w_top off
  trivial
section
-- text P0
open PySem PySem.W PyProof.Rows
set_option Elab.async false
set_option linter.unusedVariables false
namespace Mine
inductive Part where
  | w (i : Nat)
  | n (k : Nat)
def Part.ok : Part → Prop
  | .w i => i < 15
  | .n k => k < 1000000
def wordAt (i : Nat) : Str := wordsL.getD i (Str.ofString "A")
def Part.dat : Part → Dat
  | .w i => .str (wordAt i)
  | .n k => .int k
def Part.txt : Part → Str
  | .w i => wordAt i
  | .n k => Str.ofString (toString (k : Int))
def Part.code : Part → Nat
  | .w i => if i < 13 then i + 1 else 1048561 + i
  | .n k => 14 + k
abbrev Ver := List (Part × Int)
def pairD (p : Part × Int) : Dat := .tuple [p.1.dat, .int p.2]
def verD (v : Ver) : Dat := .list (v.map pairD)
def verOk (v : Ver) : Prop := v.length ≤ 4 ∧ ∀ p ∈ v, p.1.ok
def plainS (v : Ver) : Str := Txt.join (Str.ofString ".") (v.map fun p => p.1.txt)
theorem word_len : ∀ i, i < 15 → (wordAt i).length ≤ 7 := by decide +kernel
theorem num_len {k : Nat} (h : k < 1000000) : (Str.ofString (toString (k : Int))).length ≤ 7 := by
  rw [PySem.ofString_length]
  exact int_text_length_le10 (a := (k : Int)) (k := 6) (by decide) (by simpa using h)
theorem txt_len {p : Part} (h : p.ok) : p.txt.length ≤ 7 := by
  cases p with
  | w i => exact word_len i h
  | n k => exact num_len h
theorem sum_len : ∀ (v : Ver), (∀ p ∈ v, p.1.ok) → ((v.map fun p => p.1.txt).map (·.length)).sum ≤ 7 * v.length
  | [], _ => by simp
  | p :: v, h => by
    have h1 := txt_len (h p List.mem_cons_self)
    have h2 := sum_len v fun q hq => h q (List.mem_cons_of_mem _ hq)
    simp only [List.map_cons, List.sum_cons, List.length_cons] at *
    omega
theorem log2_small {k : Nat} (h : k < 1000000) : ((k : Int).natAbs).log2 < 1920 := by
  rw [Int.natAbs_natCast]
  cases k with
  | zero => decide
  | succ k => exact Nat.lt_trans ((Nat.log2_lt (k := 20) (by omega)).mpr (Nat.lt_trans h (by decide))) (by decide)
theorem strsAre_of {nx : List (Addr × Obj)} {α : Type} {f : α → Str} : ∀ {vs : List Value} {l : List α}, DatAll nx vs (l.map fun p => .str (f p)) → StrsAre vs (l.map f)
  | _, [], h => by cases h; exact .nil
  | _, p :: l, h => by
    cases h with
    | cons h r =>
      obtain ⟨t, rfl⟩ := datStr h
      exact .cons _ _ (strsAre_of r)
end Mine
end
theorem Mine.freshM3 : True := by
  w_top off
  trivial
section
-- text M3
open PySem PySem.W PyProof.Rows
set_option Elab.async false
set_option maxRecDepth 100000
set_option maxHeartbeats 8000000
set_option linter.unusedVariables false
namespace Mine
set_option pp.deepTerms false
set_option pp.deepTerms.threshold 4
set_option pp.maxSteps 100000

theorem ver_item {nx : List (Addr × Obj)} {vs : List Value} {ver : Ver} (hD : DatAll nx vs (ver.map pairD)) {i : Nat} {v : Value} (hv : vs[i]? = some v) :
    ∃ p T v₁ u nt, ver[i]? = some p ∧ v = .ref T ∧ (T, ({ cls := .type "tuple", data := .seq #[v₁, .int p.2 u] nt } : Obj)) ∈ nx ∧ DatIn nx v₁ p.1.dat := by
  obtain ⟨d, hd, h⟩ := datAll_get hD hv
  rw [List.getElem?_map] at hd
  cases hp : ver[i]? with
  | none => rw [hp] at hd; cases hd
  | some p =>
    rw [hp] at hd
    cases hd
    obtain ⟨T, ws, nt, rfl, hm, hw⟩ := datTuple h
    cases hw with
    | cons h1 hw =>
      cases hw with
      | cons h2 hw =>
        cases hw
        obtain ⟨u, rfl⟩ := datInt h2
        exact ⟨p, T, _, u, nt, rfl, rfl, hm, h1⟩
theorem ver_len {nx : List (Addr × Obj)} {vs : List Value} {ver : Ver} (hD : DatAll nx vs (ver.map pairD)) : vs.length = ver.length := by rw [hD.length, List.length_map]
section
local macro_rules | `(tactic| walk_at "eval ListComp") => `(tactic| (k_dflt (refine' LCp.ListComp_P ?F ?a ?b ?c ?d ?e ?f ?g ?_; (case F => k_asm); (case a => rfl); (case b => decide); (case c => rfl); (case d => decide); (case e => rfl); (case f => rfl); (case g => decide))))
theorem plain_spec {w mean mg mb news} (v : Value) (ver : Ver) (hv : DatIn news v (verD ver)) (ok : verOk ver) : Spec w mean mg mb news 168 [v] 12 (fun nx r => ∃ t, r = .str (plainS ver) t) := by
  obtain ⟨l, vs, ne, rfl, hm, hD⟩ := datList hv
  unfold Spec
  k_fill
  intro dp un gd cn cs a ccd cl outer A₀ base h₀ L m s Q E B F X N T hk hd' hu hret
  refine wpAny_noRaise ?_
  refine wpAny_call ?_
  k_dflt ktr_enter
  k_steps
  rename (Fr _ _ _ _) => F1
  rename (News _ _ _ _) => N1
  have hlen := ver_len hD
  refine LCp.SrcLP.ledger rfl F1 N1 hm (by rw [List.size_toArray, hlen]; exact Nat.le_trans ok.1 (by decide)) fun g => compRestP_of (fun i ys nx => nx = news ∧ DatAll news ys ((ver.take i).map fun p => .str p.1.txt)) vs.toArray.size ?fin ?turn _ 0 [] news (Nat.zero_add _) ⟨rfl, .nil⟩
  case turn =>
    rintro i ys nx v hi ⟨rfl, hy⟩ hP
    have hvi : vs[i]? = some v := by simpa using hP
    obtain ⟨p, T', v₁, u, nt, hpi, rfl, hmt, hd1⟩ := ver_item hD hvi
    refine ⟨T', v₁, _, nt, rfl, hmt, ?_⟩
    intro I oI C oC D m₂ h tk E' hC hx hx₂ F2 N2 off ne
    have e : (ver.take (i + 1)).map (fun p => Dat.str p.1.txt) = (ver.take i).map (fun p => Dat.str p.1.txt) ++ [Dat.str p.1.txt] := by
      rw [List.take_add_one, hpi]; simp
    obtain ⟨pt, how⟩ := p
    have hp : ∀ (y : Value), DatIn nx y (.str (pt, how).1.txt) → DatAll nx (ys ++ [y]) ((ver.take (i + 1)).map fun p => .str p.1.txt) := fun y hd => by rw [e]; exact hy.append (.one hd)
    have hok : (pt, how).1.ok := ok.2 _ (List.mem_of_getElem? hpi)
    cases pt with
    | w j =>
      obtain ⟨t1, rfl⟩ := datStr hd1
      k_steps
      exact compEnd_of F2 N2 (fun p hp => hp) off.mem (.inr ⟨_, hm, rfl, _, rfl⟩) ⟨rfl, hp _ (.str _ _)⟩
    | n k =>
      obtain ⟨t1, rfl⟩ := datInt hd1
      k_steps
      refine P.str_of_int (log2_small hok) ?_
      exact compEnd_of F2 N2 (fun p hp => hp) off.mem (.inr ⟨_, hm, rfl, _, rfl⟩) ⟨rfl, hp _ (.str _ _)⟩
  case fin => 
    rintro ys nx ⟨rfl, hy⟩
    intro D h tk F2 N2 off
    k_steps
    have e : ver.take vs.toArray.size = ver := by rw [List.size_toArray, hlen, List.take_length]
    rw [e] at hy
    refine join_listW ⟨_, (N2 _ List.mem_cons_self).1, rfl, _, rfl⟩ (by simpa using strsAre_of hy) (by decide +kernel) ?_ ?_
    · have := sum_len ver ok.2
      have := ok.1
      rw [List.length_map]
      omega
    intro t' k'
    k_steps
    refine hret _ [] _ _ (by assumption) ?_ (fun _ _ _ h => nomatch h) ⟨_, rfl⟩
    rename (News h₀ _ _ _) => N3
    exact fun p hp => N3 p (List.mem_cons_of_mem _ hp)
end
end Mine
end
theorem Mine.freshM4 : True := by
  w_top off
  trivial
section
-- text M4
open PySem PySem.W PyProof.Rows
set_option Elab.async false
set_option maxRecDepth 100000
set_option maxHeartbeats 8000000
set_option linter.unusedVariables false
namespace Mine
set_option pp.deepTerms false
set_option pp.deepTerms.threshold 5
set_option pp.maxSteps 100000

def aheadL : List Str := [Str.ofString "", Str.ofString ".", Str.ofString "-", Str.ofString "_", Str.ofString "+", Str.ofString "..", Str.ofString "+-", Str.ofString "_."]
def aheadAt (how : Int) : Str := aheadL.getD (how.fmod 8).toNat (Str.ofString "")
theorem ahead_item {nx : List (Addr × Obj)} {vs : List Value} (hD : DatAll nx vs (aheadL.map .str)) {how : Int} {v : Value} (hv : vs[(how.fmod 8).toNat]? = some v) : ∃ t, v = .str (aheadAt how) t := by
  obtain ⟨x, t, hx, rfl⟩ := strs_get hD hv
  exact ⟨t, by unfold aheadAt; rw [List.getD_eq_getElem?_getD, hx]; rfl⟩
theorem ahead_item8 {t0 t1 t2 t3 t4 t5 t6 t7 : Tok} {how : Int} {v : Value} (hv : [Value.str (Str.ofString "") t0, .str (Str.ofString ".") t1, .str (Str.ofString "-") t2, .str (Str.ofString "_") t3, .str (Str.ofString "+") t4, .str (Str.ofString "..") t5, .str (Str.ofString "+-") t6, .str (Str.ofString "_.") t7][(how.fmod 8).toNat]? = some v) : ∃ t, v = .str (aheadAt how) t :=
  ahead_item (nx := []) (.cons (.str _ _) (.cons (.str _ _) (.cons (.str _ _) (.cons (.str _ _) (.cons (.str _ _) (.cons (.str _ _) (.cons (.str _ _) (.cons (.str _ _) .nil)))))))) hv
theorem ahead_len : ∀ how : Int, (aheadAt how).length ≤ 2 := fun how => by
  have h0 := Int.fmod_nonneg_of_pos how (b := 8) (by decide)
  have h1 := Int.fmod_lt_of_pos how (b := 8) (by decide)
  have h2 : ∀ k, k < 8 → (aheadL.getD k (Str.ofString "")).length ≤ 2 := by decide +kernel
  exact h2 _ (by omega)
theorem item_at {prog : Program} {w : World} {A : Around} {E : Value → Shared → Prop} {s : Shared} {h₀ : Heap} {L l : Addr} {value slice : PySem.Expr} {news : List (Addr × Obj)} {vs : List Value} {n : Nat} {k : Int} {u : Tok} {Q : Value → Shared → Prop} (N : News h₀ L s.heap news) (hm : (l, listOf vs.toArray n) ∈ news)
    (h0 : 0 ≤ k) (h1 : k < (vs.length : Int)) (hfit : k < 2 ^ 63) (h : ∀ v, vs[k.toNat]? = some v → Q v s)
    (hs : subscripted slice false (.ref l) (.int k u) = operate [.ref l, .int k u] (getItem (.ref l) (.int k u)) := by with_unfolding_all rfl) :
    wpAny (model prog w) A (subscriptTail value slice (.ref l) (.int k u)) Q E s := by
  have hk : k.toNat < vs.length := by omega
  have hl : s.heap.IsList l vs.toArray := ⟨_, (N _ hm).1, rfl, n, rfl⟩
  exact tail_any hl.typeIs slot_list_getitem.lookup (wpAny_getItem_list hl h0 hfit (x := vs[k.toNat]) (by simp [hk]) (h _ (List.getElem?_eq_getElem hk))) hs
theorem frame_two {m : Str → Option Value} {a b : Str} {va vb : Value} (ha : m a = some va) (hb : m b = some vb) : m = fun y => if y = a then some va else if y = b then some vb else m y := by
  funext y
  by_cases h1 : y = a
  · subst h1; simp [ha]
  · by_cases h2 : y = b
    · subst h2; simp [h1, hb]
    · simp [h1, h2]
def isW : Part → Bool
  | .w _ => true
  | .n _ => false
def zerosS (how : Int) : Str := Txt.mul (Str.ofString "0") ((how.fdiv 8).fmod 3)
def bodyS : Part → Int → Str
  | .w i, _ => wordAt i
  | .n k, how => zerosS how ++ Str.ofString (toString (k : Int))
def gapS (how : Int) (w : Bool) (la : Option Bool) : Str := if aheadAt how = Str.ofString "" ∧ la = some w then Str.ofString "." else aheadAt how
def spellStep (st : Str × Option Bool) (q : Part × Int) : Str × Option Bool := (st.1 ++ (gapS q.2 (isW q.1) st.2 ++ bodyS q.1 q.2), some (isW q.1))
def spellF (v : Ver) : Str × Option Bool := v.foldl spellStep (Str.ofString "", none)
theorem zeros_len (how : Int) : (zerosS how).length ≤ 2 := by
  have h0 := Int.fmod_nonneg_of_pos (how.fdiv 8) (b := 3) (by decide)
  have h1 := Int.fmod_lt_of_pos (how.fdiv 8) (b := 3) (by decide)
  have h2 : ∀ k : Nat, k < 3 → (Txt.mul (Str.ofString "0") (k : Int)).length ≤ 2 := by decide +kernel
  have := h2 ((how.fdiv 8).fmod 3).toNat (by omega)
  rwa [Int.toNat_of_nonneg h0] at this
theorem dot_len : (Str.ofString ".").length = 1 := by decide +kernel
theorem turnEnd_of {h₀ : Heap} {L : Addr} {J : (Str → Option Value) → List (Addr × Obj) → Prop} {s0 : Shared} {I : Addr} {oI : Obj} {m' : Str → Option Value} {all nx' : List (Addr × Obj)} {h' : Heap} {tk' : Nat} (F' : Fr h₀ L h' m') (N' : News h₀ L h' all)
    (sub : ∀ q ∈ (I, oI) :: nx', q ∈ all) (off : ∀ p ∈ nx', p.1 ≠ I) (hJ : J m' nx') : TurnEnd h₀ L J s0 I oI { s0 with heap := h', toks := tk' } :=
  ⟨h', tk', m', nx', rfl, F', fun q hq => N' q (sub q hq), off, hJ⟩
def SpellJ (ver : Ver) (news : List (Addr × Obj)) (i : Nat) (m : Str → Option Value) (nx : List (Addr × Obj)) : Prop :=
  nx = news ∧ (∃ t : Tok, m (Str.ofString "text") = some (.str (spellF (ver.take i)).1 t)) ∧ m (Str.ofString "last") = some (match (spellF (ver.take i)).2 with | none => .none | some b => .bool b) ∧ (spellF (ver.take i)).1.length ≤ 20 * i
theorem spell_next {ver : Ver} {news : List (Addr × Obj)} {i : Nat} {pt : Part} {how : Int} {Tx : Str} {la : Option Bool} {m' : Str → Option Value} (e : spellF (ver.take (i + 1)) = spellStep (Tx, la) (pt, how)) (gp : Str) (hg : gapS how (isW pt) la = gp)
    (hT : ∃ t, m' (Str.ofString "text") = some (.str (Tx ++ (gp ++ bodyS pt how)) t)) (hl : m' (Str.ofString "last") = some (.bool (isW pt))) (hs : (Tx ++ (gp ++ bodyS pt how)).length ≤ 20 * (i + 1)) : SpellJ ver news (i + 1) m' news := by
  unfold SpellJ
  rw [e]
  subst hg
  exact ⟨rfl, hT, hl, hs⟩
theorem gap_none (how : Int) (w : Bool) : gapS how w none = aheadAt how := by unfold gapS; rw [if_neg]; rintro ⟨_, h⟩; cases h
theorem gap_other {how : Int} {w b : Bool} (h : b ≠ w) : gapS how w (some b) = aheadAt how := by unfold gapS; rw [if_neg]; rintro ⟨_, e⟩; exact h (Option.some.inj e)
theorem gap_ahead {how : Int} {w : Bool} {la : Option Bool} (h : ¬ aheadAt how = Str.ofString "") : gapS how w la = aheadAt how := by unfold gapS; rw [if_neg]; rintro ⟨e, _⟩; exact h e
theorem gap_ahead' {how : Int} {w : Bool} {la : Option Bool} (h : (aheadAt how == Str.ofString "") = false) : gapS how w la = aheadAt how := gap_ahead fun e => by rw [beq_iff_eq.mpr e] at h; cases h
theorem gap_dot' {how : Int} {w : Bool} (h : (aheadAt how == Str.ofString "") = true) : gapS how w (some w) = Str.ofString "." := by unfold gapS; rw [if_pos ⟨beq_iff_eq.mp h, rfl⟩]
theorem gap_wf (how : Int) (j : Nat) : gapS how (isW (.w j)) (some false) = aheadAt how := gap_other (by simp [isW])
theorem gap_nt (how : Int) (k : Nat) : gapS how (isW (.n k)) (some true) = aheadAt how := gap_other (by simp [isW])
theorem gap_wt {how : Int} {j : Nat} (h : (aheadAt how == Str.ofString "") = true) : gapS how (isW (.w j)) (some true) = Str.ofString "." := gap_dot' h
theorem gap_nf {how : Int} {k : Nat} (h : (aheadAt how == Str.ofString "") = true) : gapS how (isW (.n k)) (some false) = Str.ofString "." := gap_dot' h
theorem gap_dot {how : Int} {w : Bool} (h : aheadAt how = Str.ofString "") : gapS how w (some w) = Str.ofString "." := by unfold gapS; rw [if_pos ⟨h, rfl⟩]
section
local macro_rules | `(tactic| walk_at "binaryOp Add str str") => `(tactic| (refine PyProof.Rows.add_str ?_ ?hsz; (case hsz => (simp only [Str.length_append, sizeLine_eq]; omega)); intro _ _))
local macro_rules | `(tactic| walk_at "inplaceOp Add str str") => `(tactic| (refine PyProof.Rows.iadd_str ?_ ?hsz; (case hsz => (simp only [Str.length_append, sizeLine_eq]; omega)); intro _ _))
local macro_rules | `(tactic| walk_at "call type:str") => `(tactic| (refine P.str_of_int (log2_small (by assumption)) ?_))
local macro_rules | `(tactic| walk_at "exec For") => `(tactic| (refine For_at ?_))
local macro_rules | `(tactic| walk_at "subscriptTail") => `(tactic| (k_dflt (refine' item_at ?N ?m ?a ?b ?c ?_ ?d; (case N => k_asm); (case m => k_mem); (case a => exact Int.fmod_nonneg_of_pos _ (by decide)); (case b => exact Int.fmod_lt_of_pos _ (by decide)); (case c => exact Int.lt_trans (Int.fmod_lt_of_pos _ (by decide)) (by decide)); (case d => with_unfolding_all rfl); intro v' hv'); obtain ⟨t', e'⟩ := ahead_item8 hv'; clear hv'; subst e'; (try dsimp only)))
theorem spell_spec {w mean mg mb news} (v : Value) (ver : Ver) (hv : DatIn news v (verD ver)) (ok : verOk ver) : Spec w mean mg mb news 175 [v] 12 (fun nx r => ∃ t, r = .str (spellF ver).1 t) := by
  obtain ⟨l, vs, ne, rfl, hm, hD⟩ := datList hv
  unfold Spec
  k_fill
  intro dp un gd cn cs a ccd cl outer A₀ base h₀ L m s Q E B F X N T hk hd' hu hret
  refine wpAny_noRaise ?_
  refine wpAny_call ?_
  k_dflt ktr_enter
  k_steps
  rename (Fr _ _ _ _) => F1
  rename (News _ _ _ _) => N1
  have hlen := ver_len hD
  refine forAt_pair (SpellJ ver news) (ne := ne) (vs := vs) rfl rfl rfl rfl (fun i m nx h => h.1 ▸ hm) F1 (fun p hp => N1 p (List.mem_cons_of_mem _ hp)) ⟨rfl, ⟨_, rfl⟩, rfl, Nat.le_of_eq (by decide +kernel : (Str.ofString "").length = 0)⟩ ?turn ?done
  case turn =>
    rintro i v m₁ nx hvi ⟨rfl, ⟨t, hT⟩, hl, hlen1⟩
    obtain ⟨p, T', v₁, u, nt, hpi, rfl, hmt, hd1⟩ := ver_item hD hvi
    refine ⟨T', v₁, _, nt, rfl, hmt, ?_⟩
    intro h tk I oI off F2 N2
    have e : spellF (ver.take (i + 1)) = spellStep (spellF (ver.take i)) p := by
      rw [List.take_add_one, hpi]; simp [spellF]
    generalize spellF (ver.take i) = st at hT hl hlen1 e
    obtain ⟨Tx, la⟩ := st
    dsimp only at hT hl hlen1
    obtain ⟨pt, how⟩ := p
    have ha := ahead_len how
    have hz := zeros_len how
    have hd := dot_len
    unfold zerosS at hz
    have hi4 : i < 4 := Nat.lt_of_lt_of_le (List.getElem?_eq_some_iff.mp hpi).1 ok.1
    have hok : (pt, how).1.ok := ok.2 _ (List.mem_of_getElem? hpi)
    clear hret
    cases pt with
    | w j =>
      obtain ⟨t1, rfl⟩ := datStr hd1
      have hw := word_len j hok
      rcases la with _ | _ | _
      all_goals (rw [frame_two hT hl] at F2; k_steps)
      all_goals (refine turnEnd_of (by assumption) (by assumption) (fun q hq => List.mem_cons_of_mem _ hq) (by assumption) (spell_next e _ (by first | exact gap_none _ _ | exact gap_wf _ _ | exact gap_nt _ _ | (refine gap_wt ?_; assumption) | (refine gap_nf ?_; assumption) | (refine gap_ahead' ?_; assumption)) ⟨_, rfl⟩ rfl ?_); simp only [Str.length_append, bodyS, zerosS]; omega)
    | n k =>
      obtain ⟨t1, rfl⟩ := datInt hd1
      have hok' : k < 1000000 := hok
      have hw := num_len hok'
      rcases la with _ | _ | _
      all_goals (rw [frame_two hT hl] at F2; k_steps)
      all_goals (refine turnEnd_of (by assumption) (by assumption) (fun q hq => List.mem_cons_of_mem _ hq) (by assumption) (spell_next e _ (by first | exact gap_none _ _ | exact gap_wf _ _ | exact gap_nt _ _ | (refine gap_wt ?_; assumption) | (refine gap_nf ?_; assumption) | (refine gap_ahead' ?_; assumption)) ⟨_, rfl⟩ rfl ?_); simp only [Str.length_append, bodyS, zerosS]; omega)
  case done =>
    rintro h' tk m' nx' F2 N2 ⟨rfl, ⟨t, hT⟩, hl, hlen1⟩
    refine wpAny_execs_nil ?_
    rw [frame_two hT hl] at F2
    rw [hlen, List.take_length] at *
    k_steps
    exact hret _ [] _ _ (by assumption) (by assumption) (fun _ _ _ h => nomatch h) ⟨_, rfl⟩
end
end Mine
end
theorem Mine.freshM5 : True := by
  w_top off
  trivial
section
-- text M5
open PySem PySem.W PyProof.Rows
set_option Elab.async false
set_option maxRecDepth 100000
set_option maxHeartbeats 8000000
set_option linter.unusedVariables false
namespace Mine
set_option pp.deepTerms false
set_option pp.deepTerms.threshold 5
set_option pp.maxSteps 100000

theorem isList_of {h₀ h : Heap} {L a : Addr} {its : Array Value} {n : Nat} {news : List (Addr × Obj)} (N : News h₀ L h news) (hm : (a, listOf its n) ∈ news) : h.IsList a its := ⟨_, (N _ hm).1, rfl, n, rfl⟩
def rowD (r : List Nat) : Dat := .list (r.map fun (c : Nat) => .int (c : Int))
def toldN (r : List Nat) : Nat := r.foldl (fun n c => n * 1048576 + c) 0
theorem fold_lt : ∀ (r : List Nat) (z k : Nat), (∀ c ∈ r, c < 1048576) → z < 1048576 ^ k → r.foldl (fun n c => n * 1048576 + c) z < 1048576 ^ (k + r.length)
  | [], z, k, _, hz => hz
  | c :: r, z, k, h, hz => by
    have hc := h c List.mem_cons_self
    have h1 : z * 1048576 + c < 1048576 ^ (k + 1) := by rw [Nat.pow_succ]; omega
    have := fold_lt r (z * 1048576 + c) (k + 1) (fun c hc => h c (List.mem_cons_of_mem _ hc)) h1
    rw [List.length_cons, Nat.add_comm r.length 1, ← Nat.add_assoc]
    exact this
theorem told_lt (r : List Nat) (h : ∀ c ∈ r, c < 1048576) : toldN r < 1048576 ^ r.length := by
  have := fold_lt r 0 0 h (by decide)
  rwa [Nat.zero_add] at this
theorem pick4 (l : List Value) : kms_pick l none (some 4) = l.take 4 := by
  unfold kms_pick kms_lo kms_hi
  simp
theorem frame_one {m : Str → Option Value} {a : Str} {va : Value} (ha : m a = some va) : m = fun y => if y = a then some va else m y := by
  funext y
  by_cases h1 : y = a
  · subst h1; simp [ha]
  · simp [h1]
theorem rows_get {nx : List (Addr × Obj)} {vs : List Value} {r : List Nat} (h : DatAll nx vs (r.map fun (c : Nat) => Dat.int (c : Int))) {k : Nat} {v : Value} (hv : vs[k]? = some v) : ∃ c t, r[k]? = some c ∧ v = .int (c : Int) t := by
  obtain ⟨d, e, hd⟩ := datAll_get h hv
  rw [List.getElem?_map] at e
  cases hx : r[k]? with
  | none => rw [hx] at e; cases e
  | some x =>
    rw [hx] at e
    cases e
    obtain ⟨t, rfl⟩ := datInt hd
    exact ⟨x, t, rfl, rfl⟩
theorem datAll_take {nx : List (Addr × Obj)} : ∀ {vs : List Value} {ds : List Dat} (n : Nat), DatAll nx vs ds → DatAll nx (vs.take n) (ds.take n)
  | _, _, 0, _ => .nil
  | [], _, _ + 1, h => by cases h; exact .nil
  | _ :: _, _, n + 1, h => by
    cases h with
    | cons a r => exact .cons a (datAll_take n r)
theorem forAt_fold {prog : Program} {w : World} {A : Around} {E : Value → Shared → Prop} {s : Shared} {env : Env} {h₀ : Heap} {x y : Str} {px : Pos} {body : List Stmt} {Q : Flow → Shared → Prop} {l : Addr} {vs : List Value} {ne : Nat} {m : Str → Option Value} {nx nxd : List (Addr × Obj)} {codes : List Nat}
    (f : Nat → Nat → Nat) (z : Nat) (hh : A.handled = none) (hx : env.kindOf x = some .local) (hp : (env.scope.kind == .class || (env.scope.kind == .module && env.locals != env.globals)) = false)
    (hD : DatAll nxd vs (codes.map fun (c : Nat) => Dat.int (c : Int))) (hm : (l, listOf vs.toArray ne) ∈ nx) (F : Fr h₀ env.locals s.heap m) (N : News h₀ env.locals s.heap nx) (hz : ∃ t, m y = some (.int z t))
    (turn : ∀ (i c : Nat) (t u : Tok) h tk I oI, codes[i]? = some c → (∀ p ∈ nx, p.1 ≠ I) → Fr h₀ env.locals h (fun q => if q = x then some (.int (c : Int) u) else if q = y then some (.int ((codes.take i).foldl f z : Nat) t) else m q) → News h₀ env.locals h ((I, oI) :: nx) →
      wpAny (model prog w) A (execs body env) (TurnPost h₀ env.locals (fun m' nx' => nx' = nx ∧ (∃ t, m' y = some (.int (f ((codes.take i).foldl f z) c : Nat) t)) ∧ ∀ q, q ≠ x → q ≠ y → m' q = m q) s I oI Q) (fun _ _ => False) { s with heap := h, toks := tk })
    (done : ∀ (xv : Option Value) h tk (t : Tok), Fr h₀ env.locals h (fun q => if q = y then some (.int (codes.foldl f z : Nat) t) else if q = x then xv else m q) → News h₀ env.locals h nx → Q .next { s with heap := h, toks := tk }) :
    ForAt prog w A env (.Name x px) body [] Q E (.ref l) s := by
  have hlen : vs.length = codes.length := by rw [hD.length, List.length_map]
  refine forAt_name (fun i m' nx' => nx' = nx ∧ (∃ t, m' y = some (.int ((codes.take i).foldl f z : Nat) t)) ∧ ∀ q, q ≠ x → q ≠ y → m' q = m q) hh hx hp (fun i m' nx' h => h.1 ▸ hm) F N ⟨rfl, hz, fun _ _ _ => rfl⟩ ?_ ?_
  · rintro i v m₁ nx' h tk I oI hv ⟨rfl, ⟨t, ht⟩, keep⟩ off F₁ N₁
    obtain ⟨c, u, hc, rfl⟩ := rows_get hD hv
    have e : (codes.take (i + 1)).foldl f z = f ((codes.take i).foldl f z) c := by rw [List.take_add_one, hc]; simp
    have eF : (fun q => if q = x then some (Value.int (c : Int) u) else m₁ q) = (fun q => if q = x then some (.int (c : Int) u) else if q = y then some (.int ((codes.take i).foldl f z : Nat) t) else m q) := by
      funext q
      by_cases h1 : q = x
      · rw [if_pos h1, if_pos h1]
      · rw [if_neg h1, if_neg h1]
        by_cases h2 : q = y
        · rw [if_pos h2, h2, ht]
        · rw [if_neg h2, keep q h1 h2]
    rw [eF] at F₁
    rw [e]
    exact turn i c t u h tk I oI hc off F₁ N₁
  · rintro h tk m₁ nx' F₁ N₁ ⟨rfl, ⟨t, ht⟩, keep⟩
    rw [hlen, List.take_length] at ht
    have eF : m₁ = (fun q => if q = y then some (Value.int (codes.foldl f z : Nat) t) else if q = x then m₁ x else m q) := by
      funext q
      by_cases h2 : q = y
      · rw [if_pos h2, h2, ht]
      · rw [if_neg h2]
        by_cases h1 : q = x
        · rw [if_pos h1, h1]
        · rw [if_neg h1, keep q h1 h2]
    rw [eF] at F₁
    exact wpAny_execs_nil (done (m₁ x) h tk t F₁ N₁)
theorem spec_use0 {w : World} {mean : ExcName → Option Value} {mg mb : Str → Option Value} {news : List (Addr × Obj)} {f : Addr} {args : List Value} {cost : Nat} {Post : List (Addr × Obj) → Value → Prop}
    {dp un : Nat} {gd : Option (List Code)} {cn : Str} {cs : Scope} {a : Addr} {ccd : Value} {cl : List (Str × Addr)} {outer : List Env} {A₀ : Around} {base h₀ : Heap} {L : Addr} {m : Str → Option Value} {s : Shared}
    {Q E : Value → Shared → Prop} (S : Spec w mean mg mb news f args cost Post)
    (B : Below A₀ base outer h₀) (F : Fr h₀ L s.heap m) (X : (hd.heap_39 w.params).In h₀) (N : News h₀ L s.heap news) (T : Top hd.view_39 LS mean mg mb h₀) (hk : cs.kind = .function) (hd : dp + cost < recursionLimit) (hu : un + 8 * cost < cLine)
    (ret : ∀ r nx h' tk', Fr h₀ L h' m → News h₀ L h' news → Post nx r → Q r { s with heap := h', toks := tk' }) :
    wpAny (model PySem.Challenge.rw_nb0083_01.row.prog w) (ktrTop dp un gd cn cs L a ccd cl outer) (call (.ref f) args) Q E s :=
  S dp un gd cn cs a ccd cl outer A₀ base h₀ L m s Q E B F X N T hk hd hu fun r tl h' tk' F' N' _ hp => ret r _ h' tk' F' (fun p q => N' p (List.mem_append_right _ q)) hp
section
local macro_rules | `(tactic| walk_at "mem") => `(tactic| first | assumption | exact List.mem_cons_self | (refine List.mem_cons_of_mem _ ?_; walk_at "mem"))
local macro_rules | `(tactic| walk_at "binaryOp Add ref ref") => `(tactic| (k_here; (with_reducible show wpAny _ _ (binaryOp _ (Value.ref _) (Value.ref _)) _ _ _); k_dflt (refine' kmk_add_lit ?F ?N ?a ?b rfl ?_ ?z; (case F => k_asm); (case N => k_asm); (case a => exact isList_of (by k_asm) (by walk_at "mem")); (case b => exact isList_of (by k_asm) (by walk_at "mem")); (case z => (simp only [List.toList_toArray, List.length_cons, List.length_nil, sizeLine_eq]; omega))); intro D' h' F' N' l1))
local macro_rules | `(tactic| walk_at "subscriptTail Name Slice ref ref") => `(tactic| (k_here; (with_reducible show wpAny _ _ (subscriptTail _ (PySem.Expr.Slice _ _ none _) (Value.ref _) (Value.ref _)) _ _ _); k_dflt (refine' kms_slice_lit ?F ?N ?l ?p ?q rfl ?_ ?s ?t ?z; (case F => k_asm); (case N => k_asm); (case l => exact isList_of (by k_asm) (by walk_at "mem")); (case p => kmk_part); (case q => kmk_part); (case s => with_unfolding_all rfl); (case t => kmk_pure); (case z => (simp only [List.toList_toArray, List.size_toArray, List.length_append, List.length_cons, List.length_nil, sizeLine_eq]; omega))); intro D' h' F' N' l1))
local macro_rules | `(tactic| walk_at "exec For") => `(tactic| (refine For_at ?_))
theorem told_spec {w mean mg mb news} (v : Value) (row : List Nat) (hv : DatIn news v (rowD row)) (ok : row.length ≤ 4) (hc : ∀ c ∈ row, c < 1048576) : Spec w mean mg mb news 182 [v] 4 (fun nx r => ∃ t, r = .int (toldN ((row ++ [0, 0, 0, 0]).take 4) : Nat) t) := by
  obtain ⟨l, vs, ne, rfl, hm, hD⟩ := datList hv
  have hlen : vs.length = row.length := by rw [hD.length, List.length_map]
  have hlen4 : vs.length ≤ 4 := by omega
  unfold Spec
  k_fill
  intro dp un gd cn cs a ccd cl outer A₀ base h₀ L m s Q E B F X N T hk hd' hu hret
  refine wpAny_noRaise ?_
  refine wpAny_call ?_
  k_dflt ktr_enter
  k_steps
  rename (Fr _ _ _ _) => F1
  rename (News _ _ _ _) => N1
  rw [pick4] at N1
  have hD' : ∀ t0 t1 t2 t3, DatAll news ((vs ++ [Value.int 0 t0, .int 0 t1, .int 0 t2, .int 0 t3]).take 4) (((row ++ [0, 0, 0, 0]).take 4).map fun (c : Nat) => Dat.int (c : Int)) := fun t0 t1 t2 t3 => by
    rw [List.map_take, List.map_append]
    exact datAll_take 4 (hD.append (.cons (.int _ _) (.cons (.int _ _) (.cons (.int _ _) (.cons (.int _ _) .nil)))))
  refine forAt_fold (y := Str.ofString "number") (fun n c => n * 1048576 + c) 0 rfl rfl rfl (hD' _ _ _ _) List.mem_cons_self F1 N1 ⟨_, rfl⟩ ?turn ?done
  case turn =>
    intro i c t u h tk I oI hc' off F2 N2
    generalize ((row ++ [0, 0, 0, 0]).take 4 |>.take i).foldl (fun n c => n * 1048576 + c) 0 = acc at F2 ⊢
    have e : ((acc * 1048576 + c : Nat) : Int) = (acc : Int) * 1048576 + (c : Int) := by omega
    rw [e]
    k_steps
    exact turnEnd_of (by assumption) (by assumption) (fun q hq => hq) (by assumption) ⟨rfl, ⟨_, rfl⟩, fun q h1 h2 => by simp only [if_neg h1, if_neg h2]⟩
  case done =>
    intro xv h tk t F2 N2
    k_steps
    refine hret _ [] _ _ (by assumption) ?_ (fun _ _ _ h => nomatch h) ⟨_, rfl⟩
    rename (News h₀ _ _ _) => N3
    exact fun p hp => N3 p (List.mem_cons_of_mem _ (List.mem_cons_of_mem _ (List.mem_cons_of_mem _ hp)))
end

def packF (n c : Nat) : Nat := n * 2 ^ 20 ||| c ||| c
theorem bitOr_nat (a b : Nat) : Builtin.bitOr (a : Int) (b : Int) = ((a ||| b : Nat) : Int) := by
  have ha : ¬ (0 : Int) ≤ Builtin.bitNot (a : Int) := by unfold Builtin.bitNot; omega
  have hb : ¬ (0 : Int) ≤ Builtin.bitNot (b : Int) := by unfold Builtin.bitNot; omega
  have e : ∀ c : Int, Builtin.bitNot (Builtin.bitNot c) = c := fun c => by unfold Builtin.bitNot; omega
  unfold Builtin.bitOr Builtin.bitAnd
  rw [decide_eq_false ha, decide_eq_false hb]
  simp only [e, Int.toNat_natCast]
theorem or_lt {a b : Nat} {k : Nat} (ha : a < 2 ^ k) (hb : b < 2 ^ k) : a ||| b < 2 ^ k := Nat.or_lt_two_pow ha hb
theorem pack_lt : ∀ (r : List Nat) (z k : Nat), (∀ c ∈ r, c < 1048576) → z < 2 ^ (20 * k) → r.foldl packF z < 2 ^ (20 * (k + r.length))
  | [], z, k, _, hz => hz
  | c :: r, z, k, h, hz => by
    have hc := h c List.mem_cons_self
    have h1 : packF z c < 2 ^ (20 * (k + 1)) := by
      have e : 2 ^ (20 * (k + 1)) = 2 ^ (20 * k) * 2 ^ 20 := by rw [Nat.mul_add, Nat.pow_add]
      have hk : 1 ≤ 2 ^ (20 * k) := Nat.one_le_two_pow
      have hc' : c < 2 ^ (20 * (k + 1)) := by rw [e]; omega
      have hz' : z * 2 ^ 20 < 2 ^ (20 * (k + 1)) := by rw [e]; exact Nat.mul_lt_mul_of_pos_right hz (by decide)
      exact or_lt (or_lt hz' hc') hc'
    have := pack_lt r (packF z c) (k + 1) (fun c hc => h c (List.mem_cons_of_mem _ hc)) h1
    rw [List.length_cons, Nat.add_comm r.length 1, ← Nat.add_assoc]
    exact this
section
local macro_rules | `(tactic| walk_at "mem") => `(tactic| first | assumption | exact List.mem_cons_self | (refine List.mem_cons_of_mem _ ?_; walk_at "mem"))
local macro_rules | `(tactic| walk_at "exec For") => `(tactic| (refine For_at ?_))
local macro_rules | `(tactic| walk_at "call ref") => `(tactic| ((with_reducible show wpAny _ _ (call (Value.ref 135) _) _ _ _); (refine spec_use0 (ilsh_int _ _ _ _ ?p1 ?p2 ?p3 ?p4) (by k_asm) (by k_asm) (by k_asm) (by k_asm) (by k_asm) rfl ?d ?u ?_); (case p1 => omega); (case p2 => omega); (case p3 => omega); (case p4 => omega); (case d => ktr_room); (case u => ktr_units); intro r' nx' h' tk' F' N' hp; obtain ⟨t', e'⟩ := hp; subst e'))
local macro_rules | `(tactic| walk_at "call ref") => `(tactic| ((with_reducible show wpAny _ _ (call (Value.ref 100) _) _ _ _); (refine spec_use0 (lsh_int _ _ _ _ ?p1 ?p2 ?p3 ?p4) (by k_asm) (by k_asm) (by k_asm) (by k_asm) (by k_asm) rfl ?d ?u ?_); (case p1 => omega); (case p2 => omega); (case p3 => omega); (case p4 => omega); (case d => ktr_room); (case u => ktr_units); intro r' nx' h' tk' F' N' hp; obtain ⟨t', e'⟩ := hp; subst e'))
local macro_rules | `(tactic| walk_at "call ref") => `(tactic| ((with_reducible show wpAny _ _ (call (Value.ref 142) _) _ _ _); (refine spec_use0 (ior_int _ _ _ _) (by k_asm) (by k_asm) (by k_asm) (by k_asm) (by k_asm) rfl ?d ?u ?_); (case d => ktr_room); (case u => ktr_units); intro r' nx' h' tk' F' N' hp; obtain ⟨t', e'⟩ := hp; subst e'))
local macro_rules | `(tactic| walk_at "dummy key") => `(tactic| fail)
theorem packed_spec {w mean mg mb news} (v : Value) (row : List Nat) (hv : DatIn news v (rowD row)) (ok : row.length ≤ 4) (hc : ∀ c ∈ row, c < 1048576) : Spec w mean mg mb news 189 [v] 8 (fun nx r => ∃ t, r = .int ((row.foldl packF 0) * 2 ^ (20 * (4 - row.length)) : Nat) t) := by
  obtain ⟨l, vs, ne, rfl, hm, hD⟩ := datList hv
  have hlen : vs.length = row.length := by rw [hD.length, List.length_map]
  have hlen4 : vs.length ≤ 4 := by omega
  unfold Spec
  k_fill
  intro dp un gd cn cs a ccd cl outer A₀ base h₀ L m s Q E B F X N T hk hd' hu hret
  refine wpAny_noRaise ?_
  refine wpAny_call ?_
  k_dflt ktr_enter
  k_steps
  rename (Fr _ _ _ _) => F1
  rename (News _ _ _ _) => N1
  refine forAt_fold (y := Str.ofString "number") packF 0 rfl rfl rfl hD hm F1 N1 ⟨_, rfl⟩ ?turn ?done
  case turn =>
    intro i c t u h tk I oI hc' off F2 N2
    have hlt : (row.take i).foldl packF 0 < 2 ^ 60 := by
      have hi : i < row.length := (List.getElem?_eq_some_iff.mp hc').1
      have h1 := pack_lt (row.take i) 0 0 (fun c hc1 => hc c (List.mem_of_mem_take hc1)) (by decide)
      have h2 : 20 * (0 + (row.take i).length) ≤ 60 := by rw [List.length_take]; omega
      exact Nat.lt_of_lt_of_le h1 (Nat.pow_le_pow_right (by decide) h2)
    generalize (row.take i).foldl packF 0 = acc at F2 hlt ⊢
    have e : ((packF acc c : Nat) : Int) = Builtin.bitOr (Builtin.bitOr ((acc : Int) * 2 ^ (20 : Int).toNat) (c : Int)) (c : Int) := by
      have e1 : (acc : Int) * 2 ^ (20 : Int).toNat = ((acc * 2 ^ 20 : Nat) : Int) := by simp
      rw [e1, bitOr_nat, bitOr_nat]
      rfl
    rw [e]
    k_steps
    exact turnEnd_of (by assumption) (by assumption) (fun q hq => hq) (by assumption) ⟨rfl, ⟨_, rfl⟩, fun q h1 h2 => by simp only [if_neg h1, if_neg h2]⟩
  case done =>
    intro xv h tk t F2 N2
    have hlt : row.foldl packF 0 < 2 ^ 80 := by
      have h1 := pack_lt row 0 0 hc (by decide)
      exact Nat.lt_of_lt_of_le h1 (Nat.pow_le_pow_right (by decide) (by omega))
    have e : (((row.foldl packF 0) * 2 ^ (20 * (4 - row.length)) : Nat) : Int) = ((row.foldl packF 0 : Nat) : Int) * 2 ^ ((20 : Int) * (4 - ((row.map fun (c : Nat) => Dat.int (c : Int)).length : Int))).toNat := by
      have e1 : ((20 : Int) * (4 - ((row.map fun (c : Nat) => Dat.int (c : Int)).length : Int))).toNat = 20 * (4 - row.length) := by rw [List.length_map]; omega
      rw [e1]
      push_cast
      rfl
    rw [e] at hret
    have hl4 : (row.map fun (c : Nat) => Dat.int (c : Int)).length ≤ 4 := by rw [List.length_map]; exact ok
    clear e
    generalize row.foldl packF 0 = acc at F2 hlt hret
    k_steps
    refine kd_len N2 hm hD (by omega) ?_
    generalize (row.map fun (c : Nat) => Dat.int (c : Int)).length = len at hl4 hret ⊢
    k_steps
    exact hret _ [] _ _ (by assumption) (by assumption) (fun _ _ _ h => nomatch h) ⟨_, rfl⟩

end
end Mine
end
theorem Mine.freshM6 : True := by
  w_top off
  trivial
section
-- text M6
open PySem PySem.W PyProof.Rows
set_option Elab.async false
set_option maxRecDepth 100000
set_option maxHeartbeats 8000000
set_option linter.unusedVariables false
namespace Mine
set_option pp.deepTerms false
set_option pp.deepTerms.threshold 6
set_option pp.maxSteps 100000
section
local macro_rules | `(tactic| walk_at "mem") => `(tactic| first | assumption | exact List.mem_cons_self | (refine List.mem_cons_of_mem _ ?_; walk_at "mem"))
local macro_rules | `(tactic| walk_at "call ref") => `(tactic| ((with_reducible show wpAny _ _ (call (Value.ref 107) _) _ _ _); (refine spec_use0 (rsh_int _ _ _ _ ?p1 ?p2 ?p3 ?p4) (by k_asm) (by k_asm) (by k_asm) (by k_asm) (by k_asm) rfl ?d ?u ?_); (case p1 => omega); (case p2 => omega); (case p3 => omega); (case p4 => omega); (case d => ktr_room); (case u => ktr_units); intro r' nx' h' tk' F' N' hp; obtain ⟨t', e'⟩ := hp; subst e'))
local macro_rules | `(tactic| walk_at "call ref") => `(tactic| ((with_reducible show wpAny _ _ (call (Value.ref 93) _) _ _ _); (refine spec_use0 (and_int _ _ _ _) (by k_asm) (by k_asm) (by k_asm) (by k_asm) (by k_asm) rfl ?d ?u ?_); (case d => ktr_room); (case u => ktr_units); intro r' nx' h' tk' F' N' hp; obtain ⟨t', e'⟩ := hp; subst e'))
theorem off1_mem {D : Addr} : ∀ {l : List (Addr × Obj)}, LCg.Off1 D l → ∀ p ∈ l, p.1 ≠ D
  | [], _, _, h => nomatch h
  | _ :: _, x, p, h => by
    rcases List.mem_cons.mp h with rfl | h
    · exact x.1
    · exact off1_mem x.2 p h
theorem intsDat {nx : List (Addr × Obj)} : ∀ {vs : List Value} {ns : List Int} {r : List Nat}, IntsAre vs ns → ns = r.map (fun (c : Nat) => (c : Int)) → DatAll nx vs (r.map fun (c : Nat) => Dat.int (c : Int))
  | _, _, [], h, e => by subst e; cases h; exact .nil
  | _, _, c :: r, h, e => by
    subst e
    cases h with
    | cons _ t h => exact .cons (.int _ _) (intsDat h rfl)
theorem bitAnd_nat (a b : Nat) : Builtin.bitAnd (a : Int) (b : Int) = ((a &&& b : Nat) : Int) := by
  unfold Builtin.bitAnd
  rw [decide_eq_true (by omega : (0 : Int) ≤ a), decide_eq_true (by omega : (0 : Int) ≤ b)]
  simp
/-- number's four parts of 20 bits -/
def takenN (n : Nat) : List Nat := [n / 2 ^ 60 % 2 ^ 20, n / 2 ^ 40 % 2 ^ 20, n / 2 ^ 20 % 2 ^ 20, n % 2 ^ 20]
theorem taken_one (n k : Nat) : Builtin.bitAnd ((n : Int).fdiv (2 ^ k)) 1048575 = ((n / 2 ^ k % 2 ^ 20 : Nat) : Int) := by
  have e1 : (n : Int).fdiv (2 ^ k) = ((n / 2 ^ k : Nat) : Int) := by
    have e2 : ((2 : Int) ^ k) = ((2 ^ k : Nat) : Int) := by push_cast; rfl
    rw [e2, Int.fdiv_eq_ediv_of_nonneg _ (Int.natCast_nonneg _)]
    exact (Int.natCast_ediv _ _).symm
  rw [e1, show (1048575 : Int) = ((1048575 : Nat) : Int) from rfl, bitAnd_nat]
  exact congrArg _ (Nat.and_two_pow_sub_one_eq_mod (n / 2 ^ k) 20)
theorem taken_ints (n : Nat) : List.map (fun k' => Builtin.bitAnd ((n : Int).fdiv (2 ^ (20 * (3 - k')).toNat)) 1048575) (rangeKs 0 (4 - 0 : Int).toNat) = (takenN n).map fun (c : Nat) => (c : Int) := by
  have e : rangeKs 0 (4 - 0 : Int).toNat = [0, 1, 2, 3] := by decide +kernel
  rw [e]
  simp only [List.map_cons, List.map_nil, takenN]
  have h := taken_one n
  rw [show ((20 : Int) * (3 - 0)).toNat = 60 from rfl, show ((20 : Int) * (3 - 1)).toNat = 40 from rfl, show ((20 : Int) * (3 - 2)).toNat = 20 from rfl, show ((20 : Int) * (3 - 3)).toNat = 0 from rfl, h, h, h, h]
  simp
theorem taken_spec {w mean mg mb news} (n : Nat) (hn : n < 2 ^ 80) (t : Tok) : Spec w mean mg mb news 194 [.int n t] 8 (fun nx r => DatIn nx r (rowD (takenN n))) := by
  unfold Spec
  k_fill
  intro dp un gd cn cs a ccd cl outer A₀ base h₀ L m s Q E B F X N T hk hd' hu hret
  refine wpAny_noRaise ?_
  refine wpAny_call ?_
  k_dflt (refine' code_defC ?k1 ?k2 ?k3 ?k4 ?k5 ?kA ?kF ?kK ?k6 ?k7 ?k8 ?k9 ?kB ?kD ?_ ?c2 ?c3 ?c4; (case kA => exact rfl); (case kF => exact rfl); (case kK => assumption); (case k1 => k_asm); (case k2 => k_asm); (case k3 => k_asm); (case k4 => k_asm); (case k5 => k_asm); (case k6 => k_is); (case k7 => k_is); (case k8 => ktr_room); (case k9 => exact BindsTo.of_eq rfl); (case kB => exact rfl); (case kD => decide +kernel); (case c2 => exact rfl); (case c3 => exact rfl); (case c4 => exact rfl); k_whole; intro g' L' h' tk' cells' FG' F' N' Y' B' X' T' l1; k_cells Y'; (try simp only [List.cons_append, List.nil_append] at N'); (try dsimp only); (try k_fold))
  k_steps
  rename (IntsAre _ _) => hI
  rename (_ ∧ LCg.Off1 _ _) => o1
  refine hret _ [_, _] _ _ (by assumption) (by assumption) ?_ (.list List.mem_cons_self (intsDat hI (taken_ints n)))
  intro q hq p hp
  rcases List.mem_cons.mp hp with rfl | hp
  · exact off1_mem o1.2 q hq
  · rcases List.mem_singleton.mp hp with rfl
    exact Nat.ne_of_lt (Nat.lt_succ_of_lt (l1 q hq))
end
end Mine
end
theorem Mine.freshC0 : True := by
  w_top off
  trivial
section
-- text C0
open PySem PySem.W PyProof.Rows
set_option Elab.async false
set_option maxRecDepth 100000
set_option maxHeartbeats 8000000
set_option linter.unusedVariables false
namespace Mine

open PySem.SeqAt
open AutoSeq1 (wpAny_loadPart')
open MeetsSeq MeetsSeq2 MeetsSeq3 SeqRoads2
def RcOp (op : CmpOp) (A : Around) (s : Shared) (y x : Value) (b : Bool) : Prop :=
  ∀ (prog : Program) (w : World) (E : Value → Shared → Prop) (Q : Value → Shared → Prop), Q (.bool b) s → wpAny (model prog w) A (richCompare op y x) Q E s
def lexFrom (e r : Nat → Bool) (fin : Bool) : Nat → Nat → Bool
  | 0, _ => fin
  | k + 1, i => if e i then lexFrom e r fin k (i + 1) else r i

theorem lt_loopAt (l b : Addr) (items items2 : Array Value) (n n2 : Nat) (dd dd2 : Option Addr) (sl sl2 : Array (Option Value)) (e r : Nat → Bool) (k : Nat) :
    ∀ i : Nat, min items.size items2.size - i = k → Meets (Builtin.«list.__eq__.loop» ⟨[.ref l, .ref b, rawInt i, rawInt 0], []⟩)
      (fun A R s => s.heap.get? l = some { cls := .type "list", dict := dd, data := .seq items n, slots := sl } ∧ s.heap.get? b = some { cls := .type "list", dict := dd2, data := .seq items2 n2, slots := sl2 } ∧
        (∀ j (h1 : j < items.size) (h2 : j < items2.size), EqAt A.in1 s items[j] items2[j] (e j)) ∧ (∀ j (h1 : j < items.size) (h2 : j < items2.size), (∀ j', j' < j → e j' = true) → e j = false → RcOp .Lt A.in1 s items[j] items2[j] (r j)) ∧ (∀ j', j' < i → e j' = true) ∧
        R (.ok (.ret (.bool (lexFrom e r (decide (items.size < items2.size)) k i)))) s) := by
  induction k with
  | zero =>
    intro i hk prog w A R s h
    obtain ⟨hp, g, d, tk, os⟩ := s; obtain ⟨hl, hb, he, hr, hpre, h⟩ := h
    wp_walk using wpAny_loadPart' hl, wpAny_loadPart' hb
    by_cases h1 : i < items.size
    · have h2 : ¬ i < items2.size := by omega
      have hi1 : items[((i : Nat) : Int).toNat]? = some items[i] := by simp [h1]
      have hi2 : items2[((i : Nat) : Int).toNat]? = none := by simp; omega
      rw [hi1, hi2]
      wp_walk using wpAny_loadPart' hl, wpAny_loadPart' hb
      exact h
    · have hi1 : items[((i : Nat) : Int).toNat]? = none := by simp; omega
      rw [hi1]
      wp_walk using wpAny_loadPart' hl, wpAny_loadPart' hb
      exact h
  | succ k ih =>
    intro i hk prog w A R s h
    obtain ⟨hp, g, d, tk, os⟩ := s; obtain ⟨hl, hb, he, hr, hpre, h⟩ := h
    wp_walk using wpAny_loadPart' hl, wpAny_loadPart' hb
    have hlt : i < items.size := by omega
    have hlt2 : i < items2.size := by omega
    have hi1 : items[((i : Nat) : Int).toNat]? = some items[i] := by simp [hlt]
    have hi2 : items2[((i : Nat) : Int).toNat]? = some items2[i] := by simp [hlt2]
    have hc : ((i : Int) + 1) = ((i + 1 : Nat) : Int) := by push_cast; rfl
    rw [hi1, hi2]
    refine wpAny_bind (he i hlt hlt2 prog w _ _ ?_)
    cases hb' : e i with
    | true =>
      have h' : R (.ok (.ret (.bool (lexFrom e r (decide (items.size < items2.size)) k (i + 1))))) ⟨hp, g, d, tk, os⟩ := by
        unfold lexFrom at h
        rw [hb', if_pos rfl] at h
        exact h
      wp_walk
      rw [hc]
      exact ⟨plainId_quiet plain_eq_loop _, codeAny_builtin entry_eq_loop (by
        rw [Around.under_plainId plain_eq_loop _]
        exact ih (i + 1) (by omega) prog w A R _ ⟨hl, hb, he, hr, fun j' hj' => (Nat.lt_or_eq_of_le (Nat.le_of_lt_succ hj')).elim (hpre j') (fun q => q ▸ hb'), h'⟩)⟩
    | false =>
      have h' : R (.ok (.ret (.bool (r i)))) ⟨hp, g, d, tk, os⟩ := by
        unfold lexFrom at h
        rw [hb', if_neg Bool.false_ne_true] at h
        exact h
      wp_walk using wpAny_loadPart' hl, wpAny_loadPart' hb
      rw [hi1, hi2]
      refine wpAny_bind (hr i hlt hlt2 hpre hb' prog w _ _ ?_)
      exact wpAny_pure h'

theorem list_ltAt (l b : Addr) (items items2 : Array Value) (n n2 : Nat) (dd dd2 : Option Addr) (sl sl2 : Array (Option Value)) (e r : Nat → Bool) :
    Meets (Builtin.«list.__lt__» ⟨[.ref l, .ref b], []⟩)
      (fun A R s => s.heap.get? l = some { cls := .type "list", dict := dd, data := .seq items n, slots := sl } ∧ s.heap.get? b = some { cls := .type "list", dict := dd2, data := .seq items2 n2, slots := sl2 } ∧
        (∀ j (h1 : j < items.size) (h2 : j < items2.size), EqAt A.in1 s items[j] items2[j] (e j)) ∧ (∀ j (h1 : j < items.size) (h2 : j < items2.size), (∀ j', j' < j → e j' = true) → e j = false → RcOp .Lt A.in1 s items[j] items2[j] (r j)) ∧
        R (.ok (.ret (.bool (lexFrom e r (decide (items.size < items2.size)) (min items.size items2.size) 0)))) s) := by
  intro prog w A R s h
  obtain ⟨hp, g, d, tk, os⟩ := s; obtain ⟨hl, hb, he, hr, h⟩ := h
  have f3 := AutoSeq1.sub_list_list
  wp_walk using wpAny_loadPart' hl, wpAny_loadPart' hb
  exact ⟨plainId_quiet plain_eq_loop _, codeAny_builtin entry_eq_loop (by
    rw [Around.under_plainId plain_eq_loop _]
    exact lt_loopAt l b items items2 n n2 dd dd2 sl sl2 e r _ 0 rfl prog w A R _ ⟨hl, hb, he, hr, (fun j' hj' => absurd hj' (Nat.not_lt_zero _)), by simpa using h⟩)⟩

theorem lt_listAt {prog : Program} {w : World} {A : Around} {E : Value → Shared → Prop} {s : Shared} {l b : Addr} {items items2 : Array Value} {Q : Value → Shared → Prop} (e r : Nat → Bool) (hl : s.heap.IsList l items) (hb : s.heap.IsList b items2) (hu : A.units < cLine)
    (he : ∀ j (h1 : j < items.size) (h2 : j < items2.size), EqAt A.in1 s items[j] items2[j] (e j)) (hr : ∀ j (h1 : j < items.size) (h2 : j < items2.size), (∀ j', j' < j → e j' = true) → e j = false → RcOp .Lt A.in1 s items[j] items2[j] (r j))
    (h : Q (.bool (lexFrom e r (decide (items.size < items2.size)) (min items.size items2.size) 0)) s) : wpAny (model prog w) A (compareOp .Lt (.ref l) (.ref b)) Q E s := by
  obtain ⟨⟨cls, dd, data, sl⟩, ho, hc, n, hd⟩ := id hl
  obtain ⟨⟨cls2, dd2, data2, sl2⟩, ho2, hc2, n2, hd2⟩ := id hb
  simp only at hc hd hc2 hd2
  subst hc hd hc2 hd2
  exact richCompare_meets_room (op := .Lt) ⟨_, ho, rfl⟩ ⟨_, ho2, rfl⟩ F.slot_list_lt F.entry_list_lt (F.args_list_lt_2 _ _) (list_ltAt l b items items2 n n2 dd dd2 sl sl2 e r)
    ⟨ho, ho2, he, hr, show Value.bool _ ≠ Value.notImplemented ∧ Q (.bool _) s from ⟨(fun x => nomatch x), h⟩⟩ hu

theorem le_loopAt (l b : Addr) (items items2 : Array Value) (n n2 : Nat) (dd dd2 : Option Addr) (sl sl2 : Array (Option Value)) (e r : Nat → Bool) (k : Nat) :
    ∀ i : Nat, min items.size items2.size - i = k → Meets (Builtin.«list.__eq__.loop» ⟨[.ref l, .ref b, rawInt i, rawInt 1], []⟩)
      (fun A R s => s.heap.get? l = some { cls := .type "list", dict := dd, data := .seq items n, slots := sl } ∧ s.heap.get? b = some { cls := .type "list", dict := dd2, data := .seq items2 n2, slots := sl2 } ∧
        (∀ j (h1 : j < items.size) (h2 : j < items2.size), EqAt A.in1 s items[j] items2[j] (e j)) ∧ (∀ j (h1 : j < items.size) (h2 : j < items2.size), (∀ j', j' < j → e j' = true) → e j = false → RcOp .LtE A.in1 s items[j] items2[j] (r j)) ∧ (∀ j', j' < i → e j' = true) ∧
        R (.ok (.ret (.bool (lexFrom e r (decide (items.size ≤ items2.size)) k i)))) s) := by
  induction k with
  | zero =>
    intro i hk prog w A R s h
    obtain ⟨hp, g, d, tk, os⟩ := s; obtain ⟨hl, hb, he, hr, hpre, h⟩ := h
    wp_walk using wpAny_loadPart' hl, wpAny_loadPart' hb
    by_cases h1 : i < items.size
    · have h2 : ¬ i < items2.size := by omega
      have hi1 : items[((i : Nat) : Int).toNat]? = some items[i] := by simp [h1]
      have hi2 : items2[((i : Nat) : Int).toNat]? = none := by simp; omega
      rw [hi1, hi2]
      wp_walk using wpAny_loadPart' hl, wpAny_loadPart' hb
      exact h
    · have hi1 : items[((i : Nat) : Int).toNat]? = none := by simp; omega
      rw [hi1]
      wp_walk using wpAny_loadPart' hl, wpAny_loadPart' hb
      exact h
  | succ k ih =>
    intro i hk prog w A R s h
    obtain ⟨hp, g, d, tk, os⟩ := s; obtain ⟨hl, hb, he, hr, hpre, h⟩ := h
    wp_walk using wpAny_loadPart' hl, wpAny_loadPart' hb
    have hlt : i < items.size := by omega
    have hlt2 : i < items2.size := by omega
    have hi1 : items[((i : Nat) : Int).toNat]? = some items[i] := by simp [hlt]
    have hi2 : items2[((i : Nat) : Int).toNat]? = some items2[i] := by simp [hlt2]
    have hc : ((i : Int) + 1) = ((i + 1 : Nat) : Int) := by push_cast; rfl
    rw [hi1, hi2]
    refine wpAny_bind (he i hlt hlt2 prog w _ _ ?_)
    cases hb' : e i with
    | true =>
      have h' : R (.ok (.ret (.bool (lexFrom e r (decide (items.size ≤ items2.size)) k (i + 1))))) ⟨hp, g, d, tk, os⟩ := by
        unfold lexFrom at h
        rw [hb', if_pos rfl] at h
        exact h
      wp_walk
      rw [hc]
      exact ⟨plainId_quiet plain_eq_loop _, codeAny_builtin entry_eq_loop (by
        rw [Around.under_plainId plain_eq_loop _]
        exact ih (i + 1) (by omega) prog w A R _ ⟨hl, hb, he, hr, fun j' hj' => (Nat.lt_or_eq_of_le (Nat.le_of_lt_succ hj')).elim (hpre j') (fun q => q ▸ hb'), h'⟩)⟩
    | false =>
      have h' : R (.ok (.ret (.bool (r i)))) ⟨hp, g, d, tk, os⟩ := by
        unfold lexFrom at h
        rw [hb', if_neg Bool.false_ne_true] at h
        exact h
      wp_walk using wpAny_loadPart' hl, wpAny_loadPart' hb
      rw [hi1, hi2]
      refine wpAny_bind (hr i hlt hlt2 hpre hb' prog w _ _ ?_)
      exact wpAny_pure h'

theorem list_leAt (l b : Addr) (items items2 : Array Value) (n n2 : Nat) (dd dd2 : Option Addr) (sl sl2 : Array (Option Value)) (e r : Nat → Bool) :
    Meets (Builtin.«list.__le__» ⟨[.ref l, .ref b], []⟩)
      (fun A R s => s.heap.get? l = some { cls := .type "list", dict := dd, data := .seq items n, slots := sl } ∧ s.heap.get? b = some { cls := .type "list", dict := dd2, data := .seq items2 n2, slots := sl2 } ∧
        (∀ j (h1 : j < items.size) (h2 : j < items2.size), EqAt A.in1 s items[j] items2[j] (e j)) ∧ (∀ j (h1 : j < items.size) (h2 : j < items2.size), (∀ j', j' < j → e j' = true) → e j = false → RcOp .LtE A.in1 s items[j] items2[j] (r j)) ∧
        R (.ok (.ret (.bool (lexFrom e r (decide (items.size ≤ items2.size)) (min items.size items2.size) 0)))) s) := by
  intro prog w A R s h
  obtain ⟨hp, g, d, tk, os⟩ := s; obtain ⟨hl, hb, he, hr, h⟩ := h
  have f3 := AutoSeq1.sub_list_list
  wp_walk using wpAny_loadPart' hl, wpAny_loadPart' hb
  exact ⟨plainId_quiet plain_eq_loop _, codeAny_builtin entry_eq_loop (by
    rw [Around.under_plainId plain_eq_loop _]
    exact le_loopAt l b items items2 n n2 dd dd2 sl sl2 e r _ 0 rfl prog w A R _ ⟨hl, hb, he, hr, (fun j' hj' => absurd hj' (Nat.not_lt_zero _)), by simpa using h⟩)⟩

theorem le_listAt {prog : Program} {w : World} {A : Around} {E : Value → Shared → Prop} {s : Shared} {l b : Addr} {items items2 : Array Value} {Q : Value → Shared → Prop} (e r : Nat → Bool) (hl : s.heap.IsList l items) (hb : s.heap.IsList b items2) (hu : A.units < cLine)
    (he : ∀ j (h1 : j < items.size) (h2 : j < items2.size), EqAt A.in1 s items[j] items2[j] (e j)) (hr : ∀ j (h1 : j < items.size) (h2 : j < items2.size), (∀ j', j' < j → e j' = true) → e j = false → RcOp .LtE A.in1 s items[j] items2[j] (r j))
    (h : Q (.bool (lexFrom e r (decide (items.size ≤ items2.size)) (min items.size items2.size) 0)) s) : wpAny (model prog w) A (compareOp .LtE (.ref l) (.ref b)) Q E s := by
  obtain ⟨⟨cls, dd, data, sl⟩, ho, hc, n, hd⟩ := id hl
  obtain ⟨⟨cls2, dd2, data2, sl2⟩, ho2, hc2, n2, hd2⟩ := id hb
  simp only at hc hd hc2 hd2
  subst hc hd hc2 hd2
  exact richCompare_meets_room (op := .LtE) ⟨_, ho, rfl⟩ ⟨_, ho2, rfl⟩ F.slot_list_le F.entry_list_le (F.args_list_le_2 _ _) (list_leAt l b items items2 n n2 dd dd2 sl sl2 e r)
    ⟨ho, ho2, he, hr, show Value.bool _ ≠ Value.notImplemented ∧ Q (.bool _) s from ⟨(fun x => nomatch x), h⟩⟩ hu

theorem gt_loopAt (l b : Addr) (items items2 : Array Value) (n n2 : Nat) (dd dd2 : Option Addr) (sl sl2 : Array (Option Value)) (e r : Nat → Bool) (k : Nat) :
    ∀ i : Nat, min items.size items2.size - i = k → Meets (Builtin.«list.__eq__.loop» ⟨[.ref l, .ref b, rawInt i, rawInt 4], []⟩)
      (fun A R s => s.heap.get? l = some { cls := .type "list", dict := dd, data := .seq items n, slots := sl } ∧ s.heap.get? b = some { cls := .type "list", dict := dd2, data := .seq items2 n2, slots := sl2 } ∧
        (∀ j (h1 : j < items.size) (h2 : j < items2.size), EqAt A.in1 s items[j] items2[j] (e j)) ∧ (∀ j (h1 : j < items.size) (h2 : j < items2.size), (∀ j', j' < j → e j' = true) → e j = false → RcOp .Gt A.in1 s items[j] items2[j] (r j)) ∧ (∀ j', j' < i → e j' = true) ∧
        R (.ok (.ret (.bool (lexFrom e r (decide (items.size > items2.size)) k i)))) s) := by
  induction k with
  | zero =>
    intro i hk prog w A R s h
    obtain ⟨hp, g, d, tk, os⟩ := s; obtain ⟨hl, hb, he, hr, hpre, h⟩ := h
    wp_walk using wpAny_loadPart' hl, wpAny_loadPart' hb
    by_cases h1 : i < items.size
    · have h2 : ¬ i < items2.size := by omega
      have hi1 : items[((i : Nat) : Int).toNat]? = some items[i] := by simp [h1]
      have hi2 : items2[((i : Nat) : Int).toNat]? = none := by simp; omega
      rw [hi1, hi2]
      wp_walk using wpAny_loadPart' hl, wpAny_loadPart' hb
      exact h
    · have hi1 : items[((i : Nat) : Int).toNat]? = none := by simp; omega
      rw [hi1]
      wp_walk using wpAny_loadPart' hl, wpAny_loadPart' hb
      exact h
  | succ k ih =>
    intro i hk prog w A R s h
    obtain ⟨hp, g, d, tk, os⟩ := s; obtain ⟨hl, hb, he, hr, hpre, h⟩ := h
    wp_walk using wpAny_loadPart' hl, wpAny_loadPart' hb
    have hlt : i < items.size := by omega
    have hlt2 : i < items2.size := by omega
    have hi1 : items[((i : Nat) : Int).toNat]? = some items[i] := by simp [hlt]
    have hi2 : items2[((i : Nat) : Int).toNat]? = some items2[i] := by simp [hlt2]
    have hc : ((i : Int) + 1) = ((i + 1 : Nat) : Int) := by push_cast; rfl
    rw [hi1, hi2]
    refine wpAny_bind (he i hlt hlt2 prog w _ _ ?_)
    cases hb' : e i with
    | true =>
      have h' : R (.ok (.ret (.bool (lexFrom e r (decide (items.size > items2.size)) k (i + 1))))) ⟨hp, g, d, tk, os⟩ := by
        unfold lexFrom at h
        rw [hb', if_pos rfl] at h
        exact h
      wp_walk
      rw [hc]
      exact ⟨plainId_quiet plain_eq_loop _, codeAny_builtin entry_eq_loop (by
        rw [Around.under_plainId plain_eq_loop _]
        exact ih (i + 1) (by omega) prog w A R _ ⟨hl, hb, he, hr, fun j' hj' => (Nat.lt_or_eq_of_le (Nat.le_of_lt_succ hj')).elim (hpre j') (fun q => q ▸ hb'), h'⟩)⟩
    | false =>
      have h' : R (.ok (.ret (.bool (r i)))) ⟨hp, g, d, tk, os⟩ := by
        unfold lexFrom at h
        rw [hb', if_neg Bool.false_ne_true] at h
        exact h
      wp_walk using wpAny_loadPart' hl, wpAny_loadPart' hb
      rw [hi1, hi2]
      refine wpAny_bind (hr i hlt hlt2 hpre hb' prog w _ _ ?_)
      exact wpAny_pure h'

theorem list_gtAt (l b : Addr) (items items2 : Array Value) (n n2 : Nat) (dd dd2 : Option Addr) (sl sl2 : Array (Option Value)) (e r : Nat → Bool) :
    Meets (Builtin.«list.__gt__» ⟨[.ref l, .ref b], []⟩)
      (fun A R s => s.heap.get? l = some { cls := .type "list", dict := dd, data := .seq items n, slots := sl } ∧ s.heap.get? b = some { cls := .type "list", dict := dd2, data := .seq items2 n2, slots := sl2 } ∧
        (∀ j (h1 : j < items.size) (h2 : j < items2.size), EqAt A.in1 s items[j] items2[j] (e j)) ∧ (∀ j (h1 : j < items.size) (h2 : j < items2.size), (∀ j', j' < j → e j' = true) → e j = false → RcOp .Gt A.in1 s items[j] items2[j] (r j)) ∧
        R (.ok (.ret (.bool (lexFrom e r (decide (items.size > items2.size)) (min items.size items2.size) 0)))) s) := by
  intro prog w A R s h
  obtain ⟨hp, g, d, tk, os⟩ := s; obtain ⟨hl, hb, he, hr, h⟩ := h
  have f3 := AutoSeq1.sub_list_list
  wp_walk using wpAny_loadPart' hl, wpAny_loadPart' hb
  exact ⟨plainId_quiet plain_eq_loop _, codeAny_builtin entry_eq_loop (by
    rw [Around.under_plainId plain_eq_loop _]
    exact gt_loopAt l b items items2 n n2 dd dd2 sl sl2 e r _ 0 rfl prog w A R _ ⟨hl, hb, he, hr, (fun j' hj' => absurd hj' (Nat.not_lt_zero _)), by simpa using h⟩)⟩

theorem gt_listAt {prog : Program} {w : World} {A : Around} {E : Value → Shared → Prop} {s : Shared} {l b : Addr} {items items2 : Array Value} {Q : Value → Shared → Prop} (e r : Nat → Bool) (hl : s.heap.IsList l items) (hb : s.heap.IsList b items2) (hu : A.units < cLine)
    (he : ∀ j (h1 : j < items.size) (h2 : j < items2.size), EqAt A.in1 s items[j] items2[j] (e j)) (hr : ∀ j (h1 : j < items.size) (h2 : j < items2.size), (∀ j', j' < j → e j' = true) → e j = false → RcOp .Gt A.in1 s items[j] items2[j] (r j))
    (h : Q (.bool (lexFrom e r (decide (items.size > items2.size)) (min items.size items2.size) 0)) s) : wpAny (model prog w) A (compareOp .Gt (.ref l) (.ref b)) Q E s := by
  obtain ⟨⟨cls, dd, data, sl⟩, ho, hc, n, hd⟩ := id hl
  obtain ⟨⟨cls2, dd2, data2, sl2⟩, ho2, hc2, n2, hd2⟩ := id hb
  simp only at hc hd hc2 hd2
  subst hc hd hc2 hd2
  exact richCompare_meets_room (op := .Gt) ⟨_, ho, rfl⟩ ⟨_, ho2, rfl⟩ F.slot_list_gt F.entry_list_gt (F.args_list_gt_2 _ _) (list_gtAt l b items items2 n n2 dd dd2 sl sl2 e r)
    ⟨ho, ho2, he, hr, show Value.bool _ ≠ Value.notImplemented ∧ Q (.bool _) s from ⟨(fun x => nomatch x), h⟩⟩ hu

theorem ge_loopAt (l b : Addr) (items items2 : Array Value) (n n2 : Nat) (dd dd2 : Option Addr) (sl sl2 : Array (Option Value)) (e r : Nat → Bool) (k : Nat) :
    ∀ i : Nat, min items.size items2.size - i = k → Meets (Builtin.«list.__eq__.loop» ⟨[.ref l, .ref b, rawInt i, rawInt 5], []⟩)
      (fun A R s => s.heap.get? l = some { cls := .type "list", dict := dd, data := .seq items n, slots := sl } ∧ s.heap.get? b = some { cls := .type "list", dict := dd2, data := .seq items2 n2, slots := sl2 } ∧
        (∀ j (h1 : j < items.size) (h2 : j < items2.size), EqAt A.in1 s items[j] items2[j] (e j)) ∧ (∀ j (h1 : j < items.size) (h2 : j < items2.size), (∀ j', j' < j → e j' = true) → e j = false → RcOp .GtE A.in1 s items[j] items2[j] (r j)) ∧ (∀ j', j' < i → e j' = true) ∧
        R (.ok (.ret (.bool (lexFrom e r (decide (items.size ≥ items2.size)) k i)))) s) := by
  induction k with
  | zero =>
    intro i hk prog w A R s h
    obtain ⟨hp, g, d, tk, os⟩ := s; obtain ⟨hl, hb, he, hr, hpre, h⟩ := h
    wp_walk using wpAny_loadPart' hl, wpAny_loadPart' hb
    by_cases h1 : i < items.size
    · have h2 : ¬ i < items2.size := by omega
      have hi1 : items[((i : Nat) : Int).toNat]? = some items[i] := by simp [h1]
      have hi2 : items2[((i : Nat) : Int).toNat]? = none := by simp; omega
      rw [hi1, hi2]
      wp_walk using wpAny_loadPart' hl, wpAny_loadPart' hb
      exact h
    · have hi1 : items[((i : Nat) : Int).toNat]? = none := by simp; omega
      rw [hi1]
      wp_walk using wpAny_loadPart' hl, wpAny_loadPart' hb
      exact h
  | succ k ih =>
    intro i hk prog w A R s h
    obtain ⟨hp, g, d, tk, os⟩ := s; obtain ⟨hl, hb, he, hr, hpre, h⟩ := h
    wp_walk using wpAny_loadPart' hl, wpAny_loadPart' hb
    have hlt : i < items.size := by omega
    have hlt2 : i < items2.size := by omega
    have hi1 : items[((i : Nat) : Int).toNat]? = some items[i] := by simp [hlt]
    have hi2 : items2[((i : Nat) : Int).toNat]? = some items2[i] := by simp [hlt2]
    have hc : ((i : Int) + 1) = ((i + 1 : Nat) : Int) := by push_cast; rfl
    rw [hi1, hi2]
    refine wpAny_bind (he i hlt hlt2 prog w _ _ ?_)
    cases hb' : e i with
    | true =>
      have h' : R (.ok (.ret (.bool (lexFrom e r (decide (items.size ≥ items2.size)) k (i + 1))))) ⟨hp, g, d, tk, os⟩ := by
        unfold lexFrom at h
        rw [hb', if_pos rfl] at h
        exact h
      wp_walk
      rw [hc]
      exact ⟨plainId_quiet plain_eq_loop _, codeAny_builtin entry_eq_loop (by
        rw [Around.under_plainId plain_eq_loop _]
        exact ih (i + 1) (by omega) prog w A R _ ⟨hl, hb, he, hr, fun j' hj' => (Nat.lt_or_eq_of_le (Nat.le_of_lt_succ hj')).elim (hpre j') (fun q => q ▸ hb'), h'⟩)⟩
    | false =>
      have h' : R (.ok (.ret (.bool (r i)))) ⟨hp, g, d, tk, os⟩ := by
        unfold lexFrom at h
        rw [hb', if_neg Bool.false_ne_true] at h
        exact h
      wp_walk using wpAny_loadPart' hl, wpAny_loadPart' hb
      rw [hi1, hi2]
      refine wpAny_bind (hr i hlt hlt2 hpre hb' prog w _ _ ?_)
      exact wpAny_pure h'

theorem list_geAt (l b : Addr) (items items2 : Array Value) (n n2 : Nat) (dd dd2 : Option Addr) (sl sl2 : Array (Option Value)) (e r : Nat → Bool) :
    Meets (Builtin.«list.__ge__» ⟨[.ref l, .ref b], []⟩)
      (fun A R s => s.heap.get? l = some { cls := .type "list", dict := dd, data := .seq items n, slots := sl } ∧ s.heap.get? b = some { cls := .type "list", dict := dd2, data := .seq items2 n2, slots := sl2 } ∧
        (∀ j (h1 : j < items.size) (h2 : j < items2.size), EqAt A.in1 s items[j] items2[j] (e j)) ∧ (∀ j (h1 : j < items.size) (h2 : j < items2.size), (∀ j', j' < j → e j' = true) → e j = false → RcOp .GtE A.in1 s items[j] items2[j] (r j)) ∧
        R (.ok (.ret (.bool (lexFrom e r (decide (items.size ≥ items2.size)) (min items.size items2.size) 0)))) s) := by
  intro prog w A R s h
  obtain ⟨hp, g, d, tk, os⟩ := s; obtain ⟨hl, hb, he, hr, h⟩ := h
  have f3 := AutoSeq1.sub_list_list
  wp_walk using wpAny_loadPart' hl, wpAny_loadPart' hb
  exact ⟨plainId_quiet plain_eq_loop _, codeAny_builtin entry_eq_loop (by
    rw [Around.under_plainId plain_eq_loop _]
    exact ge_loopAt l b items items2 n n2 dd dd2 sl sl2 e r _ 0 rfl prog w A R _ ⟨hl, hb, he, hr, (fun j' hj' => absurd hj' (Nat.not_lt_zero _)), by simpa using h⟩)⟩

theorem ge_listAt {prog : Program} {w : World} {A : Around} {E : Value → Shared → Prop} {s : Shared} {l b : Addr} {items items2 : Array Value} {Q : Value → Shared → Prop} (e r : Nat → Bool) (hl : s.heap.IsList l items) (hb : s.heap.IsList b items2) (hu : A.units < cLine)
    (he : ∀ j (h1 : j < items.size) (h2 : j < items2.size), EqAt A.in1 s items[j] items2[j] (e j)) (hr : ∀ j (h1 : j < items.size) (h2 : j < items2.size), (∀ j', j' < j → e j' = true) → e j = false → RcOp .GtE A.in1 s items[j] items2[j] (r j))
    (h : Q (.bool (lexFrom e r (decide (items.size ≥ items2.size)) (min items.size items2.size) 0)) s) : wpAny (model prog w) A (compareOp .GtE (.ref l) (.ref b)) Q E s := by
  obtain ⟨⟨cls, dd, data, sl⟩, ho, hc, n, hd⟩ := id hl
  obtain ⟨⟨cls2, dd2, data2, sl2⟩, ho2, hc2, n2, hd2⟩ := id hb
  simp only at hc hd hc2 hd2
  subst hc hd hc2 hd2
  exact richCompare_meets_room (op := .GtE) ⟨_, ho, rfl⟩ ⟨_, ho2, rfl⟩ F.slot_list_ge F.entry_list_ge (F.args_list_ge_2 _ _) (list_geAt l b items items2 n n2 dd dd2 sl sl2 e r)
    ⟨ho, ho2, he, hr, show Value.bool _ ≠ Value.notImplemented ∧ Q (.bool _) s from ⟨(fun x => nomatch x), h⟩⟩ hu
end Mine
end
theorem Mine.freshQ0 : True := by
  w_top off
  trivial
section
-- text Q0
open PySem PySem.W PyProof.Rows
set_option Elab.async false
set_option linter.unusedVariables false
set_option maxRecDepth 100000
namespace Mine
def stageW : Nat → Nat
  | 5 => 10 | 6 => 20 | 7 => 20 | 8 => 30 | 9 => 30 | 10 => 40 | 11 => 50 | 12 => 50 | 13 => 200 | 14 => 200 | _ => 0
def Part.stage : Part → Nat
  | .w i => stageW i
  | .n _ => 100
def partsOf (v : Ver) : List Part := v.map (·.1)
def codesOf (v : Ver) : List Nat := v.map fun q => q.1.code
def keyL : List Part → List Dat
  | [] => []
  | p :: r => .int (p.stage : Int) :: p.dat :: keyL r
inductive Cop | lt | le | gt | ge
def Cop.z : Cop → Int → Int → Bool
  | .lt, a, b => decide (a < b)
  | .le, a, b => decide (a ≤ b)
  | .gt, a, b => decide (a > b)
  | .ge, a, b => decide (a ≥ b)
def Cop.n : Cop → Nat → Nat → Bool
  | .lt, a, b => decide (a < b)
  | .le, a, b => decide (a ≤ b)
  | .gt, a, b => decide (a > b)
  | .ge, a, b => decide (a ≥ b)
def Cop.s : Cop → Str → Str → Bool
  | .lt, a, b => decide (a.cps.toList < b.cps.toList)
  | .le, a, b => !(decide (b.cps.toList < a.cps.toList))
  | .gt, a, b => decide (b.cps.toList < a.cps.toList)
  | .ge, a, b => !(decide (a.cps.toList < b.cps.toList))
def leafEq : Dat → Dat → Bool
  | .int a, .int b => a == b
  | .str a, .str b => a == b
  | _, _ => false
def leafCmp (op : Cop) : Dat → Dat → Bool
  | .int a, .int b => op.z a b
  | .str a, .str b => op.s a b
  | _, _ => false
def lexF (op : Cop) (fin : Bool) : List Dat → List Dat → Bool
  | d :: ds, e :: es => if leafEq d e then lexF op fin ds es else leafCmp op d e
  | _, _ => fin
def eAt (ds es : List Dat) (j : Nat) : Bool := leafEq (ds.getD j .none) (es.getD j .none)
def rAt (op : Cop) (ds es : List Dat) (j : Nat) : Bool := leafCmp op (ds.getD j .none) (es.getD j .none)
theorem lexFrom_eq (op : Cop) (fin : Bool) : ∀ (ds es : List Dat) (e r : Nat → Bool) (i : Nat), (∀ j, e (i + j) = eAt ds es j) → (∀ j, r (i + j) = rAt op ds es j) → lexFrom e r fin (min ds.length es.length) i = lexF op fin ds es
  | [], es, e, r, i, he, hr => by simp [lexFrom, lexF]
  | d :: ds, [], e, r, i, he, hr => by simp [lexFrom, lexF]
  | d :: ds, c :: es, e, r, i, he, hr => by
    have e0 := he 0
    have r0 := hr 0
    have ih := lexFrom_eq op fin ds es e r (i + 1) (fun j => by have := he (j + 1); rw [Nat.add_assoc, Nat.add_comm 1 j]; exact this) (fun j => by have := hr (j + 1); rw [Nat.add_assoc, Nat.add_comm 1 j]; exact this)
    rw [Nat.add_zero] at e0 r0
    have hm : min (d :: ds).length (c :: es).length = min ds.length es.length + 1 := by simp only [List.length_cons]; omega
    rw [hm]
    unfold lexFrom lexF
    rw [e0, r0, ih]
    rfl

def valN : Nat → List Nat → Nat
  | 0, _ => 0
  | _ + 1, [] => 0
  | k + 1, c :: r => c * 1048576 ^ k + valN k r
theorem val_lt : ∀ (k : Nat) (r : List Nat), (∀ c ∈ r, c < 1048576) → valN k r < 1048576 ^ k
  | 0, r, _ => by simp [valN]
  | k + 1, [], _ => by simp only [valN]; exact Nat.pow_pos (by decide)
  | k + 1, c :: r, h => by
    have h1 := h c List.mem_cons_self
    have h2 := val_lt k r fun c hc => h c (List.mem_cons_of_mem _ hc)
    have h3 : c * 1048576 ^ k + 1048576 ^ k ≤ 1048576 ^ (k + 1) := by
      rw [Nat.pow_succ, Nat.mul_comm (1048576 ^ k), ← Nat.succ_mul]
      exact Nat.mul_le_mul_right _ h1
    simp only [valN]
    omega
theorem fold_val : ∀ (r : List Nat) (z : Nat), r.foldl (fun n c => n * 1048576 + c) z = z * 1048576 ^ r.length + valN r.length r
  | [], z => by simp [valN]
  | c :: r, z => by
    rw [List.foldl_cons, fold_val r, List.length_cons, valN, Nat.add_mul, Nat.mul_assoc, Nat.pow_succ, Nat.mul_comm 1048576 (1048576 ^ r.length), Nat.add_assoc]
theorem val_zeros : ∀ (k : Nat) (r : List Nat), (∀ c ∈ r, c = 0) → valN k r = 0
  | 0, _, _ => rfl
  | _ + 1, [], _ => rfl
  | k + 1, c :: r, h => by
    rw [valN, h c List.mem_cons_self, val_zeros k r fun c hc => h c (List.mem_cons_of_mem _ hc), Nat.zero_mul]
theorem val_pad : ∀ (k : Nat) (r z : List Nat), (∀ c ∈ z, c = 0) → valN k (r ++ z) = valN k r
  | 0, _, _, _ => rfl
  | k + 1, [], z, h => val_zeros (k + 1) z h
  | k + 1, c :: r, z, h => by rw [List.cons_append, valN, valN, val_pad k r z h]
theorem val_take : ∀ (k : Nat) (r : List Nat), valN k (r.take k) = valN k r
  | 0, _ => rfl
  | _ + 1, [] => rfl
  | k + 1, c :: r => by rw [List.take_succ_cons, valN, valN, val_take k r]
theorem told_val (r : List Nat) (h : r.length ≤ 4) : toldN ((r ++ [0, 0, 0, 0]).take 4) = valN 4 r := by
  unfold toldN
  rw [fold_val, Nat.zero_mul, Nat.zero_add]
  have hl : ((r ++ [0, 0, 0, 0]).take 4).length = 4 := by simp
  rw [hl, val_take, val_pad 4 r _ (by decide)]
theorem Cop.n_shift (op : Cop) (x a b : Nat) : op.n (x + a) (x + b) = op.n a b := by cases op <;> simp [Cop.n]
theorem Cop.n_apart (op : Cop) {B c d a b : Nat} (hB : 0 < B) (ha : a < B) (hb : b < B) (h : c ≠ d) : op.n (c * B + a) (d * B + b) = op.n c d := by
  rcases Nat.lt_or_gt_of_ne h with h | h
  · have h1 : c * B + a < d * B + b := by
      have : (c + 1) * B ≤ d * B := Nat.mul_le_mul_right _ h
      rw [Nat.succ_mul] at this
      omega
    cases op <;> simp [Cop.n] <;> omega
  · have h1 : d * B + b < c * B + a := by
      have : (d + 1) * B ≤ c * B := Nat.mul_le_mul_right _ h
      rw [Nat.succ_mul] at this
      omega
    cases op <;> simp [Cop.n] <;> omega

theorem code_pos {p : Part} (h : p.ok) : 0 < p.code ∧ p.code < 1048576 := by
  cases p with
  | w i => have : i < 15 := h; simp only [Part.code]; split <;> omega
  | n k => have : k < 1000000 := h; simp only [Part.code]; omega
def wwStage (op : Cop) : Bool := (List.range 15).all fun i => (List.range 15).all fun j => stageW i == stageW j || (op.z (stageW i) (stageW j) == op.n (Part.w i).code (Part.w j).code)
def wwWord (op : Cop) : Bool := (List.range 15).all fun i => (List.range 15).all fun j => stageW i != stageW j || i == j || (op.s (wordAt i) (wordAt j) == op.n (Part.w i).code (Part.w j).code)
theorem ww_stage {i j : Nat} (hi : i < 15) (hj : j < 15) (ne : stageW i ≠ stageW j) (op : Cop) : op.z (stageW i) (stageW j) = op.n (Part.w i).code (Part.w j).code := by
  have h : wwStage op = true := by cases op <;> decide +kernel
  have h1 := List.all_eq_true.mp (List.all_eq_true.mp h i (List.mem_range.mpr hi)) j (List.mem_range.mpr hj)
  rcases Bool.or_eq_true_iff.mp h1 with h2 | h2
  · exact absurd (beq_iff_eq.mp h2) ne
  · exact beq_iff_eq.mp h2
theorem ww_word {i j : Nat} (hi : i < 15) (hj : j < 15) (e : stageW i = stageW j) (ne : i ≠ j) (op : Cop) : op.s (wordAt i) (wordAt j) = op.n (Part.w i).code (Part.w j).code := by
  have h : wwWord op = true := by cases op <;> decide +kernel
  have h1 := List.all_eq_true.mp (List.all_eq_true.mp h i (List.mem_range.mpr hi)) j (List.mem_range.mpr hj)
  rcases Bool.or_eq_true_iff.mp h1 with h2 | h2
  · rcases Bool.or_eq_true_iff.mp h2 with h3 | h3
    · exact absurd e (bne_iff_ne.mp h3)
    · exact absurd (beq_iff_eq.mp h3) ne
  · exact beq_iff_eq.mp h2
theorem word_inj : ∀ i, i < 15 → ∀ j, j < 15 → wordAt i = wordAt j → i = j := by decide +kernel
theorem wn_stage : ∀ i, i < 15 → stageW i ≠ 100 ∧ (stageW i < 100 → i < 13) ∧ (100 < stageW i → 13 ≤ i) := by decide +kernel
theorem code_inj {p q : Part} (hp : p.ok) (hq : q.ok) (h : p.code = q.code) : p = q := by
  cases p with
  | w i =>
    have hi : i < 15 := hp
    cases q with
    | w j => have hj : j < 15 := hq; simp only [Part.code] at h; congr 1; split at h <;> split at h <;> omega
    | n k => have hk : k < 1000000 := hq; simp only [Part.code] at h; split at h <;> omega
  | n k =>
    have hk : k < 1000000 := hp
    cases q with
    | w j => have hj : j < 15 := hq; simp only [Part.code] at h; split at h <;> omega
    | n k' => simp only [Part.code] at h; congr 1; omega
theorem lexF_cons (op : Cop) (fin : Bool) (d e : Dat) (ds es : List Dat) : lexF op fin (d :: ds) (e :: es) = if leafEq d e then lexF op fin ds es else leafCmp op d e := by rw [lexF]
theorem dat_self (p : Part) : leafEq p.dat p.dat = true := by cases p <;> simp [Part.dat, leafEq]
/-- a part beside a part: the stage first, then the datum -/
theorem part_cmp (op : Cop) (fin : Bool) {p q : Part} (hp : p.ok) (hq : q.ok) (ds es : List Dat) :
    lexF op fin (.int (p.stage : Int) :: p.dat :: ds) (.int (q.stage : Int) :: q.dat :: es) = if p.code = q.code then lexF op fin ds es else op.n p.code q.code := by
  rw [lexF_cons, lexF_cons]
  have hz : leafEq (.int (p.stage : Int)) (.int (q.stage : Int)) = decide (p.stage = q.stage) := by
    simp only [leafEq]
    rw [Bool.eq_iff_iff, beq_iff_eq, decide_eq_true_iff]
    omega
  rw [hz]
  by_cases hs : p.stage = q.stage
  · rw [decide_eq_true hs, if_pos rfl]
    by_cases hc : p.code = q.code
    · have : p = q := code_inj hp hq hc
      subst this
      rw [if_pos rfl, if_pos (dat_self p)]
    · rw [if_neg hc]
      cases p with
      | w i =>
        cases q with
        | w j =>
          have hne : i ≠ j := fun e => hc (by rw [e])
          have hw : wordAt i ≠ wordAt j := fun e => hne (word_inj i hp j hq e)
          rw [if_neg (by simp [Part.dat, leafEq, hw])]
          exact ww_word hp hq hs hne op
        | n k => exact absurd hs (wn_stage i hp).1
      | n k =>
        cases q with
        | w j => exact absurd hs.symm (wn_stage j hq).1
        | n k' =>
          have hne : k ≠ k' := fun e => hc (by rw [e])
          rw [if_neg (by simp [Part.dat, leafEq]; omega)]
          simp only [Part.dat, leafCmp, Part.code]
          cases op <;> simp [Cop.z, Cop.n]
  · rw [decide_eq_false hs, if_neg Bool.false_ne_true]
    have hc : p.code ≠ q.code := fun h => hs (by rw [code_inj hp hq h])
    rw [if_neg hc]
    simp only [leafCmp]
    cases p with
    | w i =>
      cases q with
      | w j => exact ww_stage hp hq hs op
      | n k =>
        have hi : i < 15 := hp
        have hk : k < 1000000 := hq
        have := wn_stage i hp
        simp only [Part.stage, Part.code] at hs ⊢
        cases op <;> simp [Cop.z, Cop.n] <;> split <;> omega
    | n k =>
      cases q with
      | w j =>
        have hj : j < 15 := hq
        have hk : k < 1000000 := hp
        have := wn_stage j hq
        simp only [Part.stage, Part.code] at hs ⊢
        cases op <;> simp [Cop.z, Cop.n] <;> split <;> omega
      | n k' => exact absurd rfl hs
theorem key_cmp (op : Cop) : ∀ (k : Nat) (u v : List Part), u.length ≤ k → v.length ≤ k → (∀ p ∈ u, p.ok) → (∀ p ∈ v, p.ok) → lexF op (op.n u.length v.length) (keyL u) (keyL v) = op.n (valN k (u.map (·.code))) (valN k (v.map (·.code)))
  | k, [], [], _, _, _, _ => by cases k <;> cases op <;> simp [lexF, keyL, valN, Cop.n]
  | 0, [], q :: v, _, h, _, _ => by simp at h
  | k + 1, [], q :: v, _, h, _, hv => by
    have := (code_pos (hv q List.mem_cons_self)).1
    have h2 : 0 < q.code * 1048576 ^ k := Nat.mul_pos this (Nat.pow_pos (by decide))
    simp only [lexF, keyL, valN, List.map_cons, List.map_nil, List.length_cons, List.length_nil]
    cases op <;> simp [Cop.n] <;> omega
  | 0, p :: u, _, h, _, _, _ => by simp at h
  | k + 1, p :: u, [], h, _, hu, _ => by
    have := (code_pos (hu p List.mem_cons_self)).1
    have h2 : 0 < p.code * 1048576 ^ k := Nat.mul_pos this (Nat.pow_pos (by decide))
    simp only [lexF, keyL, valN, List.map_cons, List.map_nil, List.length_cons, List.length_nil]
    cases op <;> simp [Cop.n] <;> omega
  | k + 1, p :: u, q :: v, h1, h2, hu, hv => by
    have hp := hu p List.mem_cons_self
    have hq := hv q List.mem_cons_self
    have hu' : ∀ p ∈ u, p.ok := fun p hp => hu p (List.mem_cons_of_mem _ hp)
    have hv' : ∀ p ∈ v, p.ok := fun p hp => hv p (List.mem_cons_of_mem _ hp)
    have ih := key_cmp op k u v (by simpa using h1) (by simpa using h2) hu' hv'
    have e : op.n (p :: u).length (q :: v).length = op.n u.length v.length := by
      simp only [List.length_cons, Nat.add_comm _ 1]
      exact op.n_shift 1 _ _
    rw [e]
    simp only [keyL, List.map_cons, valN]
    rw [part_cmp op _ hp hq]
    have lu : valN k (u.map (·.code)) < 1048576 ^ k := val_lt k _ fun c hc => by obtain ⟨p, hp, rfl⟩ := List.mem_map.mp hc; exact (code_pos (hu' p hp)).2
    have lv : valN k (v.map (·.code)) < 1048576 ^ k := val_lt k _ fun c hc => by obtain ⟨p, hp, rfl⟩ := List.mem_map.mp hc; exact (code_pos (hv' p hp)).2
    by_cases hc : p.code = q.code
    · rw [if_pos hc, ih, hc, op.n_shift]
    · rw [if_neg hc, op.n_apart (Nat.pow_pos (by decide)) lu lv hc]
end Mine
end
theorem Mine.freshC1 : True := by
  w_top off
  trivial
section
-- text C1
open PySem PySem.W PyProof.Rows
set_option Elab.async false
set_option maxRecDepth 100000
set_option maxHeartbeats 8000000
set_option linter.unusedVariables false
namespace Mine

open PySem.SeqAt
def Cop.cmp : Cop → CmpOp
  | .lt => .Lt
  | .le => .LtE
  | .gt => .Gt
  | .ge => .GtE
section
variable {A : Around} {s : Shared}
theorem rc_int (op : Cop) (a b : Int) (t u : Tok) : RcOp op.cmp A s (.int a t) (.int b u) (op.z a b) := fun prog w E Q h => by
  cases op with
  | lt => exact P.lt_int h
  | le => exact P.le_int h
  | gt => exact P.gt_int h
  | ge => exact P.ge_int h
theorem rc_str (op : Cop) (a b : Str) (t u : Tok) : RcOp op.cmp A s (.str a t) (.str b u) (op.s a b) := fun prog w E Q h => by
  cases op with
  | lt => exact lt_str h
  | le => exact P.le_str h
  | gt => exact P.gt_str h
  | ge => exact P.ge_str h
end
theorem leaf_of : ∀ (u : List Part) (d : Dat), d ∈ keyL u → (∃ a, d = .int a) ∨ ∃ x, d = .str x
  | [], d, h => by cases h
  | p :: u, d, h => by
    simp only [keyL] at h
    rcases List.mem_cons.mp h with rfl | h
    · exact .inl ⟨_, rfl⟩
    · rcases List.mem_cons.mp h with rfl | h
      · cases p with
        | w i => exact .inr ⟨_, rfl⟩
        | n k => exact .inl ⟨_, rfl⟩
      · exact leaf_of u d h
def sameKind : Dat → Dat → Prop
  | .int _, .int _ => True
  | .str _, .str _ => True
  | _, _ => False
theorem key_kinds : ∀ (u v : List Part) (j : Nat), (∀ p ∈ u, p.ok) → (∀ p ∈ v, p.ok) → j < (keyL u).length → j < (keyL v).length → (∀ j', j' < j → eAt (keyL u) (keyL v) j' = true) → sameKind ((keyL u).getD j .none) ((keyL v).getD j .none)
  | [], _, _, _, _, h, _, _ => by simp [keyL] at h
  | _ :: _, [], _, _, _, _, h, _ => by simp [keyL] at h
  | p :: u, q :: v, 0, _, _, _, _, _ => trivial
  | p :: u, q :: v, 1, hu, hv, _, _, he => by
    have e0 := he 0 (by decide)
    have es : p.stage = q.stage := by
      simp only [eAt, keyL, List.getD_cons_zero, leafEq, beq_iff_eq] at e0
      omega
    have hp := hu p List.mem_cons_self
    have hq := hv q List.mem_cons_self
    cases p with
    | w i =>
      cases q with
      | w j => trivial
      | n k => exact absurd es (wn_stage i hp).1
    | n k =>
      cases q with
      | w j => exact absurd es.symm (wn_stage j hq).1
      | n k' => trivial
  | p :: u, q :: v, j + 2, hu, hv, h1, h2, he => by
    have := key_kinds u v j (fun p hp => hu p (List.mem_cons_of_mem _ hp)) (fun p hp => hv p (List.mem_cons_of_mem _ hp)) (by simp [keyL] at h1; omega) (by simp [keyL] at h2; omega) (fun j' hj' => he (j' + 2) (by omega))
    exact this
theorem eq_leaf {A : Around} {s : Shared} {nx : List (Addr × Obj)} {v w : Value} {d e : Dat} (hv : DatIn nx v d) (hw : DatIn nx w e) (ld : (∃ a, d = .int a) ∨ ∃ x, d = .str x) (le : (∃ a, e = .int a) ∨ ∃ x, e = .str x) : EqAt A s v w (leafEq d e) := by
  rcases ld with ⟨a, rfl⟩ | ⟨a, rfl⟩ <;> rcases le with ⟨b, rfl⟩ | ⟨b, rfl⟩
  · obtain ⟨t, rfl⟩ := datInt hv; obtain ⟨u, rfl⟩ := datInt hw; exact EqAt.int_int a t b u
  · obtain ⟨t, rfl⟩ := datInt hv; obtain ⟨u, rfl⟩ := datStr hw; exact EqAt.int_str a t b u
  · obtain ⟨t, rfl⟩ := datStr hv; obtain ⟨u, rfl⟩ := datInt hw; exact EqAt.str_int a t b u
  · obtain ⟨t, rfl⟩ := datStr hv; obtain ⟨u, rfl⟩ := datStr hw; exact EqAt.str_str a t b u
theorem rc_leaf (op : Cop) {A : Around} {s : Shared} {nx : List (Addr × Obj)} {v w : Value} {d e : Dat} (hv : DatIn nx v d) (hw : DatIn nx w e) (k : sameKind d e) : RcOp op.cmp A s v w (leafCmp op d e) := by
  unfold sameKind at k
  split at k
  · obtain ⟨t, rfl⟩ := datInt hv; obtain ⟨u, rfl⟩ := datInt hw; exact rc_int op _ _ t u
  · obtain ⟨t, rfl⟩ := datStr hv; obtain ⟨u, rfl⟩ := datStr hw; exact rc_str op _ _ t u
  · exact k.elim
theorem at_getD {nx : List (Addr × Obj)} {vs : List Value} {ds : List Dat} (h : DatAll nx vs ds) {j : Nat} (h1 : j < vs.toArray.size) : DatIn nx vs.toArray[j] (ds.getD j .none) ∧ ds.getD j .none ∈ ds := by
  have hj : j < vs.length := by simpa using h1
  have hv : vs[j]? = some vs.toArray[j] := by simp [hj]
  obtain ⟨d, hd, hi⟩ := datAll_get h hv
  rw [List.getD_eq_getElem?_getD, hd]
  exact ⟨hi, List.mem_of_getElem? hd⟩
section
variable {prog : Program} {w : World} {A : Around} {E : Value → Shared → Prop} {s : Shared} {Q : Value → Shared → Prop} {h₀ : Heap} {L l b : Addr} {news : List (Addr × Obj)} {vs ws : List Value} {n n2 : Nat} {u v : List Part}

theorem lt_keysAt (N : News h₀ L s.heap news) (m1 : (l, listOf vs.toArray n) ∈ news) (m2 : (b, listOf ws.toArray n2) ∈ news) (D1 : DatAll news vs (keyL u)) (D2 : DatAll news ws (keyL v)) (hu : ∀ p ∈ u, p.ok) (hv : ∀ p ∈ v, p.ok) (lu : u.length ≤ 4) (lv : v.length ≤ 4) (hr : A.units < cLine)
    (h : Q (.bool (Cop.lt.n (valN 4 (u.map (·.code))) (valN 4 (v.map (·.code))))) s) : wpAny (model prog w) A (compareOp Cop.lt.cmp (.ref l) (.ref b)) Q E s := by
  refine lt_listAt (eAt (keyL u) (keyL v)) (rAt .lt (keyL u) (keyL v)) (isList_of N m1) (isList_of N m2) hr ?_ ?_ ?_
  · intro j h1 h2
    have a := at_getD D1 h1
    have c := at_getD D2 h2
    exact eq_leaf a.1 c.1 (leaf_of _ _ a.2) (leaf_of _ _ c.2)
  · intro j h1 h2 he hf
    have a := at_getD D1 h1
    have c := at_getD D2 h2
    exact rc_leaf .lt a.1 c.1 (key_kinds u v j hu hv (by rw [← D1.length]; simpa using h1) (by rw [← D2.length]; simpa using h2) he)
  · have e1 : vs.toArray.size = (keyL u).length := by simp [D1.length]
    have e2 : ws.toArray.size = (keyL v).length := by simp [D2.length]
    have lk : ∀ u : List Part, (keyL u).length = 2 * u.length := fun u => by
      induction u with
      | nil => rfl
      | cons p u ih => simp only [keyL, List.length_cons, ih]; omega
    rw [e1, e2, lexFrom_eq .lt _ (keyL u) (keyL v) _ _ 0 (fun j => by rw [Nat.zero_add]) (fun j => by rw [Nat.zero_add])]
    have ef : decide ((keyL u).length < (keyL v).length) = Cop.lt.n u.length v.length := by
      rw [lk, lk]
      simp only [Cop.n]
      rw [decide_eq_decide]
      omega
    rw [ef, key_cmp .lt 4 u v lu lv hu hv]
    exact h

theorem le_keysAt (N : News h₀ L s.heap news) (m1 : (l, listOf vs.toArray n) ∈ news) (m2 : (b, listOf ws.toArray n2) ∈ news) (D1 : DatAll news vs (keyL u)) (D2 : DatAll news ws (keyL v)) (hu : ∀ p ∈ u, p.ok) (hv : ∀ p ∈ v, p.ok) (lu : u.length ≤ 4) (lv : v.length ≤ 4) (hr : A.units < cLine)
    (h : Q (.bool (Cop.le.n (valN 4 (u.map (·.code))) (valN 4 (v.map (·.code))))) s) : wpAny (model prog w) A (compareOp Cop.le.cmp (.ref l) (.ref b)) Q E s := by
  refine le_listAt (eAt (keyL u) (keyL v)) (rAt .le (keyL u) (keyL v)) (isList_of N m1) (isList_of N m2) hr ?_ ?_ ?_
  · intro j h1 h2
    have a := at_getD D1 h1
    have c := at_getD D2 h2
    exact eq_leaf a.1 c.1 (leaf_of _ _ a.2) (leaf_of _ _ c.2)
  · intro j h1 h2 he hf
    have a := at_getD D1 h1
    have c := at_getD D2 h2
    exact rc_leaf .le a.1 c.1 (key_kinds u v j hu hv (by rw [← D1.length]; simpa using h1) (by rw [← D2.length]; simpa using h2) he)
  · have e1 : vs.toArray.size = (keyL u).length := by simp [D1.length]
    have e2 : ws.toArray.size = (keyL v).length := by simp [D2.length]
    have lk : ∀ u : List Part, (keyL u).length = 2 * u.length := fun u => by
      induction u with
      | nil => rfl
      | cons p u ih => simp only [keyL, List.length_cons, ih]; omega
    rw [e1, e2, lexFrom_eq .le _ (keyL u) (keyL v) _ _ 0 (fun j => by rw [Nat.zero_add]) (fun j => by rw [Nat.zero_add])]
    have ef : decide ((keyL u).length ≤ (keyL v).length) = Cop.le.n u.length v.length := by
      rw [lk, lk]
      simp only [Cop.n]
      rw [decide_eq_decide]
      omega
    rw [ef, key_cmp .le 4 u v lu lv hu hv]
    exact h

theorem gt_keysAt (N : News h₀ L s.heap news) (m1 : (l, listOf vs.toArray n) ∈ news) (m2 : (b, listOf ws.toArray n2) ∈ news) (D1 : DatAll news vs (keyL u)) (D2 : DatAll news ws (keyL v)) (hu : ∀ p ∈ u, p.ok) (hv : ∀ p ∈ v, p.ok) (lu : u.length ≤ 4) (lv : v.length ≤ 4) (hr : A.units < cLine)
    (h : Q (.bool (Cop.gt.n (valN 4 (u.map (·.code))) (valN 4 (v.map (·.code))))) s) : wpAny (model prog w) A (compareOp Cop.gt.cmp (.ref l) (.ref b)) Q E s := by
  refine gt_listAt (eAt (keyL u) (keyL v)) (rAt .gt (keyL u) (keyL v)) (isList_of N m1) (isList_of N m2) hr ?_ ?_ ?_
  · intro j h1 h2
    have a := at_getD D1 h1
    have c := at_getD D2 h2
    exact eq_leaf a.1 c.1 (leaf_of _ _ a.2) (leaf_of _ _ c.2)
  · intro j h1 h2 he hf
    have a := at_getD D1 h1
    have c := at_getD D2 h2
    exact rc_leaf .gt a.1 c.1 (key_kinds u v j hu hv (by rw [← D1.length]; simpa using h1) (by rw [← D2.length]; simpa using h2) he)
  · have e1 : vs.toArray.size = (keyL u).length := by simp [D1.length]
    have e2 : ws.toArray.size = (keyL v).length := by simp [D2.length]
    have lk : ∀ u : List Part, (keyL u).length = 2 * u.length := fun u => by
      induction u with
      | nil => rfl
      | cons p u ih => simp only [keyL, List.length_cons, ih]; omega
    rw [e1, e2, lexFrom_eq .gt _ (keyL u) (keyL v) _ _ 0 (fun j => by rw [Nat.zero_add]) (fun j => by rw [Nat.zero_add])]
    have ef : decide ((keyL u).length > (keyL v).length) = Cop.gt.n u.length v.length := by
      rw [lk, lk]
      simp only [Cop.n]
      rw [decide_eq_decide]
      omega
    rw [ef, key_cmp .gt 4 u v lu lv hu hv]
    exact h

theorem ge_keysAt (N : News h₀ L s.heap news) (m1 : (l, listOf vs.toArray n) ∈ news) (m2 : (b, listOf ws.toArray n2) ∈ news) (D1 : DatAll news vs (keyL u)) (D2 : DatAll news ws (keyL v)) (hu : ∀ p ∈ u, p.ok) (hv : ∀ p ∈ v, p.ok) (lu : u.length ≤ 4) (lv : v.length ≤ 4) (hr : A.units < cLine)
    (h : Q (.bool (Cop.ge.n (valN 4 (u.map (·.code))) (valN 4 (v.map (·.code))))) s) : wpAny (model prog w) A (compareOp Cop.ge.cmp (.ref l) (.ref b)) Q E s := by
  refine ge_listAt (eAt (keyL u) (keyL v)) (rAt .ge (keyL u) (keyL v)) (isList_of N m1) (isList_of N m2) hr ?_ ?_ ?_
  · intro j h1 h2
    have a := at_getD D1 h1
    have c := at_getD D2 h2
    exact eq_leaf a.1 c.1 (leaf_of _ _ a.2) (leaf_of _ _ c.2)
  · intro j h1 h2 he hf
    have a := at_getD D1 h1
    have c := at_getD D2 h2
    exact rc_leaf .ge a.1 c.1 (key_kinds u v j hu hv (by rw [← D1.length]; simpa using h1) (by rw [← D2.length]; simpa using h2) he)
  · have e1 : vs.toArray.size = (keyL u).length := by simp [D1.length]
    have e2 : ws.toArray.size = (keyL v).length := by simp [D2.length]
    have lk : ∀ u : List Part, (keyL u).length = 2 * u.length := fun u => by
      induction u with
      | nil => rfl
      | cons p u ih => simp only [keyL, List.length_cons, ih]; omega
    rw [e1, e2, lexFrom_eq .ge _ (keyL u) (keyL v) _ _ 0 (fun j => by rw [Nat.zero_add]) (fun j => by rw [Nat.zero_add])]
    have ef : decide ((keyL u).length ≥ (keyL v).length) = Cop.ge.n u.length v.length := by
      rw [lk, lk]
      simp only [Cop.n]
      rw [decide_eq_decide]
      omega
    rw [ef, key_cmp .ge 4 u v lu lv hu hv]
    exact h
end
end Mine
end
theorem Mine.freshC2 : True := by
  w_top off
  trivial
section
-- text C2
open PySem PySem.W PyProof.Rows
set_option Elab.async false
set_option maxRecDepth 100000
set_option maxHeartbeats 8000000
set_option linter.unusedVariables false
namespace Mine
set_option pp.deepTerms false
set_option pp.deepTerms.threshold 5
set_option pp.maxSteps 100000

theorem keyL_inj : ∀ (u v : List Part), (∀ p ∈ u, p.ok) → (∀ p ∈ v, p.ok) → keyL u = keyL v → u = v
  | [], [], _, _, _ => rfl
  | [], _ :: _, _, _, h => by simp [keyL] at h
  | _ :: _, [], _, _, h => by simp [keyL] at h
  | p :: u, q :: v, hu, hv, h => by
    simp only [keyL, List.cons.injEq] at h
    have e := keyL_inj u v (fun p hp => hu p (List.mem_cons_of_mem _ hp)) (fun p hp => hv p (List.mem_cons_of_mem _ hp)) h.2.2
    have ed := h.2.1
    have hp := hu p List.mem_cons_self
    have hq := hv q List.mem_cons_self
    have : p = q := by
      cases p with
      | w i =>
        cases q with
        | w j => simp only [Part.dat, Dat.str.injEq] at ed; rw [word_inj i hp j hq ed]
        | n k => simp [Part.dat] at ed
      | n k =>
        cases q with
        | w j => simp [Part.dat] at ed
        | n k' => simp only [Part.dat, Dat.int.injEq] at ed; congr 1; omega
    rw [e, this]
theorem val_inj : ∀ (k : Nat) (u v : List Part), u.length ≤ k → v.length ≤ k → (∀ p ∈ u, p.ok) → (∀ p ∈ v, p.ok) → valN k (u.map (·.code)) = valN k (v.map (·.code)) → u = v
  | _, [], [], _, _, _, _, _ => rfl
  | 0, [], q :: v, _, h, _, _, _ => by simp at h
  | k + 1, [], q :: v, _, _, _, hv, e => by
    have h1 := (code_pos (hv q List.mem_cons_self)).1
    have h2 : 0 < q.code * 1048576 ^ k := Nat.mul_pos h1 (Nat.pow_pos (by decide))
    simp only [valN, List.map_cons, List.map_nil] at e
    omega
  | 0, p :: u, _, h, _, _, _, _ => by simp at h
  | k + 1, p :: u, [], _, _, hu, _, e => by
    have h1 := (code_pos (hu p List.mem_cons_self)).1
    have h2 : 0 < p.code * 1048576 ^ k := Nat.mul_pos h1 (Nat.pow_pos (by decide))
    simp only [valN, List.map_cons, List.map_nil] at e
    omega
  | k + 1, p :: u, q :: v, h1, h2, hu, hv, e => by
    have hu' : ∀ p ∈ u, p.ok := fun p hp => hu p (List.mem_cons_of_mem _ hp)
    have hv' : ∀ p ∈ v, p.ok := fun p hp => hv p (List.mem_cons_of_mem _ hp)
    have lu : valN k (u.map (·.code)) < 1048576 ^ k := val_lt k _ fun c hc => by obtain ⟨p, hp, rfl⟩ := List.mem_map.mp hc; exact (code_pos (hu' p hp)).2
    have lv : valN k (v.map (·.code)) < 1048576 ^ k := val_lt k _ fun c hc => by obtain ⟨p, hp, rfl⟩ := List.mem_map.mp hc; exact (code_pos (hv' p hp)).2
    simp only [valN, List.map_cons] at e
    have hc : p.code = q.code := by
      apply Decidable.byContradiction
      intro hc
      have a := Cop.lt.n_apart (Nat.pow_pos (by decide) : 0 < 1048576 ^ k) lu lv hc
      have b := Cop.gt.n_apart (Nat.pow_pos (by decide) : 0 < 1048576 ^ k) lu lv hc
      rw [e] at a b
      simp only [Cop.n, Nat.lt_irrefl, decide_false, gt_iff_lt] at a b
      rcases Nat.lt_or_gt_of_ne hc with h | h
      · simp [h] at a
      · simp [h] at b
    have ht : valN k (u.map (·.code)) = valN k (v.map (·.code)) := by rw [hc] at e; omega
    rw [val_inj k u v (by simpa using h1) (by simpa using h2) hu' hv' ht, code_inj (hu p List.mem_cons_self) (hv q List.mem_cons_self) hc]
/-- what is known of a key: its parts, at most four (five: the one with .0 behind) -/
noncomputable def vval (u : List Part) : Nat := Classical.choose (⟨valN 4 (u.map (·.code)), rfl⟩ : ∃ n : Nat, n = valN 4 (u.map (·.code)))
theorem vval_eq (u : List Part) : vval u = valN 4 (u.map (·.code)) := Classical.choose_spec (⟨valN 4 (u.map (·.code)), rfl⟩ : ∃ n : Nat, n = valN 4 (u.map (·.code)))
theorem str_ok_w : ∀ i, i < 15 → PyData.strOk (wordAt i) = true := by decide +kernel
theorem key_ok : ∀ (u : List Part), (∀ p ∈ u, p.ok) → ∀ d ∈ keyL u, kqdOk 8 d = true
  | [], _, d, h => by cases h
  | p :: u, hu, d, h => by
    simp only [keyL] at h
    rcases List.mem_cons.mp h with rfl | h
    · rfl
    · rcases List.mem_cons.mp h with rfl | h
      · have hp := hu p List.mem_cons_self
        cases p with
        | w i => exact str_ok_w i hp
        | n k => rfl
      · exact key_ok u (fun p hp => hu p (List.mem_cons_of_mem _ hp)) d h
theorem cn_lt (a b : Nat) : Cop.lt.n a b = decide ((a : Int) < (b : Int)) := decide_eq_decide.mpr (by omega)
theorem cn_le (a b : Nat) : Cop.le.n a b = decide ((a : Int) ≤ (b : Int)) := decide_eq_decide.mpr (by omega)
theorem cn_gt (a b : Nat) : Cop.gt.n a b = decide ((a : Int) > (b : Int)) := decide_eq_decide.mpr (by omega)
theorem cn_ge (a b : Nat) : Cop.ge.n a b = decide ((a : Int) ≥ (b : Int)) := decide_eq_decide.mpr (by omega)
theorem cn_eq {P : Prop} [Decidable P] {a b : Nat} (e : P ↔ a = b) : decide P = ((a : Int) == (b : Int)) := by
  rw [Bool.eq_iff_iff, decide_eq_true_iff, beq_iff_eq, e]
  omega
theorem vv_lt (u v : List Part) : Cop.lt.n (valN 4 (u.map (·.code))) (valN 4 (v.map (·.code))) = decide ((vval u : Int) < (vval v : Int)) := by rw [vval_eq, vval_eq]; exact cn_lt _ _
theorem vv_le (u v : List Part) : Cop.le.n (valN 4 (u.map (·.code))) (valN 4 (v.map (·.code))) = decide ((vval u : Int) ≤ (vval v : Int)) := by rw [vval_eq, vval_eq]; exact cn_le _ _
theorem vv_gt (u v : List Part) : Cop.gt.n (valN 4 (u.map (·.code))) (valN 4 (v.map (·.code))) = decide ((vval u : Int) > (vval v : Int)) := by rw [vval_eq, vval_eq]; exact cn_gt _ _
theorem vv_ge (u v : List Part) : Cop.ge.n (valN 4 (u.map (·.code))) (valN 4 (v.map (·.code))) = decide ((vval u : Int) ≥ (vval v : Int)) := by rw [vval_eq, vval_eq]; exact cn_ge _ _
open Classical in
theorem vv_eq {u v : List Part} (ou : ∀ p ∈ u, p.ok) (ov : ∀ p ∈ v, p.ok) (lu : u.length ≤ 4) (lv : v.length ≤ 4) : decide (keyL u = keyL v) = ((vval u : Int) == (vval v : Int)) :=
  cn_eq ⟨fun h => by rw [keyL_inj u v ou ov h], fun h => by rw [vval_eq, vval_eq] at h; rw [val_inj 4 u v lu lv ou ov h]⟩
structure Box (p : Prop) : Prop where
  out : p
section
variable {w : World} {mean : ExcName → Option Value} {mg mb : Str → Option Value} {news : List (Addr × Obj)} {x y : Value} {u v : List Part}

theorem lt_key (hx : DatIn news x (.list (keyL u))) (hy : DatIn news y (.list (keyL v))) (ou : ∀ p ∈ u, p.ok) (ov : ∀ p ∈ v, p.ok) (lu : u.length ≤ 4) (lv : v.length ≤ 4) {p q : Int} (hp : (vval u : Int) = p) (hq : (vval v : Int) = q) : Spec w mean mg mb news 51 [x, y] 12 (fun nx r => r = .bool (decide (p < q))) := by
  obtain ⟨l, vs, ne, rfl, hm, hD⟩ := datList hx
  obtain ⟨l2, vs2, ne2, rfl, hm2, hD2⟩ := datList hy
  unfold Spec
  k_fill
  intro dp un gd cn cs a ccd cl outer A₀ base h₀ L m s Q E B F X N T hk hd' hu hret
  refine wpAny_noRaise ?_
  refine wpAny_call ?_
  k_dflt ktr_enter
  k_steps
  rename (News _ _ _ _) => N1
  refine lt_keysAt N1 hm hm2 hD hD2 ou ov lu lv (by ktr_units) ?_
  rw [vv_lt, hp, hq]
  clear hp hq ou ov lu lv hD hD2 hm hm2 hx hy
  k_steps
  exact hret _ [] _ _ (by assumption) (by assumption) (fun _ _ _ h => nomatch h) rfl

theorem le_key (hx : DatIn news x (.list (keyL u))) (hy : DatIn news y (.list (keyL v))) (ou : ∀ p ∈ u, p.ok) (ov : ∀ p ∈ v, p.ok) (lu : u.length ≤ 4) (lv : v.length ≤ 4) {p q : Int} (hp : (vval u : Int) = p) (hq : (vval v : Int) = q) : Spec w mean mg mb news 58 [x, y] 12 (fun nx r => r = .bool (decide (p ≤ q))) := by
  obtain ⟨l, vs, ne, rfl, hm, hD⟩ := datList hx
  obtain ⟨l2, vs2, ne2, rfl, hm2, hD2⟩ := datList hy
  unfold Spec
  k_fill
  intro dp un gd cn cs a ccd cl outer A₀ base h₀ L m s Q E B F X N T hk hd' hu hret
  refine wpAny_noRaise ?_
  refine wpAny_call ?_
  k_dflt ktr_enter
  k_steps
  rename (News _ _ _ _) => N1
  refine le_keysAt N1 hm hm2 hD hD2 ou ov lu lv (by ktr_units) ?_
  rw [vv_le, hp, hq]
  clear hp hq ou ov lu lv hD hD2 hm hm2 hx hy
  k_steps
  exact hret _ [] _ _ (by assumption) (by assumption) (fun _ _ _ h => nomatch h) rfl

theorem gt_key (hx : DatIn news x (.list (keyL u))) (hy : DatIn news y (.list (keyL v))) (ou : ∀ p ∈ u, p.ok) (ov : ∀ p ∈ v, p.ok) (lu : u.length ≤ 4) (lv : v.length ≤ 4) {p q : Int} (hp : (vval u : Int) = p) (hq : (vval v : Int) = q) : Spec w mean mg mb news 86 [x, y] 12 (fun nx r => r = .bool (decide (p > q))) := by
  obtain ⟨l, vs, ne, rfl, hm, hD⟩ := datList hx
  obtain ⟨l2, vs2, ne2, rfl, hm2, hD2⟩ := datList hy
  unfold Spec
  k_fill
  intro dp un gd cn cs a ccd cl outer A₀ base h₀ L m s Q E B F X N T hk hd' hu hret
  refine wpAny_noRaise ?_
  refine wpAny_call ?_
  k_dflt ktr_enter
  k_steps
  rename (News _ _ _ _) => N1
  refine gt_keysAt N1 hm hm2 hD hD2 ou ov lu lv (by ktr_units) ?_
  rw [vv_gt, hp, hq]
  clear hp hq ou ov lu lv hD hD2 hm hm2 hx hy
  k_steps
  exact hret _ [] _ _ (by assumption) (by assumption) (fun _ _ _ h => nomatch h) rfl

theorem ge_key (hx : DatIn news x (.list (keyL u))) (hy : DatIn news y (.list (keyL v))) (ou : ∀ p ∈ u, p.ok) (ov : ∀ p ∈ v, p.ok) (lu : u.length ≤ 4) (lv : v.length ≤ 4) {p q : Int} (hp : (vval u : Int) = p) (hq : (vval v : Int) = q) : Spec w mean mg mb news 79 [x, y] 12 (fun nx r => r = .bool (decide (p ≥ q))) := by
  obtain ⟨l, vs, ne, rfl, hm, hD⟩ := datList hx
  obtain ⟨l2, vs2, ne2, rfl, hm2, hD2⟩ := datList hy
  unfold Spec
  k_fill
  intro dp un gd cn cs a ccd cl outer A₀ base h₀ L m s Q E B F X N T hk hd' hu hret
  refine wpAny_noRaise ?_
  refine wpAny_call ?_
  k_dflt ktr_enter
  k_steps
  rename (News _ _ _ _) => N1
  refine ge_keysAt N1 hm hm2 hD hD2 ou ov lu lv (by ktr_units) ?_
  rw [vv_ge, hp, hq]
  clear hp hq ou ov lu lv hD hD2 hm hm2 hx hy
  k_steps
  exact hret _ [] _ _ (by assumption) (by assumption) (fun _ _ _ h => nomatch h) rfl

open Classical in
theorem eq_key (hx : DatIn news x (.list (keyL u))) (hy : DatIn news y (.list (keyL v))) (ou : ∀ p ∈ u, p.ok) (ov : ∀ p ∈ v, p.ok) (lu : u.length ≤ 4) (lv : v.length ≤ 4) {p q : Int} (hp : (vval u : Int) = p) (hq : (vval v : Int) = q) : Spec w mean mg mb news 65 [x, y] 12 (fun nx r => r = .bool (p == q)) := by
  obtain ⟨l, vs, ne, rfl, hm, hD⟩ := datList hx
  obtain ⟨l2, vs2, ne2, rfl, hm2, hD2⟩ := datList hy
  have bx := Box.mk (And.intro hm (And.intro hm2 (And.intro hD hD2)))
  clear hm hm2 hD hD2 hx hy
  unfold Spec
  k_fill
  intro dp un gd cn cs a ccd cl outer A₀ base h₀ L m s Q E B F X N T hk hd' hu hret
  refine wpAny_noRaise ?_
  refine wpAny_call ?_
  k_dflt ktr_enter
  k_steps
  rename (News _ _ _ _) => N1
  obtain ⟨hm, hm2, hD, hD2⟩ := bx.out
  refine kqd_eq N1 hm rfl rfl hD (fun p hp => hp) hm2 rfl rfl hD2 (fun p hp => hp) (key_ok u ou) (key_ok v ov) (by ktr_units) ?_
  rw [vv_eq ou ov lu lv, hp, hq]
  clear hp hq ou ov lu lv hD hD2 hm hm2 bx
  k_steps
  exact hret _ [] _ _ (by assumption) (by assumption) (fun _ _ _ h => nomatch h) rfl

open Classical in
theorem ne_key (hx : DatIn news x (.list (keyL u))) (hy : DatIn news y (.list (keyL v))) (ou : ∀ p ∈ u, p.ok) (ov : ∀ p ∈ v, p.ok) (lu : u.length ≤ 4) (lv : v.length ≤ 4) {p q : Int} (hp : (vval u : Int) = p) (hq : (vval v : Int) = q) : Spec w mean mg mb news 72 [x, y] 12 (fun nx r => r = .bool (p != q)) := by
  obtain ⟨l, vs, ne, rfl, hm, hD⟩ := datList hx
  obtain ⟨l2, vs2, ne2, rfl, hm2, hD2⟩ := datList hy
  have bx := Box.mk (And.intro hm (And.intro hm2 (And.intro hD hD2)))
  clear hm hm2 hD hD2 hx hy
  unfold Spec
  k_fill
  intro dp un gd cn cs a ccd cl outer A₀ base h₀ L m s Q E B F X N T hk hd' hu hret
  refine wpAny_noRaise ?_
  refine wpAny_call ?_
  k_dflt ktr_enter
  k_steps
  rename (News _ _ _ _) => N1
  obtain ⟨hm, hm2, hD, hD2⟩ := bx.out
  refine kqd_ne N1 hm rfl rfl hD (fun p hp => hp) hm2 rfl rfl hD2 (fun p hp => hp) (key_ok u ou) (key_ok v ov) (by ktr_units) ?_
  rw [vv_eq ou ov lu lv, hp, hq]
  clear hp hq ou ov lu lv hD hD2 hm hm2 bx
  k_steps
  exact hret _ [] _ _ (by assumption) (by assumption) (fun _ _ _ h => nomatch h) rfl

end
end Mine
end
theorem Mine.freshC3 : True := by
  w_top off
  trivial
section
-- text C3
open PySem PySem.W PyProof.Rows
set_option Elab.async false
set_option maxRecDepth 100000
set_option maxHeartbeats 8000000
set_option linter.unusedVariables false
namespace Mine
set_option pp.deepTerms false
set_option pp.deepTerms.threshold 5
set_option pp.maxSteps 100000

structure KeyPair (news : List (Addr × Obj)) (x y : Value) (u v : List Part) (p q : Int) : Prop where
  hx : DatIn news x (.list (keyL u))
  hy : DatIn news y (.list (keyL v))
  ou : ∀ p ∈ u, p.ok
  ov : ∀ p ∈ v, p.ok
  lu : u.length ≤ 4
  lv : v.length ≤ 4
  hp : (vval u : Int) = p
  hq : (vval v : Int) = q
section
local macro_rules | `(tactic| walk_at "call ref") => `(tactic| ((with_reducible show wpAny _ _ (call (Value.ref 51) _) _ _ _); (rename KeyPair _ _ _ _ _ _ _ => kp); (refine spec_use0 (lt_key kp.hx kp.hy kp.ou kp.ov kp.lu kp.lv kp.hp kp.hq) (by k_asm) (by k_asm) (by k_asm) (by k_asm) (by k_asm) rfl ?d ?u ?_); (case d => ktr_room); (case u => ktr_units); intro r' nx' h' tk' F' N' e'; subst e'))
local macro_rules | `(tactic| walk_at "call ref") => `(tactic| ((with_reducible show wpAny _ _ (call (Value.ref 58) _) _ _ _); (rename KeyPair _ _ _ _ _ _ _ => kp); (refine spec_use0 (le_key kp.hx kp.hy kp.ou kp.ov kp.lu kp.lv kp.hp kp.hq) (by k_asm) (by k_asm) (by k_asm) (by k_asm) (by k_asm) rfl ?d ?u ?_); (case d => ktr_room); (case u => ktr_units); intro r' nx' h' tk' F' N' e'; subst e'))
local macro_rules | `(tactic| walk_at "call ref") => `(tactic| ((with_reducible show wpAny _ _ (call (Value.ref 86) _) _ _ _); (rename KeyPair _ _ _ _ _ _ _ => kp); (refine spec_use0 (gt_key kp.hx kp.hy kp.ou kp.ov kp.lu kp.lv kp.hp kp.hq) (by k_asm) (by k_asm) (by k_asm) (by k_asm) (by k_asm) rfl ?d ?u ?_); (case d => ktr_room); (case u => ktr_units); intro r' nx' h' tk' F' N' e'; subst e'))
local macro_rules | `(tactic| walk_at "call ref") => `(tactic| ((with_reducible show wpAny _ _ (call (Value.ref 79) _) _ _ _); (rename KeyPair _ _ _ _ _ _ _ => kp); (refine spec_use0 (ge_key kp.hx kp.hy kp.ou kp.ov kp.lu kp.lv kp.hp kp.hq) (by k_asm) (by k_asm) (by k_asm) (by k_asm) (by k_asm) rfl ?d ?u ?_); (case d => ktr_room); (case u => ktr_units); intro r' nx' h' tk' F' N' e'; subst e'))
local macro_rules | `(tactic| walk_at "call ref") => `(tactic| ((with_reducible show wpAny _ _ (call (Value.ref 65) _) _ _ _); (rename KeyPair _ _ _ _ _ _ _ => kp); (refine spec_use0 (eq_key kp.hx kp.hy kp.ou kp.ov kp.lu kp.lv kp.hp kp.hq) (by k_asm) (by k_asm) (by k_asm) (by k_asm) (by k_asm) rfl ?d ?u ?_); (case d => ktr_room); (case u => ktr_units); intro r' nx' h' tk' F' N' e'; subst e'))
local macro_rules | `(tactic| walk_at "call ref") => `(tactic| ((with_reducible show wpAny _ _ (call (Value.ref 72) _) _ _ _); (rename KeyPair _ _ _ _ _ _ _ => kp); (refine spec_use0 (ne_key kp.hx kp.hy kp.ou kp.ov kp.lu kp.lv kp.hp kp.hq) (by k_asm) (by k_asm) (by k_asm) (by k_asm) (by k_asm) rfl ?d ?u ?_); (case d => ktr_room); (case u => ktr_units); intro r' nx' h' tk' F' N' e'; subst e'))

local macro_rules | `(tactic| walk_at "dummy key") => `(tactic| fail)
theorem signs_key {w mean mg mb news} {x y : Value} {u v : List Part} {p q : Int} (kp : KeyPair news x y u v p q) (t t2 : Tok) : Spec w mean mg mb news 201 [x, y, .int p t, .int q t2] 16 (fun nx r => r = .bool true) := by
  unfold Spec
  k_fill
  intro dp un gd cn cs a ccd cl outer A₀ base h₀ L m s Q E B F X N T hk hd' hu hret
  refine wpAny_noRaise ?_
  refine wpAny_call ?_
  k_dflt ktr_enter
  k_steps
  all_goals first
    | (rename ((_ != _) = true) => hc; exact absurd hc (by simp))
    | exact hret _ [] _ _ (by assumption) (by assumption) (fun _ _ _ h => nomatch h) (congrArg Value.bool (by simp))
end
section
local macro_rules | `(tactic| walk_at "call ref") => `(tactic| ((with_reducible show wpAny _ _ (call (Value.ref 51) _) _ _ _); (refine spec_use0 (Mine.lt_int _ _ _ _) (by k_asm) (by k_asm) (by k_asm) (by k_asm) (by k_asm) rfl ?d ?u ?_); (case d => ktr_room); (case u => ktr_units); intro r' nx' h' tk' F' N' e'; subst e'))
local macro_rules | `(tactic| walk_at "call ref") => `(tactic| ((with_reducible show wpAny _ _ (call (Value.ref 58) _) _ _ _); (refine spec_use0 (Mine.le_int _ _ _ _) (by k_asm) (by k_asm) (by k_asm) (by k_asm) (by k_asm) rfl ?d ?u ?_); (case d => ktr_room); (case u => ktr_units); intro r' nx' h' tk' F' N' e'; subst e'))
local macro_rules | `(tactic| walk_at "call ref") => `(tactic| ((with_reducible show wpAny _ _ (call (Value.ref 86) _) _ _ _); (refine spec_use0 (Mine.gt_int _ _ _ _) (by k_asm) (by k_asm) (by k_asm) (by k_asm) (by k_asm) rfl ?d ?u ?_); (case d => ktr_room); (case u => ktr_units); intro r' nx' h' tk' F' N' e'; subst e'))
local macro_rules | `(tactic| walk_at "call ref") => `(tactic| ((with_reducible show wpAny _ _ (call (Value.ref 79) _) _ _ _); (refine spec_use0 (Mine.ge_int _ _ _ _) (by k_asm) (by k_asm) (by k_asm) (by k_asm) (by k_asm) rfl ?d ?u ?_); (case d => ktr_room); (case u => ktr_units); intro r' nx' h' tk' F' N' e'; subst e'))
local macro_rules | `(tactic| walk_at "call ref") => `(tactic| ((with_reducible show wpAny _ _ (call (Value.ref 65) _) _ _ _); (refine spec_use0 (Mine.eq_int _ _ _ _) (by k_asm) (by k_asm) (by k_asm) (by k_asm) (by k_asm) rfl ?d ?u ?_); (case d => ktr_room); (case u => ktr_units); intro r' nx' h' tk' F' N' e'; subst e'))
local macro_rules | `(tactic| walk_at "call ref") => `(tactic| ((with_reducible show wpAny _ _ (call (Value.ref 72) _) _ _ _); (refine spec_use0 (Mine.ne_int _ _ _ _) (by k_asm) (by k_asm) (by k_asm) (by k_asm) (by k_asm) rfl ?d ?u ?_); (case d => ktr_room); (case u => ktr_units); intro r' nx' h' tk' F' N' e'; subst e'))
local macro_rules | `(tactic| walk_at "dummy key one") => `(tactic| fail)

local macro_rules | `(tactic| walk_at "dummy key") => `(tactic| fail)
theorem signs_int {w mean mg mb news} (p q : Int) (t0 t1 t t2 : Tok) : Spec w mean mg mb news 201 [.int p t0, .int q t1, .int p t, .int q t2] 16 (fun nx r => r = .bool true) := by
  unfold Spec
  k_fill
  intro dp un gd cn cs a ccd cl outer A₀ base h₀ L m s Q E B F X N T hk hd' hu hret
  refine wpAny_noRaise ?_
  refine wpAny_call ?_
  k_dflt ktr_enter
  k_steps
  all_goals first
    | (rename ((_ != _) = true) => hc; exact absurd hc (by simp))
    | exact hret _ [] _ _ (by assumption) (by assumption) (fun _ _ _ h => nomatch h) (congrArg Value.bool (by simp))
end
end Mine
end
theorem Mine.freshF0 : True := by
  w_top off
  trivial
section
-- text F0
open PySem PySem.W PyProof.Rows
set_option Elab.async false
set_option maxRecDepth 100000
set_option maxHeartbeats 8000000
set_option linter.unusedVariables false
namespace Mine
set_option pp.deepTerms false
set_option pp.deepTerms.threshold 5
set_option pp.maxSteps 100000

theorem forAt_foldD {prog : Program} {w : World} {A : Around} {E : Value → Shared → Prop} {s : Shared} {env : Env} {h₀ : Heap} {x y : Str} {px : Pos} {body : List Stmt} {Q : Flow → Shared → Prop} {l : Addr} {vs : List Value} {ne : Nat} {m : Str → Option Value} {nx nxd : List (Addr × Obj)} {ds : List Dat}
    (f : Nat → Dat → Nat) (z : Nat) (hh : A.handled = none) (hx : env.kindOf x = some .local) (hp : (env.scope.kind == .class || (env.scope.kind == .module && env.locals != env.globals)) = false)
    (hD : DatAll nxd vs ds) (hm : (l, listOf vs.toArray ne) ∈ nx) (F : Fr h₀ env.locals s.heap m) (N : News h₀ env.locals s.heap nx) (hz : ∃ t, m y = some (.int z t))
    (turn : ∀ (i : Nat) (d : Dat) (v : Value) (t : Tok) h tk I oI, ds[i]? = some d → DatIn nxd v d → (∀ p ∈ nx, p.1 ≠ I) → Fr h₀ env.locals h (fun q => if q = x then some v else if q = y then some (.int ((ds.take i).foldl f z : Nat) t) else m q) → News h₀ env.locals h ((I, oI) :: nx) →
      wpAny (model prog w) A (execs body env) (TurnPost h₀ env.locals (fun m' nx' => nx' = nx ∧ (∃ t, m' y = some (.int (f ((ds.take i).foldl f z) d : Nat) t)) ∧ ∀ q, q ≠ x → q ≠ y → m' q = m q) s I oI Q) (fun _ _ => False) { s with heap := h, toks := tk })
    (done : ∀ (xv : Option Value) h tk (t : Tok), Fr h₀ env.locals h (fun q => if q = y then some (.int (ds.foldl f z : Nat) t) else if q = x then xv else m q) → News h₀ env.locals h nx → Q .next { s with heap := h, toks := tk }) :
    ForAt prog w A env (.Name x px) body [] Q E (.ref l) s := by
  have hlen : vs.length = ds.length := hD.length
  refine forAt_name (fun i m' nx' => nx' = nx ∧ (∃ t, m' y = some (.int ((ds.take i).foldl f z : Nat) t)) ∧ ∀ q, q ≠ x → q ≠ y → m' q = m q) hh hx hp (fun i m' nx' h => h.1 ▸ hm) F N ⟨rfl, hz, fun _ _ _ => rfl⟩ ?_ ?_
  · rintro i v m₁ nx' h tk I oI hv ⟨rfl, ⟨t, ht⟩, keep⟩ off F₁ N₁
    obtain ⟨d, hc, hd⟩ := datAll_get hD hv
    have e : (ds.take (i + 1)).foldl f z = f ((ds.take i).foldl f z) d := by rw [List.take_add_one, hc]; simp
    have eF : (fun q => if q = x then some v else m₁ q) = (fun q => if q = x then some v else if q = y then some (.int ((ds.take i).foldl f z : Nat) t) else m q) := by
      funext q
      by_cases h1 : q = x
      · rw [if_pos h1, if_pos h1]
      · rw [if_neg h1, if_neg h1]
        by_cases h2 : q = y
        · rw [if_pos h2, h2, ht]
        · rw [if_neg h2, keep q h1 h2]
    rw [eF] at F₁
    rw [e]
    exact turn i d v t h tk I oI hc hd off F₁ N₁
  · rintro h tk m₁ nx' F₁ N₁ ⟨rfl, ⟨t, ht⟩, keep⟩
    rw [hlen, List.take_length] at ht
    have eF : m₁ = (fun q => if q = y then some (Value.int (ds.foldl f z : Nat) t) else if q = x then m₁ x else m q) := by
      funext q
      by_cases h2 : q = y
      · rw [if_pos h2, h2, ht]
      · rw [if_neg h2]
        by_cases h1 : q = x
        · rw [if_pos h1, h1]
        · rw [if_neg h1, keep q h1 h2]
    rw [eF] at F₁
    exact wpAny_execs_nil (done (m₁ x) h tk t F₁ N₁)
theorem dat_unique {h₀ h : Heap} {L : Addr} {news : List (Addr × Obj)} (N : News h₀ L h news) {v : Value} {d e : Dat} (hd : DatIn news v d) (he : DatIn news v e) {n k : Nat} (od : kqdOk n d = true) (oe : kqdOk k e = true) : d = e := by
  obtain ⟨as, ra⟩ := kqd_in N n hd od
  obtain ⟨bs, rb⟩ := kqd_in N k he oe
  have q := PySem.SeqAt.Reads.unique _ _ _ _ _ (kqd_lay n d od).1 ra rb
  refine (kqd_eqv n d e k od oe).mp ?_
  rw [← q]
  exact PySem.SeqAt.eqv_refl _ (kqd_lay n d od).1
open Classical in
theorem eqAt_dat {h₀ : Heap} {L : Addr} {news : List (Addr × Obj)} {A : Around} {s : Shared} (N : News h₀ L s.heap news) {v w : Value} {d e : Dat} (hd : DatIn news v d) (he : DatIn news w e) (od : kqdOk 8 d = true) (oe : kqdOk 8 e = true) (hu : A.units + 8 < cLine) :
    PySem.SeqAt.EqAt A s v w (decide (d = e)) := by
  obtain ⟨as, ra⟩ := kqd_in N 8 hd od
  obtain ⟨bs, rb⟩ := kqd_in N 8 he oe
  have ld := kqd_lay 8 d od
  have le := kqd_lay 8 e oe
  have q := kqd_eqv 8 d e 8 od oe
  have r := PySem.SeqAt.eqAt_reads _ _ A s v w as bs ra rb ld.1 le.1 (by have := Nat.min_le_left (kqdP d).depth (kqdP e).depth; omega)
  have e1 : PyData.eqv (kqdP d) (kqdP e) = decide (d = e) := by
    by_cases h : d = e
    · rw [decide_eq_true h]; exact q.mpr h
    · rw [decide_eq_false h]; exact Bool.eq_false_iff.mpr fun x => h (q.mp x)
  rw [e1] at r
  exact r
end Mine
end
theorem Mine.freshF1 : True := by
  w_top off
  trivial
section
-- text F1
open PySem PySem.W PyProof.Rows
set_option Elab.async false
set_option maxRecDepth 100000
set_option maxHeartbeats 8000000
set_option linter.unusedVariables false
namespace Mine
set_option pp.deepTerms false
set_option pp.deepTerms.threshold 5
set_option pp.maxSteps 100000

def keysD (ks : List (List Part)) : List Dat := ks.map fun u => .list (keyL u)
structure KeysIn (news : List (Addr × Obj)) (x y : Value) (ks : List (List Part)) (v : List Part) : Prop where
  hx : DatIn news x (.list (keysD ks))
  hy : DatIn news y (.list (keyL v))
  ok : ∀ u ∈ ks, ∀ p ∈ u, p.ok
  ov : ∀ p ∈ v, p.ok
  len : ks.length ≤ 8
noncomputable def isKey (v : List Part) (d : Dat) : Bool := open Classical in decide (d = .list (keyL v))
noncomputable def cntF (v : List Part) (n : Nat) (d : Dat) : Nat := if isKey v d = true then n + 1 else n
theorem isKey_iff (v u : List Part) : isKey v (.list (keyL u)) = true ↔ keyL u = keyL v := by
  unfold isKey
  simp only [decide_eq_true_eq, Dat.list.injEq]
theorem dec_iff {P : Prop} (inst : Decidable P) {c : Bool} (hc : c = true ↔ P) : @decide P inst = c := by
  cases c
  · exact decide_eq_false fun h => Bool.false_ne_true (hc.mpr h)
  · exact decide_eq_true (hc.mp rfl)
theorem eq_keysB {prog : Program} {w : World} {A : Around} {E : Value → Shared → Prop} {s : Shared} {Q : Value → Shared → Prop} {h₀ : Heap} {L l b : Addr} {news n₁ n₂ : List (Addr × Obj)} {vs ws : List Value} {n n2 : Nat} {u v : List Part} {c : Bool} (N : News h₀ L s.heap news) (m1 : (l, listOf vs.toArray n) ∈ news) (m2 : (b, listOf ws.toArray n2) ∈ news) (D1 : DatAll n₁ vs (keyL u)) (D2 : DatAll n₂ ws (keyL v))
    (s1 : ∀ p ∈ n₁, p ∈ news) (s2 : ∀ p ∈ n₂, p ∈ news) (hu : ∀ p ∈ u, p.ok) (hv : ∀ p ∈ v, p.ok) (hr : A.units + 64 < cLine) (hc : c = true ↔ keyL u = keyL v) (h : Q (.bool c) s) : wpAny (model prog w) A (compareOp .Eq (.ref l) (.ref b)) Q E s := by
  refine kqd_eq N m1 rfl rfl D1 s1 m2 rfl rfl D2 s2 (key_ok u hu) (key_ok v hv) hr ?_
  rw [dec_iff _ hc]
  exact h
theorem not_tuple {its : Array Value} {n : Nat} : (listOf its n).cls ≠ Value.type "tuple" := by
  intro e
  have : ("list" : String) = "tuple" := by injection e
  exact absurd this (by decide)
theorem keyD_ok {u : List Part} (h : ∀ p ∈ u, p.ok) : kqdOk 8 (.list (keyL u)) = true := by
  show (keyL u).all (kqdOk 7) = true
  rw [List.all_eq_true]
  intro d hd
  have := key_ok u h d hd
  rcases leaf_of u d hd with ⟨a, rfl⟩ | ⟨x, rfl⟩
  · rfl
  · exact this
section
local macro_rules | `(tactic| walk_at "exec For") => `(tactic| (refine For_at ?_))
local macro_rules | `(tactic| walk_at "dummy key") => `(tactic| fail)
local macro_rules | `(tactic| walk_at "dummy key") => `(tactic| fail)
local macro_rules | `(tactic| walk_at "dummy key") => `(tactic| fail)
local macro_rules | `(tactic| walk_at "dummy key") => `(tactic| fail)
local macro_rules | `(tactic| walk_at "dummy key") => `(tactic| fail)
local macro_rules | `(tactic| walk_at "dummy key") => `(tactic| fail)
local macro_rules | `(tactic| walk_at "dummy key") => `(tactic| fail)
local macro_rules | `(tactic| walk_at "dummy key") => `(tactic| fail)
theorem countOf_spec {w mean mg mb news} {x y : Value} {ks : List (List Part)} {v : List Part} (k : KeysIn news x y ks v) : Spec w mean mg mb news 121 [x, y] 16 (fun nx r => ∃ t, r = .int (((keysD ks).foldl (cntF v) 0 : Nat) : Int) t) := by
  obtain ⟨l, vs, ne, rfl, hm, hD⟩ := datList k.hx
  obtain ⟨l2, vs2, ne2, rfl, hm2, hD2⟩ := datList k.hy
  have bx := Box.mk (And.intro hm (And.intro hm2 (And.intro hD hD2)))
  clear hm hm2 hD hD2
  unfold Spec
  k_fill
  intro dp un gd cn cs a ccd cl outer A₀ base h₀ L m s Q E B F X N T hk hd' hu hret
  refine wpAny_noRaise ?_
  refine wpAny_call ?_
  k_dflt ktr_enter
  k_steps
  rename (Fr _ _ _ _) => F1
  rename (News _ _ _ _) => N1
  refine forAt_foldD (y := Str.ofString "count") (cntF v) 0 rfl rfl rfl bx.out.2.2.1 bx.out.1 F1 N1 ⟨_, rfl⟩ ?turn ?done
  case turn =>
    intro i d v' t h tk I oI hc hd off F2 N2
    generalize ((keysD ks).take i).foldl (cntF v) 0 = acc at F2 ⊢
    obtain ⟨u, hu', rfl⟩ : ∃ u ∈ ks, Dat.list (keyL u) = d := List.mem_map.mp (List.mem_of_getElem? hc)
    obtain ⟨l3, vs3, ne3, rfl, hm3, hD3⟩ := datList hd
    have bx3 := Box.mk (And.intro hm3 (And.intro hD3 hd))
    clear hm3 hD3 hd
    obtain ⟨b, hb⟩ : ∃ b, isKey v (.list (keyL u)) = b := ⟨_, rfl⟩
    have hno : ((cntF v acc (.list (keyL u)) : Nat) : Int) = if b = true then (acc : Int) + 1 else (acc : Int) := by
      unfold cntF
      rw [hb]
      cases b <;> simp
    rw [hno]
    clear hno
    have hb' := isKey_iff v u
    rw [hb] at hb'
    have bx4 := Box.mk hb'
    clear hb hb'
    k_steps
    by_cases hl : l3 = l2
    · have e : b = true := by
        refine bx4.out.mpr ?_
        subst hl
        exact Dat.list.inj (dat_unique N bx3.out.2.2 k.hy (keyD_ok (k.ok u hu')) (keyD_ok k.ov))
      clear bx4
      subst e
      simp only [if_true]
      rw [hl]
      refine wpAny_is_ref_self ?_
      clear hl
      k_steps
      exact turnEnd_of (by assumption) (by assumption) (fun q hq => hq) (by assumption) ⟨rfl, ⟨_, rfl⟩, fun q h1 h2 => by simp only [if_neg h1, if_neg h2]⟩
    · refine kto_is (N2 _ (List.mem_cons_of_mem _ bx3.out.1)).1 (N2 _ (List.mem_cons_of_mem _ bx.out.2.1)).1 hl not_tuple ?_
      k_steps
      refine eq_keysB N2 (List.mem_cons_of_mem _ bx3.out.1) (List.mem_cons_of_mem _ bx.out.2.1) bx3.out.2.1 bx.out.2.2.2 (fun p hp => List.mem_cons_of_mem _ hp) (fun p hp => List.mem_cons_of_mem _ hp) (k.ok u hu') k.ov (by ktr_units) bx4.out ?_
      clear bx4
      cases b
      · simp only [Bool.false_eq_true, if_false]
        k_steps
        exact turnEnd_of (by assumption) (by assumption) (fun q hq => hq) (by assumption) ⟨rfl, ⟨_, rfl⟩, fun q h1 h2 => by simp only [if_neg h1, if_neg h2]⟩
      · simp only [if_true]
        k_steps
        exact turnEnd_of (by assumption) (by assumption) (fun q hq => hq) (by assumption) ⟨rfl, ⟨_, rfl⟩, fun q h1 h2 => by simp only [if_neg h1, if_neg h2]⟩
  case done =>
    intro xv h tk t F2 N2
    k_steps
    exact hret _ [] _ _ (by assumption) (by assumption) (fun _ _ _ h => nomatch h) ⟨_, rfl⟩
end
end Mine
end
theorem Mine.freshF2 : True := by
  w_top off
  trivial
section
-- text F2
open PySem PySem.W PyProof.Rows
set_option Elab.async false
set_option maxRecDepth 100000
set_option maxHeartbeats 8000000
set_option linter.unusedVariables false
namespace Mine
set_option pp.deepTerms false
set_option pp.deepTerms.threshold 5
set_option pp.maxSteps 100000

theorem keysD_ok {ks : List (List Part)} (h : ∀ u ∈ ks, ∀ p ∈ u, p.ok) : ∀ d ∈ keysD ks, kqdOk 8 d = true := fun d hd => by
  obtain ⟨u, hu, rfl⟩ := List.mem_map.mp hd
  exact keyD_ok (h u hu)
theorem dec_true {P : Prop} (inst : Decidable P) : @decide P inst = true ↔ P := decide_eq_true_iff
theorem contains_spec {w mean mg mb news} {x y : Value} {ks : List (List Part)} {v : List Part} (k : KeysIn news x y ks v) : Spec w mean mg mb news 114 [x, y] 16 (fun nx r => ∃ c : Bool, r = .bool c ∧ (c = true ↔ Dat.list (keyL v) ∈ keysD ks)) := by
  obtain ⟨l, vs, ne, rfl, hm, hD⟩ := datList k.hx
  obtain ⟨l2, vs2, ne2, rfl, hm2, hD2⟩ := datList k.hy
  have bx := Box.mk (And.intro hm (And.intro hm2 (And.intro hD hD2)))
  clear hm hm2 hD hD2
  unfold Spec
  k_fill
  intro dp un gd cn cs a ccd cl outer A₀ base h₀ L m s Q E B F X N T hk hd' hu hret
  refine wpAny_noRaise ?_
  refine wpAny_call ?_
  k_dflt ktr_enter
  k_steps
  rename (News _ _ _ _) => N1
  refine kqd_isIn N1 bx.out.1 rfl rfl bx.out.2.2.1 (fun p hp => hp) k.hy (fun p hp => hp) (keysD_ok k.ok) (keyD_ok k.ov) (by ktr_units) ?_
  k_steps
  exact hret _ [] _ _ (by assumption) (by assumption) (fun _ _ _ h => nomatch h) ⟨_, rfl, dec_true _⟩
end Mine
end
theorem Mine.freshF3 : True := by
  w_top off
  trivial
section
-- text F3
open PySem PySem.W PyProof.Rows
set_option Elab.async false
set_option maxRecDepth 100000
set_option maxHeartbeats 8000000
set_option linter.unusedVariables false
namespace Mine

open PySem.SeqAt
noncomputable def isDat (nx : List (Addr × Obj)) (e : Dat) (y : Value) : Bool := open Classical in decide (DatIn nx y e)
noncomputable def sameD (e d : Dat) : Bool := open Classical in decide (d = e)
theorem isDat_iff {nx : List (Addr × Obj)} {e : Dat} {y : Value} : isDat nx e y = true ↔ DatIn nx y e := by unfold isDat; simp only [decide_eq_true_eq]
theorem sameD_iff {e d : Dat} : sameD e d = true ↔ d = e := by unfold sameD; simp only [decide_eq_true_eq]
theorem isDat_eq {h₀ h : Heap} {L : Addr} {news : List (Addr × Obj)} (N : News h₀ L h news) {y : Value} {d e : Dat} (hd : DatIn news y d) (od : kqdOk 8 d = true) (oe : kqdOk 8 e = true) : isDat news e y = sameD e d := by
  rw [Bool.eq_iff_iff, isDat_iff, sameD_iff]
  exact ⟨fun h => dat_unique N hd h od oe, fun h => h ▸ hd⟩
theorem isDat_at {h₀ : Heap} {L : Addr} {news : List (Addr × Obj)} {A : Around} {s : Shared} (N : News h₀ L s.heap news) {y x : Value} {d e : Dat} (hd : DatIn news y d) (he : DatIn news x e) (od : kqdOk 8 d = true) (oe : kqdOk 8 e = true) (hu : A.units + 8 < cLine) :
    EqAt A s y x (isDat news e y) := by
  have := eqAt_dat (A := A) N hd he od oe hu
  rw [isDat_eq N hd od oe]
  unfold sameD
  exact this
theorem countP_dat {h₀ h : Heap} {L : Addr} {news : List (Addr × Obj)} (N : News h₀ L h news) {e : Dat} (oe : kqdOk 8 e = true) : ∀ {vs : List Value} {ds : List Dat}, DatAll news vs ds → (∀ d ∈ ds, kqdOk 8 d = true) → vs.countP (isDat news e) = ds.countP (sameD e)
  | [], _, h, _ => by cases h; rfl
  | _ :: vs, _, h, ok => by
    cases h with
    | cons a r =>
      rw [List.countP_cons, List.countP_cons, countP_dat N oe r fun d hd => ok d (List.mem_cons_of_mem _ hd), isDat_eq N a (ok _ List.mem_cons_self) oe]
section
variable {prog : Program} {w : World} {A : Around} {E : Value → Shared → Prop} {s : Shared} {Q : Value → Shared → Prop} {h₀ : Heap} {L l : Addr} {news : List (Addr × Obj)} {vs : List Value} {n : Nat} {ds : List Dat} {x : Value} {e : Dat}
theorem count_dat (N : News h₀ L s.heap news) (hm : (l, listOf vs.toArray n) ∈ news) (hD : DatAll news vs ds) (hx : DatIn news x e) (od : ∀ d ∈ ds, kqdOk 8 d = true) (oe : kqdOk 8 e = true) (hu : A.units + 16 < cLine)
    (h : Q (.int (ds.countP (sameD e) : Nat) s.toks) { s with toks := s.toks + 1 }) : wpAny (model prog w) A (call (.builtin "list.count") [.ref l, x]) Q E s := by
  have ho := (N _ hm).1
  refine call_meets PySem.F.slot_list_count ⟨_, ho, rfl⟩ PySem.F.entry_list_count (PySem.F.args_list_count_2 _ _) (list_countAt l vs.toArray n none #[] x (isDat news e)) ⟨ho, fun y hy => ?_, ?_⟩
  · obtain ⟨k, hk⟩ := List.getElem?_of_mem (by simpa using hy : y ∈ vs)
    obtain ⟨d, hd, hi⟩ := datAll_get hD hk
    exact isDat_at N hi hx (od d (List.mem_of_getElem? hd)) oe (by show A.units + 1 + 8 < cLine; omega)
  · have e1 : vs.toArray.toList.countP (isDat news e) = ds.countP (sameD e) := by simpa using countP_dat N oe hD od
    rw [e1]
    exact h
theorem index_dat (N : News h₀ L s.heap news) (hm : (l, listOf vs.toArray n) ∈ news) (hD : DatAll news vs ds) (hx : DatIn news x e) (od : ∀ d ∈ ds, kqdOk 8 d = true) (oe : kqdOk 8 e = true) (hu : A.units + 16 < cLine) {j : Nat} (hj : ds[j]? = some e) (hno : ∀ k, k < j → ds[k]? ≠ some e) (hs : (j : Int) < 2 ^ 63 - 1)
    (h : Q (.int j s.toks) { s with toks := s.toks + 1 }) : wpAny (model prog w) A (call (.builtin "list.index") [.ref l, x]) Q E s := by
  have ho := (N _ hm).1
  have hl : vs.length = ds.length := hD.length
  have hjx : j < ds.length := (List.getElem?_eq_some_iff.mp hj).1
  refine call_meets PySem.F.slot_list_index ⟨_, ho, rfl⟩ PySem.F.entry_list_index (PySem.F.args_list_index_2 _ _)
    (list_indexAt l vs.toArray n none #[] x (isDat news e) j (by simpa [hl] using hjx) hs ?_ ?_) ⟨ho, fun y hy => ?_, h⟩
  · have hv : vs[j]? = some (vs.toArray[j]'(by simpa [hl] using hjx)) := by simp [hl, hjx]
    obtain ⟨d, hd, hi⟩ := datAll_get hD hv
    rw [hj] at hd
    cases hd
    rw [isDat_eq N hi (od _ (List.mem_of_getElem? hj)) oe]
    exact sameD_iff.mpr rfl
  · intro k hk hkj
    have hv : vs[k]? = some vs.toArray[k] := by simp at hk; simp [hk]
    obtain ⟨d, hd, hi⟩ := datAll_get hD hv
    rw [isDat_eq N hi (od _ (List.mem_of_getElem? hd)) oe]
    exact Bool.eq_false_iff.mpr fun q => hno k hkj (by rw [hd, sameD_iff.mp q])
  · obtain ⟨k, hk⟩ := List.getElem?_of_mem (by simpa using hy : y ∈ vs)
    obtain ⟨d, hd, hi⟩ := datAll_get hD hk
    exact isDat_at N hi hx (od d (List.mem_of_getElem? hd)) oe (by show A.units + 1 + 8 < cLine; omega)
end
end Mine
end
theorem Mine.freshF4 : True := by
  w_top off
  trivial
section
-- text F4
open PySem PySem.W PyProof.Rows
set_option Elab.async false
set_option maxRecDepth 100000
set_option maxHeartbeats 8000000
set_option linter.unusedVariables false
namespace Mine
set_option pp.deepTerms false
set_option pp.deepTerms.threshold 6
set_option pp.maxSteps 100000

theorem turnEnd2_of {h₀ : Heap} {L : Addr} {J : (Str → Option Value) → List (Addr × Obj) → Prop} {s0 : Shared} {its : List (Addr × Obj)} {m' : Str → Option Value} {nx' : List (Addr × Obj)} {h' : Heap} {tk' : Nat} (F' : Fr h₀ L h' m') (N' : News h₀ L h' (its ++ nx'))
    (off : ∀ p ∈ nx', p.1 ∉ its.map (·.1)) (hJ : J m' nx') : TurnEnd2 h₀ L J s0 its { s0 with heap := h', toks := tk' } := ⟨h', tk', m', nx', rfl, F', N', off, hJ⟩
def rowP (u : List Part) : Dat := rowD (u.map (·.code))
structure FoundIn (news : List (Addr × Obj)) (x y rx ry : Value) (ks : List (List Part)) (v : List Part) (C : Nat) : Prop where
  k : KeysIn news x y ks v
  rx : DatIn news rx (.list (ks.map rowP))
  ry : DatIn news ry (rowP v)
  c1 : (ks.map rowP).countP (sameD (rowP v)) = C
  c2 : (keysD ks).foldl (cntF v) 0 = C
  c3 : 0 < C ↔ Dat.list (keyL v) ∈ keysD ks
theorem row_ok (u : List Part) : kqdOk 8 (rowP u) = true := by
  show ((u.map (·.code)).map fun (c : Nat) => Dat.int (c : Int)).all (kqdOk 7) = true
  rw [List.all_eq_true]
  intro d hd
  obtain ⟨c, _, rfl⟩ := List.mem_map.mp hd
  rfl
theorem rows_ok (ks : List (List Part)) : ∀ d ∈ ks.map rowP, kqdOk 8 d = true := fun d hd => by
  obtain ⟨u, _, rfl⟩ := List.mem_map.mp hd
  exact row_ok u

abbrev topA (dp un : Nat) (gd : Option (List Code)) (cn : Str) (cs : Scope) (L a : Addr) (ccd : Value) : Around := { handled := none, depth := dp, frames := some [envOf cn cs L a ccd], guards := gd, units := un }
/-- a contract of a def that is called from the law's own frame -/
def SpecT (w : World) (mean : ExcName → Option Value) (mg mb : Str → Option Value) (news : List (Addr × Obj)) (f : Addr) (args : List Value) (cost : Nat) (Post : List (Addr × Obj) → Value → Prop) : Prop :=
  ∀ (dp un : Nat) (gd : Option (List Code)) (cn : Str) (cs : Scope) (a : Addr) (ccd : Value) (A₀ : Around) (base h₀ : Heap) (L : Addr) (m : Str → Option Value) (s : Shared)
    (Q E : Value → Shared → Prop),
    Below A₀ base [] h₀ → (hd.heap_39 w.params).In base → Top hd.view_39 LS mean mg mb base → Fr h₀ L s.heap m → (hd.heap_39 w.params).In h₀ → News h₀ L s.heap news → Top hd.view_39 LS mean mg mb h₀ → cs.kind = .function → dp + cost < recursionLimit → un + 8 * cost < cLine →
    (∀ r tl h' tk', Fr h₀ L h' m → News h₀ L h' (tl ++ news) → (∀ q ∈ news, ∀ p ∈ tl, q.1 ≠ p.1) → Post (tl ++ news) r → Q r { s with heap := h', toks := tk' }) →
    wpAny (model PySem.Challenge.rw_nb0083_01.row.prog w) (topA dp un gd cn cs L a ccd) (call (.ref f) args) Q E s
section
local macro_rules | `(tactic| walk_at "mem") => `(tactic| first | assumption | exact List.mem_cons_self | (refine List.mem_cons_of_mem _ ?_; walk_at "mem"))
local macro_rules | `(tactic| walk_at "exec For") => `(tactic| (refine For_at ?_))
local macro_rules | `(tactic| walk_at "call ref") => `(tactic| ((with_reducible show wpAny _ _ (call (Value.ref 121) _) _ _ _); (rename FoundIn _ _ _ _ _ _ _ _ => fi); (refine spec_use0 (countOf_spec fi.k) (by k_asm) (by k_asm) (by k_asm) (by k_asm) (by k_asm) rfl ?d ?u ?_); (case d => ktr_room); (case u => ktr_units); intro r' nx' h' tk' F' N' hp'; rw [fi.c2] at hp'; obtain ⟨t', e'⟩ := hp'; subst e'))
local macro_rules | `(tactic| walk_at "call ref") => `(tactic| ((with_reducible show wpAny _ _ (call (Value.ref 114) _) _ _ _); (rename FoundIn _ _ _ _ _ _ _ _ => fi); (refine spec_use0 (contains_spec fi.k) (by k_asm) (by k_asm) (by k_asm) (by k_asm) (by k_asm) rfl ?d ?u ?_); (case d => ktr_room); (case u => ktr_units); intro r' nx' h' tk' F' N' hp'; obtain ⟨c', e', hc'⟩ := hp'; subst e'; rw [← fi.c3] at hc'))
local macro_rules | `(tactic| walk_at "call ref") => `(tactic| ((with_reducible show wpAny _ _ (call (Value.ref 128) _) _ _ _); (refine wpAny_call ?_); k_dflt (refine' code_defS ?k1 ?k2 ?k3 ?k4 ?k5 ?XB ?TB ?D ?T0 ?kA ?k6 ?k7 ?k8 ?k9 ?kB ?_ ?cK ?c2 ?c3 ?c4 ?c5; (case kA => exact rfl); (case k2 => k_asm); (case k1 => k_asm); (case XB => assumption); (case TB => assumption); (case D => assumption); (case T0 => first | assumption | exact KtsTurn.refl); (case k3 => k_asm); (case k4 => k_asm); (case k5 => k_asm); (case k6 => k_is); (case k7 => k_is); (case k8 => ktr_room); (case k9 => exact BindsTo.of_eq rfl); (case kB => exact locs rfl); (case cK => exact rfl); (case c2 => exact rfl); (case c3 => exact rfl); (case c4 => exact rfl); (case c5 => decide); k_whole; intro g' L' h' FG' F' N' B' X' T' D'; (try dsimp only); (try k_fold))))
local macro_rules | `(tactic| walk_at "getMethod ref") => `(tactic| ((with_reducible show wpAny _ _ (getMethod (Value.ref _) (PySem.Str.ofString "count") _) _ _ _); (rename Box _ => bx'); k_dflt (refine' kl_method ?N ?m PySem.F.slot_list_count PySem.F.type_list_count ?_; (case N => k_asm); (case m => exact bx'.out.1))))
local macro_rules | `(tactic| walk_at "dummy key") => `(tactic| fail)
local macro_rules | `(tactic| walk_at "dummy key") => `(tactic| fail)
local macro_rules | `(tactic| walk_at "dummy key") => `(tactic| fail)
local macro_rules | `(tactic| walk_at "dummy key") => `(tactic| fail)
theorem found_no {w mean mg mb news} {x y rx ry : Value} {ks : List (List Part)} {v : List Part} (fi : FoundIn news x y rx ry ks v 0) : SpecT w mean mg mb news 208 [x, y, rx, ry] 32 (fun nx r => r = .bool true) := by
  obtain ⟨l, vs, ne, e1, hm, hD⟩ := datList fi.rx
  subst e1
  obtain ⟨l2, vs2, ne2, e1, hm2, hD2⟩ := datList fi.k.hx
  subst e1
  have bx := Box.mk (And.intro hm (And.intro hD (And.intro hm2 hD2)))
  clear hm hD hm2 hD2
  unfold SpecT
  k_fill
  intro dp un gd cn cs a ccd A₀ base h₀ L m s Q E B XB TB F X N T hk hd' hu hret
  refine wpAny_noRaise ?_
  refine wpAny_call ?_
  k_dflt (refine' code_defS0 ?k1 ?k2 ?k3 ?k4 ?k5 ?kA ?k6 ?k7 ?k8 ?k9 ?kB ?_ ?cK ?c2 ?c3 ?c4 ?c5; (case kA => exact rfl); (case k2 => k_asm); (case k1 => k_asm); (case k3 => k_asm); (case k4 => k_asm); (case k5 => k_asm); (case k6 => k_is); (case k7 => k_is); (case k8 => ktr_room); (case k9 => exact BindsTo.of_eq rfl); (case kB => exact locs rfl); (case cK => assumption); (case c2 => exact rfl); (case c3 => exact rfl); (case c4 => exact rfl); (case c5 => decide); k_whole; intro g' L' h' FG' F' N' B' X' T' D'; (try dsimp only); (try k_fold))
  k_steps
  rename (News _ _ _ _) => N1
  rename (Box _) => bx
  refine count_dat N1 bx.out.1 bx.out.2.1 fi.ry (rows_ok ks) (row_ok v) (by ktr_units) ?_
  rw [fi.c1]
  k_steps
  · rename ((_ != _) = true) => hb
    rename (_ = true ↔ _) => hc
    simp only [Nat.lt_irrefl, iff_false, Bool.not_eq_true] at hc
    rw [hc] at hb
    exact absurd hb (by decide)
  · rename (Fr _ _ _ _) => F1
    rename (News _ _ _ _) => N1
    rename (Box _) => bx
    rename (FoundIn _ _ _ _ _ _ _ _) => fi
    refine enum_for (vs := vs2) (ne := ne2) (fun i m' nx' => nx' = news ∧ m' (Str.ofString "b") = some y) rfl rfl rfl rfl (fun i m' nx' h => h.1 ▸ bx.out.2.2.1) F1 N1 ⟨rfl, rfl⟩ ?turn ?done
    case turn =>
      rintro i v' t m₁ nx h tk e it oe oi hv ⟨rfl, hb⟩ off F2 N2
      rw [frame_one hb] at F2
      obtain ⟨d, hc, hd⟩ := datAll_get bx.out.2.2.2 hv
      obtain ⟨u, hu', rfl⟩ : ∃ u ∈ ks, Dat.list (keyL u) = d := List.mem_map.mp (List.mem_of_getElem? hc)
      obtain ⟨l3, vs3, ne3, rfl, hm3, hD3⟩ := datList hd
      obtain ⟨l4, vs4, ne4, e4, hm4, hD4⟩ := datList fi.k.hy
      subst e4
      have bx3 := Box.mk (And.intro hm3 (And.intro hD3 (And.intro hd (And.intro hm4 hD4))))
      clear hm3 hD3 hd hm4 hD4
      have hne : keyL u ≠ keyL v := fun q => by
        have : Dat.list (keyL v) ∈ keysD ks := by rw [← q]; exact List.mem_map.mpr ⟨u, hu', rfl⟩
        exact absurd (fi.c3.mpr this) (Nat.lt_irrefl _)
      have hl : l3 ≠ l4 := fun q => by
        subst q
        exact hne (Dat.list.inj (dat_unique N bx3.out.2.2.1 fi.k.hy (keyD_ok (fi.k.ok u hu')) (keyD_ok fi.k.ov)))
      k_steps
      refine kto_is (N2 _ (List.mem_append_right _ bx3.out.1)).1 (N2 _ (List.mem_append_right _ bx3.out.2.2.2.1)).1 hl not_tuple ?_
      k_steps
      refine eq_keysB (c := false) N2 (List.mem_append_right _ bx3.out.1) (List.mem_append_right _ bx3.out.2.2.2.1) bx3.out.2.1 bx3.out.2.2.2.2 (fun p hp => List.mem_append_right _ hp) (fun p hp => List.mem_append_right _ hp) (fi.k.ok u hu') fi.k.ov (by ktr_units) ⟨fun q => absurd q Bool.false_ne_true, fun q => absurd q hne⟩ ?_
      clear hne
      k_steps
      exact turnEnd2_of (by assumption) (by assumption) off ⟨rfl, rfl⟩
    case done =>
      rintro h1 tk1 m1 nx1 F2 N2 ⟨rfl, keep⟩
      refine wpAny_passesOwn (by passes_own) ?_
      k_steps
      refine hret _ [] _ _ (by assumption) ?_ (fun _ _ _ h => nomatch h) (congrArg Value.bool (beq_self_eq_true _))
      first
        | assumption
        | (rename (News h₀ _ _ _) => N3; exact fun p hp => N3 p (by walk_at "mem"))
end
end Mine
end
theorem Mine.freshF5 : True := by
  w_top off
  trivial
section
-- text F5
open PySem PySem.W PyProof.Rows
set_option Elab.async false
set_option maxRecDepth 100000
set_option maxHeartbeats 8000000
set_option linter.unusedVariables false
namespace Mine
set_option pp.deepTerms false
set_option pp.deepTerms.threshold 5
theorem rowP_inj {u v : List Part} (hu : ∀ p ∈ u, p.ok) (hv : ∀ p ∈ v, p.ok) (h : rowP u = rowP v) : u = v := by
  have h1 : (u.map (·.code)).map (fun (c : Nat) => Dat.int (c : Int)) = (v.map (·.code)).map (fun (c : Nat) => Dat.int (c : Int)) := Dat.list.inj h
  induction u generalizing v with
  | nil => cases v with
    | nil => rfl
    | cons q v => simp at h1
  | cons p u ih => cases v with
    | nil => simp at h1
    | cons q v =>
      simp only [List.map_cons, List.cons.injEq, Dat.int.injEq] at h1
      have e1 : p = q := code_inj (hu p List.mem_cons_self) (hv q List.mem_cons_self) (by omega)
      have e2 := ih (v := v) (fun p hp => hu p (List.mem_cons_of_mem _ hp)) (fun p hp => hv p (List.mem_cons_of_mem _ hp)) (congrArg Dat.list h1.2) h1.2
      rw [e1, e2]
section
local macro_rules | `(tactic| walk_at "getMethod ref") => `(tactic| ((with_reducible show wpAny _ _ (getMethod (Value.ref _) (PySem.Str.ofString "index") _) _ _ _); (rename Box _ => bx'); k_dflt (refine' kl_method ?N ?m PySem.F.slot_list_index PySem.F.type_list_index ?_; (case N => k_asm); (case m => exact bx'.out.1))))
local macro_rules | `(tactic| walk_at "mem") => `(tactic| first | assumption | exact List.mem_cons_self | (refine List.mem_cons_of_mem _ ?_; walk_at "mem"))
local macro_rules | `(tactic| walk_at "exec For") => `(tactic| (refine For_at ?_))
local macro_rules | `(tactic| walk_at "call ref") => `(tactic| ((with_reducible show wpAny _ _ (call (Value.ref 121) _) _ _ _); (rename FoundIn _ _ _ _ _ _ _ _ => fi); (refine spec_use0 (countOf_spec fi.k) (by k_asm) (by k_asm) (by k_asm) (by k_asm) (by k_asm) rfl ?d ?u ?_); (case d => ktr_room); (case u => ktr_units); intro r' nx' h' tk' F' N' hp'; rw [fi.c2] at hp'; obtain ⟨t', e'⟩ := hp'; subst e'))
local macro_rules | `(tactic| walk_at "call ref") => `(tactic| ((with_reducible show wpAny _ _ (call (Value.ref 114) _) _ _ _); (rename FoundIn _ _ _ _ _ _ _ _ => fi); (refine spec_use0 (contains_spec fi.k) (by k_asm) (by k_asm) (by k_asm) (by k_asm) (by k_asm) rfl ?d ?u ?_); (case d => ktr_room); (case u => ktr_units); intro r' nx' h' tk' F' N' hp'; obtain ⟨c', e', hc'⟩ := hp'; subst e'; rw [← fi.c3] at hc'))
local macro_rules | `(tactic| walk_at "call ref") => `(tactic| ((with_reducible show wpAny _ _ (call (Value.ref 128) _) _ _ _); (refine wpAny_call ?_); k_dflt (refine' code_defS ?k1 ?k2 ?k3 ?k4 ?k5 ?XB ?TB ?D ?T0 ?kA ?k6 ?k7 ?k8 ?k9 ?kB ?_ ?cK ?c2 ?c3 ?c4 ?c5; (case kA => exact rfl); (case k2 => k_asm); (case k1 => k_asm); (case XB => assumption); (case TB => assumption); (case D => assumption); (case T0 => first | assumption | exact KtsTurn.refl); (case k3 => k_asm); (case k4 => k_asm); (case k5 => k_asm); (case k6 => k_is); (case k7 => k_is); (case k8 => ktr_room); (case k9 => exact BindsTo.of_eq rfl); (case kB => exact locs rfl); (case cK => exact rfl); (case c2 => exact rfl); (case c3 => exact rfl); (case c4 => exact rfl); (case c5 => decide); k_whole; intro g' L' h' FG' F' N' B' X' T' D'; (try dsimp only); (try k_fold))))
local macro_rules | `(tactic| walk_at "getMethod ref") => `(tactic| ((with_reducible show wpAny _ _ (getMethod (Value.ref _) (PySem.Str.ofString "count") _) _ _ _); (rename Box _ => bx'); k_dflt (refine' kl_method ?N ?m PySem.F.slot_list_count PySem.F.type_list_count ?_; (case N => k_asm); (case m => exact bx'.out.1))))
local macro_rules | `(tactic| walk_at "dummy key") => `(tactic| fail)
local macro_rules | `(tactic| walk_at "dummy key") => `(tactic| fail)
local macro_rules | `(tactic| walk_at "dummy key") => `(tactic| fail)
local macro_rules | `(tactic| walk_at "dummy key") => `(tactic| fail)
theorem found_yes {w mean mg mb news} {x y rx ry : Value} {ks : List (List Part)} {v : List Part} {C : Nat} (fi : FoundIn news x y rx ry ks v C) (hC : 0 < C) {j0 : Nat} (hj : ks[j0]? = some v) (hno : ∀ k, k < j0 → ks[k]? ≠ some v) : SpecT w mean mg mb news 208 [x, y, rx, ry] 32 (fun nx r => r = .bool true) := by
  obtain ⟨l, vs, ne, e1, hm, hD⟩ := datList fi.rx
  subst e1
  obtain ⟨l2, vs2, ne2, e1, hm2, hD2⟩ := datList fi.k.hx
  subst e1
  have bx := Box.mk (And.intro hm (And.intro hD (And.intro hm2 hD2)))
  clear hm hD hm2 hD2
  unfold SpecT
  k_fill
  intro dp un gd cn cs a ccd A₀ base h₀ L m s Q E B XB TB F X N T hk hd' hu hret
  refine wpAny_noRaise ?_
  refine wpAny_call ?_
  k_dflt (refine' code_defS0 ?k1 ?k2 ?k3 ?k4 ?k5 ?kA ?k6 ?k7 ?k8 ?k9 ?kB ?_ ?cK ?c2 ?c3 ?c4 ?c5; (case kA => exact rfl); (case k2 => k_asm); (case k1 => k_asm); (case k3 => k_asm); (case k4 => k_asm); (case k5 => k_asm); (case k6 => k_is); (case k7 => k_is); (case k8 => ktr_room); (case k9 => exact BindsTo.of_eq rfl); (case kB => exact locs rfl); (case cK => assumption); (case c2 => exact rfl); (case c3 => exact rfl); (case c4 => exact rfl); (case c5 => decide); k_whole; intro g' L' h' FG' F' N' B' X' T' D'; (try dsimp only); (try k_fold))
  k_steps
  rename (News _ _ _ _) => N1
  rename (Box _) => bx
  refine count_dat N1 bx.out.1 bx.out.2.1 fi.ry (rows_ok ks) (row_ok v) (by ktr_units) ?_
  rw [fi.c1]
  k_steps
  rename (News _ _ _ _) => N1
  rename (Box _) => bx
  rename (FoundIn _ _ _ _ _ _ _ _) => fi
  have hjr : (ks.map rowP)[j0]? = some (rowP v) := by rw [List.getElem?_map, hj]; rfl
  have hnr : ∀ k, k < j0 → (ks.map rowP)[k]? ≠ some (rowP v) := fun k hk q => by
    rw [List.getElem?_map] at q
    cases hu' : ks[k]? with
    | none => rw [hu'] at q; cases q
    | some u =>
      rw [hu'] at q
      have := rowP_inj (fi.k.ok u (List.mem_of_getElem? hu')) fi.k.ov (Option.some.inj q)
      exact hno k hk (by rw [hu', this])
  have hj8 : j0 < 8 := Nat.lt_of_lt_of_le (List.getElem?_eq_some_iff.mp hj).1 fi.k.len
  refine index_dat N1 bx.out.1 bx.out.2.1 fi.ry (rows_ok ks) (row_ok v) (by ktr_units) hjr hnr (by omega) ?_
  have bn := Box.mk (And.intro hj hno)
  clear hjr hnr hj hno
  k_steps
  · rename (¬ (_ : Int) = _) => hb
    exact absurd rfl hb
  · rename ((_ != _) = true) => hb
    rename (_ = true ↔ _) => hc
    rw [hc.mpr hC] at hb
    exact absurd hb (by simp; omega)
  · rename (Fr _ _ _ _) => F1
    rename (News _ _ _ _) => N1
    rename (FoundIn _ _ _ _ _ _ _ _) => fi
    refine enum_for (vs := vs2) (ne := ne2) (fun i m' nx' => nx' = news ∧ m' (Str.ofString "b") = some y ∧ i ≤ j0) rfl rfl rfl rfl (fun i m' nx' h => h.1 ▸ bx.out.2.2.1) F1 N1 ⟨rfl, rfl, Nat.zero_le _⟩ ?turn ?done
    case turn =>
      rintro i v' t m₁ nx h tk e it oe oi hv ⟨rfl, hb, hij⟩ off F2 N2
      rw [frame_one hb] at F2
      obtain ⟨d, hc, hd⟩ := datAll_get bx.out.2.2.2 hv
      obtain ⟨u, hu', rfl⟩ : ∃ u, ks[i]? = some u ∧ Dat.list (keyL u) = d := by
        unfold keysD at hc
        rw [List.getElem?_map] at hc
        cases q : ks[i]? with
        | none => rw [q] at hc; cases hc
        | some u => rw [q] at hc; exact ⟨u, rfl, Option.some.inj hc⟩
      obtain ⟨l3, vs3, ne3, rfl, hm3, hD3⟩ := datList hd
      obtain ⟨l4, vs4, ne4, e4, hm4, hD4⟩ := datList fi.k.hy
      subst e4
      have bx3 := Box.mk (And.intro hm3 (And.intro hD3 (And.intro hd (And.intro hm4 hD4))))
      clear hm3 hD3 hd hm4 hD4
      have oku := fi.k.ok u (List.mem_of_getElem? hu')
      have hdec : (keyL u = keyL v) ↔ i = j0 := ⟨fun q => by
          have e1 := keyL_inj u v oku fi.k.ov q
          rcases Nat.lt_or_eq_of_le hij with h1 | h1
          · exact absurd (by rw [hu', e1]) (bn.out.2 i h1)
          · exact h1, fun q => by
          rw [q, bn.out.1] at hu'
          rw [Option.some.inj hu']⟩
      have bd := Box.mk hdec
      clear hdec hc hv
      k_steps
      by_cases hl : l3 = l4
      · have e1 : i = j0 := by
          refine bd.out.mp ?_
          subst hl
          exact Dat.list.inj (dat_unique N bx3.out.2.2.1 fi.k.hy (keyD_ok oku) (keyD_ok fi.k.ov))
        rw [hl]
        refine wpAny_is_ref_self ?_
        clear bd hl
        subst e1
        k_steps
        dsimp only [TurnPost2]
        k_steps
        · refine hret _ [] _ _ (by assumption) ?_ (fun _ _ _ h => nomatch h) (congrArg Value.bool (decide_eq_true (by omega)))
          first
            | assumption
            | (rename (News h₀ _ _ _) => N3; exact fun p hp => N3 p (List.mem_append_right _ hp))
        · refine hret _ [] _ _ (by assumption) ?_ (fun _ _ _ h => nomatch h) (congrArg Value.bool (beq_self_eq_true _))
          first
            | assumption
            | (rename (News h₀ _ _ _) => N3; exact fun p hp => N3 p (List.mem_append_right _ hp))
      · refine kto_is (N2 _ (List.mem_append_right _ bx3.out.1)).1 (N2 _ (List.mem_append_right _ bx3.out.2.2.2.1)).1 hl not_tuple ?_
        k_steps
        by_cases hij2 : i = j0
        · refine eq_keysB (c := true) N2 (List.mem_append_right _ bx3.out.1) (List.mem_append_right _ bx3.out.2.2.2.1) bx3.out.2.1 bx3.out.2.2.2.2 (fun p hp => List.mem_append_right _ hp) (fun p hp => List.mem_append_right _ hp) oku fi.k.ov (by ktr_units) ⟨fun _ => bd.out.mpr hij2, fun _ => rfl⟩ ?_
          clear bd
          subst hij2
          k_steps
          dsimp only [TurnPost2]
          k_steps
          · refine hret _ [] _ _ (by assumption) ?_ (fun _ _ _ h => nomatch h) (congrArg Value.bool (decide_eq_true (by omega)))
            first
              | assumption
              | (rename (News h₀ _ _ _) => N3; exact fun p hp => N3 p (List.mem_append_right _ hp))
          · refine hret _ [] _ _ (by assumption) ?_ (fun _ _ _ h => nomatch h) (congrArg Value.bool (beq_self_eq_true _))
            first
              | assumption
              | (rename (News h₀ _ _ _) => N3; exact fun p hp => N3 p (List.mem_append_right _ hp))
        · refine eq_keysB (c := false) N2 (List.mem_append_right _ bx3.out.1) (List.mem_append_right _ bx3.out.2.2.2.1) bx3.out.2.1 bx3.out.2.2.2.2 (fun p hp => List.mem_append_right _ hp) (fun p hp => List.mem_append_right _ hp) oku fi.k.ov (by ktr_units) ⟨fun q => absurd q Bool.false_ne_true, fun q => absurd (bd.out.mp q) hij2⟩ ?_
          clear bd
          k_steps
          exact turnEnd2_of (by assumption) (by assumption) off ⟨rfl, rfl, by omega⟩
    case done =>
      rintro h1 tk1 m1 nx1 F2 N2 ⟨rfl, keep, hle⟩
      exfalso
      have h2 := bx.out.2.2.2.length
      have h3 := (List.getElem?_eq_some_iff.mp bn.out.1).1
      simp only [keysD, List.length_map] at h2
      omega
end
end Mine
end
theorem Mine.freshT0 : True := by
  w_top off
  trivial
section
-- text T0
open PySem PySem.W PyProof.Rows
set_option Elab.async false
set_option maxRecDepth 100000
set_option maxHeartbeats 8000000
set_option linter.unusedVariables false
namespace Mine
open PySem.NumText
inductive Tk where
  | sp (c : Nat)
  | dg (d : List Nat)
  | wd (i : Nat)
def Tk.txt : Tk → List Nat
  | .sp c => [c]
  | .dg d => d
  | .wd i => (wordAt i).cps.toList
def Tk.ok : Tk → Prop
  | .sp c => isSp c = true
  | .dg d => d ≠ [] ∧ (∀ c ∈ d, isDg c = true) ∧ d.length ≤ 20
  | .wd i => i < 15
def Tk.kd : Tk → Nat
  | .sp _ => 0
  | .dg _ => 1
  | .wd _ => 2
def textL (ts : List Tk) : List Nat := ts.flatMap Tk.txt
def Apart : List Tk → Prop
  | [] => True
  | [_] => True
  | a :: b :: r => (a.kd = b.kd → a.kd = 0) ∧ Apart (b :: r)
theorem Apart.tail {a : Tk} {r : List Tk} (h : Apart (a :: r)) : Apart r := by
  cases r with
  | nil => trivial
  | cons b r => exact h.2
def cutT : List Nat → List Tk → List (List Nat)
  | w, [] => [w]
  | w, .sp c :: r => w :: [c] :: cutT [] r
  | w, .dg d :: r => w :: d :: cutT [] r
  | _, .wd i :: r => cutT (wordAt i).cps.toList r
theorem word_letters : ∀ i, i < 15 → ((wordAt i).cps.toList.all isLt) = true := by decide +kernel
theorem word_ne : ∀ i, i < 15 → (wordAt i).cps.toList ≠ [] := by decide +kernel
theorem word_lt {i : Nat} (h : i < 15) : ∀ c ∈ (wordAt i).cps.toList, isLt c = true := List.all_eq_true.mp (word_letters i h)
theorem cut_of : ∀ (ts : List Tk) (w : List Nat), (∀ c ∈ w, isLt c = true) → (w = [] ∨ ∀ t r, ts = t :: r → t.kd ≠ 2) → (∀ t ∈ ts, t.ok) → Apart ts → Cut (w ++ textL ts) (cutT w ts)
  | [], w, hw, _, _, _ => by
    show Cut (w ++ []) [w]
    rw [List.append_nil]; exact .last hw
  | .sp c :: r, w, hw, _, hok, ha => by
    have := cut_of r [] (fun _ h => nomatch h) (.inl rfl) (fun t ht => hok t (List.mem_cons_of_mem _ ht)) ha.tail
    exact Cut.sp hw (hok _ List.mem_cons_self) this
  | .dg d :: r, w, hw, _, hok, ha => by
    have := cut_of r [] (fun _ h => nomatch h) (.inl rfl) (fun t ht => hok t (List.mem_cons_of_mem _ ht)) ha.tail
    obtain ⟨h1, h2, _⟩ := hok _ List.mem_cons_self
    refine Cut.dg hw h1 h2 (fun c hc => ?_) this
    cases r with
    | nil => cases hc
    | cons t r =>
      have hk := hok t (List.mem_cons_of_mem _ List.mem_cons_self)
      cases t with
      | sp c' =>
        have : c' = c := Option.some.inj hc
        subst this
        exact isSp_dg hk
      | dg d' => exact absurd (ha.1 rfl) Nat.one_ne_zero
      | wd i =>
        have hl := word_lt hk
        have hn := word_ne i hk
        have e : (textL (.wd i :: r)).head? = (wordAt i).cps.toList.head? := by
          show ((wordAt i).cps.toList ++ textL r).head? = _
          cases hq : (wordAt i).cps.toList with
          | nil => exact absurd hq hn
          | cons a q => rfl
        have hc2 : (textL (.wd i :: r)).head? = some c := hc
        rw [e] at hc2
        exact isLt_dg (hl c (List.mem_of_head? hc2))
  | .wd i :: r, w, hw, hor, hok, ha => by
    have hi : i < 15 := hok _ List.mem_cons_self
    rcases hor with rfl | hor
    · refine cut_of r (wordAt i).cps.toList (word_lt hi) (.inr fun t r' e => ?_) (fun t ht => hok t (List.mem_cons_of_mem _ ht)) ha.tail
      subst e
      exact fun q => absurd (ha.1 q.symm) (show ¬ ((2 : Nat) = 0) by decide)
    · exact absurd rfl (hor _ _ rfl)
def partsT : List Tk → List Part
  | [] => []
  | .sp _ :: r => partsT r
  | .dg d :: r => .n (digitsVal d) :: partsT r
  | .wd i :: r => .w i :: partsT r
inductive Pcs : List (List Nat) → List Part → Prop
  | nil : Pcs [] []
  | skip {p : List Nat} {ps : List (List Nat)} {us : List Part} (h : p = [] ∨ ∃ c, p = [c] ∧ isSp c = true) (r : Pcs ps us) : Pcs (p :: ps) us
  | num {d : List Nat} {ps : List (List Nat)} {us : List Part} (h1 : d ≠ []) (h2 : ∀ c ∈ d, isDg c = true) (h3 : d.length ≤ 20) (r : Pcs ps us) : Pcs (d :: ps) (.n (digitsVal d) :: us)
  | word {i : Nat} {ps : List (List Nat)} {us : List Part} (h : i < 15) (r : Pcs ps us) : Pcs ((wordAt i).cps.toList :: ps) (.w i :: us)
theorem pcs_of : ∀ (ts : List Tk), (∀ t ∈ ts, t.ok) → Apart ts → Pcs (cutT [] ts) (partsT ts) ∧ ∀ i, i < 15 → (∀ t r, ts = t :: r → t.kd ≠ 2) → Pcs (cutT (wordAt i).cps.toList ts) (.w i :: partsT ts)
  | [], _, _ => ⟨.skip (.inl rfl) .nil, fun i hi _ => .word hi .nil⟩
  | .sp c :: r, hok, ha => by
    have ih := (pcs_of r (fun t ht => hok t (List.mem_cons_of_mem _ ht)) ha.tail).1
    have hs : isSp c = true := hok _ List.mem_cons_self
    exact ⟨.skip (.inl rfl) (.skip (.inr ⟨c, rfl, hs⟩) ih), fun i hi _ => .word hi (.skip (.inr ⟨c, rfl, hs⟩) ih)⟩
  | .dg d :: r, hok, ha => by
    have ih := (pcs_of r (fun t ht => hok t (List.mem_cons_of_mem _ ht)) ha.tail).1
    obtain ⟨h1, h2, h3⟩ := hok _ List.mem_cons_self
    exact ⟨.skip (.inl rfl) (.num h1 h2 h3 ih), fun i hi _ => .word hi (.num h1 h2 h3 ih)⟩
  | .wd j :: r, hok, ha => by
    have ih := (pcs_of r (fun t ht => hok t (List.mem_cons_of_mem _ ht)) ha.tail).2 j (hok _ List.mem_cons_self) (fun t r' e => by
      subst e
      exact fun q => absurd (ha.1 q.symm) (show ¬ ((2 : Nat) = 0) by decide))
    exact ⟨ih, fun i hi hno => absurd rfl (hno _ _ rfl)⟩
/-- a text of tokens, as the list of them tells -/
structure Told (x : Str) (us : List Part) (ts : List Tk) : Prop where
  txt : x.cps.toList = textL ts
  ok : ∀ t ∈ ts, t.ok
  ap : Apart ts
  parts : partsT ts = us
theorem Told.cut {x : Str} {us : List Part} {ts : List Tk} (h : Told x us ts) : ∃ ps, Cut x.cps.toList ps ∧ Pcs ps us :=
  ⟨cutT [] ts, by rw [h.txt]; exact cut_of ts [] (fun _ h => nomatch h) (.inl rfl) h.ok h.ap, h.parts ▸ (pcs_of ts h.ok h.ap).1⟩
theorem textL_append (a b : List Tk) : textL (a ++ b) = textL a ++ textL b := by simp [textL]
theorem partsT_append : ∀ (a b : List Tk), partsT (a ++ b) = partsT a ++ partsT b
  | [], b => rfl
  | .sp c :: r, b => partsT_append r b
  | .dg d :: r, b => congrArg _ (partsT_append r b)
  | .wd i :: r, b => congrArg _ (partsT_append r b)
theorem apart_append : ∀ (a b : List Tk), Apart a → Apart b → (∀ x y, a.getLast? = some x → b.head? = some y → x.kd = y.kd → x.kd = 0) → Apart (a ++ b)
  | [], b, _, hb, _ => hb
  | [x], b, _, hb, h => by
    cases b with
    | nil => trivial
    | cons y r => exact ⟨h x y rfl rfl, hb⟩
  | x :: y :: r, b, ha, hb, h => ⟨ha.1, apart_append (y :: r) b ha.2 hb (fun u v hu hv => h u v (by rw [List.getLast?_cons_cons]; exact hu) hv)⟩
end Mine
end
theorem Mine.freshT1 : True := by
  w_top off
  trivial
section
-- text T1
open PySem PySem.W PyProof.Rows
set_option Elab.async false
set_option maxRecDepth 100000
set_option maxHeartbeats 8000000
set_option linter.unusedVariables false
namespace Mine
open PySem.NumText
theorem toL_append (a b : Str) : (a ++ b).cps.toList = a.cps.toList ++ b.cps.toList := by
  show (a.cps ++ b.cps).toList = _
  rw [Array.toList_append]
theorem zeros_list (how : Int) : ∃ n, n ≤ 2 ∧ (zerosS how).cps.toList = List.replicate n 48 := by
  have h0 := Int.fmod_nonneg_of_pos (how.fdiv 8) (b := 3) (by decide)
  have h1 := Int.fmod_lt_of_pos (how.fdiv 8) (b := 3) (by decide)
  have h2 : ∀ k : Nat, k < 3 → (Txt.mul (Str.ofString "0") (k : Int)).cps.toList = List.replicate k 48 := by decide +kernel
  have := h2 ((how.fdiv 8).fmod 3).toNat (by omega)
  rw [Int.toNat_of_nonneg h0] at this
  exact ⟨_, by omega, this⟩
theorem digs_zeros (n : Nat) (cs : List Nat) : digitsVal (List.replicate n 48 ++ cs) = digitsVal cs := by
  induction n with
  | zero => rfl
  | succ n ih => rw [List.replicate_succ, List.cons_append, digitsVal_zero, ih]
theorem num_digits (k : Nat) : (Str.ofString (toString (k : Int))).cps.toList ≠ [] ∧ (∀ c ∈ (Str.ofString (toString (k : Int))).cps.toList, isDg c = true) ∧ digitsVal (Str.ofString (toString (k : Int))).cps.toList = k := by
  refine ⟨?_, ?_, ?_⟩
  · rw [KIN.signs_num]
    intro e
    have h := toDigits_len_ge 10 k
    rw [List.map_eq_nil_iff.mp e] at h
    exact absurd h (by decide)
  · intro c hc
    rw [KIN.signs_num] at hc
    obtain ⟨ch, hch, e⟩ := List.mem_map.mp hc
    have r := digit_range (Nat.isDigit_of_mem_toDigits (by decide) (by decide) hch)
    rw [← e]
    unfold isDg
    simp only [Bool.and_eq_true, decide_eq_true_eq]
    exact r
  · rw [KIN.signs_num, KIN.val_back]
def bodyT : Part → Int → Tk
  | .w i, _ => .wd i
  | .n k, how => .dg (bodyS (.n k) how).cps.toList
theorem body_tok {p : Part} (how : Int) (h : p.ok) : (bodyT p how).ok ∧ (bodyS p how).cps.toList = (bodyT p how).txt ∧ partsT [bodyT p how] = [p] ∧ (bodyT p how).kd = if isW p then 2 else 1 := by
  cases p with
  | w i => exact ⟨h, rfl, rfl, rfl⟩
  | n k =>
    obtain ⟨z, hz, ez⟩ := zeros_list how
    obtain ⟨d1, d2, d3⟩ := num_digits k
    have e : (bodyS (.n k) how).cps.toList = List.replicate z 48 ++ (Str.ofString (toString (k : Int))).cps.toList := by
      show (zerosS how ++ Str.ofString (toString (k : Int))).cps.toList = _
      rw [toL_append, ez]
    have hl : (Str.ofString (toString (k : Int))).cps.toList.length ≤ 7 := by
      rw [Array.length_toList]; exact num_len h
    refine ⟨⟨?_, ?_, ?_⟩, rfl, ?_, rfl⟩
    · rw [e]; intro q; exact d1 (List.append_eq_nil_iff.mp q).2
    · rw [e]
      intro c hc
      rcases List.mem_append.mp hc with hc | hc
      · rw [(List.mem_replicate.mp hc).2]; rfl
      · exact d2 c hc
    · rw [e, List.length_append, List.length_replicate]; omega
    · show [Part.n (digitsVal (bodyS (.n k) how).cps.toList)] = _
      rw [e, digs_zeros, d3]
theorem ahead_seps : ∀ k, k < 8 → ((aheadL.getD k (Str.ofString "")).cps.toList.all isSp) = true := by decide +kernel
theorem gap_seps (how : Int) (w : Bool) (la : Option Bool) : (∀ c ∈ (gapS how w la).cps.toList, isSp c = true) ∧ ((gapS how w la).cps.toList = [] → la ≠ some w) := by
  have h0 := Int.fmod_nonneg_of_pos how (b := 8) (by decide)
  have h1 := Int.fmod_lt_of_pos how (b := 8) (by decide)
  unfold gapS
  by_cases q : aheadAt how = Str.ofString "" ∧ la = some w
  · rw [if_pos q]
    have hd : (Str.ofString ".").cps.toList = [46] := by decide +kernel
    rw [hd]
    exact ⟨fun c hc => by rw [List.mem_singleton.mp hc]; rfl, fun h => by cases h⟩
  · rw [if_neg q]
    refine ⟨List.all_eq_true.mp (ahead_seps _ (by omega)), fun h e => q ⟨?_, e⟩⟩
    have : ∀ a : Str, a.cps.toList = [] → a = Str.ofString "" := fun a ha => by
      obtain ⟨c⟩ := a
      have : c = #[] := by simpa using ha
      subst this; rfl
    exact this _ h
def sepsT (x : Str) : List Tk := x.cps.toList.map .sp
theorem seps_text (l : List Nat) : textL (l.map Tk.sp) = l := by
  induction l with
  | nil => rfl
  | cons c l ih => show c :: textL (l.map Tk.sp) = _; rw [ih]
theorem seps_parts (l : List Nat) : partsT (l.map Tk.sp) = [] := by
  induction l with
  | nil => rfl
  | cons c l ih => exact ih
theorem seps_apart : ∀ (l : List Nat), Apart (l.map Tk.sp)
  | [] => trivial
  | [_] => trivial
  | _ :: b :: r => ⟨fun _ => rfl, seps_apart (b :: r)⟩
theorem seps_kd {l : List Nat} {t : Tk} (h : t ∈ l.map Tk.sp) : t.kd = 0 := by
  obtain ⟨c, _, rfl⟩ := List.mem_map.mp h; rfl
/-- told, with the kind of the last token -/
def ToldL (st : Str × Option Bool) (us : List Part) (ts : List Tk) : Prop := Told st.1 us ts ∧ match st.2 with | none => ts = [] | some b => ∃ t, ts.getLast? = some t ∧ t.kd = if b then 2 else 1
theorem told_step {st : Str × Option Bool} {us : List Part} {ts : List Tk} {q : Part × Int} (h : ToldL st us ts) (ok : q.1.ok) : ∃ ts', ToldL (spellStep st q) (us ++ [q.1]) ts' := by
  obtain ⟨⟨h1, h2, h3, h4⟩, hlast⟩ := h
  obtain ⟨b1, b2, b3, b4⟩ := body_tok q.2 ok
  obtain ⟨g1, g2⟩ := gap_seps q.2 (isW q.1) st.2
  refine ⟨ts ++ (sepsT (gapS q.2 (isW q.1) st.2) ++ [bodyT q.1 q.2]), ⟨?_, ?_, ?_, ?_⟩, ?_⟩
  · show (st.1 ++ (gapS q.2 (isW q.1) st.2 ++ bodyS q.1 q.2)).cps.toList = _
    rw [toL_append, toL_append, textL_append, textL_append, h1, b2]
    congr 1
    unfold sepsT
    rw [seps_text]
    congr 1
    show _ = _ ++ []
    rw [List.append_nil]
  · intro t ht
    rcases List.mem_append.mp ht with ht | ht
    · exact h2 t ht
    · rcases List.mem_append.mp ht with ht | ht
      · obtain ⟨c, hc, rfl⟩ := List.mem_map.mp ht
        exact g1 c hc
      · rw [List.mem_singleton.mp ht]; exact b1
  · refine apart_append ts _ h3 (apart_append _ _ (seps_apart _) trivial (fun x y hx _ _ => seps_kd (List.mem_of_getLast? hx))) (fun x y hx hy e => ?_)
    unfold sepsT at hy
    cases hg : (gapS q.2 (isW q.1) st.2).cps.toList with
    | cons c r =>
      rw [hg] at hy
      have : Tk.sp c = y := Option.some.inj hy
      rw [e, ← this]; rfl
    | nil =>
      rw [hg] at hy
      have hy' : bodyT q.1 q.2 = y := Option.some.inj hy
      have hne := g2 hg
      rw [← hy', b4] at e
      cases hl : st.2 with
      | none =>
        rw [hl] at hlast
        have : ts = [] := hlast
        rw [this] at hx; cases hx
      | some b =>
        rw [hl] at hlast hne
        obtain ⟨t, ht, hk⟩ := hlast
        rw [ht] at hx
        have := Option.some.inj hx
        rw [← this, hk] at e
        have : b = isW q.1 := by
          cases b <;> cases hq : isW q.1 <;> simp_all
        exact absurd (by rw [this]) hne
  · rw [partsT_append, partsT_append, h4, b3]
    unfold sepsT
    rw [seps_parts]; rfl
  · show ∃ t, _ ∧ _
    exact ⟨_, by rw [← List.append_assoc, List.getLast?_append]; rfl, b4⟩
theorem told_fold : ∀ (v : Ver) (st : Str × Option Bool) (us : List Part) (ts : List Tk), (∀ p ∈ v, p.1.ok) → ToldL st us ts → ∃ ts', ToldL (v.foldl spellStep st) (us ++ v.map (·.1)) ts'
  | [], st, us, ts, _, h => ⟨ts, by simpa using h⟩
  | q :: v, st, us, ts, ok, h => by
    obtain ⟨ts', h'⟩ := told_step h (ok q List.mem_cons_self)
    obtain ⟨ts2, h2⟩ := told_fold v _ _ _ (fun p hp => ok p (List.mem_cons_of_mem _ hp)) h'
    exact ⟨ts2, by simpa using h2⟩
theorem told_spell (v : Ver) (ok : ∀ p ∈ v, p.1.ok) : ∃ ts, Told (spellF v).1 (v.map (·.1)) ts := by
  obtain ⟨ts, h⟩ := told_fold v (Str.ofString "", none) [] [] ok (And.intro (Told.mk (by decide +kernel) (fun _ h => nomatch h) trivial rfl) rfl)
  exact ⟨ts, h.1⟩
def joinT : List Part → List Tk
  | [] => []
  | [p] => [bodyT p 0]
  | p :: q :: r => bodyT p 0 :: .sp 46 :: joinT (q :: r)
theorem zero0 : zerosS 0 = Str.ofString "" := by decide +kernel
theorem body0 (p : Part) : (bodyS p 0).cps.toList = p.txt.cps.toList := by
  cases p with
  | w i => rfl
  | n k =>
    show (zerosS 0 ++ Str.ofString (toString (k : Int))).cps.toList = _
    rw [zero0, toL_append]; rfl
theorem join_text : ∀ (us : List Part), (∀ p ∈ us, p.ok) → (Txt.join (Str.ofString ".") (us.map Part.txt)).cps.toList = textL (joinT us) ∧ (∀ t ∈ joinT us, t.ok) ∧ Apart (joinT us) ∧ partsT (joinT us) = us
  | [], _ => ⟨by decide +kernel, fun _ h => (nomatch h), trivial, rfl⟩
  | [p], ok => by
    obtain ⟨b1, b2, b3, b4⟩ := body_tok 0 (ok p List.mem_cons_self)
    refine ⟨?_, fun t ht => by rw [List.mem_singleton.mp ht]; exact b1, trivial, b3⟩
    show p.txt.cps.toList = _ ++ []
    rw [List.append_nil, ← b2, body0]
  | p :: q :: r, ok => by
    obtain ⟨b1, b2, b3, b4⟩ := body_tok 0 (ok p List.mem_cons_self)
    obtain ⟨i1, i2, i3, i4⟩ := join_text (q :: r) (fun x hx => ok x (List.mem_cons_of_mem _ hx))
    refine ⟨?_, ?_, ?_, ?_⟩
    · have e : Txt.join (Str.ofString ".") ((p :: q :: r).map Part.txt) = p.txt ++ Str.ofString "." ++ Txt.join (Str.ofString ".") ((q :: r).map Part.txt) := by
        have g : ∀ l, Txt.join (Str.ofString ".") l = Str.join (Str.ofString ".") l := fun l => StrLaws.glued_eq_join _ l
        rw [g, g]; rfl
      rw [e, toL_append, toL_append, i1, ← body0, b2]
      have hd : (Str.ofString ".").cps.toList = [46] := by decide +kernel
      rw [hd, List.append_assoc]; rfl
    · intro t ht
      rcases List.mem_cons.mp ht with rfl | ht
      · exact b1
      · rcases List.mem_cons.mp ht with rfl | ht
        · exact rfl
        · exact i2 t ht
    · have h1 : Apart (Tk.sp 46 :: joinT (q :: r)) := by
        cases hj : joinT (q :: r) with
        | nil => trivial
        | cons a l => rw [hj] at i3; exact ⟨fun _ => rfl, i3⟩
      exact ⟨fun h => by rw [h]; rfl, h1⟩
    · have e2 : ∀ l, partsT (bodyT p 0 :: l) = p :: partsT l := fun l => by
        rw [show bodyT p 0 :: l = [bodyT p 0] ++ l from rfl, partsT_append, b3]; rfl
      show partsT (bodyT p 0 :: .sp 46 :: joinT (q :: r)) = _
      rw [e2]
      exact congrArg _ i4
theorem told_plain (v : Ver) (ok : ∀ p ∈ v, p.1.ok) : ∃ ts, Told (plainS v) (v.map (·.1)) ts := by
  have h := join_text (v.map (·.1)) (fun p hp => by
    obtain ⟨q, hq, rfl⟩ := List.mem_map.mp hp
    exact ok q hq)
  rw [List.map_map] at h
  exact ⟨_, h.1, h.2.1, h.2.2.1, h.2.2.2⟩
theorem told_more (v : Ver) (ok : ∀ p ∈ v, p.1.ok) : ∃ ts, Told (plainS v ++ Str.ofString ".0") (v.map (·.1) ++ [.n 0]) ts := by
  obtain ⟨ts, h1, h2, h3, h4⟩ := told_plain v ok
  have hd : (Str.ofString ".0").cps.toList = textL [.sp 46, .dg [48]] := by decide +kernel
  refine ⟨ts ++ [.sp 46, .dg [48]], ?_, ?_, ?_, ?_⟩
  · rw [toL_append, textL_append, h1, hd]
  · intro t ht
    rcases List.mem_append.mp ht with ht | ht
    · exact h2 t ht
    · rcases List.mem_cons.mp ht with rfl | ht
      · exact rfl
      · rw [List.mem_singleton.mp ht]
        exact ⟨by decide, fun c hc => by rw [List.mem_singleton.mp hc]; rfl, by decide⟩
  · refine apart_append _ _ h3 ⟨fun _ => rfl, trivial⟩ (fun x y _ hy e => ?_)
    have : Tk.sp 46 = y := Option.some.inj hy
    rw [e, ← this]; rfl
  · rw [partsT_append, h4]; rfl
end Mine
end
theorem Mine.freshV00 : True := by
  w_top off
  trivial
section
-- text V00
open PySem PySem.W PySem.Calls PyProof.Rows
set_option Elab.async false
set_option maxRecDepth 100000
set_option maxHeartbeats 8000000
set_option linter.unusedVariables false
namespace Mine
open PySem.StrLaws
theorem seps_str : (Str.ofString "._+-").cps.toList = [46, 95, 43, 45] := by decide +kernel
theorem not_seps {d : List Nat} (h1 : d ≠ []) (h2 : ∀ c ∈ d, isSp c = false) : (Builtin.Str.occurrences (Str.ofString "._+-") ⟨d.toArray⟩ 0 (Str.ofString "._+-").length 1).isEmpty = true := by
  cases hq : (Builtin.Str.occurrences (Str.ofString "._+-") ⟨d.toArray⟩ 0 (Str.ofString "._+-").length 1).isEmpty with
  | true => rfl
  | false =>
    obtain ⟨i, hi, hs⟩ := (found_iff (Str.ofString "._+-") ⟨d.toArray⟩).mp (by rw [hq]; rfl)
    cases d with
    | nil => exact absurd rfl h1
    | cons c r =>
      have hc := h2 c List.mem_cons_self
      have h3 : ((Str.ofString "._+-").cps.toList.drop i).take (c :: r).length = c :: r := by
        have hs2 : ((Str.ofString "._+-").cps.extract i (i + (⟨(c :: r).toArray⟩ : Str).length) == (c :: r).toArray) = true := hs
        have hs3 := congrArg Array.toList (eq_of_beq hs2)
        rw [Array.toList_extract, List.extract_eq_take_drop, Nat.add_sub_cancel_left] at hs3
        exact hs3
      rw [seps_str] at h3
      have h4 : ([46, 95, 43, 45] : List Nat).drop i = c :: (([46, 95, 43, 45] : List Nat).drop i).tail := by
        cases hq : ([46, 95, 43, 45] : List Nat).drop i with
        | nil => rw [hq] at h3; simp at h3
        | cons a q => rw [hq] at h3; simp at h3; rw [h3.1]; rfl
      have h5 : c ∈ ([46, 95, 43, 45] : List Nat) := List.mem_of_mem_drop (i := i) (by rw [h4]; exact List.mem_cons_self)
      simp only [List.mem_cons, List.not_mem_nil, or_false] at h5
      rcases h5 with rfl | rfl | rfl | rfl <;> cases hc
theorem in_seps {p : List Nat} (h : p = [] ∨ ∃ c, p = [c] ∧ isSp c = true) : (Builtin.Str.occurrences (Str.ofString "._+-") ⟨p.toArray⟩ 0 (Str.ofString "._+-").length 1).isEmpty = false := by
  rcases h with rfl | ⟨c, rfl, hc⟩
  · decide +kernel
  · unfold isSp at hc
    simp only [Bool.or_eq_true, beq_iff_eq] at hc
    rcases hc with ((rfl | rfl) | rfl) | rfl <;> decide +kernel
theorem lt_not_sp {c : Nat} (h : isLt c = true) : isSp c = false := by
  unfold isLt at h
  unfold isSp
  simp only [Bool.or_eq_true, Bool.and_eq_true, decide_eq_true_eq] at h
  simp only [Bool.or_eq_false_iff, beq_eq_false_iff_ne]
  omega
theorem dg_not_sp {c : Nat} (h : isDg c = true) : isSp c = false := by
  unfold isDg at h
  unfold isSp
  simp only [Bool.and_eq_true, decide_eq_true_eq] at h
  simp only [Bool.or_eq_false_iff, beq_eq_false_iff_ne]
  omega
theorem word_str (i : Nat) : (⟨(wordAt i).cps.toList.toArray⟩ : Str) = wordAt i := by
  cases wordAt i with
  | mk c => simp
theorem keyL_append : ∀ a b : List Part, keyL (a ++ b) = keyL a ++ keyL b
  | [], b => rfl
  | p :: r, b => by show _ :: _ :: keyL (r ++ b) = _; rw [keyL_append r b]; rfl
theorem digits_read {d : List Nat} (h1 : d ≠ []) (h2 : ∀ c ∈ d, isDg c = true) (h3 : d.length ≤ 20) : PySem.intText? (⟨d.toArray⟩ : Str) = some ((NumText.digitsVal d : Nat) : Int) := by
  refine PySem.intText_digits (x := ⟨d.toArray⟩) (fun c hc => ?_) h1 (by show d.toArray.size ≤ 4300; simp; omega)
  have := h2 c hc
  unfold isDg at this
  simp only [Bool.and_eq_true, decide_eq_true_eq] at this
  exact this
theorem word_repr : ∀ i, i < 15 → (reprText (wordAt i)).length ≤ 1000 := by decide +kernel
theorem extend_at {prog : Program} {w : World} {A : Around} {E : Value → Shared → Prop} {s : Shared} {Q : Value → Shared → Prop} {R D : Addr} {vals : List Value} {n n2 : Nat} {v1 v2 : Value} (hR : s.heap.get? R = some (listOf vals.toArray n))
    (hD : s.heap.get? D = some ({ cls := .type "tuple", data := .seq #[v1, v2] n2 } : Obj)) (hsz : vals.length ≤ 10000)
    (h : ∀ h' n', Heap.SameBut R s.heap h' → h'.get? R = some (listOf (vals ++ [v1, v2]).toArray n') → Q .none { s with heap := h' }) : wpAny (model prog w) A (call (.builtin "list.extend") [.ref R, .ref D]) Q E s := by
  have hl : (20000 : Nat) ≤ sizeLine := by decide
  refine call_meets PySem.F.slot_list_extend ⟨_, hR, rfl⟩ PySem.F.entry_list_extend (PySem.F.args_list_extend_2 _ _) (PySem.AutoSeq1.list_extend_list_tuple_0 R vals.toArray n D #[v1, v2] n2 ?_ ?_ ?_) ⟨hR, hD, ?_⟩
  · simp only [Bool.and_eq_true, not_and]
    intro _
    unfold Builtin.List.listTooLong
    simp
    omega
  · simp; omega
  · simp; omega
  · have q := PySem.IsL.update hR (fun x => x ++ #[v1, v2])
    rw [show vals.toArray ++ #[v1, v2] = (vals ++ [v1, v2]).toArray by simp] at q
    exact h _ _ (Heap.SameBut.update ..) q
end Mine
end
theorem Mine.freshV0 : True := by
  w_top off
  trivial
section
-- text V0
open PySem PySem.W PySem.Calls PyProof.Rows
set_option Elab.async false
set_option maxRecDepth 100000
set_option maxHeartbeats 8000000
set_option linter.unusedVariables false
namespace Mine
set_option pp.deepTerms false
set_option pp.deepTerms.threshold 5
set_option pp.maxSteps 100000
open PyProof.Rows.TI
abbrev topA' (dp un : Nat) (gd : Option (List Code)) (cn : Str) (cs : Scope) (L a : Addr) (ccd : Value) : Around := { handled := none, depth := dp, frames := some [envOf cn cs L a ccd], guards := gd, units := un }
/-- a contract under the caller, of a def that is called from the law's own frame -/
def SpecC (w : World) (mean : ExcName → Option Value) (mg mb : Str → Option Value) (news : List (Addr × Obj)) (f : Addr) (args : List Value) (cost : Nat) (Post : List (Addr × Obj) → Value → Prop) : Prop :=
  ∀ (dp un : Nat) (gd : Option (List Code)) (cn : Str) (cs : Scope) (a : Addr) (ccd : Value) (h₀ : Heap) (L : Addr) (m : Str → Option Value) (s : Shared) (Q E : Value → Shared → Prop),
    Fr h₀ L s.heap m → (hd.heap_39 w.params).In h₀ → News h₀ L s.heap news → Top hd.view_39 LS mean mg mb h₀ → cs.kind = .function → dp + cost < recursionLimit → un + 8 * cost < cLine →
    (∀ r tl h' tk', Fr h₀ L h' m → News h₀ L h' (tl ++ news) → (∀ q ∈ news, ∀ p ∈ tl, q.1 ≠ p.1) → Post (tl ++ news) r → Q r { s with heap := h', toks := tk' }) →
    wpC (model PySem.Challenge.rw_nb0083_01.row.prog w) (topA' dp un gd cn cs L a ccd) (call (.ref f) args) Q E s
open PySem.Builtin.Re in
theorem pat_at {w : World} {h : Heap} (X : (hd.heap_39 w.params).In h) : PatAt h 36 := by
  refine ⟨⟨_, _, 35, _, _, _, X 36 _ (by rfl), rfl, rfl, rfl, rfl, rfl, rfl, X 35 _ (by rfl), rfl, ?_⟩⟩
  kernel_rfl
theorem pat_split {w : World} {M : Model} {A : Around} {E : Value → Shared → Prop} {s : Shared} {h₀ : Heap} {L : Addr} {m : Str → Option Value} {pl : Sem Bool} {Q : Value × List Value → Shared → Prop} (F : Fr h₀ L s.heap m) (X : (hd.heap_39 w.params).In h₀) (h : Q (.builtin "re.Pattern.split", [.ref 36]) s) :
    wpAny M A (getMethod (.ref 36) (Str.ofString "split") pl) Q E s := by
  obtain ⟨oP, fs, c, oc, items, n, h1, h2, hdd, _⟩ := (pat_at X).ex
  exact getMethod_builtin ⟨_, F.keep _ _ h1, h2⟩ plainAttrs_pat slot_pat_split type_pat_split (fun a e => by cases e; exact ⟨_, F.keep _ _ h1, hdd⟩) h
theorem PatAt.keeps {h h' : Heap} {P : Addr} (p : PatAt h P) (k : ∀ b o, h.get? b = some o → h'.get? b = some o) : PatAt h' P := by
  obtain ⟨oP, fs, c, oc, items, n, h1, h2, hdd, h3, h4, h5, h6, h7, r⟩ := p.ex
  exact ⟨⟨oP, fs, c, oc, items, n, k _ _ h1, h2, hdd, h3, h4, h5, h6, k _ _ h7, r⟩⟩
theorem callWithC_type1 {prog : Program} {w : World} {A : Around} {E : Value → Shared → Prop} {s : Shared} {env : Env} {pos : Pos} {T : String} {e : Expr} {rest : List Expr} {Q : Value → Shared → Prop}
    (h : wpAny (model prog w) A (spliced (backTo pos (starEach (e :: rest) env))) (fun vs s₁ => wpC (model prog w) A (call (.type T) vs) Q E s₁) E s)
    (he : starEach (e :: rest) env = (false, eval e env) :: starEach rest env := by rfl)
    (hplain : (backTo pos (starEach rest env)).any (·.1) = false := by rfl) :
    wpC (model prog w) A (callWith pos (.type T) [] (backTo pos (starEach (e :: rest) env)) []) Q E s := by
  rw [he] at h ⊢
  exact callWithC_type (by show (false || (backTo pos (starEach rest env)).any (·.1)) = false; rw [hplain]; rfl) (Calls.evalArgs_plain h)
def CompJ (news : List (Addr × Obj)) (us : List Part) (ps : List (List Nat)) (L R S : Addr) (cn : Str) (cs : Scope) (a : Addr) (ccd : Value) (oL : Obj) (vs : List Value) (i : Nat) (m : Str → Option Value) (nx : List (Addr × Obj)) : Prop :=
  ∃ (sl : Array (Option Value)) (vals : List Value) (n : Nat) (us₁ us₂ : List Part), nx = (S, listOf vs.toArray 0) :: (R, listOf vals.toArray n) :: (news ++ [(L, { oL with slots := sl })]) ∧ m (Str.ofString "result") = some (.ref R) ∧
    Frs [envOf cn cs L a ccd] [(L, { oL with slots := sl })] ∧ us = us₁ ++ us₂ ∧ Pcs (ps.drop i) us₂ ∧ DatAll news vals (keyL us₁) ∧ vals.length ≤ 2 * i
theorem news_ext {h₀ h h' : Heap} {L' I S R D : Addr} {oI oS oR oR' oD : Obj} {tail : List (Addr × Obj)} (N : News h₀ L' h ((D, oD) :: (I, oI) :: (S, oS) :: (R, oR) :: tail)) (hs : Heap.SameBut R h h') (ho : h'.get? R = some oR') (hI : I ≠ R) (hS : S ≠ R) (ht : ∀ q ∈ tail, q.1 ≠ R) :
    News h₀ L' h' ((I, oI) :: (S, oS) :: (R, oR') :: tail) := fun q hq => by
  have up : ∀ q ∈ (D, oD) :: (I, oI) :: (S, oS) :: (R, oR) :: tail, q.1 ≠ R → h'.get? q.1 = some q.2 ∧ q.1 ≠ L' ∧ h₀.get? q.1 = none := fun q hq hne => ⟨hs.extBut _ _ hne (N q hq).1, (N q hq).2⟩
  rcases List.mem_cons.mp hq with rfl | hq
  · exact up _ (List.mem_cons_of_mem _ List.mem_cons_self) hI
  · rcases List.mem_cons.mp hq with rfl | hq
    · exact up _ (List.mem_cons_of_mem _ (List.mem_cons_of_mem _ List.mem_cons_self)) hS
    · rcases List.mem_cons.mp hq with rfl | hq
      · exact ⟨ho, (N (R, oR) (List.mem_cons_of_mem _ (List.mem_cons_of_mem _ (List.mem_cons_of_mem _ List.mem_cons_self)))).2⟩
      · exact up q (List.mem_cons_of_mem _ (List.mem_cons_of_mem _ (List.mem_cons_of_mem _ (List.mem_cons_of_mem _ hq)))) (ht q hq)
theorem datAll_snoc {nx : List (Addr × Obj)} : ∀ {vs : List Value} {ds : List Dat} {ws : List Value} {es : List Dat}, DatAll nx vs ds → DatAll nx ws es → DatAll nx (vs ++ ws) (ds ++ es)
  | [], _, _, _, h, k => by cases h; exact k
  | _ :: _, _, _, _, h, k => by
    cases h with
    | cons a r => exact .cons a (datAll_snoc r k)
theorem keyL_any {nx nx' : List (Addr × Obj)} : ∀ {us : List Part} {vals : List Value}, DatAll nx vals (keyL us) → DatAll nx' vals (keyL us)
  | [], _, h => by cases h; exact .nil
  | p :: us, _, h => by
    cases h with
    | cons a r =>
      cases r with
      | cons b r =>
        refine .cons ?_ (.cons ?_ (keyL_any r))
        · obtain ⟨t, rfl⟩ := datInt a; exact .int _ _
        · cases p with
          | w i => obtain ⟨t, rfl⟩ := datStr b; exact .str _ _
          | n k => obtain ⟨t, rfl⟩ := datInt b; exact .int _ _
theorem stage_dat {news : List (Addr × Obj)} {v : Value} {k : Nat} {t : Tok} {d : PyData} (hfl : PyProof.V.Flat v d) (e : d = .int (stageW k : Int)) : DatAll news [v, .str (wordAt k) t] (keyL [.w k]) := by
  subst e
  obtain ⟨tt, rfl⟩ := PyProof.V.Flat.int_inv hfl
  exact .cons (.int _ _) (.cons (.str _ _) .nil)
theorem comp_spec {w mean mg mb news} (x : Str) (t : Tok) {ps : List (List Nat)} {us : List Part} (hc : Cut x.cps.toList ps) (hp : Pcs ps us) (hl : x.length ≤ 1000) : SpecC w mean mg mb news 44 [.str x t] 12 (fun nx r => ∃ (R : Addr) (vals : List Value) (n : Nat), r = .ref R ∧ nx = (R, listOf vals.toArray n) :: news ∧ DatAll [] vals (keyL us)) := by
  unfold SpecC
  k_fill
  intro dp un gd cn cs a ccd h₀ L m s Q E F X N T hk hd' hu hret
  refine wpC_call ?_
  k_dflt (refine' codeC_defT (cn := cn) (cs := cs) (a := a) (ccd := ccd) ?k2 ?k3 ?k4 ?k5 ?k6 ?k7 ?k8 ?k9 ?kB ?_ ?cK ?c2 ?c3 ?c4 ?c5; (case k2 => k_asm); (case k3 => k_asm); (case k4 => k_asm); (case k5 => k_asm); (case k6 => k_is); (case k7 => k_is); (case k8 => ktr_room); (case k9 => exact BindsTo.of_eq rfl); (case kB => exact locs rfl); (case cK => assumption); (case c2 => exact rfl); (case c3 => exact rfl); (case c4 => exact rfl); (case c5 => decide); k_whole; intro oL h₁ L' tiC tiF tiE F' N'; (try dsimp only); (try k_fold))
  refine execsC (wpC.any ?_)
  k_steps
  refine execsC (wpC.any ?_)
  k_steps
  refine execsC (ForC ?_)
  k_steps
  refine pat_split (by assumption) X ?_
  k_steps
  refine split_wp ((pat_at X).keeps (Fr.keep (by assumption))) hc hl ?_
  intro l hl2 tk'
  rename (Fr h₀ L' _ _) => F2
  rename (News h₀ L' _ _) => N2
  have F3 := Fr.pushS F2 { cls := .type "list", data := .seq (strValues l).toArray }
  have N3 := News.push F2 N2 { cls := .type "list", data := .seq (strValues l).toArray }
  rename_i hb' R hc' l1 he'
  generalize hH : Heap.push _ _ = H3 at F3 N3 ⊢
  have hRS : R < he'.objs.size := Heap.lt_size (N2 _ List.mem_cons_self).1
  generalize hS : Array.size _ = S at hRS N3 ⊢
  clear hH F2 N2
  refine forAtC_name (h₀ := h₀) (l := S) (vs := strValues l) (ne := 0) (CompJ news us ps L R S cn cs a ccd oL (strValues l)) rfl rfl rfl ?hl F3 N3 ?h0 ?turn ?done
  case hl =>
    rintro i m₂ nx ⟨sl, vals, n, us₁, us₂, rfl, _⟩
    exact List.mem_cons_self
  case h0 =>
    exact ⟨oL.slots, [], 0, [], us, rfl, rfl, tiF, rfl, hp, .nil, Nat.zero_le _⟩
  case turn =>
    rintro i v m₁ nx h tk I oI hv ⟨sl, vals, n, us₁, us₂, rfl, hmR, tiF', hus, hpc, hD, hvl⟩ off F4 N4
    rw [frame_one hmR] at F4
    have hps : ∃ p t', ps[i]? = some p ∧ v = .str ⟨p.toArray⟩ t' := by
      have h1 : (l.map fun x => Value.str x.1 x.2)[i]? = some v := hv
      rw [List.getElem?_map] at h1
      cases hli : l[i]? with
      | none => rw [hli] at h1; cases h1
      | some q =>
        rw [hli] at h1
        have h2 : (l.map (·.1))[i]? = some q.1 := by rw [List.getElem?_map, hli]; rfl
        rw [hl2, List.getElem?_map] at h2
        cases hpi : ps[i]? with
        | none => rw [hpi] at h2; cases h2
        | some p =>
          rw [hpi] at h2
          exact ⟨p, q.2, rfl, (Option.some.inj h1).symm.trans (congrArg (fun z => Value.str z q.2) (Option.some.inj h2).symm)⟩
    obtain ⟨p, t', hpi, rfl⟩ := hps
    have hdr : ps.drop i = p :: ps.drop (i + 1) := by
      obtain ⟨hlt, e⟩ := List.getElem?_eq_some_iff.mp hpi
      rw [List.drop_eq_getElem_cons hlt, e]
    rw [hdr] at hpc
    have hpsl : i < 2100 := by
      obtain ⟨hlt, _⟩ := List.getElem?_eq_some_iff.mp hpi
      have e1 := hc.short
      have e2 : x.cps.toList.length = x.cps.size := Array.length_toList
      have e3 : x.cps.size ≤ 1000 := hl
      omega
    clear hv hl2 hpi
    refine execsC (IfC ?_)
    cases hpc with
    | skip hsk hr =>
      have hin := in_seps hsk
      k_steps
      · refine wpC_pure ?_
        refine wpC_pure ?_
        exact turnEnd_of (by assumption) (by assumption) (fun _ h => h) off ⟨sl, vals, n, us₁, us₂, rfl, rfl, tiF', hus, hr, hD, by omega⟩
    | @num d _ us₃ h1 h2 h3 hr =>
      have hin := not_seps h1 (fun c hc => dg_not_sp (h2 c hc))
      k_steps
      · refine execsC (TryC ?_)
        refine execsC (AssignC rfl (CallNameC ?_))
        k_steps
        refine callWithC_type1 ?_
        k_steps
        refine wpC.any (call_int10 (by show (List.toArray p).size ≤ 640; simp; omega) (digits_read h1 h2 h3) ?_)
        k_steps
        refine execsC (wpC.any ?_)
        k_steps
        refine wpC_pure ?_
        refine wpC_pure ?_
        refine execsC (wpC.any ?_)
        k_steps
        rename (Fr h₀ L' _ _) => F5
        rename (News h₀ L' _ _) => N5
        refine extend_at (N5 _ (List.mem_cons_of_mem _ (List.mem_cons_of_mem _ (List.mem_cons_of_mem _ List.mem_cons_self)))).1 (N5 _ List.mem_cons_self).1 (by omega) (fun h6 n6 hs6 hR6 => ?_)
        have zR := N5 _ (List.mem_cons_of_mem _ (List.mem_cons_of_mem _ (List.mem_cons_of_mem _ List.mem_cons_self)))
        have F6 := F5.change hs6 zR.2.1 zR.2.2
        have N6 := news_ext N5 hs6 hR6 (fun q => off _ (List.mem_cons_of_mem _ List.mem_cons_self) q.symm) (Nat.ne_of_gt hRS) (fun q hq => by
          rcases List.mem_append.mp hq with hq | hq
          · exact Nat.ne_of_lt (l1 q (List.mem_append_left _ hq))
          · rw [List.mem_singleton.mp hq]; exact Nat.ne_of_lt (l1 (L, oL) (List.mem_append_right _ List.mem_cons_self)))
        clear F5 N5 zR
        k_steps
        refine wpC_pure ?_
        refine wpC_pure ?_
        refine turnEnd_of (by assumption) (by assumption) (fun _ h => h) ?_ ⟨sl, _, n6, us₁ ++ [.n (NumText.digitsVal p)], us₃, rfl, rfl, tiF', by rw [hus]; simp, hr, ?_, ?_⟩
        · intro q hq
          rcases List.mem_cons.mp hq with rfl | hq
          · exact off _ List.mem_cons_self
          · rcases List.mem_cons.mp hq with rfl | hq
            · exact off (R, listOf vals.toArray n) (List.mem_cons_of_mem _ List.mem_cons_self)
            · exact off q (List.mem_cons_of_mem _ (List.mem_cons_of_mem _ hq))
        · rw [keyL_append]
          exact datAll_snoc hD (.cons (.int _ _) (.cons (.int _ _) .nil))
        · simp; omega
    | @word k _ us₃ hk15 hr =>
      have hin := not_seps (word_ne k hk15) (fun c hc => lt_not_sp (word_lt hk15 c hc))
      rw [word_str] at hin F4
      k_steps
      · refine execsC (TryC ?_)
        refine execsC (AssignC rfl (CallNameC ?_))
        k_steps
        refine callWithC_type1 ?_
        k_steps
        have hw1 : ∀ c ∈ (wordAt k).cps.toList, (65 ≤ c ∧ c ≤ 90) ∨ (97 ≤ c ∧ c ≤ 122) := fun c hc => by
          have := word_lt hk15 c hc
          unfold isLt at this
          simpa using this
        refine wpC_call (callC_int (new_refused (word_ne k hk15) hw1 (word_repr k hk15) (Nat.le_trans (word_len k hk15) (by decide)) rfl ?_))
        intro h6 tk6 e6 hx6
        rename (Fr h₀ L' _ _) => F5
        rename (News h₀ L' _ _) => N5
        refine TLg.noted_new1 (new := (I, oI) :: (S, listOf (strValues l).toArray 0) :: (R, listOf vals.toArray n) :: news) rfl tiF' hx6 F5 N5 (TLgL.allNe_of ?_) ?_
        · have hLR := l1 (L, oL) (List.mem_append_right _ List.mem_cons_self)
          intro q hq
          rcases List.mem_cons.mp hq with rfl | hq
          · exact fun e => off (L, { oL with slots := sl }) (List.mem_cons_of_mem _ (List.mem_cons_of_mem _ (List.mem_append_right _ List.mem_cons_self))) e.symm
          · rcases List.mem_cons.mp hq with rfl | hq
            · exact Nat.ne_of_gt (Nat.lt_trans hLR hRS)
            · rcases List.mem_cons.mp hq with rfl | hq
              · exact Nat.ne_of_gt hLR
              · exact tiE q hq
        · intro h7 sl7 tiF7 tiH7
          have tiHH' := TT.HeldNA.held tiH7
          clear F5 N5
          k_steps
          refine execsC (wpC.any ?_)
          k_steps
          rename (Fr h₀ L' _ _) => F5
          rename (News h₀ L' _ _) => N5
          refine extend_at (N5 _ (List.mem_cons_of_mem _ (List.mem_cons_of_mem _ (List.mem_cons_of_mem _ List.mem_cons_self)))).1 (N5 _ List.mem_cons_self).1 (by omega) (fun h6 n6 hs6 hR6 => ?_)
          have zR := N5 _ (List.mem_cons_of_mem _ (List.mem_cons_of_mem _ (List.mem_cons_of_mem _ List.mem_cons_self)))
          have F6 := F5.change hs6 zR.2.1 zR.2.2
          have N6 := news_ext N5 hs6 hR6 (fun q => off _ (List.mem_cons_of_mem _ List.mem_cons_self) q.symm) (Nat.ne_of_gt hRS) (fun q hq => by
            rcases List.mem_append.mp hq with hq | hq
            · exact Nat.ne_of_lt (l1 q (List.mem_append_left _ hq))
            · rw [List.mem_singleton.mp hq]; exact Nat.ne_of_lt (l1 (L, oL) (List.mem_append_right _ List.mem_cons_self)))
          clear F5 N5 zR
          k_steps
          refine wpC_pure ?_
          refine wpC_pure ?_
          refine turnEnd_of (by assumption) (by assumption) (fun _ h => h) ?_ ⟨sl7, _, n6, us₁ ++ [.w k], us₃, rfl, rfl, tiF7, by rw [hus]; simp, hr, ?_, ?_⟩
          · intro q hq
            rcases List.mem_cons.mp hq with rfl | hq
            · exact off _ List.mem_cons_self
            · rcases List.mem_cons.mp hq with rfl | hq
              · exact off (R, listOf vals.toArray n) (List.mem_cons_of_mem _ List.mem_cons_self)
              · rcases List.mem_append.mp hq with hq | hq
                · exact off q (List.mem_cons_of_mem _ (List.mem_cons_of_mem _ (List.mem_append_left _ hq)))
                · rw [List.mem_singleton.mp hq]
                  exact off (L, { oL with slots := sl }) (List.mem_cons_of_mem _ (List.mem_cons_of_mem _ (List.mem_append_right _ List.mem_cons_self)))
          · rw [keyL_append]
            refine datAll_snoc hD ?_
            rename (PyProof.V.Flat _ _) => hfl
            refine stage_dat hfl ?_
            have hk : k = 0 ∨ k = 1 ∨ k = 2 ∨ k = 3 ∨ k = 4 ∨ k = 5 ∨ k = 6 ∨ k = 7 ∨ k = 8 ∨ k = 9 ∨ k = 10 ∨ k = 11 ∨ k = 12 ∨ k = 13 ∨ k = 14 := by omega
            clear hfl hD hR6 hs6 F6 N6 hus hin hw1 hdr hr hk15
            rcases hk with rfl | rfl | rfl | rfl | rfl | rfl | rfl | rfl | rfl | rfl | rfl | rfl | rfl | rfl | rfl <;> rfl
          · simp; omega
  case done =>
    rintro h' tk m₂ nx F4 N4 ⟨sl, vals, n, us₁, us₂, rfl, hmR, tiF', hus, hpc, hD, hvl⟩
    rw [frame_one hmR] at F4
    refine wpAny_pure ?_
    refine execsC (wpC.any ?_)
    k_steps
    rename (Fr h₀ L' _ _) => F5
    rename (News h₀ L' _ _) => N5
    have hnil : us₂ = [] := by
      rw [List.drop_eq_nil_of_le (by
        have e1 := congrArg List.length hl2
        simp only [List.length_map] at e1
        have e2 : (strValues l).length = l.length := by simp [strValues]
        omega)] at hpc
      cases hpc; rfl
    subst hnil
    rw [List.append_nil] at hus
    subst hus
    refine (show LeaveI { s with heap := h' } _ from TLg.leave_back (L' := L') (new := (R, listOf vals.toArray n) :: news) tiC F5 (fun q hq => N5 q (List.mem_cons_of_mem _ hq)) (TLgL.allNe_of fun q hq => ?_) (fun F6 N6 => ?_))
    · rcases List.mem_cons.mp hq with rfl | hq
      · exact fun q => absurd (l1 (L, oL) (List.mem_append_right _ List.mem_cons_self)) (by rw [show L = R from q.symm]; exact Nat.lt_irrefl _)
      · exact tiE q hq
    · refine hret _ [(R, listOf vals.toArray n)] _ _ F6 N6 (fun q hq p hp => ?_) ?_
      · rw [List.mem_singleton.mp hp]
        exact Nat.ne_of_lt (l1 q (List.mem_append_left _ hq))
      · exact ⟨R, vals, n, rfl, rfl, keyL_any hD⟩
end Mine
end
theorem Mine.freshZ0 : True := by
  w_top off
  trivial
section
-- text Z0
open PySem PySem.W PySem.Calls PyProof.Rows
set_option Elab.async false
set_option maxRecDepth 100000
set_option maxHeartbeats 8000000
set_option linter.unusedVariables false
namespace Mine
def partOf (n : Int) : Part := if (n.fdiv 4).fmod 24 < 15 then .w ((n.fdiv 4).fmod 24).toNat else .n ((n.fdiv 96).fmod 1000000).toNat
theorem partOf_ok (n : Int) : (partOf n).ok := by
  unfold partOf
  have h0 := Int.fmod_nonneg_of_pos (n.fdiv 4) (b := 24) (by decide)
  have h2 := Int.fmod_nonneg_of_pos (n.fdiv 96) (b := 1000000) (by decide)
  have h3 := Int.fmod_lt_of_pos (n.fdiv 96) (b := 1000000) (by decide)
  split
  · show _ < 15; omega
  · show _ < 1000000; omega
theorem partOf_dat (n : Int) : partD n = (partOf n).dat := by
  unfold partD partOf
  have h2 := Int.fmod_nonneg_of_pos (n.fdiv 96) (b := 1000000) (by decide)
  split
  · rfl
  · show Dat.int _ = Dat.int _
    rw [Int.toNat_of_nonneg h2]
theorem spec_cost {w mean mg mb news f args c c' Post} (h : Spec w mean mg mb news f args c Post) (hc : c ≤ c') : Spec w mean mg mb news f args c' Post := by
  intro dp un gd cn cs a ccd cl outer A₀ base h₀ L m s Q E B F X N T hk hd' hu hret
  exact h dp un gd cn cs a ccd cl outer A₀ base h₀ L m s Q E B F X N T hk (by omega) (by omega) hret
theorem spec_post {w mean mg mb news f args c Post Post'} (h : Spec w mean mg mb news f args c Post) (hp : ∀ nx r, Post nx r → Post' nx r) : Spec w mean mg mb news f args c Post' := by
  intro dp un gd cn cs a ccd cl outer A₀ base h₀ L m s Q E B F X N T hk hd' hu hret
  exact h dp un gd cn cs a ccd cl outer A₀ base h₀ L m s Q E B F X N T hk hd' hu (fun r tl h' tk' F' N' o p => hret r tl h' tk' F' N' o (hp _ _ p))
theorem code_spec {w mean mg mb news} {v : Value} {p : Part} (hv : DatIn news v p.dat) (ok : p.ok) : Spec w mean mg mb news 163 [v] 16 (fun nx r => ∃ u, r = .int (p.code : Nat) u) := by
  cases p with
  | w i =>
    cases hv with
    | str x t =>
      have hi : i < 15 := ok
      have hx : wordsL[i]? = some (wordAt i) := by
        unfold wordAt
        have hl : i < wordsL.length := hi
        rw [List.getD_eq_getElem?_getD, List.getElem?_eq_getElem hl]; rfl
      refine spec_post (code_str i _ hx t) (fun nx r => ?_)
      rintro ⟨u, rfl⟩
      have e : (if i < 13 then (i : Int) + 1 else 1048561 + i) = (((Part.w i).code : Nat) : Int) := by
        simp only [Part.code]
        split <;> omega
      exact ⟨u, by rw [e]⟩
  | n k =>
    cases hv with
    | int j t =>
      refine spec_cost (spec_post (code_int (k : Int) t) (fun nx r => ?_)) (by omega)
      rintro ⟨u, rfl⟩
      have e : (14 : Int) + (k : Int) = (((Part.n k).code : Nat) : Int) := by
        simp only [Part.code]; omega
      exact ⟨u, by rw [e]⟩
theorem or_add {n c : Nat} (h : c < 2 ^ 20) : n * 2 ^ 20 ||| c = n * 2 ^ 20 + c := by
  rw [Nat.mul_comm, Nat.two_pow_add_eq_or_of_lt h]
theorem packF_add {n c : Nat} (h : c < 1048576) : packF n c = n * 1048576 + c := by
  have h2 : c < 2 ^ 20 := Nat.lt_of_lt_of_eq h (by decide)
  unfold packF
  rw [Nat.or_assoc, Nat.or_self, or_add h2, show (2 : Nat) ^ 20 = 1048576 by decide]
theorem fold_pack (l : List Nat) : ∀ (z : Nat), (∀ c ∈ l, c < 1048576) → l.foldl packF z = l.foldl (fun n c => n * 1048576 + c) z := by
  induction l with
  | nil => intro z _; rw [List.foldl_nil, List.foldl_nil]
  | cons c l ih =>
    intro z hc
    have h1 : packF z c = z * 1048576 + c := packF_add (hc c List.mem_cons_self)
    rw [List.foldl_cons, h1]
    rw [ih _ fun c hc' => hc c (List.mem_cons_of_mem _ hc')]
    rw [List.foldl_cons]
theorem val_scale : ∀ (r : List Nat) (k : Nat), r.length ≤ k → valN k r = valN r.length r * 1048576 ^ (k - r.length)
  | [], 0, _ => by simp [valN]
  | [], k + 1, _ => by simp [valN]
  | c :: r, 0, h => by simp at h
  | c :: r, k + 1, h => by
    have hk : r.length ≤ k := by simpa using h
    have ih := val_scale r k hk
    have e : r.length + (k - r.length) = k := by omega
    rw [List.length_cons, valN, valN, ih, Nat.add_mul, Nat.mul_assoc, ← Nat.pow_add, Nat.add_sub_add_right, e]
theorem pack_told {r : List Nat} (hl : r.length ≤ 4) (hc : ∀ c ∈ r, c < 1048576) : r.foldl packF 0 * 2 ^ (20 * (4 - r.length)) = toldN ((r ++ [0, 0, 0, 0]).take 4) := by
  have p20 : (2 : Nat) ^ 20 = 1048576 := by decide
  rw [told_val r hl, val_scale r 4 hl, fold_pack r 0 hc, fold_val, Nat.zero_mul, Nat.zero_add, Nat.pow_mul, p20]
theorem taken_told {r : List Nat} (hl : r.length ≤ 4) (hc : ∀ c ∈ r, c < 1048576) : takenN (toldN ((r ++ [0, 0, 0, 0]).take 4)) = (r ++ [0, 0, 0, 0]).take 4 := by
  have key : ∀ a b c d : Nat, a < 1048576 → b < 1048576 → c < 1048576 → d < 1048576 → takenN (toldN [a, b, c, d]) = [a, b, c, d] := by
    intro a b c d ha hb hc hd
    have e0 : toldN [a, b, c, d] = ((a * 1048576 + b) * 1048576 + c) * 1048576 + d := by
      show (((0 * 1048576 + a) * 1048576 + b) * 1048576 + c) * 1048576 + d = _
      rw [Nat.zero_mul, Nat.zero_add]
    rw [e0]
    have dv : ∀ x y : Nat, y < 1048576 → (x * 1048576 + y) / 2 ^ 20 = x := fun x y hy => by
      rw [show (2 : Nat) ^ 20 = 1048576 by decide]; omega
    have md : ∀ x y : Nat, y < 1048576 → (x * 1048576 + y) % 2 ^ 20 = y := fun x y hy => by
      rw [show (2 : Nat) ^ 20 = 1048576 by decide]; omega
    have p60 : (2 : Nat) ^ 60 = 2 ^ 20 * 2 ^ 20 * 2 ^ 20 := by rw [← Nat.pow_add, ← Nat.pow_add]
    have p40 : (2 : Nat) ^ 40 = 2 ^ 20 * 2 ^ 20 := by rw [← Nat.pow_add]
    unfold takenN
    rw [p60, p40]
    generalize hP : (2 : Nat) ^ 20 = P at dv md ⊢
    have ha' : a % P = a := by rw [← hP]; exact Nat.mod_eq_of_lt ha
    rw [← Nat.div_div_eq_div_mul, ← Nat.div_div_eq_div_mul, dv _ d hd, md _ d hd, dv _ c hc, md _ c hc, dv _ b hb, md _ b hb, ha']
  match r, hl, hc with
  | [], _, _ =>
    rw [show (([] ++ [0, 0, 0, 0] : List Nat).take 4) = [0, 0, 0, 0] from rfl]
    exact key 0 0 0 0 (by decide) (by decide) (by decide) (by decide)
  | [a], _, hc =>
    rw [show (([a] ++ [0, 0, 0, 0] : List Nat).take 4) = [a, 0, 0, 0] from rfl]
    exact key a 0 0 0 (hc a (by simp)) (by decide) (by decide) (by decide)
  | [a, b], _, hc =>
    rw [show (([a, b] ++ [0, 0, 0, 0] : List Nat).take 4) = [a, b, 0, 0] from rfl]
    exact key a b 0 0 (hc a (by simp)) (hc b (by simp)) (by decide) (by decide)
  | [a, b, c], _, hc =>
    rw [show (([a, b, c] ++ [0, 0, 0, 0] : List Nat).take 4) = [a, b, c, 0] from rfl]
    exact key a b c 0 (hc a (by simp)) (hc b (by simp)) (hc c (by simp)) (by decide)
  | [a, b, c, d], _, hc =>
    rw [show (([a, b, c, d] ++ [0, 0, 0, 0] : List Nat).take 4) = [a, b, c, d] from rfl]
    exact key a b c d (hc a (by simp)) (hc b (by simp)) (hc c (by simp)) (hc d (by simp))
  | _ :: _ :: _ :: _ :: _ :: _, h, _ => simp at h
noncomputable def cntK (ks : List (List Part)) (v : List Part) : Nat := open Classical in ks.countP (fun u => decide (u = v))
theorem foundIn_of {news : List (Addr × Obj)} {x y rx ry : Value} {ks : List (List Part)} {v : List Part} (k : KeysIn news x y ks v) (hrx : DatIn news rx (.list (ks.map rowP))) (hry : DatIn news ry (rowP v)) : FoundIn news x y rx ry ks v (cntK ks v) := by
  have hk := k.ok
  refine ⟨k, hrx, hry, ?_, ?_, ?_⟩
  · have : ∀ l : List (List Part), (∀ u ∈ l, ∀ p ∈ u, p.ok) → (l.map rowP).countP (sameD (rowP v)) = cntK l v := by
      intro l
      induction l with
      | nil => intro _; rfl
      | cons u l ih =>
        intro ok
        unfold cntK at ih ⊢
        rw [List.map_cons, List.countP_cons, List.countP_cons, ih fun u hu => ok u (List.mem_cons_of_mem _ hu)]
        congr 1
        have : sameD (rowP v) (rowP u) = true ↔ u = v := by
          rw [sameD_iff]
          exact ⟨fun h => rowP_inj (ok u List.mem_cons_self) k.ov h, fun h => by rw [h]⟩
        by_cases h : u = v
        · simp [h, this.mpr h, sameD_iff]
        · simp [h, Bool.eq_false_iff.mpr (fun q => h (this.mp q))]
    exact this ks hk
  · have : ∀ (l : List (List Part)) (z : Nat), (∀ u ∈ l, ∀ p ∈ u, p.ok) → (keysD l).foldl (cntF v) z = z + cntK l v := by
      intro l
      induction l with
      | nil => intro z _; rfl
      | cons u l ih =>
        intro z ok
        unfold keysD at ih ⊢
        unfold cntK at ih ⊢
        rw [List.map_cons, List.foldl_cons, List.countP_cons, ih _ fun u hu => ok u (List.mem_cons_of_mem _ hu)]
        have : isKey v (.list (keyL u)) = true ↔ u = v := by
          rw [isKey_iff]
          exact ⟨fun h => keyL_inj u v (ok u List.mem_cons_self) k.ov h, fun h => by rw [h]⟩
        unfold cntF
        by_cases h : u = v
        · rw [if_pos (this.mpr h)]; simp [h]; omega
        · rw [if_neg (fun q => h (this.mp q))]; simp [h]
    rw [this ks 0 hk, Nat.zero_add]
  · unfold cntK
    rw [List.countP_pos_iff]
    constructor
    · rintro ⟨u, hu, he⟩
      have : u = v := by simpa using he
      subst this
      exact List.mem_map.mpr ⟨u, hu, rfl⟩
    · intro h
      obtain ⟨u, hu, he⟩ := List.mem_map.mp h
      have := keyL_inj u v (hk u hu) k.ov (Dat.list.inj he)
      exact ⟨u, hu, by simp [this]⟩
theorem first_at {ks : List (List Part)} {v : List Part} (h : 0 < cntK ks v) : ∃ j : Nat, ks[j]? = some v ∧ ∀ k : Nat, k < j → ks[k]? ≠ some v := by
  have hm : ∃ j : Nat, ks[j]? = some v := by
    unfold cntK at h
    obtain ⟨u, hu, he⟩ := List.countP_pos_iff.mp h
    have : u = v := by simpa using he
    subst this
    exact List.getElem?_of_mem hu
  obtain ⟨j, hj⟩ := hm
  induction j using Nat.strongRecOn with
  | ind j ih =>
    by_cases q : ∃ k, k < j ∧ ks[k]? = some v
    · obtain ⟨k, hk, e⟩ := q
      exact ih k hk e
    · exact ⟨j, hj, fun k hk e => q ⟨k, hk, e⟩⟩
theorem found_spec {w mean mg mb news} {x y rx ry : Value} {ks : List (List Part)} {v : List Part} (k : KeysIn news x y ks v) (hrx : DatIn news rx (.list (ks.map rowP))) (hry : DatIn news ry (rowP v)) : SpecT w mean mg mb news 208 [x, y, rx, ry] 32 (fun nx r => r = .bool true) := by
  have fi := foundIn_of k hrx hry
  by_cases h : 0 < cntK ks v
  · obtain ⟨j, h1, h2⟩ := first_at h
    exact found_yes fi h h1 h2
  · have : cntK ks v = 0 := by omega
    rw [this] at fi
    exact found_no fi
end Mine
end
theorem Mine.freshH0 : True := by
  w_top off
  trivial
section
-- text H0
open PySem PySem.W PySem.Calls PyProof.Rows
set_option Elab.async false
set_option maxRecDepth 100000
set_option maxHeartbeats 8000000
set_option linter.unusedVariables false
namespace Mine
set_option pp.deepTerms false
set_option pp.deepTerms.threshold 4
set_option pp.maxSteps 100000
theorem tail_name {prog : Program} {w : World} {A : Around} {E : Value → Shared → Prop} {s : Shared} {value slice : PySem.Expr} {nm : Str} {np : Pos} {o i : Value} {Q : Value → Shared → Prop} (h : wpAny (model prog w) A (subscriptTail (.Name nm np) slice o i) Q E s) :
    wpAny (model prog w) A (subscriptTail value slice o i) Q E s := by
  unfold subscriptTail at h ⊢
  intro Γ p hΓ
  have h1 := h Γ p hΓ
  rw [Sem.wp_bind'] at h1 ⊢
  refine Sem.wp_mono _ Γ _ (fun a p' s' h' => ?_) (fun _ _ _ h' => h') p s h1
  rw [Sem.wp_bind'] at h' ⊢
  refine Sem.wp_mono _ Γ _ (fun r p2 s2 h2 => ?_) (fun _ _ _ h' => h') p' s' h'
  have h3 : Q r s2 := h2
  have h4 : wpAny (model prog w) A (letTemporaryGo value o r >>= fun _ => pure r) Q E s2 := wpAny_bind (wpAny_letTemporaryGo (wpAny_pure h3))
  exact h4 Γ p2 hΓ
theorem pick_to (l : List Value) {j : Int} (h : 0 ≤ j) : kms_pick l none (some j) = l.take j.toNat := by
  unfold kms_pick kms_lo kms_hi
  have e : ¬ j < 0 := by omega
  simp [e]
theorem ints_get {vs : List Value} {ns : List Int} (h : IntsAre vs ns) : ∀ {i : Nat} {v : Value}, vs[i]? = some v → ∃ k t, v = .int k t := by
  induction h with
  | nil => intro i v hv; simp at hv
  | cons k t r ih =>
    intro i v hv
    cases i with
    | zero => exact ⟨k, t, (Option.some.inj hv).symm⟩
    | succ i => exact ih hv
theorem push_snoc (l : List Value) (v : Value) : l.toArray.push v = (l ++ [v]).toArray := by simp
theorem dat_part {nx nx' : List (Addr × Obj)} {r : Value} {p : Part} (h : DatIn nx r p.dat) : DatIn nx' r p.dat := by
  cases p with
  | w i => cases h with | str x t => exact .str _ _
  | n k => cases h with | int x t => exact .int _ _
theorem ver_news {h₀ h h' : Heap} {L Z l' D' D3 I D V : Addr} {oZ ol o3 oI oD oT oV oV' : Obj} {nw : List (Addr × Obj)} (N : News h₀ L h ((Z, oZ) :: (l', ol) :: (D', oT) :: (D3, o3) :: (I, oI) :: (D, oD) :: (V, oV) :: nw)) (hs : Heap.SameBut V h h') (hV : h'.get? V = some oV')
    (hZ : Z ≠ V) (hT : D' ≠ V) (hI : I ≠ V) (hD : D ≠ V) (hn : ∀ q ∈ nw, q.1 ≠ V) : News h₀ L h' ((I, oI) :: (D, oD) :: (V, oV') :: (Z, oZ) :: (D', oT) :: nw) := fun q hq => by
  have up : ∀ q ∈ (Z, oZ) :: (l', ol) :: (D', oT) :: (D3, o3) :: (I, oI) :: (D, oD) :: (V, oV) :: nw, q.1 ≠ V → h'.get? q.1 = some q.2 ∧ q.1 ≠ L ∧ h₀.get? q.1 = none := fun q hq hne => ⟨hs.extBut _ _ hne (N q hq).1, (N q hq).2⟩
  simp only [List.mem_cons] at hq
  rcases hq with rfl | rfl | rfl | rfl | rfl | hq
  · exact up _ (by simp) hI
  · exact up _ (by simp) hD
  · exact ⟨hV, (N (V, oV) (by simp)).2⟩
  · exact up _ (by simp) hZ
  · exact up _ (by simp) hT
  · exact up q (by simp [hq]) (hn q hq)
theorem item_last {prog : Program} {w : World} {A : Around} {E : Value → Shared → Prop} {s : Shared} {h₀ : Heap} {L l : Addr} {value slice : PySem.Expr} {news : List (Addr × Obj)} {vs : List Value} {n : Nat} {u : Tok} {Q : Value → Shared → Prop} (N : News h₀ L s.heap news) (hm : (l, listOf vs.toArray n) ∈ news)
    (h1 : 0 < vs.length) (h : ∀ v, vs[vs.length - 1]? = some v → Q v s)
    (hs : subscripted slice false (.ref l) (.int (-1) u) = operate [.ref l, .int (-1) u] (getItem (.ref l) (.int (-1) u)) := by with_unfolding_all rfl) :
    wpAny (model prog w) A (subscriptTail value slice (.ref l) (.int (-1) u)) Q E s := by
  have hl : s.heap.IsList l vs.toArray := ⟨_, (N _ hm).1, rfl, n, rfl⟩
  have hk : vs.length - 1 < vs.length := by omega
  exact tail_any hl.typeIs slot_list_getitem.lookup (wpAny_getItem_list_neg hl (by decide) (by simp; omega) (by decide) (x := vs[vs.length - 1]) (by
    rw [show ((-1 : Int) + (vs.toArray.size : Int)).toNat = vs.length - 1 by simp; omega]
    simp [hk]) (h _ (List.getElem?_eq_getElem hk))) hs
/-- the versions that stand after i turns -/
def VerJ (h₀ : Heap) (D V : Addr) (oD : Obj) (i : Nat) (m : Str → Option Value) (nx : List (Addr × Obj)) : Prop :=
  ∃ (vsV : List Value) (nV : Nat) (vers : List Ver) (nw : List (Addr × Obj)), nx = (D, oD) :: (V, listOf vsV.toArray nV) :: nw ∧ m (Str.ofString "versions") = some (.ref V) ∧ DatAll nw vsV (vers.map verD) ∧ vers.length = i + 1 ∧ (∀ v ∈ vers, verOk v) ∧ (∀ q ∈ nw, q.1 ≠ V ∧ q.1 ≠ D) ∧ V < D
/-- where the law stands at its first loop -/
def LawJ (h₀ : Heap) (L : Addr) (s : Shared) (xv : Value) (s₁ : Shared) : Prop :=
  ∃ (D n V nV e ne : Nat) (ws : List Value) (ns : List Int) (m : Str → Option Value) (h : Heap) (tk : Nat), xv = .ref D ∧ s₁ = { s with heap := h, toks := tk } ∧ Fr h₀ L h m ∧ m (Str.ofString "versions") = some (.ref V) ∧
    News h₀ L h [(D, listOf ws.toArray n), (V, listOf #[.ref e] nV), (e, listOf #[] ne)] ∧ IntsAre ws ns ∧ ns.length ≤ 6 ∧ e < V ∧ V < D
theorem news_second {h₀ h : Heap} {L : Addr} {a b : Addr × Obj} {r : List (Addr × Obj)} (N : News h₀ L h (a :: b :: r)) : News h₀ L h (a :: r) := fun q hq => by
  rcases List.mem_cons.mp hq with rfl | hq
  · exact N _ List.mem_cons_self
  · exact N _ (List.mem_cons_of_mem _ (List.mem_cons_of_mem _ hq))
theorem post_true (args : List WData) : PySem.Challenge.rw_nb0083_01.row.claim.post args (WData.bool true) args = true := postW_of (X := same (WData.bool true) (WData.bool true)) rfl rfl (by decide +kernel)
theorem datListR {nx : List (Addr × Obj)} {l : Addr} {ds : List Dat} (h : DatIn nx (.ref l) (.list ds)) : ∃ vs n, (l, listOf vs.toArray n) ∈ nx ∧ DatAll nx vs ds := by
  cases h with
  | list a b => exact ⟨_, _, a, b⟩
def partsK (vers : List Ver) : List (List Part) := vers.map fun v => v.map (·.1)
theorem ver_get {nx : List (Addr × Obj)} {vs : List Value} {vers : List Ver} (h : DatAll nx vs (vers.map verD)) {i : Nat} {v : Value} (hv : vs[i]? = some v) : ∃ ver, vers[i]? = some ver ∧ DatIn nx v (verD ver) := by
  obtain ⟨d, hd, hin⟩ := datAll_get h hv
  rw [List.getElem?_map] at hd
  cases hq : vers[i]? with
  | none => rw [hq] at hd; cases hd
  | some ver => rw [hq] at hd; cases hd; exact ⟨ver, rfl, hin⟩
theorem dat_any {nx nx' : List (Addr × Obj)} {r : Value} {p : Part} (h : DatIn nx r p.dat) : DatIn nx' r p.dat := dat_part h
theorem sub_rot {α : Type} {a b c d : α} {r : List α} : ∀ q ∈ a :: b :: c :: d :: r, q ∈ d :: a :: b :: c :: r := fun q hq => by
  rcases List.mem_cons.mp hq with h | hq
  · exact List.mem_cons.mpr (.inr (List.mem_cons.mpr (.inl h)))
  rcases List.mem_cons.mp hq with h | hq
  · exact List.mem_cons.mpr (.inr (List.mem_cons.mpr (.inr (List.mem_cons.mpr (.inl h)))))
  rcases List.mem_cons.mp hq with h | hq
  · exact List.mem_cons.mpr (.inr (List.mem_cons.mpr (.inr (List.mem_cons.mpr (.inr (List.mem_cons.mpr (.inl h)))))))
  rcases List.mem_cons.mp hq with h | hq
  · exact List.mem_cons.mpr (.inl h)
  · exact List.mem_cons_of_mem _ (List.mem_cons_of_mem _ (List.mem_cons_of_mem _ (List.mem_cons_of_mem _ hq)))
def rowOk (u : List Part) : Prop := u.length ≤ 4 ∧ ∀ p ∈ u, p.ok
theorem row_codes {u : List Part} (h : rowOk u) : ∀ c ∈ u.map (·.code), c < 1048576 := fun c hc => by
  obtain ⟨p, hp, rfl⟩ := List.mem_map.mp hc
  exact (code_pos (h.2 p hp)).2
theorem told_vval {u : List Part} (h : rowOk u) : toldN (((u.map Part.code) ++ [0, 0, 0, 0]).take 4) = vval u := by
  rw [told_val _ (by rw [List.length_map]; exact h.1), vval_eq]
theorem told_row {w mean mg mb news} {v : Value} {u : List Part} (hv : DatIn news v (rowP u)) (h : rowOk u) : Spec w mean mg mb news 182 [v] 4 (fun nx r => ∃ t, r = .int (vval u : Nat) t) := by
  have s := told_spec (w := w) (mean := mean) (mg := mg) (mb := mb) v (u.map (·.code)) hv (by rw [List.length_map]; exact h.1) (row_codes h)
  rw [told_vval h] at s
  exact s
theorem packed_row {w mean mg mb news} {v : Value} {u : List Part} (hv : DatIn news v (rowP u)) (h : rowOk u) : Spec w mean mg mb news 189 [v] 8 (fun nx r => ∃ t, r = .int (vval u : Nat) t) := by
  have s := packed_spec (w := w) (mean := mean) (mg := mg) (mb := mb) v (u.map (·.code)) hv (by rw [List.length_map]; exact h.1) (row_codes h)
  rw [pack_told (by rw [List.length_map]; exact h.1) (row_codes h), told_vval h] at s
  exact s
theorem partsK_ok {vers : List Ver} (h : ∀ v ∈ vers, verOk v) : ∀ u ∈ partsK vers, rowOk u := fun u hu => by
  obtain ⟨v, hv, rfl⟩ := List.mem_map.mp hu
  refine ⟨by rw [List.length_map]; exact (h v hv).1, fun p hp => ?_⟩
  obtain ⟨q, hq, rfl⟩ := List.mem_map.mp hp
  exact (h v hv).2 q hq
theorem rows_at {nx : List (Addr × Obj)} {vs : List Value} {ks : List (List Part)} (h : DatAll nx vs (ks.map rowP)) {i : Nat} {v : Value} (hv : vs[i]? = some v) : ∃ u, ks[i]? = some u ∧ DatIn nx v (rowP u) := by
  obtain ⟨d, hd, hin⟩ := datAll_get h hv
  rw [List.getElem?_map] at hd
  cases hq : ks[i]? with
  | none => rw [hq] at hd; cases hd
  | some u => rw [hq] at hd; cases hd; exact ⟨u, rfl, hin⟩
noncomputable def valsD (ks : List (List Part)) : List Dat := ks.map fun u => .int (vval u : Nat)
theorem vals_snoc {ks : List (List Part)} {i : Nat} {u : List Part} (h : ks[i]? = some u) : valsD (ks.take (i + 1)) = valsD (ks.take i) ++ [.int (vval u : Nat)] := by
  unfold valsD
  rw [List.take_add_one, h]; simp
theorem size_ok {l : List Value} (h : l.length ≤ 7) : l.toArray.size ≤ sizeLine := by
  have e1 : (1000 : Nat) ≤ sizeLine := by decide
  rw [List.size_toArray]; omega
theorem callWithC_functionE {prog : Program} {w : World} {A : Around} {E : Value → Shared → Prop} {s : Shared} {pos : Pos} {a : Addr} {first : List Value} {args : List (Bool × Sem Value)} {Q : Value → Shared → Prop} (hplain : args.any (·.1) = false)
    (h : wpC (model prog w) A (evalArgs (.ref a) true args []) (fun x s₁ => (∃ o fd, s₁.heap.get? a = some o ∧ o.data = .func fd) ∧ wpC (model prog w) A (call (.ref a) (first ++ x.pos) x.kw) Q E s₁) E s) :
    wpC (model prog w) A (callWith pos (.ref a) first args []) Q E s := by
  unfold callWith
  refine wpC_bind (wpC_holding (wpC_mono h (fun x s₁ h₁ => wpC_bind (wpC.any (wpAny_standAt ?_))) fun _ _ x => x))
  have tail : ∀ {t : Sem Value}, wpC (model prog w) A t Q E s₁ → wpC (model prog w) A (t >>= fun r => holding [r] point >>= fun _ => pure r) Q E s₁ :=
    fun ht => wpC_bind (wpC_mono ht (fun r s₂ hr => wpC_bind (wpC_holding (wpC.any (wpAny_point (wpC_pure hr))))) fun _ _ x => x)
  obtain ⟨⟨o, fd, ho, hf⟩, h2⟩ := h₁
  simp only [hplain, List.any_nil, Bool.or_false]
  refine wpC_bind (m := keeperOf (.ref a)) ?_
  unfold keeperOf
  refine wpC_bind (wpC.any (wpAny_load ho ?_))
  rw [hf]
  refine wpC_pure ?_
  dsimp only
  split
  · exact tail h2
  · refine tail ?_
    unfold callMarked
    exact fun Γ p hΓ hC => by rw [Sem.wp_keep]; exact h2 Γ p hΓ hC
theorem callWithC_fun1 {prog : Program} {w : World} {A : Around} {E : Value → Shared → Prop} {s : Shared} {env : Env} {pos : Pos} {a : Addr} {e : Expr} {rest : List Expr} {Q : Value → Shared → Prop}
    (h : wpAny (model prog w) A (spliced (backTo pos (starEach (e :: rest) env))) (fun vs s₁ => (∃ o fd, s₁.heap.get? a = some o ∧ o.data = .func fd) ∧ wpC (model prog w) A (call (.ref a) vs) Q E s₁) E s)
    (he : starEach (e :: rest) env = (false, eval e env) :: starEach rest env := by rfl)
    (hplain : (backTo pos (starEach rest env)).any (·.1) = false := by rfl) :
    wpC (model prog w) A (callWith pos (.ref a) [] (backTo pos (starEach (e :: rest) env)) []) Q E s := by
  rw [he] at h ⊢
  exact callWithC_functionE (by show (false || (backTo pos (starEach rest env)).any (·.1)) = false; rw [hplain]; rfl) (wpC.any (Calls.evalArgs_plain h))
theorem ahead_len2 (how : Int) (w : Bool) (la : Option Bool) : (gapS how w la).length ≤ 2 := by
  have h1 := ahead_len how
  have h2 := dot_len
  unfold gapS
  split
  · omega
  · exact h1
theorem body_len {p : Part} (how : Int) (h : p.ok) : (bodyS p how).length ≤ 9 := by
  cases p with
  | w i => exact Nat.le_trans (word_len i h) (by decide)
  | n k =>
    have h1 := zeros_len how
    have h2 := num_len h
    show (zerosS how ++ Str.ofString (toString (k : Int))).length ≤ 9
    rw [Str.length_append]; omega
theorem spell_lenF : ∀ (v : Ver) (st : Str × Option Bool), (∀ p ∈ v, p.1.ok) → (v.foldl spellStep st).1.length ≤ st.1.length + 11 * v.length
  | [], st, _ => Nat.le_refl _
  | q :: v, st, ok => by
    have h1 := spell_lenF v (spellStep st q) fun p hp => ok p (List.mem_cons_of_mem _ hp)
    have h2 := ahead_len2 q.2 (isW q.1) st.2
    have h3 := body_len q.2 (ok q List.mem_cons_self)
    have h4 : (spellStep st q).1.length = st.1.length + ((gapS q.2 (isW q.1) st.2).length + (bodyS q.1 q.2).length) := by
      show (st.1 ++ (gapS q.2 (isW q.1) st.2 ++ bodyS q.1 q.2)).length = _
      rw [Str.length_append, Str.length_append]
    rw [List.foldl_cons, List.length_cons]
    omega
theorem spell_len {v : Ver} (ok : verOk v) : (spellF v).1.length ≤ 100 := by
  have h := spell_lenF v (Str.ofString "", none) ok.2
  have h2 : (Str.ofString "").length = 0 := by decide +kernel
  have h3 := ok.1
  unfold spellF
  dsimp only at h
  omega
theorem join_len : ∀ (us : List Part), (∀ p ∈ us, p.ok) → (Txt.join (Str.ofString ".") (us.map Part.txt)).length ≤ 8 * us.length
  | [], _ => by decide +kernel
  | [p], ok => by
    have h := txt_len (ok p List.mem_cons_self)
    show p.txt.length ≤ 8
    omega
  | p :: q :: r, ok => by
    have h := txt_len (ok p List.mem_cons_self)
    have h1 := join_len (q :: r) fun x hx => ok x (List.mem_cons_of_mem _ hx)
    have e : Txt.join (Str.ofString ".") ((p :: q :: r).map Part.txt) = p.txt ++ Str.ofString "." ++ Txt.join (Str.ofString ".") ((q :: r).map Part.txt) := by
      have g : ∀ l, Txt.join (Str.ofString ".") l = Str.join (Str.ofString ".") l := fun l => StrLaws.glued_eq_join _ l
      rw [g, g]; rfl
    have h2 := dot_len
    rw [e, Str.length_append, Str.length_append, List.length_cons]
    omega
theorem plain_len {v : Ver} (ok : verOk v) : (plainS v).length ≤ 100 := by
  have h := join_len (v.map (·.1)) (fun p hp => by
    obtain ⟨q, hq, rfl⟩ := List.mem_map.mp hp
    exact ok.2 q hq)
  rw [List.map_map, List.length_map] at h
  have h3 := ok.1
  have : (plainS v).length ≤ 8 * v.length := h
  omega
theorem keys_snoc {ks : List (List Part)} {i : Nat} {u : List Part} (h : ks[i]? = some u) : keysD (ks.take (i + 1)) = keysD (ks.take i) ++ [.list (keyL u)] := by
  unfold keysD
  rw [List.take_add_one, h]; simp
theorem parts_at {vers : List Ver} {i : Nat} {ver : Ver} (h : vers[i]? = some ver) : (partsK vers)[i]? = some (ver.map (·.1)) := by
  unfold partsK
  rw [List.getElem?_map, h]; rfl
end Mine
end
theorem Mine.freshH1 : True := by
  w_top off
  trivial
section
-- text H1
open PySem PySem.W PySem.Calls PyProof.Rows
set_option Elab.async false
set_option maxRecDepth 100000
set_option maxHeartbeats 8000000
set_option linter.unusedVariables false
namespace Mine
theorem size_of_le {l : List Value} (h : l.length ≤ 7) : l.length ≤ sizeLine := by
  have e1 : (1000 : Nat) ≤ sizeLine := by decide
  omega
open PyProof.Rows.LCg in
theorem AssignCompListC {prog : Program} {w : World} {A : Around} {E : Value → Shared → Prop} {s : Shared} {env : Env} {h₀ : Heap} {elt iter : Expr} {x y : Str} {px py : Pos} {scope : Scope} {cl : List (Str × Addr)} {pos spos : Pos} {Q : Flow → Shared → Prop} {m : Str → Option Value} {ax : Addr} {vs : List Value} {ne : Nat} {nx₀ : List (Addr × Obj)}
    (J : Nat → List Value → List (Addr × Obj) → Prop)
    (hsw : swapsWith (.ListComp elt [⟨.Name x px, iter, [], 0⟩] scope pos) (some (.Name y py)) spos.line env = pure true)
    (hclos : closureFor scope env = pure cl) (hkind : scope.kind = .function)
    (hnames : ∀ z ∈ scope.names, z.2 = .local → scope.names.lookup z.1 = some .local)
    (hh : A.handled = none) (hcell : ∀ y ∈ scope.names, y.2 ≠ .cell) (hx : scope.names.lookup x = some .local)
    (hy : env.kindOf y = some .local) (hp : (env.scope.kind == .class || (env.scope.kind == .module && env.locals != env.globals)) = false) (hsz : vs.length ≤ sizeLine)
    (F : Fr h₀ env.locals s.heap m) (N : News h₀ env.locals s.heap nx₀) (hJ : J 0 [] nx₀) (hl : ∀ i ys nx, J i ys nx → (ax, listOf vs.toArray ne) ∈ nx)
    (it : wpAny (model prog w) A (eval iter env) (fun xv s' => xv = .ref ax ∧ s' = s) (fun _ _ => False) s)
    (turn : ∀ i ys nx v I oI C oC D m₂ h tk, vs[i]? = some v → J i ys nx → NsObj oC m₂ → m₂ x = some v → Fr h₀ env.locals h m → News h₀ env.locals h ((I, oI) :: (C, oC) :: (D, lst ys) :: nx) → Off3 I C D nx → ((@Ne Nat I C) ∧ (@Ne Nat I D) ∧ (@Ne Nat C D)) →
      wpC (model prog w) A (eval elt (compEnvC scope cl C env)) (CompEnd h₀ env.locals m { s with heap := h, toks := tk } I oI C oC D (lst ys) (fun _ => True) (fun y nx' => J (i + 1) (ys ++ [y]) nx')) (fun _ _ => False) { s with heap := h, toks := tk })
    (fin : ∀ ys nx D h tk, J vs.length ys nx → Fr h₀ env.locals h (fun z => if z = y then some (.ref D) else m z) → News h₀ env.locals h ((D, lst ys) :: nx) → Off1 D nx → Q .next { s with heap := h, toks := tk })
    (hs : ∀ x, foldedSetIterable iter env x = pure x := by intro _; rfl) :
    wpC (model prog w) A (exec (.Assign [.Name y py] (.ListComp elt [⟨.Name x px, iter, [], 0⟩] scope pos) spos) env) Q E s :=
  AssignCompC hsw hclos hkind hnames (wpAny_mono it (fun xv s' h => by
    obtain ⟨rfl, rfl⟩ := h
    exact compAtC_list J hh hcell hkind hx hy hp hsz F N hJ hl turn fin) fun _ _ x => x) hs
theorem specC_use {w : World} {mean : ExcName → Option Value} {mg mb : Str → Option Value} {news : List (Addr × Obj)} {f : Addr} {args : List Value} {cost : Nat} {Post : List (Addr × Obj) → Value → Prop}
    {dp un : Nat} {gd : Option (List Code)} {cn : Str} {cs : Scope} {a : Addr} {ccd : Value} {h₀ : Heap} {L : Addr} {m : Str → Option Value} {s : Shared}
    {Q E : Value → Shared → Prop} (S : SpecC w mean mg mb news f args cost Post)
    (F : Fr h₀ L s.heap m) (X : (hd.heap_39 w.params).In h₀) (N : News h₀ L s.heap news) (T : Top hd.view_39 LS mean mg mb h₀) (hk : cs.kind = .function) (hd : dp + cost < recursionLimit) (hu : un + 8 * cost < cLine)
    (ret : ∀ r tl h' tk', Fr h₀ L h' m → News h₀ L h' (tl ++ news) → (∀ q ∈ news, ∀ p ∈ tl, q.1 ≠ p.1) → Post (tl ++ news) r → Q r { s with heap := h', toks := tk' }) :
    wpC (model PySem.Challenge.rw_nb0083_01.row.prog w) (topA' dp un gd cn cs L a ccd) (call (.ref f) args) Q E s :=
  S dp un gd cn cs a ccd h₀ L m s Q E F X N T hk hd hu ret
def moreK (ks : List (List Part)) : List (List Part) := ks.map fun u => u ++ [.n 0]
theorem more_at {ks : List (List Part)} {i : Nat} {u : List Part} (h : ks[i]? = some u) : (moreK ks)[i]? = some (u ++ [.n 0]) := by
  unfold moreK
  rw [List.getElem?_map, h]; rfl
theorem dot0_len : (Str.ofString ".0").length = 2 := by decide +kernel
theorem mono_right {pre nx : List (Addr × Obj)} {a : Addr × Obj} {v : Value} {d : Dat} (h : DatIn nx v d) : DatIn (a :: (pre ++ nx)) v d := h.mono fun q hq => List.mem_cons_of_mem _ (List.mem_append_right _ hq)
/-- the six lists of the law, by their data -/
structure LawIn (nx : List (Addr × Obj)) (D Td Pk Ky Pl Mo : Addr) (ks : List (List Part)) : Prop where
  hR : DatIn nx (.ref D) (.list (ks.map rowP))
  hT : DatIn nx (.ref Td) (.list (valsD ks))
  hP : DatIn nx (.ref Pk) (.list (valsD ks))
  hK : DatIn nx (.ref Ky) (.list (keysD ks))
  hL : DatIn nx (.ref Pl) (.list (keysD ks))
  hM : DatIn nx (.ref Mo) (.list (keysD (moreK ks)))
  ok : ∀ u ∈ ks, rowOk u
  len : ks.length ≤ 7
structure RowAt (ks : List (List Part)) (j : Nat) (u : List Part) : Prop where
  h : ks[j]? = some u
theorem row_at {ks : List (List Part)} {j : Nat} (h : j < ks.length) : ∃ u, RowAt ks j u := ⟨_, ⟨List.getElem?_eq_getElem h⟩⟩
theorem item_dat {prog : Program} {w : World} {A : Around} {E : Value → Shared → Prop} {s : Shared} {h₀ : Heap} {L l : Addr} {value slice : PySem.Expr} {nx news : List (Addr × Obj)} {ds : List Dat} {d : Dat} {j : Nat} {u : Tok} {Q : Value → Shared → Prop} (N : News h₀ L s.heap news) (li : DatIn nx (.ref l) (.list ds))
    (sub : ∀ p ∈ nx, p ∈ news) (hd : ds[j]? = some d) (hfit : (j : Int) < 2 ^ 63) (h : ∀ v, DatIn nx v d → Q v s)
    (hs : subscripted slice false (.ref l) (.int (j : Int) u) = operate [.ref l, .int (j : Int) u] (getItem (.ref l) (.int (j : Int) u)) := by with_unfolding_all rfl) :
    wpAny (model prog w) A (subscriptTail value slice (.ref l) (.int (j : Int) u)) Q E s := by
  obtain ⟨vs, n, hm, hD⟩ := datListR li
  have hj : j < vs.length := by rw [hD.length]; exact (List.getElem?_eq_some_iff.mp hd).1
  refine item_at N (sub _ hm) (by omega) (by omega) hfit (fun v hv => ?_) hs
  rw [Int.toNat_natCast] at hv
  obtain ⟨d', e, hin⟩ := datAll_get hD hv
  rw [hd] at e
  cases e
  exact h v hin
section
variable {prog : Program} {w : World} {A : Around} {E : Value → Shared → Prop} {s : Shared} {h₀ : Heap} {L D Td Pk Ky Pl Mo : Addr} {value slice : PySem.Expr} {nx news : List (Addr × Obj)} {ks : List (List Part)} {v : List Part} {j : Nat} {u : Tok} {Q : Value → Shared → Prop}
theorem fit_at (li : LawIn nx D Td Pk Ky Pl Mo ks) (ra : RowAt ks j v) : (j : Int) < 2 ^ 63 := by
  have h1 := (List.getElem?_eq_some_iff.mp ra.h).1
  have h2 := li.len
  omega
theorem vals_at (ra : RowAt ks j v) : (valsD ks)[j]? = some (.int (vval v : Nat)) := by
  unfold valsD
  rw [List.getElem?_map, ra.h]; rfl
theorem keys_at (ra : RowAt ks j v) : (keysD ks)[j]? = some (.list (keyL v)) := by
  unfold keysD
  rw [List.getElem?_map, ra.h]; rfl
theorem item_told (N : News h₀ L s.heap news) (li : LawIn nx D Td Pk Ky Pl Mo ks) (ra : RowAt ks j v) (sub : ∀ p ∈ nx, p ∈ news) (h : ∀ t, Q (.int (vval v : Nat) t) s)
    (hs : subscripted slice false (.ref Td) (.int (j : Int) u) = operate [.ref Td, .int (j : Int) u] (getItem (.ref Td) (.int (j : Int) u)) := by with_unfolding_all rfl) :
    wpAny (model prog w) A (subscriptTail value slice (.ref Td) (.int (j : Int) u)) Q E s :=
  item_dat N li.hT sub (vals_at ra) (fit_at li ra) (fun x hx => by obtain ⟨t, rfl⟩ := datInt hx; exact h t) hs
theorem item_packed (N : News h₀ L s.heap news) (li : LawIn nx D Td Pk Ky Pl Mo ks) (ra : RowAt ks j v) (sub : ∀ p ∈ nx, p ∈ news) (h : ∀ t, Q (.int (vval v : Nat) t) s)
    (hs : subscripted slice false (.ref Pk) (.int (j : Int) u) = operate [.ref Pk, .int (j : Int) u] (getItem (.ref Pk) (.int (j : Int) u)) := by with_unfolding_all rfl) :
    wpAny (model prog w) A (subscriptTail value slice (.ref Pk) (.int (j : Int) u)) Q E s :=
  item_dat N li.hP sub (vals_at ra) (fit_at li ra) (fun x hx => by obtain ⟨t, rfl⟩ := datInt hx; exact h t) hs
theorem item_row (N : News h₀ L s.heap news) (li : LawIn nx D Td Pk Ky Pl Mo ks) (ra : RowAt ks j v) (sub : ∀ p ∈ nx, p ∈ news) (h : ∀ l vs n, (l, listOf vs.toArray n) ∈ nx → vs.length ≤ 4 → Box (DatIn nx (.ref l) (rowP v) ∧ DatAll nx vs ((v.map Part.code).map fun (c : Nat) => .int (c : Int))) → Q (.ref l) s)
    (hs : subscripted slice false (.ref D) (.int (j : Int) u) = operate [.ref D, .int (j : Int) u] (getItem (.ref D) (.int (j : Int) u)) := by with_unfolding_all rfl) :
    wpAny (model prog w) A (subscriptTail value slice (.ref D) (.int (j : Int) u)) Q E s :=
  item_dat N li.hR sub (d := rowP v) (by rw [List.getElem?_map, ra.h]; rfl) (fit_at li ra) (fun x hx => by
    obtain ⟨l, vs, n, rfl, hm, hD⟩ := datList hx
    have h4 := (li.ok v (List.mem_of_getElem? ra.h)).1
    exact h l vs n hm (by rw [hD.length, List.length_map, List.length_map]; exact h4) ⟨hx, hD⟩) hs
theorem item_keys (N : News h₀ L s.heap news) (li : LawIn nx D Td Pk Ky Pl Mo ks) (ra : RowAt ks j v) (sub : ∀ p ∈ nx, p ∈ news) (h : ∀ l, Box (DatIn nx (.ref l) (.list (keyL v))) → Q (.ref l) s)
    (hs : subscripted slice false (.ref Ky) (.int (j : Int) u) = operate [.ref Ky, .int (j : Int) u] (getItem (.ref Ky) (.int (j : Int) u)) := by with_unfolding_all rfl) :
    wpAny (model prog w) A (subscriptTail value slice (.ref Ky) (.int (j : Int) u)) Q E s :=
  item_dat N li.hK sub (keys_at ra) (fit_at li ra) (fun x hx => by
    obtain ⟨l, vs, n, rfl, hm, hD⟩ := datList hx
    exact h l ⟨hx⟩) hs
theorem item_plain (N : News h₀ L s.heap news) (li : LawIn nx D Td Pk Ky Pl Mo ks) (ra : RowAt ks j v) (sub : ∀ p ∈ nx, p ∈ news) (h : ∀ l, Box (DatIn nx (.ref l) (.list (keyL v))) → Q (.ref l) s)
    (hs : subscripted slice false (.ref Pl) (.int (j : Int) u) = operate [.ref Pl, .int (j : Int) u] (getItem (.ref Pl) (.int (j : Int) u)) := by with_unfolding_all rfl) :
    wpAny (model prog w) A (subscriptTail value slice (.ref Pl) (.int (j : Int) u)) Q E s :=
  item_dat N li.hL sub (keys_at ra) (fit_at li ra) (fun x hx => by
    obtain ⟨l, vs, n, rfl, hm, hD⟩ := datList hx
    exact h l ⟨hx⟩) hs
theorem item_more (N : News h₀ L s.heap news) (li : LawIn nx D Td Pk Ky Pl Mo ks) (ra : RowAt ks j v) (sub : ∀ p ∈ nx, p ∈ news) (h : ∀ l, Box (DatIn nx (.ref l) (.list (keyL (v ++ [.n 0])))) → Q (.ref l) s)
    (hs : subscripted slice false (.ref Mo) (.int (j : Int) u) = operate [.ref Mo, .int (j : Int) u] (getItem (.ref Mo) (.int (j : Int) u)) := by with_unfolding_all rfl) :
    wpAny (model prog w) A (subscriptTail value slice (.ref Mo) (.int (j : Int) u)) Q E s :=
  item_dat N li.hM sub (keys_at ⟨more_at ra.h⟩) (fit_at li ra) (fun x hx => by
    obtain ⟨l, vs, n, rfl, hm, hD⟩ := datList hx
    exact h l ⟨hx⟩) hs
end

theorem vval_lt {v : List Part} (h : rowOk v) : vval v < 2 ^ 80 := by
  have h1 := told_lt (((v.map Part.code) ++ [0, 0, 0, 0]).take 4) (fun c hc => by
    rcases List.mem_append.mp (List.mem_of_mem_take hc) with hc | hc
    · exact row_codes h c hc
    · simp only [List.mem_cons, List.not_mem_nil, or_false, or_self] at hc
      omega)
  rw [told_vval h] at h1
  refine Nat.lt_of_lt_of_le h1 ?_
  have e : (1048576 : Nat) = 2 ^ 20 := by decide
  have h2 : (((v.map Part.code) ++ [0, 0, 0, 0]).take 4).length ≤ 4 := by rw [List.length_take]; omega
  rw [e, ← Nat.pow_mul]
  exact Nat.pow_le_pow_right (by decide) (by omega)
def row4 (v : List Part) : List Nat := ((v.map Part.code) ++ [0, 0, 0, 0]).take 4
theorem taken_row {w mean mg mb news} {nx : List (Addr × Obj)} {D Td Pk Ky Pl Mo : Addr} {ks : List (List Part)} {v : List Part} {j : Nat} (li : LawIn nx D Td Pk Ky Pl Mo ks) (ra : RowAt ks j v) (t : Tok) :
    Spec w mean mg mb news 194 [.int (vval v : Nat) t] 8 (fun nx r => ∃ l, r = .ref l ∧ Box (DatIn nx (.ref l) (rowD (row4 v)))) := by
  have h := li.ok v (List.mem_of_getElem? ra.h)
  refine spec_post (taken_spec (vval v) (vval_lt h) t) (fun nx r hr => ?_)
  have e : takenN (vval v) = row4 v := by
    rw [← told_vval h]
    exact taken_told (by rw [List.length_map]; exact h.1) (row_codes h)
  rw [e] at hr
  obtain ⟨l, vs, n, rfl, hm, hD⟩ := datList hr
  exact ⟨l, rfl, ⟨hr⟩⟩
theorem rowD_ok (r : List Nat) : ∀ d ∈ r.map (fun (c : Nat) => Dat.int (c : Int)), kqdOk 8 d = true := fun d hd => by
  obtain ⟨c, _, rfl⟩ := List.mem_map.mp hd
  rfl
open Classical in
theorem ne_rows {prog : Program} {w : World} {A : Around} {E : Value → Shared → Prop} {s : Shared} {h₀ : Heap} {L l l' : Addr} {nx nx' news : List (Addr × Obj)} {v : List Part} {vs ys : List Value} {k : Nat} {t0 t1 t2 t3 : Tok} {Q : Value → Shared → Prop}
    (N : News h₀ L s.heap news) (b : DatIn nx (.ref l) (rowD (row4 v))) (sub : ∀ p ∈ nx, p ∈ news) (hm : (l', listOf ys.toArray k) ∈ news) (hD : DatAll nx' vs ((v.map Part.code).map fun (c : Nat) => Dat.int (c : Int))) (sub' : ∀ p ∈ nx', p ∈ news)
    (hy : ys = (vs ++ [Value.int 0 t0, .int 0 t1, .int 0 t2, .int 0 t3]).take 4) (hu : A.units + 64 < cLine) (h : Q (.bool false) s) : wpAny (model prog w) A (compareOp .NotEq (.ref l) (.ref l')) Q E s := by
  obtain ⟨vs1, n1, hm1, hD1⟩ := datListR b
  have hD2 : DatAll nx' ys ((row4 v).map fun (c : Nat) => Dat.int (c : Int)) := by
    rw [hy]
    unfold row4
    rw [List.map_take, List.map_append]
    exact datAll_take 4 (datAll_snoc hD (.cons (.int _ _) (.cons (.int _ _) (.cons (.int _ _) (.cons (.int _ _) .nil)))))
  refine kqd_ne N (sub _ hm1) rfl rfl hD1 sub hm rfl rfl hD2 sub' (rowD_ok _) (rowD_ok _) hu ?_
  rw [decide_eq_true rfl]
  exact h
theorem len_rows {prog : Program} {w : World} {A : Around} {E : Value → Shared → Prop} {s : Shared} {h₀ : Heap} {L D Td Pk Ky Pl Mo : Addr} {nx news : List (Addr × Obj)} {ks : List (List Part)} {Q : Value → Shared → Prop}
    (N : News h₀ L s.heap news) (li : LawIn nx D Td Pk Ky Pl Mo ks) (sub : ∀ p ∈ nx, p ∈ news) (h : ∀ t tk, Q (.int (ks.length : Int) t) { s with toks := tk }) : wpAny (model prog w) A (call (.builtin "len") [.ref D]) Q E s := by
  obtain ⟨vs, n, hm, hD⟩ := datListR li.hR
  have hl := li.len
  refine kd_len N (sub _ hm) hD (by rw [List.length_map]; omega) ?_
  rw [List.length_map]
  exact h _ _
theorem signs_law {w mean mg mb} {nx news : List (Addr × Obj)} {D Td Pk Ky Pl Mo l1 l2 : Addr} {ks : List (List Part)} {v1 v2 : List Part} {i j : Nat} (li : LawIn nx D Td Pk Ky Pl Mo ks) (ra : RowAt ks i v1) (rb : RowAt ks j v2)
    (b1 : Box (DatIn nx (.ref l1) (.list (keyL v1)))) (b2 : Box (DatIn nx (.ref l2) (.list (keyL v2)))) (sub : ∀ p ∈ nx, p ∈ news) (t t2 : Tok) :
    Spec w mean mg mb news 201 [.ref l1, .ref l2, .int (vval v1 : Nat) t, .int (vval v2 : Nat) t2] 16 (fun nx r => r = .bool true) := by
  have o1 := li.ok v1 (List.mem_of_getElem? ra.h)
  have o2 := li.ok v2 (List.mem_of_getElem? rb.h)
  exact signs_key ⟨b1.out.mono sub, b2.out.mono sub, o1.2, o2.2, o1.1, o2.1, rfl, rfl⟩ t t2
theorem specT_use {w : World} {mean : ExcName → Option Value} {mg mb : Str → Option Value} {news : List (Addr × Obj)} {f : Addr} {args : List Value} {cost : Nat} {Post : List (Addr × Obj) → Value → Prop}
    {dp un : Nat} {gd : Option (List Code)} {cn : Str} {cs : Scope} {a : Addr} {ccd : Value} {A₀ : Around} {h₀ : Heap} {L : Addr} {m : Str → Option Value} {s : Shared}
    {Q E : Value → Shared → Prop} (S : SpecT w mean mg mb news f args cost Post)
    (B : Below A₀ h₀ [] h₀) (F : Fr h₀ L s.heap m) (X : (hd.heap_39 w.params).In h₀) (N : News h₀ L s.heap news) (T : Top hd.view_39 LS mean mg mb h₀) (hk : cs.kind = .function) (hd : dp + cost < recursionLimit) (hu : un + 8 * cost < cLine)
    (ret : ∀ r nx h' tk', Fr h₀ L h' m → News h₀ L h' news → Post nx r → Q r { s with heap := h', toks := tk' }) :
    wpAny (model PySem.Challenge.rw_nb0083_01.row.prog w) (topA dp un gd cn cs L a ccd) (call (.ref f) args) Q E s :=
  S dp un gd cn cs a ccd A₀ h₀ h₀ L m s Q E B X T F X N T hk hd hu fun r tl h' tk' F' N' _ hp => ret r _ h' tk' F' (fun p q => N' p (List.mem_append_right _ q)) hp
theorem keysIn_law {nx news : List (Addr × Obj)} {D Td Pk Ky Pl Mo l : Addr} {ks : List (List Part)} {v : List Part} (li : LawIn nx D Td Pk Ky Pl Mo ks) (ov : ∀ p ∈ v, p.ok) (b : Box (DatIn nx (.ref l) (.list (keyL v)))) (sub : ∀ p ∈ nx, p ∈ news) : KeysIn news (.ref Ky) (.ref l) ks v :=
  ⟨li.hK.mono sub, b.out.mono sub, fun u hu => (li.ok u hu).2, ov, Nat.le_trans li.len (by decide)⟩
theorem found_law {w mean mg mb} {nx news : List (Addr × Obj)} {D Td Pk Ky Pl Mo l l' : Addr} {ks : List (List Part)} {v : List Part} {j : Nat} {P : Prop} (li : LawIn nx D Td Pk Ky Pl Mo ks) (ra : RowAt ks j v)
    (b : Box (DatIn nx (.ref l) (.list (keyL v)))) (b' : Box (DatIn nx (.ref l') (rowP v) ∧ P)) (sub : ∀ p ∈ nx, p ∈ news) : SpecT w mean mg mb news 208 [.ref Ky, .ref l, .ref D, .ref l'] 32 (fun nx r => r = .bool true) :=
  found_spec (keysIn_law li (li.ok v (List.mem_of_getElem? ra.h)).2 b sub) (li.hR.mono sub) (b'.out.1.mono sub)
theorem found_more {w mean mg mb} {nx news : List (Addr × Obj)} {D Td Pk Ky Pl Mo l l0 l' : Addr} {ks : List (List Part)} {v : List Part} {j k : Nat} {vs ys : List Value} {t : Tok} (li : LawIn nx D Td Pk Ky Pl Mo ks) (ra : RowAt ks j v)
    (b : Box (DatIn nx (.ref l) (.list (keyL (v ++ [.n 0]))))) (b' : Box (DatIn nx (.ref l0) (rowP v) ∧ DatAll nx vs ((v.map Part.code).map fun (c : Nat) => Dat.int (c : Int)))) (sub : ∀ p ∈ nx, p ∈ news)
    (hm : (l', listOf ys.toArray k) ∈ news) (hy : ys = vs ++ [Value.int 14 t]) : SpecT w mean mg mb news 208 [.ref Ky, .ref l, .ref D, .ref l'] 32 (fun nx r => r = .bool true) := by
  have hv := li.ok v (List.mem_of_getElem? ra.h)
  refine found_spec (keysIn_law li (v := v ++ [.n 0]) (fun p hp => ?_) b sub) (li.hR.mono sub) (.list hm ?_)
  · rcases List.mem_append.mp hp with hp | hp
    · exact hv.2 p hp
    · rw [List.mem_singleton.mp hp]
      show (0 : Nat) < 1000000
      decide
  · rw [hy, List.map_append, List.map_append]
    exact datAll_snoc (b'.out.2.mono sub) (.cons (.int _ _) .nil)
theorem frame_keep {m' m : Str → Option Value} {x : Str} (h : ∀ q, q ≠ x → q ≠ x → m' q = m q) : ∃ xv, m' = fun q => if q = x then xv else m q := ⟨m' x, by
  funext q
  by_cases h1 : q = x
  · rw [if_pos h1, h1]
  · rw [if_neg h1, h q h1 h1]⟩
end Mine
end
theorem Mine.freshX0 : True := by
  w_top off
  trivial
section
-- text X0
open PySem PySem.W PySem.Calls PyProof.Rows
set_option Elab.async false
set_option maxRecDepth 100000
set_option maxHeartbeats 8000000
set_option linter.unusedVariables false
namespace Mine
set_option pp.deepTerms false
set_option pp.deepTerms.threshold 4
set_option pp.maxSteps 100000

section
local macro_rules | `(tactic| walk_at "mem") => `(tactic| first | assumption | exact List.mem_cons_self | (refine List.mem_cons_of_mem _ ?_; walk_at "mem") | (refine List.mem_append_right _ ?_; walk_at "mem"))
local macro_rules | `(tactic| walk_at "call ref") => `(tactic| ((with_reducible show wpAny _ _ (call (Value.ref 194) _) _ _ _); (rename LawIn _ _ _ _ _ _ _ _ => li'); k_dflt (refine spec_use (taken_row li' (by assumption) _) (by k_asm) (by k_asm) (by k_asm) (by k_asm) (by k_asm) rfl ?d7 ?u7 ?_; (case d7 => ktr_room); (case u7 => ktr_units)); intro r7 tl7 h7 tk7 F7 N7 ne7 hp7; obtain ⟨l7, e7, b7⟩ := hp7; subst e7))
local macro_rules | `(tactic| walk_at "call refx") => `(tactic| ((with_reducible show wpAny _ _ (call (Value.ref 156) _) _ _ _); (refine spec_use0 (part_spec _ _) (by k_asm) (by k_asm) (by k_asm) (by k_asm) (by k_asm) rfl ?d7 ?u7 ?_); (case d7 => ktr_room); (case u7 => ktr_units); intro r7 nx7 h7 tk7 F7 N7 hp7))
local macro_rules | `(tactic| walk_at "binaryOp Add str str") => `(tactic| (refine PyProof.Rows.add_str ?_ ?hsz; (case hsz => (simp only [Str.length_append, sizeLine_eq]; omega)); intro _ _))
local macro_rules | `(tactic| walk_at "mem") => `(tactic| first | assumption | exact List.mem_cons_self | (refine List.mem_cons_of_mem _ ?_; walk_at "mem"))
local macro_rules | `(tactic| walk_at "subscriptTail") => `(tactic| ((with_reducible show wpAny _ _ (subscriptTail _ _ (Value.ref _) (Value.int _ _)) _ _ _); (rename LawIn _ _ _ _ _ _ _ _ => li'); k_dflt (first | ((refine' item_told ?N li' ?ra ?sub ?_ ?hs; (case N => k_asm); (case ra => assumption); (case sub => (intro p' hp'; walk_at "mem")); (case hs => with_unfolding_all rfl)); intro t') | ((refine' item_packed ?N li' ?ra ?sub ?_ ?hs; (case N => k_asm); (case ra => assumption); (case sub => (intro p' hp'; walk_at "mem")); (case hs => with_unfolding_all rfl)); intro t') | ((refine' item_row ?N li' ?ra ?sub ?_ ?hs; (case N => k_asm); (case ra => assumption); (case sub => (intro p' hp'; walk_at "mem")); (case hs => with_unfolding_all rfl)); intro l' vs' n' hm' hv' bl') | ((refine' item_keys ?N li' ?ra ?sub ?_ ?hs; (case N => k_asm); (case ra => assumption); (case sub => (intro p' hp'; walk_at "mem")); (case hs => with_unfolding_all rfl)); intro l' bl') | ((refine' item_plain ?N li' ?ra ?sub ?_ ?hs; (case N => k_asm); (case ra => assumption); (case sub => (intro p' hp'; walk_at "mem")); (case hs => with_unfolding_all rfl)); intro l' bl') | ((refine' item_more ?N li' ?ra ?sub ?_ ?hs; (case N => k_asm); (case ra => assumption); (case sub => (intro p' hp'; walk_at "mem")); (case hs => with_unfolding_all rfl)); intro l' bl'))))
local macro_rules | `(tactic| walk_at "subscriptTail Name Name ref int") => `(tactic| ((with_reducible show wpAny _ _ (subscriptTail _ _ (Value.ref _) (Value.int _ _)) _ _ _); (rename LawIn _ _ _ _ _ _ _ _ => li'); k_dflt (first | ((refine' item_told ?N li' ?ra ?sub ?_ ?hs; (case N => k_asm); (case ra => assumption); (case sub => (intro p' hp'; walk_at "mem")); (case hs => with_unfolding_all rfl)); intro t') | ((refine' item_packed ?N li' ?ra ?sub ?_ ?hs; (case N => k_asm); (case ra => assumption); (case sub => (intro p' hp'; walk_at "mem")); (case hs => with_unfolding_all rfl)); intro t') | ((refine' item_row ?N li' ?ra ?sub ?_ ?hs; (case N => k_asm); (case ra => assumption); (case sub => (intro p' hp'; walk_at "mem")); (case hs => with_unfolding_all rfl)); intro l' vs' n' hm' hv' bl') | ((refine' item_keys ?N li' ?ra ?sub ?_ ?hs; (case N => k_asm); (case ra => assumption); (case sub => (intro p' hp'; walk_at "mem")); (case hs => with_unfolding_all rfl)); intro l' bl') | ((refine' item_plain ?N li' ?ra ?sub ?_ ?hs; (case N => k_asm); (case ra => assumption); (case sub => (intro p' hp'; walk_at "mem")); (case hs => with_unfolding_all rfl)); intro l' bl') | ((refine' item_more ?N li' ?ra ?sub ?_ ?hs; (case N => k_asm); (case ra => assumption); (case sub => (intro p' hp'; walk_at "mem")); (case hs => with_unfolding_all rfl)); intro l' bl'))))
local macro_rules | `(tactic| walk_at "binaryOp Add ref ref") => `(tactic| (k_here; (rename LawIn _ _ _ _ _ _ _ _ => li'); (with_reducible show wpAny _ _ (binaryOp _ (Value.ref _) (Value.ref _)) _ _ _); k_dflt (refine' kmk_add_lit ?F ?N ?a ?b rfl ?_ ?z; (case F => k_asm); (case N => k_asm); (case a => exact isList_of (by k_asm) (by walk_at "mem")); (case b => exact isList_of (by k_asm) (by walk_at "mem")); (case z => (simp only [List.toList_toArray, List.length_cons, List.length_nil, sizeLine_eq]; omega))); intro D' h' F' N' l1))
local macro_rules | `(tactic| walk_at "subscriptTail Name Slice ref ref") => `(tactic| (k_here; (rename LawIn _ _ _ _ _ _ _ _ => li'); (with_reducible show wpAny _ _ (subscriptTail _ (PySem.Expr.Slice _ _ none _) (Value.ref _) (Value.ref _)) _ _ _); k_dflt (refine' kms_slice_lit ?F ?N ?l ?p ?q rfl ?_ ?s ?t ?z; (case F => k_asm); (case N => k_asm); (case l => exact isList_of (by k_asm) (by walk_at "mem")); (case p => kmk_part); (case q => kmk_part); (case s => with_unfolding_all rfl); (case t => kmk_pure); (case z => (simp only [List.toList_toArray, List.size_toArray, List.length_append, List.length_cons, List.length_nil, sizeLine_eq]; omega))); intro D' h' F' N' l1))
local macro_rules | `(tactic| walk_at "compareOp NotEq ref ref") => `(tactic| ((with_reducible show wpAny _ _ (compareOp _ (Value.ref _) (Value.ref _)) _ _ _); (rename Box (DatIn _ _ _) => b7'); (rename Box (_ ∧ _) => b8'); k_dflt (refine' ne_rows ?N b7'.out ?s1 ?m b8'.out.2 ?s2 ?y ?u ?_; (case N => k_asm); (case s1 => (intro p' hp'; walk_at "mem")); (case m => walk_at "mem"); (case s2 => (intro p' hp'; walk_at "mem")); (case y => exact pick4 _); (case u => ktr_units))))
local macro_rules | `(tactic| walk_at "exec For Name Call cons nil") => `(tactic| (k_dflt (refine For_at ?_)))
local macro_rules | `(tactic| walk_at "call builtin:len") => `(tactic| ((with_reducible show wpAny _ _ (call _ [Value.ref _]) _ _ _); (rename LawIn _ _ _ _ _ _ _ _ => li'); k_dflt (refine' len_rows ?N li' ?s1 ?_; (case N => k_asm); (case s1 => (intro p' hp'; walk_at "mem"))); intro t' tk'))
local macro_rules | `(tactic| walk_at "call ref") => `(tactic| ((with_reducible show wpAny _ _ (call (Value.ref 201) [Value.ref _, Value.ref _, _, _]) _ _ _); (rename LawIn _ _ _ _ _ _ _ _ => li'); k_dflt (refine' spec_use0 (signs_law li' ?ra ?rb ?b1 ?b2 ?sub _ _) ?B ?F ?X ?N ?T rfl ?d7 ?u7 ?_; (case B => k_asm); (case F => k_asm); (case X => k_asm); (case N => k_asm); (case T => k_asm); (case b1 => assumption); (case b2 => assumption); (case ra => assumption); (case rb => assumption); (case sub => (intro p' hp'; walk_at "mem")); (case d7 => ktr_room); (case u7 => ktr_units)); intro r7 nx7' h7 tk7 F7 N7 e7; subst e7))
local macro_rules | `(tactic| walk_at "call ref") => `(tactic| ((with_reducible show wpAny _ _ (call (Value.ref 201) [Value.int _ _, Value.int _ _, Value.int _ _, Value.int _ _]) _ _ _); k_dflt (refine spec_use0 (signs_int _ _ _ _ _ _) (by k_asm) (by k_asm) (by k_asm) (by k_asm) (by k_asm) rfl ?d7 ?u7 ?_; (case d7 => ktr_room); (case u7 => ktr_units)); intro r7 nx7' h7 tk7 F7 N7 e7; subst e7))
local macro_rules | `(tactic| walk_at "call ref") => `(tactic| ((with_reducible show wpAny _ _ (call (Value.ref 208) _) _ _ _); (rename LawIn _ _ _ _ _ _ _ _ => li'); k_dflt (refine' specT_use (found_law li' ?ra ?b1 ?b2 ?sub) ?B ?F ?X ?N ?T rfl ?d7 ?u7 ?_; (case B => k_asm); (case F => k_asm); (case X => k_asm); (case N => k_asm); (case T => k_asm); (case b1 => assumption); (case b2 => assumption); (case ra => assumption); (case sub => (intro p' hp'; walk_at "mem")); (case d7 => ktr_room); (case u7 => ktr_units)); intro r7 nx7' h7 tk7 F7 N7 e7; subst e7))
local macro_rules | `(tactic| walk_at "call ref") => `(tactic| ((with_reducible show wpAny _ _ (call (Value.ref 208) _) _ _ _); (rename LawIn _ _ _ _ _ _ _ _ => li'); k_dflt (refine' specT_use (found_more li' ?ra ?b1 ?b2 ?sub ?m ?y) ?B ?F ?X ?N ?T rfl ?d7 ?u7 ?_; (case B => k_asm); (case F => k_asm); (case X => k_asm); (case N => k_asm); (case T => k_asm); (case b1 => assumption); (case m => exact List.mem_cons_self); (case b2 => assumption); (case y => rfl); (case ra => assumption); (case sub => (intro p' hp'; walk_at "mem")); (case d7 => ktr_room); (case u7 => ktr_units)); intro r7 nx7' h7 tk7 F7 N7 e7; subst e7))
theorem fin : PySem.Challenge.rw_nb0083_01.Holds := by
  refine hd ?_
  k_fill
  intro w s₀ s₁ mg mb G Y fa o pm cd doc dV kV ho hd hcd hD hmg hg args vals as hpre hlay hrd hwl hlo
  have KX := kIn_of Y
  have X := (Ground.X G).1
  have V := (Ground.X G).2
  refine Ground.open G ?_
  intro T B D TE TW
  try (refine guard_noD D (by decide +kernel) ?_; clear D)
  obtain ⟨_, _, M⟩ := bmod_of_top T
  have TA := at_of_top T
  try (obtain ⟨_, _, he, B0⟩ := based_of_top T rfl hmg ho hd; have he' : cd = _ := he; subst he'; clear he)
  wrow_args hpre hlay hrd hwl hlo
  rename_i script _ _ _ _ _ _ ls vs0 _ hL0 ra0 w10 r00 hI0 hr0 hc63 _
  refine ⟨?good, wpC_call ?_⟩
  case good =>
    refine GoodW.toG ⟨Or.inl ⟨.bool true, .bool true, [], rfl, fun cls => rfl, .bool true, ?_, fun q => ?_⟩, fun _ _ h => h, rfl, hg⟩
    · exact post_true _
    · exact ⟨List.nodup_nil, fun _ h => nomatch h⟩
  obtain rfl : dV = .none := by
    rcases hD.pos with ⟨_, q⟩ | ⟨q, _⟩
    · exact q
    · exact absurd rfl q
  obtain rfl : kV = .none := by
    rcases hD.kw with ⟨_, q⟩ | ⟨q, _⟩
    · exact q
    · exact absurd rfl q
  refine codeC_call_def (binds := [(Str.ofString "script", .ref ls)]) (by decide) ho hd T.nolimit hcd rfl (BindsTo.of_eq rfl) (by dsimp only [docDef]; decide) (fun x hx => by rw [List.mem_singleton.mp hx]; rfl) (fun h₁ hns hk => ?_)
  have F0 : Fr s₁.heap s₁.heap.objs.size h₁ (fun y => [(Str.ofString "script", Value.ref ls)].reverse.lookup y) := ⟨hns, hk, Nat.le_refl _⟩
  have N0 : News s₁.heap s₁.heap.objs.size h₁ [] := fun _ h => nomatch h
  have K0 := below_caller s₁.heap
  generalize hLs : s₁.heap.objs.size = L at F0 N0 ⊢
  clear hns
  dsimp only [docDef, callEnv, List.length_singleton]
  (try k_fold)
  refine execsC (wpC.any ?_)
  k_steps
  refine execsC (wpC.any (For_at ?_))
  clear hD TE TW X V G Y TA M B
  refine wpAny_mono (Q := LawJ s₁.heap L s₁) (E := fun _ _ => False) ?src (fun xv s₂ hJ => ?rest) (fun _ _ x => x.elim)
  case src =>
    k_steps
    · rename (News s₁.heap L _ _) => N1
      refine ⟨_, _, _, _, _, _, _, _, _, _, _, rfl, rfl, by assumption, rfl, N1, by assumption, ?_, ?_, ?_⟩
      all_goals (first | omega | (simp; omega) | k_ne | skip)
    · rename (News s₁.heap L _ _) => N1
      refine ⟨_, _, _, _, _, _, _, [156, 925, 1025, 242, 263, 22], _, _, _, rfl, rfl, by assumption, rfl, news_second N1, ?_, ?_, ?_, ?_⟩
      · exact .cons _ _ (.cons _ _ (.cons _ _ (.cons _ _ (.cons _ _ (.cons _ _ .nil)))))
      all_goals (first | omega | (simp; omega) | (simp; done) | k_ne | skip)
  case rest =>
    obtain ⟨D, n, V, nV, e, ne, ws, ns, m1, h2, tk2, rfl, rfl, F1, hmV, N1, hI, hlen, heV, hVD⟩ := hJ
    refine forAt_name (h₀ := s₁.heap) (l := D) (vs := ws) (ne := n) (VerJ s₁.heap D V (listOf ws.toArray n)) rfl rfl rfl ?hl F1 N1 ?h0 ?turn ?done
    case hl =>
      rintro i m2 nx ⟨vsV, nV', vers, nw, rfl, _⟩
      exact List.mem_cons_self
    case h0 =>
      refine ⟨[.ref e], nV, [[]], [(e, listOf #[] ne)], rfl, hmV, .cons (.list (vs := []) List.mem_cons_self .nil) .nil, rfl, fun v hv => ?_, fun q hq => ?_, hVD⟩
      · rw [List.mem_singleton.mp hv]; exact ⟨Nat.zero_le _, fun _ h => nomatch h⟩
      · rw [List.mem_singleton.mp hq]; exact ⟨Nat.ne_of_lt heV, Nat.ne_of_lt (Nat.lt_trans heV hVD)⟩
    case turn =>
      rintro i v m2 nx h tk I oI hv ⟨vsV, nV', vers, nw, rfl, hmV2, hDV, hln, hok, hoff, _⟩ off F2 N2
      obtain ⟨k, t0, rfl⟩ : ∃ k t0, v = .int k t0 := ints_get hI hv
      have hi6 : i < 6 := by
        have e1 := (List.getElem?_eq_some_iff.mp hv).1
        have e2 := hI.length
        omega
      rw [frame_one hmV2] at F2
      have bx := Box.mk (And.intro hDV (And.intro hok (And.intro hoff off)))
      clear hDV hok hoff off hv hI hmV2 hmV
      iterate 14 (first | (k_unfold; (try dsimp only)) | walk1 | (dsimp only; walk1))
      have hlv : vsV.length = vers.length := by rw [bx.out.1.length, List.length_map]
      refine item_last N2 (List.mem_cons_of_mem _ (List.mem_cons_of_mem _ List.mem_cons_self)) (by omega) (fun v' hv' => ?_)
      obtain ⟨d', hd', hin'⟩ := datAll_get bx.out.1 hv'
      rw [List.getElem?_map] at hd'
      obtain ⟨ver, hver, rfl⟩ : ∃ ver ∈ vers, verD ver = d' := by
        cases hq : vers[vsV.length - 1]? with
        | none => rw [hq] at hd'; cases hd'
        | some ver => rw [hq] at hd'; exact ⟨ver, List.mem_of_getElem? hq, Option.some.inj hd'⟩
      obtain ⟨x1, xs1, nx1, rfl, hm1, hD1⟩ := datList hin'
      have bx1 := Box.mk (And.intro hm1 (And.intro hD1 (And.intro hver hin')))
      clear hm1 hD1 hver hin' hv' hd'
      have hr4 : k.fmod 4 = 0 ∨ k.fmod 4 = 1 ∨ k.fmod 4 = 2 ∨ k.fmod 4 = 3 := by
        have a1 := Int.fmod_nonneg_of_pos k (b := 4) (by decide)
        have a2 := Int.fmod_lt_of_pos k (b := 4) (by decide)
        omega
      iterate 8 (first | (k_unfold; (try dsimp only)) | walk1 | (dsimp only; walk1))
      have hz9 : xs1.toArray.size ≤ sizeLine := by
        have e1 := bx1.out.2.1.length
        have e2 := (bx.out.2.1 ver bx1.out.2.2.1).1
        have e3 : (1000 : Nat) ≤ sizeLine := by decide
        rw [List.size_toArray]
        rw [List.length_map] at e1
        omega
      refine tail_name (nm := Str.ofString "x") (np := default) ?_
      k_dflt (refine' kms_slice_lit ?F9 ?N9 ?l9 ?p9 ?q9 rfl ?_ ?s9 ?t9 ?z9; (case F9 => k_asm); (case N9 => k_asm); (case l9 => exact isList_of (by k_asm) (List.mem_cons_of_mem _ (List.mem_cons_of_mem _ (List.mem_cons_of_mem _ bx1.out.1)))); (case p9 => kmk_part); (case q9 => kmk_part); (case s9 => with_unfolding_all rfl); (case t9 => kmk_pure); (case z9 => exact hz9))
      intro D3 h3 F3 N3 l3
      rw [List.toList_toArray, pick_to _ (Int.fmod_nonneg_of_pos k (by decide))] at N3
      generalize hys : xs1.take (k.fmod 4).toNat = ys at N3
      iterate 9 (first | (k_unfold; (try dsimp only)) | walk1 | (dsimp only; walk1))
      refine Calls.spliced_nil ?_
      dsimp only
      refine ⟨KX.keeps F3.keep, ?_⟩
      refine spec_use0 (part_spec k t0) K0 F3 KX N3 T rfl ?d7 ?u7 ?_
      case d7 => ktr_room
      case u7 => ktr_units
      intro r7 nx7 h7 tk7 F7 N7 hp7
      have hv1 : verOk ver := bx.out.2.1 ver bx1.out.2.2.1
      have hy4 : ys.length ≤ 3 := by
        rw [← hys, List.length_take]
        omega
      clear F3 N3
      have bp := Box.mk hp7
      clear hp7
      k_steps
      rename (Fr s₁.heap L _ _) => F8
      rename (News s₁.heap L _ _) => N8
      rename (News s₁.heap L _ ((_, listOf #[Value.ref _] 0) :: _)) => N7b
      rename (_ < _ ∧ I < _ ∧ D < _ ∧ V < _ ∧ AllLt _ nw) => lD
      have zV := N8 (V, listOf vsV.toArray nV') (by simp)
      have ltZ : ∀ q ∈ (I, oI) :: (D, listOf ws.toArray n) :: (V, listOf vsV.toArray nV') :: nw, q.1 < _ := fun q hq => Heap.lt_size (N7b q (List.mem_cons_of_mem _ (List.mem_cons_of_mem _ (List.mem_cons_of_mem _ hq)))).1
      refine append_at (hsz := ?hszA) zV.1 (fun hA hsA hVA => ?_)
      case hszA => rw [List.size_toArray]; have : (1000 : Nat) ≤ sizeLine := by decide
                   omega
      have FA := F8.change hsA zV.2.1 zV.2.2
      rw [push_snoc] at hVA
      have hoff := bx.out.2.2.1
      have off := bx.out.2.2.2
      have NA := ver_news N8 hsA hVA (Nat.ne_of_gt (ltZ (V, listOf vsV.toArray nV') (by simp))) (Nat.ne_of_gt lD.2.2.2.1) (fun q => off (V, listOf vsV.toArray nV') (by simp) q.symm) (Nat.ne_of_gt hVD) (fun q hq => (hoff q hq).1)
      k_steps
      refine turnEnd_of FA NA (fun _ h => h) ?offE ⟨_, _, vers ++ [ver.take (k.fmod 4).toNat ++ [(partOf k, k.fdiv 5)]], _, rfl, rfl, ?datE, ?lenE, ?okE, ?noE, hVD⟩
      case offE =>
        intro q hq
        simp only [List.mem_cons] at hq
        rcases hq with rfl | rfl | rfl | rfl | hq
        · exact off _ (by simp)
        · exact off (V, listOf vsV.toArray nV') (by simp)
        · exact Nat.ne_of_gt (ltZ (I, oI) (by simp))
        · exact Nat.ne_of_gt lD.2.1
        · exact off q (by simp [hq])
      case datE =>
        rw [List.map_append]
        refine datAll_snoc (bx.out.1.mono fun q hq => List.mem_cons_of_mem _ (List.mem_cons_of_mem _ hq)) (.cons (.list (n := 0) List.mem_cons_self ?_) .nil)
        rw [List.map_append]
        refine datAll_snoc ?_ (.cons (.tuple (n := 0) (vs := [r7, .int (k.fdiv 5) _]) (List.mem_cons_of_mem _ List.mem_cons_self) (.cons (dat_part (partOf_dat k ▸ bp.out)) (.cons (.int _ _) .nil))) .nil)
        have h1 := datAll_take (k.fmod 4).toNat bx1.out.2.1
        rw [hys, ← List.map_take] at h1
        exact h1.mono fun q hq => List.mem_cons_of_mem _ (List.mem_cons_of_mem _ hq)
      case lenE => rw [List.length_append, hln]; rfl
      case okE =>
        intro v hv
        rcases List.mem_append.mp hv with hv | hv
        · exact bx.out.2.1 v hv
        · rw [List.mem_singleton.mp hv]
          refine ⟨?_, fun q hq => ?_⟩
          · rw [List.length_append, List.length_take, List.length_singleton]; omega
          · rcases List.mem_append.mp hq with hq | hq
            · exact hv1.2 q (List.mem_of_mem_take hq)
            · rw [List.mem_singleton.mp hq]; exact partOf_ok k
      case noE =>
        intro q hq
        simp only [List.mem_cons] at hq
        rcases hq with rfl | rfl | hq
        · exact ⟨Nat.ne_of_gt (ltZ (V, listOf vsV.toArray nV') (by simp)), Nat.ne_of_gt (ltZ (D, listOf ws.toArray n) (by simp))⟩
        · exact ⟨Nat.ne_of_gt lD.2.2.2.1, Nat.ne_of_gt lD.2.2.1⟩
        · exact hoff q hq
    case done =>
      rintro h' tk m2 nx F2 N2 ⟨vsV, nV', vers, nw, rfl, hmV2, hDV, hln, hok, hoff, _⟩
      rw [frame_one hmV2] at F2
      refine wpAny_pure ?_
      dsimp only
      obtain ⟨nx, N3, hV⟩ : ∃ nx, News s₁.heap L h' nx ∧ DatIn nx (.ref V) (.list (vers.map verD)) := ⟨_, N2, .list (List.mem_cons_of_mem _ List.mem_cons_self) (hDV.mono fun q hq => List.mem_cons_of_mem _ (List.mem_cons_of_mem _ hq))⟩
      clear N2 hDV hmV2 hmV hoff F1 N1
      have hl7 : vers.length ≤ 7 := by
        have := hI.length
        omega
      have hl0 : 0 < vers.length := by omega
      clear hln hI
      refine execsC (wpC.any (LCg.Assign_ListComp_U (cl := []) F2 rfl rfl rfl (by decide) rfl (by decide) rfl rfl rfl ?_))
      k_steps
      obtain ⟨vsV, nV, hmV, hDV⟩ := datListR hV
      have hlv : vsV.length = vers.length := by rw [hDV.length, List.length_map]
      have hz1 : vsV.toArray.size ≤ sizeLine := by
        have e1 : (1000 : Nat) ≤ sizeLine := by decide
        rw [List.size_toArray]; omega
      refine LCg.CompSrc.ledger rfl F2 N3 hmV hz1 ?_
      intro g
      refine compRest_of (fun i ys nx' => (∃ pre, nx' = pre ++ nx) ∧ DatAll nx' ys ((partsK (vers.take i)).map rowP)) vsV.toArray.size ?fin ?turn _ 0 [] nx (Nat.zero_add _) ⟨⟨[], rfl⟩, .nil⟩
      case turn =>
        rintro i ys nx' v I oI C oC D m₂ h tk E' hi ⟨⟨pre, rfl⟩, hy⟩ hP hC hx F4 N4 off ne
        have hvi : vsV[i]? = some v := by simpa using hP
        obtain ⟨ver, hver, hin⟩ := ver_get hDV hvi
        obtain ⟨x1, xs1, nx1, rfl, hm1, hD1⟩ := datList hin
        have hvo := hok ver (List.mem_of_getElem? hver)
        refine LCp.ListComp_P F4 rfl (by decide) rfl (by decide) rfl rfl (by decide) ?_
        k_steps
        have hvl := ver_len hD1
        have hz2 : xs1.toArray.size ≤ sizeLine := by
          have e1 : (1000 : Nat) ≤ sizeLine := by decide
          have e2 := hvo.1
          rw [List.size_toArray]; omega
        have hm4 : (x1, listOf xs1.toArray nx1) ∈ (I, oI) :: (C, oC) :: (D, LCg.lst ys) :: (pre ++ nx) := List.mem_cons_of_mem _ (List.mem_cons_of_mem _ (List.mem_cons_of_mem _ (List.mem_append_right _ hm1)))
        refine LCp.SrcLP.ledger rfl F4 N4 hm4 hz2 ?_
        intro g2
        refine compRestP_of (fun j ys2 nx2 => nx2 = (I, oI) :: (C, oC) :: (D, LCg.lst ys) :: (pre ++ nx) ∧ DatAll nx ys2 ((ver.take j).map fun p => .int (p.1.code : Nat))) xs1.toArray.size ?fin2 ?turn2 _ 0 [] _ (Nat.zero_add _) ⟨rfl, .nil⟩
        case turn2 =>
          rintro j ys2 nx2 v2 hj ⟨rfl, hy2⟩ hP2
          have hvj : xs1[j]? = some v2 := by simpa using hP2
          obtain ⟨p, T', v₁, u, nt, hpi, rfl, hmt, hd1⟩ := ver_item hD1 hvj
          refine ⟨T', v₁, _, nt, rfl, List.mem_cons_of_mem _ (List.mem_cons_of_mem _ (List.mem_cons_of_mem _ (List.mem_append_right _ hmt))), ?_⟩
          intro I2 oI2 C2 oC2 D2 m₃ h3 tk3 E3 hC2 hx2 hx22 F6 N6 off2 ne2
          have bxc := Box.mk (And.intro (dat_any (nx' := (I2, oI2) :: (C2, oC2) :: (D2, LCg.lst ys2) :: (I, oI) :: (C, oC) :: (D, LCg.lst ys) :: (pre ++ nx)) hd1) (hvo.2 p (List.mem_of_getElem? hpi)))
          iterate 8 (first | (k_unfold; (try dsimp only)) | walk1 | (dsimp only; walk1))
          with_reducible show wpAny _ _ (call (Value.ref 163) _) _ _ _
          rename Box _ => bxc
          refine spec_use0 (code_spec bxc.out.1 bxc.out.2) (by k_asm) (by k_asm) (by k_asm) (by k_asm) (by k_asm) rfl ?d7 ?u7 ?_
          case d7 => ktr_room
          case u7 => ktr_units
          intro r7 nx7 h7 tk7 F7 N7 hp7
          obtain ⟨t7, e7⟩ := hp7
          subst e7
          k_steps
          refine compEnd_of F7 N7 (fun p hp => hp) off2.mem (.inr ⟨_, hm4, rfl, _, rfl⟩) ⟨rfl, ?_⟩
          have e : (ver.take (j + 1)).map (fun p => Dat.int (p.1.code : Nat)) = (ver.take j).map (fun p => Dat.int (p.1.code : Nat)) ++ [Dat.int (p.1.code : Nat)] := by
            rw [List.take_add_one, hpi]; simp
          rw [e]
          exact datAll_snoc hy2 (.cons (.int _ _) .nil)
        case fin2 =>
          rintro ys2 nx2 ⟨rfl, hy2⟩
          intro D2 h3 tk3 F6 N6 off2
          have o2 := off1_mem off2
          refine compEnd_of (nx := (D2, LCg.lst ys2) :: (pre ++ nx)) F6 N6 ?sub ?off (.inr ⟨_, List.mem_cons_of_mem _ (List.mem_append_right _ hmV), rfl, _, rfl⟩) ⟨⟨(D2, LCg.lst ys2) :: pre, rfl⟩, ?_⟩
          case sub => exact sub_rot
          case off =>
            intro q hq
            rcases List.mem_cons.mp hq with rfl | hq
            · exact ⟨fun e => o2 (I, oI) List.mem_cons_self e.symm, fun e => o2 (C, oC) (List.mem_cons_of_mem _ List.mem_cons_self) e.symm, fun e => o2 (D, LCg.lst ys) (List.mem_cons_of_mem _ (List.mem_cons_of_mem _ List.mem_cons_self)) e.symm⟩
            · exact off.mem q hq
          have e : (partsK (vers.take (i + 1))).map rowP = (partsK (vers.take i)).map rowP ++ [rowP (ver.map (·.1))] := by
            unfold partsK
            rw [List.take_add_one, hver]; simp
          rw [e]
          refine datAll_snoc (hy.mono fun q hq => List.mem_cons_of_mem _ hq) (.cons (.list List.mem_cons_self ?_) .nil)
          have e2 : (ver.take xs1.toArray.size) = ver := by rw [List.size_toArray, hvl, List.take_length]
          rw [e2] at hy2
          rw [List.map_map, List.map_map]
          exact hy2.mono fun q hq => List.mem_cons_of_mem _ (List.mem_append_right _ hq)
      case fin =>
        rintro ys nx' ⟨⟨pre, rfl⟩, hy⟩
        intro D h3 tk3 F4 N4 off1
        refine (show wpC _ _ _ _ _ _ from ?_)
        dsimp only
        have hz3 : vsV.toArray.size = vers.length := by rw [List.size_toArray]; exact hlv
        rw [hz3, List.take_length] at hy
        have hok3 := partsK_ok hok
        have hpos : 0 < (partsK vers).length := by unfold partsK; rw [List.length_map]; exact hl0
        have hlk : (partsK vers).length ≤ 7 := by unfold partsK; rw [List.length_map]; exact hl7
        obtain ⟨nx2, N5, hV2, hR⟩ : ∃ nx2, News s₁.heap L h3 nx2 ∧ DatIn nx2 (.ref V) (.list (vers.map verD)) ∧ DatIn nx2 (.ref D) (.list ((partsK vers).map rowP)) :=
          ⟨_, N4, hV.mono fun q hq => List.mem_cons_of_mem _ (List.mem_append_right _ hq), .list List.mem_cons_self (hy.mono fun q hq => List.mem_cons_of_mem _ hq)⟩
        clear N4 hy off1 hV N3 hDV hmV F2 hz1 hz3 hlv
        refine execsC (wpC.any (LCg.Assign_ListComp_U (cl := []) F4 rfl rfl rfl (by decide) rfl (by decide) rfl rfl rfl ?_))
        k_steps
        obtain ⟨vsR, nR, hmR, hDR⟩ := datListR hR
        have hlR : vsR.length = (partsK vers).length := by rw [hDR.length, List.length_map]
        refine LCg.CompSrc.ledger rfl F4 N5 hmR (size_ok (by rw [hlR]; exact hlk)) ?_
        intro g
        refine compRest_of (fun i ys nx' => nx2 = nx' ∧ DatAll [] ys (valsD ((partsK vers).take i))) vsR.toArray.size ?fin ?turn _ 0 [] _ (Nat.zero_add _) ⟨rfl, .nil⟩
        case turn =>
          rintro i ys nx' v I oI C oC D2 m₂ h tk E' hi ⟨rfl, hy⟩ hP hC hx F6 N6 off ne
          have hvi : vsR[i]? = some v := by simpa using hP
          obtain ⟨u, hu, hin⟩ := rows_at hDR hvi
          have hin2 := hin.mono (news' := (I, oI) :: (C, oC) :: (D2, LCg.lst ys) :: nx2) fun q hq => List.mem_cons_of_mem _ (List.mem_cons_of_mem _ (List.mem_cons_of_mem _ hq))
          have bx := Box.mk (And.intro hin2 (And.intro hin hy))
          clear hin hin2 hy
          iterate 8 (first | (k_unfold; (try dsimp only)) | walk1 | (dsimp only; walk1))
          refine spec_use0 (told_row bx.out.1 (hok3 u (List.mem_of_getElem? hu))) K0 F6 KX N6 T rfl ?d7 ?u7 ?_
          case d7 => ktr_room
          case u7 => ktr_units
          intro r7 nx7 h7 tk7 F7 N7 hp7
          obtain ⟨t7, e7⟩ := hp7
          subst e7
          k_steps
          refine compEnd_of F7 N7 (fun p hp => hp) off.mem (.inr ⟨_, hmR, rfl, _, rfl⟩) ⟨rfl, ?_⟩
          rw [vals_snoc hu]
          exact datAll_snoc bx.out.2.2 (.cons (.int _ _) .nil)
        case fin =>
          rintro ys nx' ⟨rfl, hy⟩
          intro Td h3 tk3 F5 N4 off1
          k_steps
          refine (show wpC _ _ _ _ _ _ from ?_)
          dsimp only
          rw [List.size_toArray, hlR, List.take_length] at hy
          obtain ⟨nx3, N6, hV3, hR3, hT3⟩ : ∃ nx3, News s₁.heap L h3 nx3 ∧ DatIn nx3 (.ref V) (.list (vers.map verD)) ∧ DatIn nx3 (.ref D) (.list ((partsK vers).map rowP)) ∧ DatIn nx3 (.ref Td) (.list (valsD (partsK vers))) :=
            ⟨_, N4, hV2.mono fun q hq => List.mem_cons_of_mem _ hq, hR.mono fun q hq => List.mem_cons_of_mem _ hq, .list List.mem_cons_self (hy.mono fun q hq => absurd hq List.not_mem_nil)⟩
          clear N4 N5 hy off1 hV2 hR hDR hmR hlR F4
          refine execsC (wpC.any (LCg.Assign_ListComp_U (cl := []) F5 rfl rfl rfl (by decide) rfl (by decide) rfl rfl rfl ?_))
          k_steps
          obtain ⟨vsR, nR, hmR, hDR⟩ := datListR hR3
          have hlR : vsR.length = (partsK vers).length := by rw [hDR.length, List.length_map]
          refine LCg.CompSrc.ledger rfl F5 N6 hmR (size_ok (by rw [hlR]; exact hlk)) ?_
          intro g
          refine compRest_of (fun i ys nx' => nx3 = nx' ∧ DatAll [] ys (valsD ((partsK vers).take i))) vsR.toArray.size ?fin ?turn _ 0 [] _ (Nat.zero_add _) ⟨rfl, .nil⟩
          case turn =>
            rintro i ys nx' v I oI C oC D2 m₂ h tk E' hi ⟨rfl, hy⟩ hP hC hx F6 N6 off ne
            have hvi : vsR[i]? = some v := by simpa using hP
            obtain ⟨u, hu, hin⟩ := rows_at hDR hvi
            have hin2 := hin.mono (news' := (I, oI) :: (C, oC) :: (D2, LCg.lst ys) :: nx3) fun q hq => List.mem_cons_of_mem _ (List.mem_cons_of_mem _ (List.mem_cons_of_mem _ hq))
            have bx := Box.mk (And.intro hin2 (And.intro hin hy))
            clear hin hin2 hy
            iterate 8 (first | (k_unfold; (try dsimp only)) | walk1 | (dsimp only; walk1))
            refine spec_use0 (packed_row bx.out.1 (hok3 u (List.mem_of_getElem? hu))) K0 F6 KX N6 T rfl ?d7 ?u7 ?_
            case d7 => ktr_room
            case u7 => ktr_units
            intro r7 nx7 h7 tk7 F7 N7 hp7
            obtain ⟨t7, e7⟩ := hp7
            subst e7
            k_steps
            refine compEnd_of F7 N7 (fun p hp => hp) off.mem (.inr ⟨_, hmR, rfl, _, rfl⟩) ⟨rfl, ?_⟩
            rw [vals_snoc hu]
            exact datAll_snoc bx.out.2.2 (.cons (.int _ _) .nil)
          case fin =>
            rintro ys nx' ⟨rfl, hy⟩
            intro Pk h3 tk3 F6 N4 off1
            k_steps
            refine (show wpC _ _ _ _ _ _ from ?_)
            dsimp only
            rw [List.size_toArray, hlR, List.take_length] at hy
            obtain ⟨nx4, N7, hV4, hR4, hT4, hP4⟩ : ∃ nx4, News s₁.heap L h3 nx4 ∧ DatIn nx4 (.ref V) (.list (vers.map verD)) ∧ DatIn nx4 (.ref D) (.list ((partsK vers).map rowP)) ∧ DatIn nx4 (.ref Td) (.list (valsD (partsK vers))) ∧ DatIn nx4 (.ref Pk) (.list (valsD (partsK vers))) :=
              ⟨_, N4, hV3.mono fun q hq => List.mem_cons_of_mem _ hq, hR3.mono fun q hq => List.mem_cons_of_mem _ hq, hT3.mono fun q hq => List.mem_cons_of_mem _ hq, .list List.mem_cons_self (hy.mono fun q hq => absurd hq List.not_mem_nil)⟩
            clear N4 N6 hy off1 hV3 hR3 hT3 hDR hmR hlR F5
            obtain ⟨vsV, nV, hmV, hDV⟩ := datListR hV4
            have hlv : vsV.length = vers.length := by rw [hDV.length, List.length_map]
            refine' execsC (AssignCompListC (h₀ := s₁.heap) (ax := V) (vs := vsV) (ne := nV) (cl := []) (fun i ys nx' => (∃ pre, nx' = pre ++ nx4) ∧ DatAll nx' ys (keysD ((partsK vers).take i))) ?c0 ?c01 ?c3 ?c02 ?c1 ?c2 ?c4 ?c5 ?c6 ?c7 ?c8 ?c9 ?c10 ?hl ?it ?turn ?fin)
            case c0 => rfl
            case c01 => rfl
            case c02 => decide
            case c1 => rfl
            case c2 => decide
            case c3 => rfl
            case c4 => rfl
            case c5 => rfl
            case c6 => rfl
            case c8 => exact F6
            case c9 => exact N7
            case c10 => exact ⟨⟨[], rfl⟩, .nil⟩
            case c7 => exact size_of_le (by rw [hlv]; exact hl7)
            case it =>
              k_steps
            case hl =>
              rintro i ys nx' ⟨⟨pre, rfl⟩, _⟩
              exact List.mem_append_right _ hmV
            case turn =>
              rintro i ys nx' v I oI C oC D2 m₂ h tk hvi ⟨⟨pre, rfl⟩, hy⟩ hC hx F8 N8 off ne
              obtain ⟨ver, hver, hin⟩ := ver_get hDV hvi
              have hvo := hok ver (List.mem_of_getElem? hver)
              have hin2 := hin.mono (news' := (I, oI) :: (C, oC) :: (D2, LCg.lst ys) :: (pre ++ nx4)) fun q hq => List.mem_cons_of_mem _ (List.mem_cons_of_mem _ (List.mem_cons_of_mem _ (List.mem_append_right _ hq)))
              have bx := Box.mk (And.intro hin2 (And.intro hin hy))
              clear hin hin2 hy
              refine CallNameC ?_
              k_steps
              refine callWithC_fun1 ?_
              iterate 8 (first | (k_unfold; (try dsimp only)) | walk1 | (dsimp only; walk1))
              refine ⟨KX.keeps F8.keep, ?_⟩
              refine spec_use0 (spell_spec v ver bx.out.1 hvo) K0 F8 KX N8 T rfl ?d7 ?u7 ?_
              case d7 => ktr_room
              case u7 => ktr_units
              intro r7 nx7 h7 tk7 F9 N9 hp7
              obtain ⟨t7, e7⟩ := hp7
              subst e7
              iterate 2 (first | (k_unfold; (try dsimp only)) | walk1 | (dsimp only; walk1))
              refine ⟨⟨_, _, F9.keep _ _ (KX 44 _ (by rfl)), rfl⟩, ?_⟩
              obtain ⟨ts, htold⟩ := told_spell ver hvo.2
              obtain ⟨ps, hcut, hpcs⟩ := htold.cut
              refine specC_use (comp_spec (spellF ver).1 _ hcut hpcs (Nat.le_trans (spell_len hvo) (by decide))) F9 KX N9 T rfl ?d8 ?u8 ?_
              case d8 => ktr_room
              case u8 => ktr_units
              rintro r8 tl8 h8 tk8 F10 N10 hne8 ⟨R8, vals8, n8, rfl, e8, hD8⟩
              have e9 : tl8 = [(R8, listOf vals8.toArray n8)] := List.append_cancel_right (show tl8 ++ _ = [(R8, listOf vals8.toArray n8)] ++ _ from e8)
              subst e9
              refine compEnd_of (nx := (R8, listOf vals8.toArray n8) :: (pre ++ nx4)) F10 N10 sub_rot ?off trivial ⟨⟨(R8, listOf vals8.toArray n8) :: pre, rfl⟩, ?_⟩
              case off =>
                intro q hq
                rcases List.mem_cons.mp hq with rfl | hq
                · exact ⟨fun e => hne8 (I, oI) List.mem_cons_self _ List.mem_cons_self e.symm, fun e => hne8 (C, oC) (List.mem_cons_of_mem _ List.mem_cons_self) _ List.mem_cons_self e.symm, fun e => hne8 (D2, LCg.lst ys) (List.mem_cons_of_mem _ (List.mem_cons_of_mem _ List.mem_cons_self)) _ List.mem_cons_self e.symm⟩
                · exact off.mem q hq
              rw [keys_snoc (parts_at hver)]
              exact datAll_snoc (bx.out.2.2.mono fun q hq => List.mem_cons_of_mem _ hq) (.cons (.list List.mem_cons_self (keyL_any hD8)) .nil)
            case fin =>
              rintro ys nx' Ky h3 tk3 ⟨⟨pre, rfl⟩, hy⟩ F7 N4 off1
              refine (show wpC _ _ _ _ _ _ from ?_)
              dsimp only
              rw [show vsV.length = (partsK vers).length by rw [hlv]; unfold partsK; rw [List.length_map], List.take_length] at hy
              obtain ⟨nx5, N8, hV5, hR5, hT5, hP5, hK5⟩ : ∃ nx5, News s₁.heap L h3 nx5 ∧ DatIn nx5 (.ref V) (.list (vers.map verD)) ∧ DatIn nx5 (.ref D) (.list ((partsK vers).map rowP)) ∧ DatIn nx5 (.ref Td) (.list (valsD (partsK vers))) ∧ DatIn nx5 (.ref Pk) (.list (valsD (partsK vers))) ∧ DatIn nx5 (.ref Ky) (.list (keysD (partsK vers))) :=
                ⟨_, N4, mono_right hV4, mono_right hR4, mono_right hT4, mono_right hP4, .list List.mem_cons_self (hy.mono fun q hq => List.mem_cons_of_mem _ hq)⟩
              clear N4 N7 hy off1 hV4 hR4 hT4 hP4 hDV hmV hlv F6
              obtain ⟨vsV, nV, hmV, hDV⟩ := datListR hV5
              have hlv : vsV.length = vers.length := by rw [hDV.length, List.length_map]
              refine' execsC (AssignCompListC (h₀ := s₁.heap) (ax := V) (vs := vsV) (ne := nV) (cl := []) (fun i ys nx' => (∃ pre, nx' = pre ++ nx5) ∧ DatAll nx' ys (keysD ((partsK vers).take i))) ?c0 ?c01 ?c3 ?c02 ?c1 ?c2 ?c4 ?c5 ?c6 ?c7 ?c8 ?c9 ?c10 ?hl ?it ?turn ?fin)
              case c0 => rfl
              case c01 => rfl
              case c02 => decide
              case c1 => rfl
              case c2 => decide
              case c3 => rfl
              case c4 => rfl
              case c5 => rfl
              case c6 => rfl
              case c8 => exact F7
              case c9 => exact N8
              case c10 => exact ⟨⟨[], rfl⟩, .nil⟩
              case c7 => exact size_of_le (by rw [hlv]; exact hl7)
              case it =>
                k_steps
              case hl =>
                rintro i ys nx' ⟨⟨pre, rfl⟩, _⟩
                exact List.mem_append_right _ hmV
              case turn =>
                rintro i ys nx' v I oI C oC D2 m₂ h tk hvi ⟨⟨pre, rfl⟩, hy⟩ hC hx F8 N8 off ne
                obtain ⟨ver, hver, hin⟩ := ver_get hDV hvi
                have hvo := hok ver (List.mem_of_getElem? hver)
                have hin2 := hin.mono (news' := (I, oI) :: (C, oC) :: (D2, LCg.lst ys) :: (pre ++ nx5)) fun q hq => List.mem_cons_of_mem _ (List.mem_cons_of_mem _ (List.mem_cons_of_mem _ (List.mem_append_right _ hq)))
                have bx := Box.mk (And.intro hin2 (And.intro hin hy))
                clear hin hin2 hy
                refine CallNameC ?_
                k_steps
                refine callWithC_fun1 ?_
                iterate 8 (first | (k_unfold; (try dsimp only)) | walk1 | (dsimp only; walk1))
                refine ⟨KX.keeps F8.keep, ?_⟩
                refine spec_use0 (plain_spec v ver bx.out.1 hvo) K0 F8 KX N8 T rfl ?d7 ?u7 ?_
                case d7 => ktr_room
                case u7 => ktr_units
                intro r7 nx7 h7 tk7 F9 N9 hp7
                obtain ⟨t7, e7⟩ := hp7
                subst e7
                iterate 2 (first | (k_unfold; (try dsimp only)) | walk1 | (dsimp only; walk1))
                refine ⟨⟨_, _, F9.keep _ _ (KX 44 _ (by rfl)), rfl⟩, ?_⟩
                obtain ⟨ts, htold⟩ := told_plain ver hvo.2
                obtain ⟨ps, hcut, hpcs⟩ := htold.cut
                refine specC_use (comp_spec (plainS ver) _ hcut hpcs (Nat.le_trans (plain_len hvo) (by decide))) F9 KX N9 T rfl ?d8 ?u8 ?_
                case d8 => ktr_room
                case u8 => ktr_units
                rintro r8 tl8 h8 tk8 F10 N10 hne8 ⟨R8, vals8, n8, rfl, e8, hD8⟩
                have e9 : tl8 = [(R8, listOf vals8.toArray n8)] := List.append_cancel_right (show tl8 ++ _ = [(R8, listOf vals8.toArray n8)] ++ _ from e8)
                subst e9
                refine compEnd_of (nx := (R8, listOf vals8.toArray n8) :: (pre ++ nx5)) F10 N10 sub_rot ?off trivial ⟨⟨(R8, listOf vals8.toArray n8) :: pre, rfl⟩, ?_⟩
                case off =>
                  intro q hq
                  rcases List.mem_cons.mp hq with rfl | hq
                  · exact ⟨fun e => hne8 (I, oI) List.mem_cons_self _ List.mem_cons_self e.symm, fun e => hne8 (C, oC) (List.mem_cons_of_mem _ List.mem_cons_self) _ List.mem_cons_self e.symm, fun e => hne8 (D2, LCg.lst ys) (List.mem_cons_of_mem _ (List.mem_cons_of_mem _ List.mem_cons_self)) _ List.mem_cons_self e.symm⟩
                  · exact off.mem q hq
                rw [keys_snoc (parts_at hver)]
                exact datAll_snoc (bx.out.2.2.mono fun q hq => List.mem_cons_of_mem _ hq) (.cons (.list List.mem_cons_self (keyL_any hD8)) .nil)
              case fin =>
                rintro ys nx' Pl h3 tk3 ⟨⟨pre, rfl⟩, hy⟩ F8 N4 off1
                refine (show wpC _ _ _ _ _ _ from ?_)
                dsimp only
                rw [show vsV.length = (partsK vers).length by rw [hlv]; unfold partsK; rw [List.length_map], List.take_length] at hy
                obtain ⟨nx6, N9, hV6, hR6, hT6, hP6, hK6, hL6⟩ : ∃ nx6, News s₁.heap L h3 nx6 ∧ DatIn nx6 (.ref V) (.list (vers.map verD)) ∧ DatIn nx6 (.ref D) (.list ((partsK vers).map rowP)) ∧ DatIn nx6 (.ref Td) (.list (valsD (partsK vers))) ∧ DatIn nx6 (.ref Pk) (.list (valsD (partsK vers))) ∧ DatIn nx6 (.ref Ky) (.list (keysD (partsK vers))) ∧ DatIn nx6 (.ref Pl) (.list (keysD (partsK vers))) :=
                  ⟨_, N4, mono_right hV5, mono_right hR5, mono_right hT5, mono_right hP5, mono_right hK5, .list List.mem_cons_self (hy.mono fun q hq => List.mem_cons_of_mem _ hq)⟩
                clear N4 N8 hy off1 hV5 hR5 hT5 hP5 hK5 hDV hmV hlv F7
                obtain ⟨vsV, nV, hmV, hDV⟩ := datListR hV6
                have hlv : vsV.length = vers.length := by rw [hDV.length, List.length_map]
                refine' execsC (AssignCompListC (h₀ := s₁.heap) (ax := V) (vs := vsV) (ne := nV) (cl := []) (fun i ys nx' => (∃ pre, nx' = pre ++ nx6) ∧ DatAll nx' ys (keysD ((moreK (partsK vers)).take i))) ?c0 ?c01 ?c3 ?c02 ?c1 ?c2 ?c4 ?c5 ?c6 ?c7 ?c8 ?c9 ?c10 ?hl ?it ?turn ?fin)
                case c0 => rfl
                case c01 => rfl
                case c02 => decide
                case c1 => rfl
                case c2 => decide
                case c3 => rfl
                case c4 => rfl
                case c5 => rfl
                case c6 => rfl
                case c8 => exact F8
                case c9 => exact N9
                case c10 => exact ⟨⟨[], rfl⟩, .nil⟩
                case c7 => exact size_of_le (by rw [hlv]; exact hl7)
                case it =>
                  k_steps
                case hl =>
                  rintro i ys nx' ⟨⟨pre, rfl⟩, _⟩
                  exact List.mem_append_right _ hmV
                case turn =>
                  rintro i ys nx' v I oI C oC D2 m₂ h tk hvi ⟨⟨pre, rfl⟩, hy⟩ hC hx F8 N8 off ne
                  obtain ⟨ver, hver, hin⟩ := ver_get hDV hvi
                  have hvo := hok ver (List.mem_of_getElem? hver)
                  have hin2 := hin.mono (news' := (I, oI) :: (C, oC) :: (D2, LCg.lst ys) :: (pre ++ nx6)) fun q hq => List.mem_cons_of_mem _ (List.mem_cons_of_mem _ (List.mem_cons_of_mem _ (List.mem_append_right _ hq)))
                  have bx := Box.mk (And.intro hin2 (And.intro hin hy))
                  clear hin hin2 hy
                  refine CallNameC ?_
                  k_steps
                  refine callWithC_fun1 ?_
                  have hpl := plain_len hvo
                  have hd0 := dot0_len
                  iterate 9 (first | (k_unfold; (try dsimp only)) | walk1 | (dsimp only; walk1))
                  refine ⟨KX.keeps F8.keep, ?_⟩
                  refine spec_use0 (plain_spec v ver bx.out.1 hvo) K0 F8 KX N8 T rfl ?d7 ?u7 ?_
                  case d7 => ktr_room
                  case u7 => ktr_units
                  intro r7 nx7 h7 tk7 F9 N9 hp7
                  obtain ⟨t7, e7⟩ := hp7
                  subst e7
                  iterate 4 (first | (k_unfold; (try dsimp only)) | walk1 | (dsimp only; walk1))
                  refine ⟨⟨_, _, F9.keep _ _ (KX 44 _ (by rfl)), rfl⟩, ?_⟩
                  obtain ⟨ts, htold⟩ := told_more ver hvo.2
                  obtain ⟨ps, hcut, hpcs⟩ := htold.cut
                  have hml : (plainS ver ++ Str.ofString ".0").length ≤ 1000 := by rw [Str.length_append]; omega
                  refine specC_use (comp_spec (plainS ver ++ Str.ofString ".0") _ hcut hpcs hml) F9 KX N9 T rfl ?d8 ?u8 ?_
                  case d8 => ktr_room
                  case u8 => ktr_units
                  rintro r8 tl8 h8 tk8 F10 N10 hne8 ⟨R8, vals8, n8, rfl, e8, hD8⟩
                  have e9 : tl8 = [(R8, listOf vals8.toArray n8)] := List.append_cancel_right (show tl8 ++ _ = [(R8, listOf vals8.toArray n8)] ++ _ from e8)
                  subst e9
                  refine compEnd_of (nx := (R8, listOf vals8.toArray n8) :: (pre ++ nx6)) F10 N10 sub_rot ?off trivial ⟨⟨(R8, listOf vals8.toArray n8) :: pre, rfl⟩, ?_⟩
                  case off =>
                    intro q hq
                    rcases List.mem_cons.mp hq with rfl | hq
                    · exact ⟨fun e => hne8 (I, oI) List.mem_cons_self _ List.mem_cons_self e.symm, fun e => hne8 (C, oC) (List.mem_cons_of_mem _ List.mem_cons_self) _ List.mem_cons_self e.symm, fun e => hne8 (D2, LCg.lst ys) (List.mem_cons_of_mem _ (List.mem_cons_of_mem _ List.mem_cons_self)) _ List.mem_cons_self e.symm⟩
                    · exact off.mem q hq
                  rw [keys_snoc (more_at (parts_at hver))]
                  exact datAll_snoc (bx.out.2.2.mono fun q hq => List.mem_cons_of_mem _ hq) (.cons (.list List.mem_cons_self (keyL_any hD8)) .nil)
                case fin =>
                  rintro ys nx' Mo h3 tk3 ⟨⟨pre, rfl⟩, hy⟩ F9 N4 off1
                  refine (show wpC _ _ _ _ _ _ from ?_)
                  dsimp only
                  rw [show vsV.length = (moreK (partsK vers)).length by rw [hlv]; unfold moreK partsK; rw [List.length_map, List.length_map], List.take_length] at hy
                  obtain ⟨nx7, N10, hR7, hT7, hP7, hK7, hL7, hM7⟩ : ∃ nx7, News s₁.heap L h3 nx7 ∧ DatIn nx7 (.ref D) (.list ((partsK vers).map rowP)) ∧ DatIn nx7 (.ref Td) (.list (valsD (partsK vers))) ∧ DatIn nx7 (.ref Pk) (.list (valsD (partsK vers))) ∧ DatIn nx7 (.ref Ky) (.list (keysD (partsK vers))) ∧ DatIn nx7 (.ref Pl) (.list (keysD (partsK vers))) ∧ DatIn nx7 (.ref Mo) (.list (keysD (moreK (partsK vers)))) :=
                    ⟨_, N4, mono_right hR6, mono_right hT6, mono_right hP6, mono_right hK6, mono_right hL6, .list List.mem_cons_self (hy.mono fun q hq => List.mem_cons_of_mem _ hq)⟩
                  clear N4 N9 hy off1 hV6 hR6 hT6 hP6 hK6 hL6 hDV hmV hlv F8 hok
                  have hlk0 : 0 < (partsK vers).length := hpos
                  generalize partsK vers = ks at hok3 hlk hR7 hT7 hP7 hK7 hL7 hM7 hlk0
                  obtain ⟨vsR, nR, hmR, hDR⟩ := datListR hR7
                  have hlR : vsR.length = ks.length := by rw [hDR.length, List.length_map]
                  refine execsC (wpC.any (For_at ?_))
                  iterate 10 (first | (k_unfold; (try dsimp only)) | walk1 | (dsimp only; walk1))
                  refine kd_len N10 hmR hDR (by rw [List.length_map]; omega) ?_
                  rw [List.length_map]
                  iterate 2 (first | (k_unfold; (try dsimp only)) | walk1 | (dsimp only; walk1))
                  rename_i hr9 F10 N11 up9
                  have li : LawIn nx7 D Td Pk Ky Pl Mo ks := ⟨hR7, hT7, hP7, hK7, hL7, hM7, hok3, hlk⟩
                  clear hR7 hT7 hP7 hK7 hL7 hM7 hok3 hmR hDR hlR up9
                  refine forAt_rangeJ (h₀ := s₁.heap) (x := Str.ofString "j") (z := Str.ofString "i") (n := ks.length) hr9 (by omega) rfl rfl rfl F10 N11 ?turn ?done
                  case turn =>
                    intro j xv h tk t I oI hj off F11 N12
                    obtain ⟨u, ru⟩ := row_at hj
                    have hl9 : ks.length ≤ 7 := li.len
                    clear hr9 F10 N11 hj hlk0 hlk
                    k_steps
                    · rename_i hb
                      exact absurd rfl hb
                    rename_i hr12 F12 N13 up12
                    clear up12
                    have N14 : News s₁.heap L _ ((I, oI) :: nx7) := fun q hq => N13 q (by walk_at "mem")
                    clear N13
                    refine forAt_rangeJ (h₀ := s₁.heap) (x := Str.ofString "i") (z := Str.ofString "i") (n := ks.length) hr12 (by omega) rfl rfl rfl F12 N14 ?turn2 ?done2
                    case turn2 =>
                      intro i xv2 h4 tk4 t4 I2 oI2 hi off2 F13 N15
                      obtain ⟨u2, ru2⟩ := row_at hi
                      clear F12 N14 hr12 F11 N12 hi
                      k_steps
                      rename Fr _ _ _ _ => Fz
                      rename News _ _ _ _ => Nz
                      exact turnEnd_of Fz Nz (fun q hq => hq) off2 ⟨rfl, fun q h1 h2 => by simp only [if_neg h1]⟩
                    case done2 =>
                      intro m3 h4 tk4 keep F13 N15
                      obtain ⟨xv3, e3⟩ := frame_keep keep
                      subst e3
                      dsimp only at F13
                      clear keep F12 N14 hr12 F11 N12
                      dsimp only
                      k_steps
                      rename Fr _ _ _ _ => Fz
                      rename News _ _ _ _ => Nz
                      exact turnEnd_of Fz Nz (fun q hq => List.mem_cons_of_mem _ (List.mem_cons_of_mem _ hq)) off ⟨rfl, fun q h1 h2 => by simp only [if_neg h1, if_neg h2]⟩
                  case done =>
                    intro m3 h4 tk4 keep F13 N15
                    refine (show wpC _ _ _ _ _ _ from ?_)
                    refine execsC (wpC.any ?_)
                    k_steps
                    exact GoodW.toG (goodW_bool F13 hg (fun _ => rfl) (post_true _))
end
end Mine
end
set_option maxRecDepth 100000 in
set_option maxHeartbeats 8000000 in
theorem PySem.Challenge.cw_nb0083_01_holds : PySem.Challenge.rw_nb0083_01.Holds :=
  Mine.fin
