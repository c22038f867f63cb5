import PyProof.Rows.All
import Wide.All
import OpenK.AllK
import Wide.FinOn
import PyProof.StrLawsTight
import PyProof.StrLawsReplace
import PyProof.StrLawsFrom
import PyProof.StrLawsNeg
import Lean
import PySem.Challenge.RW_wr0013_01
set_option Elab.async false
section
-- Top1
open PySem PySem.W PyProof.Rows
set_option Elab.async false
set_option maxRecDepth 100000
set_option maxHeartbeats 8000000
namespace Mine
theorem ahead {A B C G : Prop} (_ : A) (_ : B) (_ : C) (g : G) : G := g
/-- lays the view and the written heap alone (hv.view_1, hv.heap_1); what it says is nothing -/
theorem hv (f : False) : (OpenLaw.row PySem.Challenge.rw_wr0013_01).Holds := by
  have said : (OpenLaw.row PySem.Challenge.rw_wr0013_01).wellSaid = true := f.elim
  refine' ahead ?hl ?hw ?hc ?g
  case g => k_head
  all_goals exact f.elim
theorem said : OpenLaw.wellSaid PySem.Challenge.rw_wr0013_01 = true := by
  rw [PySem.W.Fast.te9446332074065402090]
  kernel_rfl
def written : List Addr := [2, 3, 6, 15, 17, 18, 20, 21, 22, 29, 30, 31, 32, 35, 42, 43, 44, 47, 49, 50, 52, 53, 54, 56, 57, 59, 60, 61, 63, 64, 66, 67, 68, 70, 71, 73, 74, 75, 77, 78, 80, 81, 82, 84, 85, 87, 88, 89, 91, 92, 94, 95, 96, 98, 99, 101, 102, 103, 105, 106, 108, 109, 110, 113, 114, 115, 118, 119]
noncomputable abbrev hook : Hook := kHook Mine.hv.heap_1 written (fun _ => by kernel_rfl)
theorem left : LeftO (OpenLaw.row PySem.Challenge.rw_wr0013_01).prog Mine.hv.view_1 [] (fun s => xlAt Mine.hv.view_1 [] s && recOk (RowW.records (OpenLaw.row PySem.Challenge.rw_wr0013_01).toRowW) s) (Hook.obs hook) (Hook.val hook) 1850 := by
  intro w
  unfold openEnds topFrom fencedOpening
  rw [PySem.W.Fast.te14082659384304107361, PySem.W.Fast.te4187177175401517315, PySem.W.Fast.te10274390034422433532, PySem.W.Fast.te14289696077712309145, PySem.W.Fast.te1435165496053646825, PySem.W.Fast.te14364793385576792824]
  kernel_rfl
end Mine
end
section
-- Base
open PySem PySem.W PyProof.Rows PySem.Calls
set_option Elab.async false
set_option maxRecDepth 100000
set_option maxHeartbeats 8000000
namespace Mine
noncomputable abbrev pv := Mine.hv.view_1
noncomputable abbrev Kw (w : World) : Frag := Mine.hv.heap_1 w.params
noncomputable abbrev pg := Challenge.rw_wr0013_01.row.prog
/-- a def's contract: pure, one value; d frames deep -/
abbrev CtD (d : Nat) (w : World) (f : Addr) (vs : List Value) (R : Tok → Value) : Prop :=
  ∀ (mean : ExcName → Option Value) (mg mb : Str → Option Value) (dp un : Nat) (gd : Option (List Code)) (cn : Str) (cs : Scope) (a : Addr) (ccd : Value) (cl : List (Str × Addr)) (outer : List Env) (A₀ : Around) (base h₀ : Heap) (L : Addr) (m : Str → Option Value) (news : List (Addr × Obj)) (s : Shared) (Q E : Value → Shared → Prop),
    Below A₀ base outer h₀ → Fr h₀ L s.heap m → (Mine.hv.heap_1 w.params).In h₀ → News h₀ L s.heap news → Top pv (looseW pv []) mean mg mb h₀ → cs.kind = .function →
    dp + d < recursionLimit → un + 8 * d < cLine →
    (∀ (t : Tok) (h' : Heap) (tk' : Nat), Fr h₀ L h' m → News h₀ L h' news → Q (R t) { s with heap := h', toks := tk' }) →
      wpAny (model pg w) (ktrTop dp un gd cn cs L a ccd cl outer) (call (.ref f) vs) Q E s
abbrev Ct := CtD 2
theorem ct_use {d : Nat} {w : World} {f : Addr} {vs : List Value} {R : Tok → Value} (C : CtD d w f vs R) {mean : ExcName → Option Value} {mg mb : Str → Option Value} {dp un : Nat} {gd : Option (List Code)} {cn : Str} {cs : Scope} {a : Addr} {ccd : Value} {cl : List (Str × Addr)} {outer : List Env} {A₀ : Around} {base h₀ : Heap} {L : Addr} {m : Str → Option Value} {news : List (Addr × Obj)} {s : Shared} {Q E : Value → Shared → Prop}
    (B : Below A₀ base outer h₀) (F : Fr h₀ L s.heap m) (X : (Mine.hv.heap_1 w.params).In h₀) (N : News h₀ L s.heap news) (T : Top pv (looseW pv []) mean mg mb h₀) (hk : cs.kind = .function)
    (hd : dp + d < recursionLimit) (hu : un + 8 * d < cLine)
    (ret : ∀ (t : Tok) (h' : Heap) (tk' : Nat), Fr h₀ L h' m → News h₀ L h' news → Q (R t) { s with heap := h', toks := tk' }) :
    wpAny (model pg w) (ktrTop dp un gd cn cs L a ccd cl outer) (call (.ref f) vs) Q E s := C _ _ _ _ _ _ _ _ _ _ _ _ _ _ _ _ _ _ _ _ _ B F X N T hk hd hu ret
end Mine
end
section
-- Lib1
open PySem PySem.W PyProof.Rows PySem.Calls
set_option Elab.async false
set_option maxRecDepth 100000
namespace Mine
/-- a goal that the walk leaves alone -/
def Hold (P : Prop) : Prop := P
theorem Hold.of {P : Prop} (h : Hold P) : P := h
theorem Hold.mk {P : Prop} (h : P) : Hold P := h
structure StopLoops : Prop where
structure StopCalls : Prop where
structure StopText : Prop where

abbrev NoErr : Value → Shared → Prop := fun _ _ => False

theorem while_rule {prog : Program} {w : World} {A : Around} {E : Value → Shared → Prop} {s : Shared} {env : Env} {test : PySem.Expr} {body : List Stmt} {pos : Pos} {Q : Flow → Shared → Prop}
    (I : Nat → Shared → Prop) (n : Nat) (h : I n s)
    (turn : ∀ n s, I n s →
      wpAny (model prog w) A (isTrue test env (eval test env)) (fun b s₂ =>
        if b then wpAny (model prog w) A (execs body env) (fun f s₃ => Hold (match f with
            | .next | .cont => ∃ m, m < n ∧ I m s₃
            | .brk => Q .next s₃
            | .ret v => Q (.ret v) s₃)) NoErr s₂
        else Hold (Q .next s₂)) NoErr s) :
    wpAny (model prog w) A (exec (.While test body [] pos) env) Q E s := by
  refine wpAny_While (codeAny_whileLoop I (fun n s hI => ?_) n h)
  refine wpAny_mono (turn n s hI) (fun b s₂ hb => ?_) (fun _ _ e => e.elim)
  cases b with
  | false => exact wpAny_execs_nil hb
  | true => exact wpAny_mono hb (fun f s₃ hf => hf) (fun _ _ e => e.elim)

/-- the same, the turn's own predicates out of sight -/
theorem while_ruleO {prog : Program} {w : World} {A : Around} {E : Value → Shared → Prop} {s : Shared} {env : Env} {test : PySem.Expr} {body : List Stmt} {pos : Pos} {Q : Flow → Shared → Prop}
    (I : Nat → Shared → Prop) (n : Nat) (h : I n s)
    (turn : ∀ (I' : Nat → Shared → Prop) (Q' : Flow → Shared → Prop), I' = I → (∀ f s', Q f s' → Q' f s') → ∀ n s, I n s →
      wpAny (model prog w) A (isTrue test env (eval test env)) (fun b s₂ =>
        if b then wpAny (model prog w) A (execs body env) (fun f s₃ => Hold (match f with
            | .next | .cont => ∃ m, m < n ∧ I' m s₃
            | .brk => Q' .next s₃
            | .ret v => Q' (.ret v) s₃)) NoErr s₂
        else Hold (Q' .next s₂)) NoErr s) :
    wpAny (model prog w) A (exec (.While test body [] pos) env) Q E s := while_rule I n h (turn I Q rfl fun _ _ x => x)

theorem fr_eq {h₀ h : Heap} {L : Addr} {m m' : Str → Option Value} (F : Fr h₀ L h m) (e : m' = m) : Fr h₀ L h m' := e ▸ F

theorem kstB_self {m : Str → Option Value} {ps : List (Str × Value)} (h1 : ∀ p ∈ ps, m p.1 = some p.2) : kstB m ps = m := by
  funext z
  exact kstB_eq h1 (fun _ => rfl)
/-- the frame's map written out at the names that are known -/
theorem fr_canon {h₀ h : Heap} {L : Addr} {m : Str → Option Value} (ps : List (Str × Value)) (F : Fr h₀ L h m) (h1 : ∀ p ∈ ps, m p.1 = some p.2) : Fr h₀ L h (kstB m ps) := by
  rw [kstB_self h1]; exact F
end Mine
namespace Mine
abbrev HasI (m : Str → Option Value) (x : Str) (i : Int) : Prop := ∃ t, m x = some (.int i t)
abbrev HasS (m : Str → Option Value) (x : Str) (v : Str) : Prop := ∃ t, m x = some (.str v t)
theorem ps4 {m : Str → Option Value} {x1 x2 x3 x4 : Str} {v1 v2 v3 v4 : Value} (h1 : m x1 = some v1) (h2 : m x2 = some v2) (h3 : m x3 = some v3) (h4 : m x4 = some v4) : ∀ p ∈ [(x1, v1), (x2, v2), (x3, v3), (x4, v4)], m p.1 = some p.2 := by
  simp only [List.forall_mem_cons]
  exact ⟨h1, h2, h3, h4, fun _ h => nomatch h⟩
theorem ps3 {m : Str → Option Value} {x1 x2 x3 : Str} {v1 v2 v3 : Value} (h1 : m x1 = some v1) (h2 : m x2 = some v2) (h3 : m x3 = some v3) : ∀ p ∈ [(x1, v1), (x2, v2), (x3, v3)], m p.1 = some p.2 := by
  simp only [List.forall_mem_cons]
  exact ⟨h1, h2, h3, fun _ h => nomatch h⟩
theorem ps5 {m : Str → Option Value} {x1 x2 x3 x4 x5 : Str} {v1 v2 v3 v4 v5 : Value} (h1 : m x1 = some v1) (h2 : m x2 = some v2) (h3 : m x3 = some v3) (h4 : m x4 = some v4) (h5 : m x5 = some v5) : ∀ p ∈ [(x1, v1), (x2, v2), (x3, v3), (x4, v4), (x5, v5)], m p.1 = some p.2 := by
  simp only [List.forall_mem_cons]
  exact ⟨h1, h2, h3, h4, h5, fun _ h => nomatch h⟩
theorem ps2 {m : Str → Option Value} {x1 x2 : Str} {v1 v2 : Value} (h1 : m x1 = some v1) (h2 : m x2 = some v2) : ∀ p ∈ [(x1, v1), (x2, v2)], m p.1 = some p.2 := by
  simp only [List.forall_mem_cons]
  exact ⟨h1, h2, fun _ h => nomatch h⟩
end Mine
end
section
-- Lib2
open PySem PySem.W PyProof.Rows PySem.Calls
set_option Elab.async false
set_option maxRecDepth 100000
namespace Mine
section
variable {prog : Program} {w : World} {A : Around} {E : Value → Shared → Prop} {s : Shared} {env : Env} {h₀ : Heap} {Q : Flow → Shared → Prop}

def ForAt (prog : Program) (w : World) (A : Around) (env : Env) (target : PySem.Expr) (body : List Stmt) (Q : Flow → Shared → Prop) (E : Value → Shared → Prop) (xv : Value) (s : Shared) : Prop :=
  wpAny (model prog w) A (pyIter xv) (fun it s₂ => codeAny (model prog w) A (.forLoop target it body [] env) (fun r s' => match r with | .ok f => Q f s' | .error e => cameBackBy (model prog w) A env E e s') s₂) E s

theorem for_start {target iter : PySem.Expr} {body : List Stmt} {pos : Pos}
    (h : wpAny (model prog w) A (eval iter env) (fun xv s₁ => Hold (ForAt prog w A env target body Q E xv s₁)) E s)
    (hs : ∀ x, foldedSetIterable iter env x = pure x := by intro _; rfl) : wpAny (model prog w) A (exec (.For target iter body [] pos) env) Q E s :=
  wpAny_For h hs

/-- what a turn of a for must end in -/
abbrev TurnEnd (Q : Flow → Shared → Prop) (s : Shared) (h₀ : Heap) (L : Addr) (I : Addr) (o : Obj) (J : (Str → Option Value) → List (Addr × Obj) → Prop) (f : Flow) (s₃ : Shared) : Prop :=
  Hold (match f with
    | .next | .cont => ∃ h' tk' m₂ news₂, s₃ = { s with heap := h', toks := tk' } ∧ Fr h₀ L h' m₂ ∧ News h₀ L h' ((I, o) :: news₂) ∧ (∀ p ∈ news₂, p.1 ≠ I) ∧ J m₂ news₂
    | .brk => Q .next s₃
    | .ret v => Q (.ret v) s₃)

theorem TurnEnd.ret {s s₃ : Shared} {L I : Addr} {o : Obj} {J : (Str → Option Value) → List (Addr × Obj) → Prop} {v : Value} (h : Q (.ret v) s₃) : TurnEnd Q s h₀ L I o J (.ret v) s₃ := h
theorem TurnEnd.brk {s s₃ : Shared} {L I : Addr} {o : Obj} {J : (Str → Option Value) → List (Addr × Obj) → Prop} (h : Q .next s₃) : TurnEnd Q s h₀ L I o J .brk s₃ := h
theorem TurnEnd.next {s : Shared} {L I : Addr} {o : Obj} {J : (Str → Option Value) → List (Addr × Obj) → Prop} {h' : Heap} {tk' : Nat} {m₂ : Str → Option Value} {news₂ : List (Addr × Obj)}
    (F : Fr h₀ L h' m₂) (N : News h₀ L h' ((I, o) :: news₂)) (hn : ∀ p ∈ news₂, p.1 ≠ I) (hj : J m₂ news₂) : TurnEnd Q s h₀ L I o J .next { s with heap := h', toks := tk' } := ⟨h', tk', m₂, news₂, rfl, F, N, hn, hj⟩
theorem news_tail {h₀ h : Heap} {L : Addr} {p : Addr × Obj} {r : List (Addr × Obj)} (N : News h₀ L h (p :: r)) : News h₀ L h r := fun q hq => N q (.tail _ hq)

theorem for_walk {x : Str} {px : Pos} {body : List Stmt} {I : Addr} {fp : List Addr} {n : Nat} {P : Nat → Value → Prop} {St : Nat → Heap → Prop} {m₀ : Str → Option Value} {news : List (Addr × Obj)}
    (W : Walks prog w A I fp [I] n P St) (hI : ∀ i h, St i h → ∃ o, h.get? I = some o)
    (J : Nat → (Str → Option Value) → List (Addr × Obj) → Prop) (C : List (Addr × Obj))
    (hC : ∀ b ∈ fp, b = I ∨ (∃ o, h₀.get? b = some o) ∨ ∃ o, (b, o) ∈ C) (hJC : ∀ i m nx, J i m nx → ∀ p ∈ C, p ∈ nx)
    (hLf : env.locals ∉ fp) (hI0 : h₀.get? I = none) (hst : St 0 s.heap) (F : Fr h₀ env.locals s.heap m₀) (N : News h₀ env.locals s.heap news) (hnI : ∀ p ∈ news, p.1 ≠ I) (hj : J 0 m₀ news)
    (hx : env.kindOf x = some .local) (hp : (env.scope.kind == .class || (env.scope.kind == .module && env.locals != env.globals)) = false)
    (turn : ∀ i v m₁ news₁ h tk o, i < n → P i v → J i m₁ news₁ → (∀ p ∈ news₁, p.1 ≠ I) → Fr h₀ env.locals h (fun y => if y = x then some v else m₁ y) → News h₀ env.locals h ((I, o) :: news₁) →
      wpAny (model prog w) A (execs body env) (TurnEnd Q s h₀ env.locals I o (J (i + 1))) NoErr { s with heap := h, toks := tk })
    (done : ∀ h tk m' news', Fr h₀ env.locals h m' → News h₀ env.locals h news' → J n m' news' → Q .next { s with heap := h, toks := tk }) :
    codeAny (model prog w) A (.forLoop (.Name x px) (.ref I) body [] env) (fun r s' => match r with | .ok f => Q f s' | .error e => cameBackBy (model prog w) A env E e s') s := by
  have hIf : I ∈ fp := W.sub I (.head _)
  have hIL : env.locals ≠ I := fun e => hLf (e ▸ hIf)
  refine codeAny_forLoop
    (fun k s' => ∃ h' tk m' news' i, s' = { s with heap := h', toks := tk } ∧ St i h' ∧ Fr h₀ env.locals h' m' ∧ News h₀ env.locals h' news' ∧ (∀ p ∈ news', p.1 ≠ I) ∧ J i m' news' ∧ i ≤ n ∧ k = n + 1 - i) ?_ (n + 1)
    ⟨s.heap, s.toks, m₀, news, 0, rfl, hst, F, N, hnI, hj, Nat.zero_le _, rfl⟩
  rintro k s' ⟨h', tk, m', news', i, rfl, hst', F', N', hnI', hJ, hi, rfl⟩
  have next : ∀ h₁ : Heap, (∀ b o, b ∉ [I] → h'.get? b = some o → h₁.get? b = some o) → Fr h₀ env.locals h₁ m' ∧ News h₀ env.locals h₁ news' := fun h₁ hk₁ =>
    ⟨⟨F'.ns.at' fun o e => hk₁ _ o (by simpa using hIL) e, fun b o e => hk₁ b o (by intro q; rw [List.mem_singleton.mp q, hI0] at e; cases e) (F'.keep b o e), F'.above⟩, fun p hp => ⟨hk₁ _ _ (by simpa using hnI' p hp) (N' p hp).1, (N' p hp).2⟩⟩
  by_cases hlt : i < n
  · refine W.item i _ _ _ hlt hst' fun v h₁ tk₁ hP hst₁ hk₁ => ?_
    obtain ⟨F₁, N₁⟩ := next h₁ hk₁
    refine wpAny_assign_Name (wpAny_storeName_local hx F₁.ns (fun h₂ hn₂ hs₂ => ?_) hp)
    have F₂ := F₁.set hn₂ hs₂
    have N₂ := N₁.set hs₂
    have hst₂ : St (i + 1) h₂ := W.frame _ _ _ hst₁ fun b hb o e => (hs₂.2 b fun q => hLf (q ▸ hb)).trans e
    obtain ⟨o, ho⟩ := hI _ _ hst₂
    have N₃ : News h₀ env.locals h₂ ((I, o) :: news') := fun p hp => by
      rcases List.mem_cons.mp hp with rfl | hp
      · exact ⟨ho, fun q => hIL q.symm, hI0⟩
      · exact N₂ p hp
    refine wpAny_mono (turn i v m' news' h₂ _ o hlt hP hJ hnI' F₂ N₃) (fun f s₃ h₃ => ?_) fun _ _ e => e.elim
    have fin : (∃ h' tk' m₂ news₂, s₃ = { s with heap := h', toks := tk' } ∧ Fr h₀ env.locals h' m₂ ∧ News h₀ env.locals h' ((I, o) :: news₂) ∧ (∀ p ∈ news₂, p.1 ≠ I) ∧ J (i + 1) m₂ news₂) →
        ∃ m, m < n + 1 - i ∧ ∃ h' tk m' news' i, s₃ = { s with heap := h', toks := tk } ∧ St i h' ∧ Fr h₀ env.locals h' m' ∧ News h₀ env.locals h' news' ∧ (∀ p ∈ news', p.1 ≠ I) ∧ J i m' news' ∧ i ≤ n ∧ m = n + 1 - i := by
      rintro ⟨h₃', tk₃, m₂, news₂, rfl, F₃, N₃', hn₃, hJ₃⟩
      refine ⟨n + 1 - (i + 1), by omega, h₃', tk₃, m₂, news₂, i + 1, rfl, ?_, F₃, fun p hp => N₃' p (.tail _ hp), hn₃, hJ₃, hlt, rfl⟩
      refine W.frame _ _ _ hst₂ fun b hb ob e => ?_
      rcases hC b hb with rfl | ⟨o₀, h₀b⟩ | ⟨oc, hoc⟩
      · rw [ho] at e; cases e; exact (N₃' _ (.head _)).1
      · have := F₂.keep b o₀ h₀b
        rw [this] at e; cases e
        exact F₃.keep b _ h₀b
      · have h1 := (N₂ _ (hJC _ _ _ hJ _ hoc)).1
        have h2 := (N₃' _ (.tail _ (hJC _ _ _ hJ₃ _ hoc))).1
        simp only at h1 h2
        rw [h1] at e; cases e
        exact h2
    cases f with
    | ret v => exact h₃
    | brk => exact h₃
    | cont => exact fin h₃
    | next => exact fin h₃
  · have hin : i = n := by omega
    subst hin
    refine W.done _ _ _ hst' fun h₁ tk₁ hk₁ => wpAny_execs_nil ?_
    obtain ⟨F₁, N₁⟩ := next h₁ hk₁
    exact done h₁ tk₁ m' news' F₁ N₁ hJ

/-- a for over a list of the ledger's -/
theorem for_list {x : Str} {px : Pos} {body : List Stmt} {l : Addr} {vs : List Value} {nn : Nat} {m₀ : Str → Option Value} {news : List (Addr × Obj)}
    (J : Nat → (Str → Option Value) → List (Addr × Obj) → Prop) (hJC : ∀ i m nx, J i m nx → (l, listOf vs.toArray nn) ∈ nx)
    (hh : A.handled = none) (F : Fr h₀ env.locals s.heap m₀) (N : News h₀ env.locals s.heap news) (hj : J 0 m₀ news)
    (hx : env.kindOf x = some .local) (hp : (env.scope.kind == .class || (env.scope.kind == .module && env.locals != env.globals)) = false)
    (turn : ∀ I i v m₁ news₁ h tk o, vs[i]? = some v → J i m₁ news₁ → (∀ p ∈ news₁, p.1 ≠ I) → Fr h₀ env.locals h (fun y => if y = x then some v else m₁ y) → News h₀ env.locals h ((I, o) :: news₁) →
      wpAny (model prog w) A (execs body env) (TurnEnd Q s h₀ env.locals I o (J (i + 1))) NoErr { s with heap := h, toks := tk })
    (done : ∀ h tk m' news', Fr h₀ env.locals h m' → News h₀ env.locals h news' → J vs.length m' news' → Q .next { s with heap := h, toks := tk }) :
    ForAt prog w A env (.Name x px) body Q E (.ref l) s := by
  have hl := hJC _ _ _ hj
  have hol : s.heap.get? l = some (listOf vs.toArray nn) := (N _ hl).1
  have hls : s.heap.IsList l vs.toArray := ⟨_, hol, rfl, nn, rfl⟩
  have hne : l ≠ s.heap.objs.size := Nat.ne_of_lt (Heap.lt_size hol)
  unfold ForAt
  refine wpAny_pyIter_list hls ?_
  have W := Walks.list (prog := prog) (w := w) hh s.heap.objs.size l hne vs.toArray
  have hlen : vs.toArray.size = vs.length := by simp
  rw [hlen] at W
  refine for_walk (s := { s with heap := s.heap.push _ }) W (fun i h st => let ⟨o, ho, _⟩ := st.1; ⟨o, ho⟩) J [(l, listOf vs.toArray nn)] ?_ ?_ ?_ ?_ ⟨⟨_, Heap.get?_push_size _ rfl, rfl, rfl⟩, hls.at fun o e => Heap.get?_push_of_some _ e⟩ (F.push _) (fun p hp => ⟨Heap.get?_push_of_some _ (N p hp).1, (N p hp).2⟩) ?_ hj hx hp ?_ ?_
  · intro b hb
    rcases List.mem_cons.mp hb with rfl | hb
    · exact .inl rfl
    · exact .inr (.inr ⟨_, by rw [List.mem_singleton.mp hb]; exact .head _⟩)
  · intro i m nx h p hp
    rw [List.mem_singleton.mp hp]; exact hJC i m nx h
  · intro hm
    rcases List.mem_cons.mp hm with e | hm
    · exact absurd F.ns.lt (e ▸ Nat.lt_irrefl _)
    · exact (N _ hl).2.1 ((List.mem_singleton.mp hm).symm)
  · exact next_is_new F
  · intro p hp hI
    exact absurd (Heap.lt_size (N p hp).1) (hI ▸ Nat.lt_irrefl _)
  · intro i v m₁ news₁ h tk o hi hv hJ hn F₁ N₁
    exact turn _ i v m₁ news₁ h tk o (by simpa using hv) hJ hn F₁ N₁
  · intro h tk m' news' F₁ N₁ hJ
    exact done h tk m' news' F₁ N₁ hJ
end

section
variable {prog : Program} {w : World} {A : Around} {E : Value → Shared → Prop} {s : Shared} {h₀ : Heap} {L : Addr} {m : Str → Option Value} {news : List (Addr × Obj)}
open PySem.Builtin PySem.Builtin.Str
theorem gives_str_find_range (x y : Str) (i j : Int) (t u v v2 : Tok) : Gives (Builtin.«str.find» ⟨[.str x t, .str y u, .int i v, .int j v2], []⟩) (.int (match occurrences x y (fromIndex x.length i) (min (fromIndex x.length j) x.length) 1 with | k :: _ => (k : Int) | [] => -1)) := by
  show Gives (match occurrences x y (fromIndex x.length i) (min (fromIndex x.length j) x.length) 1 with | k :: _ => retInt k | [] => (do rule "str.find.not-found"; retInt (-1))) _
  cases occurrences x y (fromIndex x.length i) (min (fromIndex x.length j) x.length) 1 with
  | nil => exact .rule (.of_eq rfl)
  | cons k _ => exact .of_eq rfl
def find4 (x y : Str) (i j : Int) : Int := match occurrences x y (fromIndex x.length i) (min (fromIndex x.length j) x.length) 1 with | k :: _ => (k : Int) | [] => -1
theorem call_find4 {x y : Str} {t u v v2 : Tok} {i j : Int} {Q : Value → Shared → Prop} (hq : Q (.int (find4 x y i j) s.toks) { s with toks := s.toks + 1 }) : wpAny (model prog w) A (call (.builtin "str.find") [.str x t, .str y u, .int i v, .int j v2]) Q E s :=
  call_gives F.slot_str_find (typeIs_str _ _ _) F.entry_str_find (F.args_str_find_4 _ _ _ _) (gives_str_find_range x y i j t u v v2) hq
end
end Mine
end
section
-- Lib3
open PySem PySem.W PyProof.Rows PySem.Calls
set_option Elab.async false
set_option maxRecDepth 100000
namespace Mine
section
variable {prog : Program} {w : World} {A : Around} {E : Value → Shared → Prop} {s : Shared} {env : Env} {h₀ : Heap} {Q : Flow → Shared → Prop}

theorem isStrOf_inv {k : Str} {v : Value} (h : (PySem.strKind prog w).is k v = true) : ∃ tk', v = .str k tk' := by
  have h' : Value.isStrOf k v = true := h
  cases v with
  | str x t =>
    have e : k = x ∨ x = k := by
      simp only [Value.isStrOf] at h'
      first | exact .inr (eq_of_beq h') | exact .inl (eq_of_beq h') | exact .inr (of_decide_eq_true h') | exact .inl (of_decide_eq_true h')
    rcases e with rfl | rfl <;> exact ⟨_, rfl⟩
  | _ => exact absurd h' (by simp [Value.isStrOf])
/-- a for over range(b) -/
theorem for_range {x : Str} {px : Pos} {body : List Stmt} {r : Addr} {n : Nat} {t u v : Tok} {m₀ : Str → Option Value} {news : List (Addr × Obj)}
    (J : Nat → (Str → Option Value) → List (Addr × Obj) → Prop) (hr : IsRange s.heap r 0 n 1 t u v) (hsmall : Builtin.Range.small 0 n 1 = true) (hn : Builtin.Range.rangeSize 0 n 1 = (n : Int))
    (hh : A.handled = none) (F : Fr h₀ env.locals s.heap m₀) (N : News h₀ env.locals s.heap news) (hj : J 0 m₀ news)
    (hx : env.kindOf x = some .local) (hp : (env.scope.kind == .class || (env.scope.kind == .module && env.locals != env.globals)) = false)
    (turn : ∀ I i tk' m₁ news₁ h tk o, i < n → J i m₁ news₁ → (∀ p ∈ news₁, p.1 ≠ I) → Fr h₀ env.locals h (fun y => if y = x then some (.int (i : Nat) tk') else m₁ y) → News h₀ env.locals h ((I, o) :: news₁) →
      wpAny (model prog w) A (execs body env) (TurnEnd Q s h₀ env.locals I o (J (i + 1))) NoErr { s with heap := h, toks := tk })
    (done : ∀ h tk m' news', Fr h₀ env.locals h m' → News h₀ env.locals h news' → J n m' news' → Q .next { s with heap := h, toks := tk }) :
    ForAt prog w A env (.Name x px) body Q E (.ref r) s := by
  unfold ForAt
  refine wpAny_pyIter_range hr hsmall ?_
  rw [hn]
  have W := Walks.range (prog := prog) (w := w) hh s.heap.objs.size 0 1 n
  refine for_walk (s := { s with heap := s.heap.push _ }) W (fun i h st => ⟨_, st⟩) J [] ?_ ?_ ?_ ?_ (by show IsRangeIter _ _ _ _ _; simpa using Heap.get?_push_size _ rfl) (F.push _) (fun p hp => ⟨Heap.get?_push_of_some _ (N p hp).1, (N p hp).2⟩) ?_ hj hx hp ?_ ?_
  · intro b hb
    exact .inl (List.mem_singleton.mp hb)
  · exact fun _ _ _ _ p hp => nomatch hp
  · intro hm
    exact absurd F.ns.lt ((List.mem_singleton.mp hm) ▸ Nat.lt_irrefl _)
  · exact next_is_new F
  · intro p hp hI
    exact absurd (Heap.lt_size (N p hp).1) (hI ▸ Nat.lt_irrefl _)
  · rintro i v m₁ news₁ h tk o hi ⟨t', rfl⟩ hJ hn F₁ N₁
    have e : (0 : Int) + (i : Int) * 1 = (i : Int) := by omega
    rw [e] at F₁
    exact turn _ i t' m₁ news₁ h tk o hi hJ hn F₁ N₁
  · intro h tk m' news' F₁ N₁ hJ
    exact done h tk m' news' F₁ N₁ hJ

/-- a for over the keys of a dict of the ledger's -/
theorem for_dict {x : Str} {px : Pos} {body : List Stmt} {d : Addr} {ob : Obj} {kvs : List (Str × Value)} {m₀ : Str → Option Value} {news : List (Addr × Obj)}
    (J : Nat → (Str → Option Value) → List (Addr × Obj) → Prop) (hd : ob.IsDictOf (PySem.strKind prog w) kvs) (hlo : (d == sysModules) = false) (hJC : ∀ i m nx, J i m nx → (d, ob) ∈ nx)
    (hh : A.handled = none) (F : Fr h₀ env.locals s.heap m₀) (N : News h₀ env.locals s.heap news) (hj : J 0 m₀ news)
    (hx : env.kindOf x = some .local) (hp : (env.scope.kind == .class || (env.scope.kind == .module && env.locals != env.globals)) = false)
    (turn : ∀ I i k v tk' m₁ news₁ h tk o, kvs[i]? = some (k, v) → J i m₁ news₁ → (∀ p ∈ news₁, p.1 ≠ I) → Fr h₀ env.locals h (fun y => if y = x then some (.str k tk') else m₁ y) → News h₀ env.locals h ((I, o) :: news₁) →
      wpAny (model prog w) A (execs body env) (TurnEnd Q s h₀ env.locals I o (J (i + 1))) NoErr { s with heap := h, toks := tk })
    (done : ∀ h tk m' news', Fr h₀ env.locals h m' → News h₀ env.locals h news' → J kvs.length m' news' → Q .next { s with heap := h, toks := tk }) :
    ForAt prog w A env (.Name x px) body Q E (.ref d) s := by
  have hl := hJC _ _ _ hj
  have hod := (N _ hl).1
  have hne : d ≠ s.heap.objs.size := Nat.ne_of_lt (Heap.lt_size hod)
  obtain ⟨es, ep, hex, hes, hk, hps, hnd⟩ := id hd
  have hm : s.heap.DictAt (PySem.strKind prog w) d kvs ep := ⟨ob, es, hod, hex, hes, hk, hps, hnd⟩
  unfold ForAt
  refine wpAny_pyIter_dict hlo hm ?_
  have W := Walks.dictKeys (prog := prog) (w := w) (knd := PySem.strKind prog w) hh s.heap.objs.size d hne kvs ep
  refine for_walk (s := { s with heap := s.heap.push _ }) W (fun i h st => let ⟨o, ho, _⟩ := st.1; ⟨o, ho⟩) J [(d, ob)] ?_ ?_ ?_ ?_ ⟨⟨_, Heap.get?_push_size _ rfl, rfl, rfl⟩, hm.at' fun o e => Heap.get?_push_of_some _ e⟩ (F.push _) (fun p hp => ⟨Heap.get?_push_of_some _ (N p hp).1, (N p hp).2⟩) ?_ hj hx hp ?_ ?_
  · intro b hb
    rcases List.mem_cons.mp hb with rfl | hb
    · exact .inl rfl
    · exact .inr (.inr ⟨_, by rw [List.mem_singleton.mp hb]; exact .head _⟩)
  · intro i m nx h p hp
    rw [List.mem_singleton.mp hp]; exact hJC i m nx h
  · intro hm
    rcases List.mem_cons.mp hm with e | hm
    · exact absurd F.ns.lt (e ▸ Nat.lt_irrefl _)
    · exact (N _ hl).2.1 ((List.mem_singleton.mp hm).symm)
  · exact next_is_new F
  · intro p hp hI
    exact absurd (Heap.lt_size (N p hp).1) (hI ▸ Nat.lt_irrefl _)
  · rintro i v m₁ news₁ h tk o hi ⟨k, xv, hkv, hkey⟩ hJ hn F₁ N₁
    obtain ⟨tk', rfl⟩ : ∃ tk', v = .str k tk' := by
      exact isStrOf_inv hkey
    exact turn _ i k xv tk' m₁ news₁ h tk o hkv hJ hn F₁ N₁
  · intro h tk m' news' F₁ N₁ hJ
    exact done h tk m' news' F₁ N₁ hJ

/-- what a turn of a for with two iterators must end in -/
abbrev TurnEnd2 (Q : Flow → Shared → Prop) (s : Shared) (h₀ : Heap) (L : Addr) (I1 I2 : Addr) (o1 o2 : Obj) (J : (Str → Option Value) → List (Addr × Obj) → Prop) (f : Flow) (s₃ : Shared) : Prop :=
  Hold (match f with
    | .next | .cont => ∃ h' tk' m₂ news₂, s₃ = { s with heap := h', toks := tk' } ∧ Fr h₀ L h' m₂ ∧ News h₀ L h' ((I1, o1) :: (I2, o2) :: news₂) ∧ (∀ p ∈ news₂, p.1 ≠ I1 ∧ p.1 ≠ I2) ∧ J m₂ news₂
    | .brk => Q .next s₃
    | .ret v => Q (.ret v) s₃)
theorem TurnEnd2.brk {s s₃ : Shared} {L I1 I2 : Addr} {o1 o2 : Obj} {J : (Str → Option Value) → List (Addr × Obj) → Prop} (h : Q .next s₃) : TurnEnd2 Q s h₀ L I1 I2 o1 o2 J .brk s₃ := h
theorem TurnEnd2.next {s : Shared} {L I1 I2 : Addr} {o1 o2 : Obj} {J : (Str → Option Value) → List (Addr × Obj) → Prop} {h' : Heap} {tk' : Nat} {m₂ : Str → Option Value} {news₂ : List (Addr × Obj)}
    (F : Fr h₀ L h' m₂) (N : News h₀ L h' ((I1, o1) :: (I2, o2) :: news₂)) (hn : ∀ p ∈ news₂, p.1 ≠ I1 ∧ p.1 ≠ I2) (hj : J m₂ news₂) : TurnEnd2 Q s h₀ L I1 I2 o1 o2 J .next { s with heap := h', toks := tk' } := ⟨h', tk', m₂, news₂, rfl, F, N, hn, hj⟩

theorem for_walk2 {xi xc : Str} {pk pv pt : Pos} {x1 : Nat} {body : List Stmt} {e it : Addr} {n : Nat} {Pt : Nat → Array Value → Prop} {St : Nat → Heap → Prop} {Mid : Nat → Addr → Heap → Prop} {P2 : Nat → Value → Value → Prop} {m₀ : Str → Option Value} {news : List (Addr × Obj)}
    (W : WalksT prog w A e [e, it] [e, it] n Pt St Mid) (h2 : ∀ i vals, Pt i vals → ∃ v0 v1, vals = #[v0, v1] ∧ P2 i v0 v1) (hI : ∀ i h, St i h → (∃ o, h.get? e = some o) ∧ ∃ o, h.get? it = some o)
    (J : Nat → (Str → Option Value) → List (Addr × Obj) → Prop) (hh : A.handled = none)
    (hLe : env.locals ≠ e) (hLi : env.locals ≠ it) (he0 : h₀.get? e = none) (hi0 : h₀.get? it = none) (hst : St 0 s.heap) (F : Fr h₀ env.locals s.heap m₀) (N : News h₀ env.locals s.heap news) (hnI : ∀ p ∈ news, p.1 ≠ e ∧ p.1 ≠ it) (hj : J 0 m₀ news)
    (hxi : env.kindOf xi = some .local) (hxc : env.kindOf xc = some .local) (hp : (env.scope.kind == .class || (env.scope.kind == .module && env.locals != env.globals)) = false)
    (turn : ∀ i v0 v1 m₁ news₁ h tk o1 o2, i < n → P2 i v0 v1 → J i m₁ news₁ → (∀ p ∈ news₁, p.1 ≠ e ∧ p.1 ≠ it) → Fr h₀ env.locals h (fun y => if y = xc then some v1 else if y = xi then some v0 else m₁ y) → News h₀ env.locals h ((e, o1) :: (it, o2) :: news₁) →
      wpAny (model prog w) A (execs body env) (TurnEnd2 Q s h₀ env.locals e it o1 o2 (J (i + 1))) NoErr { s with heap := h, toks := tk })
    (done : ∀ h tk m' news', Fr h₀ env.locals h m' → News h₀ env.locals h news' → J n m' news' → Q .next { s with heap := h, toks := tk }) :
    codeAny (model prog w) A (.forLoop (.Tuple [.Name xi pk, .Name xc pv] x1 pt) (.ref e) body [] env) (fun r s' => match r with | .ok f => Q f s' | .error e => cameBackBy (model prog w) A env E e s') s := by
  have hLf : env.locals ∉ [e, it] := by simp [hLe, hLi]
  refine codeAny_forLoop_any
    (fun k s' => ∃ h' tk m' news' i, s' = { s with heap := h', toks := tk } ∧ St i h' ∧ Fr h₀ env.locals h' m' ∧ News h₀ env.locals h' news' ∧ (∀ p ∈ news', p.1 ≠ e ∧ p.1 ≠ it) ∧ J i m' news' ∧ i ≤ n ∧ k = n + 1 - i) ?_ (n + 1)
    ⟨s.heap, s.toks, m₀, news, 0, rfl, hst, F, N, hnI, hj, Nat.zero_le _, rfl⟩
  rintro k s' ⟨H, tk, m', news', i, rfl, hst', F', N', hnI', hJ, hi, rfl⟩
  have next : ∀ h₁ : Heap, (∀ b o, b ∉ [e, it] → H.get? b = some o → h₁.get? b = some o) → Fr h₀ env.locals h₁ m' ∧ News h₀ env.locals h₁ news' := fun h₁ hk₁ =>
    ⟨⟨F'.ns.at' fun o x => hk₁ _ o hLf x, fun b o x => hk₁ b o (by
      intro q
      rcases List.mem_cons.mp q with rfl | q
      · rw [he0] at x; cases x
      · rw [List.mem_singleton.mp q, hi0] at x; cases x) (F'.keep b o x), F'.above⟩, fun p hp => ⟨hk₁ _ _ (by have := hnI' p hp; simp [this.1, this.2]) (N' p hp).1, (N' p hp).2⟩⟩
  by_cases hlt : i < n
  · refine W.item i _ _ _ hlt hst' fun T vals h₁ tk₁ hPt _ hT hMid hk₁ => ?_
    obtain ⟨v0, v1, rfl, hP2⟩ := h2 i vals hPt
    refine W.go _ x1 pt i T _ _ _ hMid fun h₂ hst₂ hk₂ => ?_
    have ht₂ : h₂.IsTuple T #[v0, v1] := hT.at fun o x => hk₂ T o (W.apart i T h₁ hMid) x
    refine wpAny_assign_Tuple hh ht₂ rfl rfl fun h₃ hx₃ => ?_
    replace hx₃ : Heap.ExtBut h₂.objs.size h₂ h₃ := hx₃
    have up₃ : ∀ b o, h₂.get? b = some o → h₃.get? b = some o := fun b o x => hx₃ b o (Nat.ne_of_lt (Heap.lt_size x)) x
    obtain ⟨F₃, N₃⟩ := next h₃ fun b o hb x => up₃ b o (hk₂ b o hb (hk₁ b o hb x))
    show wpAny _ A (do holding [v1] (assign (.Name xi pk) env v0); do holding [] (assign (.Name xc pv) env v1); pure ()) _ _ _
    refine wpAny_bind (wpAny_holding (wpAny_assign_Name (wpAny_storeName_local hxi F₃.ns (fun h₄ hn₄ hs₄ => ?_) hp)))
    replace hs₄ : Heap.SameBut env.locals h₃ h₄ := hs₄
    have F₄ := F₃.set hn₄ hs₄
    refine wpAny_bind (wpAny_holding (wpAny_assign_Name (wpAny_storeName_local hxc F₄.ns (fun h₅ hn₅ hs₅ => wpAny_pure ?_) hp)))
    replace hs₅ : Heap.SameBut env.locals h₄ h₅ := hs₅
    have F₅ := F₄.set hn₅ hs₅
    have N₅ : News h₀ env.locals h₅ news' := (N₃.set hs₄).set hs₅
    have hst₅ : St (i + 1) h₅ := W.frame _ _ _ hst₂ fun b hb o x => hs₅.extBut b o (fun q => hLf (q ▸ hb)) (hs₄.extBut b o (fun q => hLf (q ▸ hb)) (up₃ b o x))
    obtain ⟨⟨o1, ho1⟩, ⟨o2, ho2⟩⟩ := hI _ _ hst₅
    have N₆ : News h₀ env.locals h₅ ((e, o1) :: (it, o2) :: news') := fun p hp => by
      rcases List.mem_cons.mp hp with rfl | hp
      · exact ⟨ho1, fun q => hLe q.symm, he0⟩
      · rcases List.mem_cons.mp hp with rfl | hp
        · exact ⟨ho2, fun q => hLi q.symm, hi0⟩
        · exact N₅ p hp
    refine wpAny_mono (turn i v0 v1 m' news' h₅ _ o1 o2 hlt hP2 hJ hnI' F₅ N₆) (fun f s₃ h₃ => ?_) fun _ _ x => x.elim
    have fin : (∃ h' tk' m₂ news₂, s₃ = { s with heap := h', toks := tk' } ∧ Fr h₀ env.locals h' m₂ ∧ News h₀ env.locals h' ((e, o1) :: (it, o2) :: news₂) ∧ (∀ p ∈ news₂, p.1 ≠ e ∧ p.1 ≠ it) ∧ J (i + 1) m₂ news₂) →
        ∃ m, m < n + 1 - i ∧ ∃ h' tk m' news' i, s₃ = { s with heap := h', toks := tk } ∧ St i h' ∧ Fr h₀ env.locals h' m' ∧ News h₀ env.locals h' news' ∧ (∀ p ∈ news', p.1 ≠ e ∧ p.1 ≠ it) ∧ J i m' news' ∧ i ≤ n ∧ m = n + 1 - i := by
      rintro ⟨h₃', tk₃, m₂, news₂, rfl, F₃, N₃', hn₃, hJ₃⟩
      refine ⟨n + 1 - (i + 1), by omega, h₃', tk₃, m₂, news₂, i + 1, rfl, ?_, F₃, fun p hp => N₃' p (.tail _ (.tail _ hp)), hn₃, hJ₃, hlt, rfl⟩
      refine W.frame _ _ _ hst₅ fun b hb ob x => ?_
      rcases List.mem_cons.mp hb with rfl | hb
      · rw [ho1] at x; cases x; exact (N₃' _ (.head _)).1
      · rw [List.mem_singleton.mp hb] at x ⊢
        rw [ho2] at x; cases x; exact (N₃' _ (.tail _ (.head _))).1
    cases f with
    | ret v => exact h₃
    | brk => exact h₃
    | cont => exact fin h₃
    | next => exact fin h₃
  · have hin : i = n := by omega
    subst hin
    refine W.done _ _ _ hst' fun h₁ tk₁ hk₁ => wpAny_execs_nil ?_
    obtain ⟨F₁, N₁⟩ := next h₁ hk₁
    exact done h₁ tk₁ m' news' F₁ N₁ hJ

/-- for xi, xc in enumerate(text) -/
theorem for_enum {xi xc : Str} {pk pv pt : Pos} {x1 : Nat} {body : List Stmt} {x : Str} {t : Tok} {m₀ : Str → Option Value} {news : List (Addr × Obj)}
    (J : Nat → (Str → Option Value) → List (Addr × Obj) → Prop)
    (hh : A.handled = none) (F : Fr h₀ env.locals s.heap m₀) (N : News h₀ env.locals s.heap news) (hj : J 0 m₀ news)
    (hxi : env.kindOf xi = some .local) (hxc : env.kindOf xc = some .local) (hp : (env.scope.kind == .class || (env.scope.kind == .module && env.locals != env.globals)) = false)
    (turn : ∀ e it i c ti u m₁ news₁ h tk o1 o2, x.cps[i]? = some c → J i m₁ news₁ → (∀ p ∈ news₁, p.1 ≠ e ∧ p.1 ≠ it) → Fr h₀ env.locals h (fun y => if y = xc then some (.str ⟨#[c]⟩ u) else if y = xi then some (.int (i : Nat) ti) else m₁ y) → News h₀ env.locals h ((e, o1) :: (it, o2) :: news₁) →
      wpAny (model prog w) A (execs body env) (TurnEnd2 Q s h₀ env.locals e it o1 o2 (J (i + 1))) NoErr { s with heap := h, toks := tk })
    (done : ∀ h tk m' news', Fr h₀ env.locals h m' → News h₀ env.locals h news' → J x.length m' news' → Q .next { s with heap := h, toks := tk }) :
    wpAny (model prog w) A (call (.type "enumerate") [.str x t]) (fun xv s₁ => Hold (ForAt prog w A env (.Tuple [.Name xi pk, .Name xc pv] x1 pt) body Q E xv s₁)) E s := by
  have hL := F.ns.lt
  refine call_enumerate_str fun h' he hi hsz hk => ?_
  refine Hold.mk ?_
  unfold ForAt
  refine wpAny_pyIter_enum he ?_
  have hlen : x.cps.size = x.length := rfl
  have hei : s.heap.objs.size + 1 ≠ s.heap.objs.size := by omega
  have hnew : ∀ b, s.heap.objs.size ≤ b → h₀.get? b = none := fun b hb => Heap.get?_none_of_le (Nat.le_trans (Nat.le_of_lt (Nat.lt_of_le_of_lt F.above hL)) hb)
  have F' : Fr h₀ env.locals h' m₀ := ⟨F.ns.at' fun o e => hk _ o e, fun b o e => hk b o (F.keep b o e), F.above⟩
  have N' : News h₀ env.locals h' news := fun p hp => ⟨hk _ _ (N p hp).1, (N p hp).2⟩
  have main : ∀ {ty : String} (D : Draws prog w A.in1 s.heap.objs.size [s.heap.objs.size] x.cps.size (fun i v => ∃ c u, x.cps[i]? = some c ∧ v = .str ⟨#[c]⟩ u) (fun i h => h.IsStrIter s.heap.objs.size ty x t i)),
      h'.IsStrIter s.heap.objs.size ty x t 0 →
      codeAny (model prog w) A (.forLoop (.Tuple [.Name xi pk, .Name xc pv] x1 pt) (.ref (s.heap.objs.size + 1)) body [] env) (fun r s' => match r with | .ok f => Q f s' | .error e => cameBackBy (model prog w) A env E e s') { s with heap := h' } := by
    intro ty D hi
    have W := WalksT.enumerateD D (s.heap.objs.size + 1) hei (by simp) (by simp)
    refine for_walk2 (s := { s with heap := h' }) (P2 := fun i v0 v1 => ∃ c ti u, x.cps[i]? = some c ∧ v0 = .int (i : Nat) ti ∧ v1 = .str ⟨#[c]⟩ u) W ?_ ?_ J hh (Nat.ne_of_lt (Nat.lt_succ_of_lt hL)) (Nat.ne_of_lt hL) (hnew _ (Nat.le_succ _)) (hnew _ (Nat.le_refl _)) ⟨⟨_, he⟩, hi⟩ F' N' ?_ hj hxi hxc hp ?_ ?_
    · rintro i vals ⟨ti, v, ⟨c, u, hc, rfl⟩, rfl⟩
      exact ⟨_, _, rfl, c, ti, u, hc, rfl, rfl⟩
    · rintro i h ⟨⟨old, h1⟩, ⟨o, ho, _⟩⟩
      exact ⟨⟨_, h1⟩, ⟨o, ho⟩⟩
    · intro p hp
      have hlt : p.1 < s.heap.objs.size := Heap.lt_size (N p hp).1
      exact ⟨Nat.ne_of_lt (Nat.lt_succ_of_lt hlt), Nat.ne_of_lt hlt⟩
    · rintro i v0 v1 m₁ news₁ h tk o1 o2 hi ⟨c, ti, u, hc, rfl, rfl⟩ hJ hn F₁ N₁
      exact turn _ _ i c ti u m₁ news₁ h tk o1 o2 hc hJ hn F₁ N₁
    · intro h tk m' news' F₁ N₁ hJ
      exact done h tk m' news' F₁ N₁ hJ
  by_cases ha : x.cps.all (· < 128) = true
  · have e : strIterType x = "str_ascii_iterator" := by unfold strIterType; rw [if_pos ha]
    rw [e] at hi
    exact main (Draws.strAscii (A := A.in1) hh _ x t) hi
  · have e : strIterType x = "str_iterator" := by unfold strIterType; rw [if_neg ha]
    rw [e] at hi
    exact main (Draws.strWide (A := A.in1) hh _ x t) hi
end
end Mine
end
section
-- Tx1
open PySem PySem.W PyProof.Rows PySem.Calls PySem.Builtin PySem.Builtin.Str
set_option Elab.async false
namespace Mine
abbrev Lx (x : Str) : List Nat := x.cps.toList
theorem Lx_len (x : Str) : (Lx x).length = x.length := by simp [Str.length]
theorem Lx_app (x y : Str) : Lx (x ++ y) = Lx x ++ Lx y := by
  show (x.cps ++ y.cps).toList = _
  simp
theorem Lx_ext {x y : Str} (h : Lx x = Lx y) : x = y := by
  apply Str.ext'
  exact Array.toList_inj.mp h
theorem Lx_mk (l : List Nat) : Lx ⟨l.toArray⟩ = l := by simp [Lx]
theorem clipIdx (a b n : Nat) : strSliceIndices (some (a : Int)) (some (b : Int)) 1 n = strSliceIndices (some ((min a n : Nat) : Int)) (some ((min b n : Nat) : Int)) 1 n := by
  have h1 : ¬ ((a : Int) < 0) := by omega
  have h2 : ¬ ((b : Int) < 0) := by omega
  have h3 : ¬ (((min a n : Nat) : Int) < 0) := by omega
  have h4 : ¬ (((min b n : Nat) : Int) < 0) := by omega
  have h5 : (1 : Int) > 0 := by decide
  have e1 : min (a : Int) (n : Int) = ((min a n : Nat) : Int) := by omega
  have e2 : min (b : Int) (n : Int) = ((min b n : Nat) : Int) := by omega
  have e3 : min ((min a n : Nat) : Int) (n : Int) = ((min a n : Nat) : Int) := by omega
  have e4 : min ((min b n : Nat) : Int) (n : Int) = ((min b n : Nat) : Int) := by omega
  simp only [strSliceIndices, h1, h2, h3, h4, h5, if_false, if_true, e1, e2, e3, e4]
theorem slice_text (x : Str) (l u : Option Int) : Txt.slice x l u = StrLaws.sliceText x l u := rfl
theorem slice_ab (x : Str) {a b : Nat} (h : a ≤ b) : Lx (Txt.slice x (some (a : Int)) (some (b : Int))) = ((Lx x).drop a).take (b - a) := by
  have e : Txt.slice x (some (a : Int)) (some (b : Int)) = StrLaws.sliceText x (some ((min a x.length : Nat) : Int)) (some ((min b x.length : Nat) : Int)) := by
    rw [slice_text]; unfold StrLaws.sliceText; rw [clipIdx]
  rw [e, StrLaws.sliceText_nat x (by omega) (by omega), Lx_mk]
  have hl := Lx_len x
  rcases Nat.le_total a x.length with ha | ha
  · rw [Nat.min_eq_left ha]
    rcases Nat.le_total b x.length with hb | hb
    · rw [Nat.min_eq_left hb]
    · rw [Nat.min_eq_right hb, List.take_of_length_le (by rw [List.length_drop, hl]; omega), List.take_of_length_le (by rw [List.length_drop, hl]; omega)]
  · rw [Nat.min_eq_right ha, List.drop_of_length_le (by rw [hl]; omega), List.drop_of_length_le (by rw [hl]; omega)]
    simp
theorem slice_b (x : Str) (b : Nat) : Lx (Txt.slice x none (some (b : Int))) = (Lx x).take b := by
  have e : Txt.slice x none (some (b : Int)) = Txt.slice x (some ((0 : Nat) : Int)) (some (b : Int)) := by
    rw [slice_text, slice_text]; unfold StrLaws.sliceText; rw [StrLaws.sliceIdx_none_lo]; rfl
  rw [e, slice_ab x (Nat.zero_le _)]
  simp
theorem slice_a (x : Str) (a : Nat) : Lx (Txt.slice x (some (a : Int)) none) = (Lx x).drop a := by
  have e : Txt.slice x (some (a : Int)) none = StrLaws.sliceText x (some ((min a x.length : Nat) : Int)) (some ((min x.length x.length : Nat) : Int)) := by
    rw [slice_text]; unfold StrLaws.sliceText; rw [StrLaws.sliceIdx_none_hi, clipIdx]
  rw [e, StrLaws.sliceText_nat x (by omega) (by omega), Lx_mk]
  have hl := Lx_len x
  rw [Nat.min_self, List.take_of_length_le (by rw [List.length_drop, hl]; omega)]
  rcases Nat.le_total a x.length with ha | ha
  · rw [Nat.min_eq_left ha]
  · rw [Nat.min_eq_right ha, List.drop_of_length_le (by rw [hl]; omega), List.drop_of_length_le (by rw [hl]; omega)]
theorem q34' : Str.ofString "\"" = ⟨#[34]⟩ := by decide +kernel
theorem one_is {ch c : Nat} : ((⟨#[ch]⟩ : Str) == ⟨#[c]⟩) = decide (ch = c) := by
  by_cases e : ch = c
  · subst e; rw [decide_eq_true rfl]; exact beq_self_eq_true _
  · rw [decide_eq_false e]
    refine beq_eq_false_iff_ne.mpr fun q => e ?_
    have := congrArg (fun z : Str => z.cps.toList) q
    simpa using this
theorem one_q {ch : Nat} : ((⟨#[ch]⟩ : Str) == Str.ofString "\"") = decide (ch = 34) := by rw [q34']; exact one_is
theorem drop_at {k : Str} {p ch : Nat} (h : k.cps[p]? = some ch) : (Lx k).drop p = ch :: (Lx k).drop (p + 1) := by
  have h' : (Lx k)[p]? = some ch := by simpa [Lx] using h
  obtain ⟨hlt, hget⟩ := List.getElem?_eq_some_iff.mp h'
  rw [List.drop_eq_getElem_cons hlt, hget]
end Mine
end
section
-- LP
open PySem PySem.W PyProof.Rows PySem.Calls
set_option Elab.async false
set_option maxRecDepth 100000
namespace Mine
section
variable {prog : Program} {w : World} {A : Around} {E : Value → Shared → Prop} {s : Shared} {env : Env} {Q : Flow → Shared → Prop} {h₀ : Heap}
/-- a for over a list of pairs, all of them the ledger's -/
theorem for_pairs {xi xc : Str} {pk pv pt : Pos} {x1 : Nat} {body : List Stmt} {l : Addr} {vs : List Value} {nn : Nat} {m₀ : Str → Option Value} {news : List (Addr × Obj)} {P2 : Nat → Value → Value → Prop}
    (J : Nat → (Str → Option Value) → List (Addr × Obj) → Prop) (hJC : ∀ i m nx, J i m nx → (l, listOf vs.toArray nn) ∈ nx)
    (hT : ∀ i m nx v, J i m nx → vs[i]? = some v → ∃ T o v0 v1, v = .ref T ∧ (T, o) ∈ nx ∧ o.cls = .type "tuple" ∧ (∃ k, o.data = .seq #[v0, v1] k) ∧ P2 i v0 v1)
    (hh : A.handled = none) (F : Fr h₀ env.locals s.heap m₀) (N : News h₀ env.locals s.heap news) (hj : J 0 m₀ news)
    (hxi : env.kindOf xi = some .local) (hxc : env.kindOf xc = some .local) (hp : (env.scope.kind == .class || (env.scope.kind == .module && env.locals != env.globals)) = false)
    (turn : ∀ I i v0 v1 m₁ news₁ h tk o, i < vs.length → P2 i v0 v1 → J i m₁ news₁ → (∀ p ∈ news₁, p.1 ≠ I) → Fr h₀ env.locals h (fun y => if y = xc then some v1 else if y = xi then some v0 else m₁ y) → News h₀ env.locals h ((I, o) :: news₁) →
      wpAny (model prog w) A (execs body env) (TurnEnd Q s h₀ env.locals I o (J (i + 1))) NoErr { s with heap := h, toks := tk })
    (done : ∀ h tk m' news', Fr h₀ env.locals h m' → News h₀ env.locals h news' → J vs.length m' news' → Q .next { s with heap := h, toks := tk }) :
    ForAt prog w A env (.Tuple [.Name xi pk, .Name xc pv] x1 pt) body Q E (.ref l) s := by
  have hl := hJC _ _ _ hj
  have hol : s.heap.get? l = some (listOf vs.toArray nn) := (N _ hl).1
  have hls : s.heap.IsList l vs.toArray := ⟨_, hol, rfl, nn, rfl⟩
  have hne : l ≠ s.heap.objs.size := Nat.ne_of_lt (Heap.lt_size hol)
  unfold ForAt
  refine wpAny_pyIter_list hls ?_
  have W := Walks.list (prog := prog) (w := w) hh s.heap.objs.size l hne vs.toArray
  have hlen : vs.toArray.size = vs.length := by simp
  rw [hlen] at W
  have hI0 : h₀.get? s.heap.objs.size = none := next_is_new F
  have hIL : env.locals ≠ s.heap.objs.size := Nat.ne_of_lt F.ns.lt
  have hLl : env.locals ≠ l := fun q => (N _ hl).2.1 q.symm
  have hLf : env.locals ∉ [s.heap.objs.size, l] := by simp [hIL, hLl]
  refine codeAny_forLoop_any
    (fun k s' => ∃ h' tk m' news' i, s' = { s with heap := h', toks := tk } ∧ (h'.IsListIter s.heap.objs.size l i ∧ h'.IsList l vs.toArray) ∧ Fr h₀ env.locals h' m' ∧ News h₀ env.locals h' news' ∧ (∀ p ∈ news', p.1 ≠ s.heap.objs.size) ∧ J i m' news' ∧ i ≤ vs.length ∧ k = vs.length + 1 - i) ?_ (vs.length + 1)
    ⟨_, s.toks, m₀, news, 0, rfl, ⟨⟨_, Heap.get?_push_size _ rfl, rfl, rfl⟩, hls.at fun o e => Heap.get?_push_of_some _ e⟩, F.push _, fun p hp => ⟨Heap.get?_push_of_some _ (N p hp).1, (N p hp).2⟩, fun p hp q => absurd (Heap.lt_size (N p hp).1) (by rw [q]; exact Nat.lt_irrefl _), hj, Nat.zero_le _, rfl⟩
  rintro k s' ⟨H, tk, m', news', i, rfl, hst', F', N', hnI', hJ, hi, rfl⟩
  have next : ∀ h₁ : Heap, (∀ b o, b ∉ [s.heap.objs.size] → H.get? b = some o → h₁.get? b = some o) → Fr h₀ env.locals h₁ m' ∧ News h₀ env.locals h₁ news' := fun h₁ hk₁ =>
    ⟨⟨F'.ns.at' fun o e => hk₁ _ o (by simpa using hIL) e, fun b o e => hk₁ b o (by intro q; rw [List.mem_singleton.mp q, hI0] at e; cases e) (F'.keep b o e), F'.above⟩, fun p hp => ⟨hk₁ _ _ (by simpa using hnI' p hp) (N' p hp).1, (N' p hp).2⟩⟩
  by_cases hlt : i < vs.length
  · refine W.item i _ _ _ hlt hst' fun v h₁ tk₁ hP hst₁ hk₁ => ?_
    obtain ⟨F₁, N₁⟩ := next h₁ hk₁
    obtain ⟨T, oT, v0, v1, rfl, hTm, hTc, ⟨kT, hTd⟩, hP2⟩ := hT i m' news' v hJ (by simpa using hP)
    have ht₁ : h₁.IsTuple T #[v0, v1] := ⟨_, (N₁ _ hTm).1, hTc, kT, hTd⟩
    refine wpAny_letOwnedTupleGo_listiter hst₁.1 ?_
    refine wpAny_assign_Tuple hh ht₁ rfl rfl fun h₃ hx₃ => ?_
    replace hx₃ : Heap.ExtBut h₁.objs.size h₁ h₃ := hx₃
    have up₃ : ∀ b o, h₁.get? b = some o → h₃.get? b = some o := fun b o x => hx₃ b o (Nat.ne_of_lt (Heap.lt_size x)) x
    obtain ⟨F₃, N₃⟩ := next h₃ fun b o hb x => up₃ b o (hk₁ b o hb x)
    show wpAny _ A (do holding [v1] (assign (.Name xi pk) env v0); do holding [] (assign (.Name xc pv) env v1); pure ()) _ _ _
    refine wpAny_bind (wpAny_holding (wpAny_assign_Name (wpAny_storeName_local hxi F₃.ns (fun h₄ hn₄ hs₄ => ?_) hp)))
    replace hs₄ : Heap.SameBut env.locals h₃ h₄ := hs₄
    have F₄ := F₃.set hn₄ hs₄
    refine wpAny_bind (wpAny_holding (wpAny_assign_Name (wpAny_storeName_local hxc F₄.ns (fun h₅ hn₅ hs₅ => wpAny_pure ?_) hp)))
    replace hs₅ : Heap.SameBut env.locals h₄ h₅ := hs₅
    have F₅ := F₄.set hn₅ hs₅
    have N₅ : News h₀ env.locals h₅ news' := (N₃.set hs₄).set hs₅
    have hst₅ := W.frame _ _ h₅ hst₁ fun b hb o x => hs₅.extBut b o (fun q => hLf (q ▸ hb)) (hs₄.extBut b o (fun q => hLf (q ▸ hb)) (up₃ b o x))
    obtain ⟨o, ho, _⟩ := id hst₅.1
    have N₆ : News h₀ env.locals h₅ ((s.heap.objs.size, o) :: news') := fun p hp => by
      rcases List.mem_cons.mp hp with rfl | hp
      · exact ⟨ho, fun q => hIL q.symm, hI0⟩
      · exact N₅ p hp
    refine wpAny_mono (turn _ i v0 v1 m' news' h₅ _ o hlt hP2 hJ hnI' F₅ N₆) (fun f s₃ h₃ => ?_) fun _ _ e => e.elim
    have fin : (∃ h' tk' m₂ news₂, s₃ = { s with heap := h', toks := tk' } ∧ Fr h₀ env.locals h' m₂ ∧ News h₀ env.locals h' ((s.heap.objs.size, o) :: news₂) ∧ (∀ p ∈ news₂, p.1 ≠ s.heap.objs.size) ∧ J (i + 1) m₂ news₂) →
        ∃ m, m < vs.length + 1 - i ∧ ∃ h' tk m' news' i, s₃ = { s with heap := h', toks := tk } ∧ (h'.IsListIter s.heap.objs.size l i ∧ h'.IsList l vs.toArray) ∧ Fr h₀ env.locals h' m' ∧ News h₀ env.locals h' news' ∧ (∀ p ∈ news', p.1 ≠ s.heap.objs.size) ∧ J i m' news' ∧ i ≤ vs.length ∧ m = vs.length + 1 - i := by
      rintro ⟨h₃', tk₃, m₂, news₂, rfl, F₃, N₃', hn₃, hJ₃⟩
      refine ⟨vs.length + 1 - (i + 1), by omega, h₃', tk₃, m₂, news₂, i + 1, rfl, ?_, F₃, fun p hp => N₃' p (.tail _ hp), hn₃, hJ₃, hlt, rfl⟩
      obtain ⟨oz, hoz, hcz, hdz⟩ := hst₅.1
      rw [ho] at hoz; cases hoz
      exact ⟨⟨_, (N₃' _ (.head _)).1, hcz, hdz⟩, ⟨_, (N₃' _ (.tail _ (hJC _ _ _ hJ₃))).1, rfl, nn, rfl⟩⟩
    cases f with
    | ret v => exact h₃
    | brk => exact h₃
    | cont => exact fin h₃
    | next => exact fin h₃
  · have hin : i = vs.length := by omega
    subst hin
    refine W.done _ _ _ hst' fun h₁ tk₁ hk₁ => wpAny_execs_nil ?_
    obtain ⟨F₁, N₁⟩ := next h₁ hk₁
    exact done h₁ tk₁ m' news' F₁ N₁ hJ
theorem for_pairsC {xi xc : Str} {pk pv pt : Pos} {x1 : Nat} {body : List Stmt} {l : Addr} {vs : List Value} {nn : Nat} {m₀ : Str → Option Value} {news : List (Addr × Obj)} {P2 : Nat → Value → Value → Prop}
    (Jm : (Str → Option Value) → Prop) (hl : (l, listOf vs.toArray nn) ∈ news)
    (hh : A.handled = none) (F : Fr h₀ env.locals s.heap m₀) (N : News h₀ env.locals s.heap news) (hj : Jm m₀)
    (hT : ∀ i v, vs[i]? = some v → ∃ T o v0 v1, v = .ref T ∧ (T, o) ∈ news ∧ o.cls = .type "tuple" ∧ (∃ k, o.data = .seq #[v0, v1] k) ∧ P2 i v0 v1)
    (hxi : env.kindOf xi = some .local) (hxc : env.kindOf xc = some .local) (hp : (env.scope.kind == .class || (env.scope.kind == .module && env.locals != env.globals)) = false)
    (turn : ∀ I i v0 v1 m₁ h tk o, P2 i v0 v1 → Jm m₁ → (∀ p ∈ news, p.1 ≠ I) → Fr h₀ env.locals h (fun y => if y = xc then some v1 else if y = xi then some v0 else m₁ y) → News h₀ env.locals h ((I, o) :: news) →
      wpAny (model prog w) A (execs body env) (TurnEnd Q s h₀ env.locals I o (fun m' nx => nx = news ∧ Jm m')) NoErr { s with heap := h, toks := tk })
    (done : ∀ h tk m', Fr h₀ env.locals h m' → News h₀ env.locals h news → Jm m' → Q .next { s with heap := h, toks := tk }) :
    ForAt prog w A env (.Tuple [.Name xi pk, .Name xc pv] x1 pt) body Q E (.ref l) s := by
  refine for_pairs (P2 := P2) (vs := vs) (nn := nn) (fun _ m' nx => nx = news ∧ Jm m') ?_ ?_ hh F N ⟨rfl, hj⟩ hxi hxc hp ?_ ?_
  · rintro i m nx ⟨rfl, _⟩; exact hl
  · rintro i m nx v ⟨rfl, _⟩ hv; exact hT i v hv
  · rintro I i v0 v1 m₁ nx h tk o _ hP ⟨rfl, hjm⟩ hI F₁ N₁
    exact turn I i v0 v1 m₁ h tk o hP hjm hI F₁ N₁
  · rintro h tk m' nx F₁ N₁ ⟨rfl, hjm⟩
    exact done h tk m' F₁ N₁ hjm
end
end Mine
end
section
-- LO
open PySem PySem.W PyProof.Rows PySem.Calls
set_option Elab.async false
set_option maxRecDepth 100000
namespace Mine
section
variable {prog : Program} {w : World} {A : Around} {E : Value → Shared → Prop} {s : Shared} {env : Env} {Q : Flow → Shared → Prop} {h₀ : Heap}
/-- for_list, the turn's own predicates out of sight -/
theorem for_listO {x : Str} {px : Pos} {body : List Stmt} {l : Addr} {vs : List Value} {nn : Nat} {m₀ : Str → Option Value} {news : List (Addr × Obj)}
    (J : Nat → (Str → Option Value) → List (Addr × Obj) → Prop) (hJC : ∀ i m nx, J i m nx → (l, listOf vs.toArray nn) ∈ nx)
    (hh : A.handled = none) (F : Fr h₀ env.locals s.heap m₀) (N : News h₀ env.locals s.heap news) (hj : J 0 m₀ news)
    (hx : env.kindOf x = some .local) (hp : (env.scope.kind == .class || (env.scope.kind == .module && env.locals != env.globals)) = false)
    (turn : ∀ (J' : Nat → (Str → Option Value) → List (Addr × Obj) → Prop) (Q' : Flow → Shared → Prop), J' = J → (∀ f s', Q f s' → Q' f s') → ∀ (I : Addr) (i : Nat) (v : Value) (m₁ : Str → Option Value) (news₁ : List (Addr × Obj)) (h : Heap) (tk : Nat) (o : Obj), vs[i]? = some v → J i m₁ news₁ → (∀ p ∈ news₁, p.1 ≠ I) → Fr h₀ env.locals h (fun y => if y = x then some v else m₁ y) → News h₀ env.locals h ((I, o) :: news₁) →
      wpAny (model prog w) A (execs body env) (TurnEnd Q' s h₀ env.locals I o (J' (i + 1))) NoErr { s with heap := h, toks := tk })
    (done : ∀ h tk m' news', Fr h₀ env.locals h m' → News h₀ env.locals h news' → J vs.length m' news' → Q .next { s with heap := h, toks := tk }) :
    ForAt prog w A env (.Name x px) body Q E (.ref l) s := for_list J hJC hh F N hj hx hp (turn J Q rfl fun _ _ x => x) done
theorem for_rangeO {x : Str} {px : Pos} {body : List Stmt} {r : Addr} {n : Nat} {t u v : Tok} {m₀ : Str → Option Value} {news : List (Addr × Obj)}
    (J : Nat → (Str → Option Value) → List (Addr × Obj) → Prop) (hr : IsRange s.heap r 0 n 1 t u v) (hsmall : Builtin.Range.small 0 n 1 = true) (hn : Builtin.Range.rangeSize 0 n 1 = (n : Int))
    (hh : A.handled = none) (F : Fr h₀ env.locals s.heap m₀) (N : News h₀ env.locals s.heap news) (hj : J 0 m₀ news)
    (hx : env.kindOf x = some .local) (hp : (env.scope.kind == .class || (env.scope.kind == .module && env.locals != env.globals)) = false)
    (turn : ∀ (J' : Nat → (Str → Option Value) → List (Addr × Obj) → Prop) (Q' : Flow → Shared → Prop), J' = J → (∀ f s', Q f s' → Q' f s') → ∀ (I : Addr) (i : Nat) (tk' : Tok) (m₁ : Str → Option Value) (news₁ : List (Addr × Obj)) (h : Heap) (tk : Nat) (o : Obj), i < n → J i m₁ news₁ → (∀ p ∈ news₁, p.1 ≠ I) → Fr h₀ env.locals h (fun y => if y = x then some (.int (i : Nat) tk') else m₁ y) → News h₀ env.locals h ((I, o) :: news₁) →
      wpAny (model prog w) A (execs body env) (TurnEnd Q' s h₀ env.locals I o (J' (i + 1))) NoErr { s with heap := h, toks := tk })
    (done : ∀ h tk m' news', Fr h₀ env.locals h m' → News h₀ env.locals h news' → J n m' news' → Q .next { s with heap := h, toks := tk }) :
    ForAt prog w A env (.Name x px) body Q E (.ref r) s := for_range J hr hsmall hn hh F N hj hx hp (turn J Q rfl fun _ _ x => x) done
/-- a for over a list, the ledger the same at each turn's end -/
theorem for_listCO {x : Str} {px : Pos} {body : List Stmt} {l : Addr} {vs : List Value} {nn : Nat} {m₀ : Str → Option Value} {news : List (Addr × Obj)}
    (Jm : (Str → Option Value) → Prop) (hl : (l, listOf vs.toArray nn) ∈ news)
    (hh : A.handled = none) (F : Fr h₀ env.locals s.heap m₀) (N : News h₀ env.locals s.heap news) (hj : Jm m₀)
    (hx : env.kindOf x = some .local) (hp : (env.scope.kind == .class || (env.scope.kind == .module && env.locals != env.globals)) = false)
    (turn : ∀ (J' : (Str → Option Value) → List (Addr × Obj) → Prop) (Q' : Flow → Shared → Prop), (∀ m', Jm m' → J' m' news) → (∀ f s', Q f s' → Q' f s') → ∀ (I : Addr) (i : Nat) (v : Value) (m₁ : Str → Option Value) (h : Heap) (tk : Nat) (o : Obj), vs[i]? = some v → Jm m₁ → (∀ p ∈ news, p.1 ≠ I) → Fr h₀ env.locals h (fun y => if y = x then some v else m₁ y) → News h₀ env.locals h ((I, o) :: news) →
      wpAny (model prog w) A (execs body env) (TurnEnd Q' s h₀ env.locals I o J') NoErr { s with heap := h, toks := tk })
    (done : ∀ h tk m', Fr h₀ env.locals h m' → News h₀ env.locals h news → Jm m' → Q .next { s with heap := h, toks := tk }) :
    ForAt prog w A env (.Name x px) body Q E (.ref l) s :=
  for_list (vs := vs) (nn := nn) (fun _ m' nx => nx = news ∧ Jm m') (fun _ _ _ ⟨e, _⟩ => e ▸ hl) hh F N ⟨rfl, hj⟩ hx hp
    (fun I i v m₁ _ h tk o hv ⟨e, hm⟩ hI F8 N8 => by subst e; exact turn (fun m' nx => nx = _ ∧ Jm m') Q (fun _ g => ⟨rfl, g⟩) (fun _ _ q => q) I i v m₁ h tk o hv hm hI F8 N8)
    (fun h tk m' _ F8 N8 ⟨e, hm⟩ => by subst e; exact done h tk m' F8 N8 hm)
theorem for_pairsCO {xi xc : Str} {pk pv pt : Pos} {x1 : Nat} {body : List Stmt} {l : Addr} {vs : List Value} {nn : Nat} {m₀ : Str → Option Value} {news : List (Addr × Obj)} {P2 : Nat → Value → Value → Prop}
    (Jm : (Str → Option Value) → Prop) (hl : (l, listOf vs.toArray nn) ∈ news)
    (hh : A.handled = none) (F : Fr h₀ env.locals s.heap m₀) (N : News h₀ env.locals s.heap news) (hj : Jm m₀)
    (hT : ∀ i v, vs[i]? = some v → ∃ T o v0 v1, v = .ref T ∧ (T, o) ∈ news ∧ o.cls = .type "tuple" ∧ (∃ k, o.data = .seq #[v0, v1] k) ∧ P2 i v0 v1)
    (hxi : env.kindOf xi = some .local) (hxc : env.kindOf xc = some .local) (hp : (env.scope.kind == .class || (env.scope.kind == .module && env.locals != env.globals)) = false)
    (turn : ∀ (J' : (Str → Option Value) → List (Addr × Obj) → Prop) (Q' : Flow → Shared → Prop) (nx : List (Addr × Obj)), (∀ m', Jm m' → J' m' nx) → (∀ f s', Q f s' → Q' f s') → ∀ (I : Addr) (i : Nat) (v0 v1 : Value) (m₁ : Str → Option Value) (h : Heap) (tk : Nat) (o : Obj), P2 i v0 v1 → Jm m₁ → (∀ p ∈ nx, p.1 ≠ I) → Fr h₀ env.locals h (fun y => if y = xc then some v1 else if y = xi then some v0 else m₁ y) → News h₀ env.locals h ((I, o) :: nx) →
      wpAny (model prog w) A (execs body env) (TurnEnd Q' s h₀ env.locals I o J') NoErr { s with heap := h, toks := tk })
    (done : ∀ h tk m', Fr h₀ env.locals h m' → News h₀ env.locals h news → Jm m' → Q .next { s with heap := h, toks := tk }) :
    ForAt prog w A env (.Tuple [.Name xi pk, .Name xc pv] x1 pt) body Q E (.ref l) s :=
  for_pairsC Jm hl hh F N hj hT hxi hxc hp (turn (fun m' nx => nx = news ∧ Jm m') Q news (fun _ g => ⟨rfl, g⟩) fun _ _ q => q) done
theorem for_dictO {x : Str} {px : Pos} {body : List Stmt} {d : Addr} {ob : Obj} {kvs : List (Str × Value)} {m₀ : Str → Option Value} {news : List (Addr × Obj)}
    (J : Nat → (Str → Option Value) → List (Addr × Obj) → Prop) (hd : ob.IsDictOf (PySem.strKind prog w) kvs) (hlo : (d == sysModules) = false) (hJC : ∀ i m nx, J i m nx → (d, ob) ∈ nx)
    (hh : A.handled = none) (F : Fr h₀ env.locals s.heap m₀) (N : News h₀ env.locals s.heap news) (hj : J 0 m₀ news)
    (hx : env.kindOf x = some .local) (hp : (env.scope.kind == .class || (env.scope.kind == .module && env.locals != env.globals)) = false)
    (turn : ∀ (J' : Nat → (Str → Option Value) → List (Addr × Obj) → Prop) (Q' : Flow → Shared → Prop), J' = J → (∀ f s', Q f s' → Q' f s') → ∀ (I : Addr) (i : Nat) (k : Str) (v : Value) (tk' : Tok) (m₁ : Str → Option Value) (news₁ : List (Addr × Obj)) (h : Heap) (tk : Nat) (o : Obj), kvs[i]? = some (k, v) → J i m₁ news₁ → (∀ p ∈ news₁, p.1 ≠ I) → Fr h₀ env.locals h (fun y => if y = x then some (.str k tk') else m₁ y) → News h₀ env.locals h ((I, o) :: news₁) →
      wpAny (model prog w) A (execs body env) (TurnEnd Q' s h₀ env.locals I o (J' (i + 1))) NoErr { s with heap := h, toks := tk })
    (done : ∀ h tk m' news', Fr h₀ env.locals h m' → News h₀ env.locals h news' → J kvs.length m' news' → Q .next { s with heap := h, toks := tk }) :
    ForAt prog w A env (.Name x px) body Q E (.ref d) s := for_dict J hd hlo hJC hh F N hj hx hp (turn J Q rfl fun _ _ x => x) done
theorem for_enumO {xi xc : Str} {pk pv pt : Pos} {x1 : Nat} {body : List Stmt} {x : Str} {t : Tok} {m₀ : Str → Option Value} {news : List (Addr × Obj)}
    (J : Nat → (Str → Option Value) → List (Addr × Obj) → Prop)
    (hh : A.handled = none) (F : Fr h₀ env.locals s.heap m₀) (N : News h₀ env.locals s.heap news) (hj : J 0 m₀ news)
    (hxi : env.kindOf xi = some .local) (hxc : env.kindOf xc = some .local) (hp : (env.scope.kind == .class || (env.scope.kind == .module && env.locals != env.globals)) = false)
    (turn : ∀ (J' : Nat → (Str → Option Value) → List (Addr × Obj) → Prop) (Q' : Flow → Shared → Prop), J' = J → (∀ f s', Q f s' → Q' f s') → ∀ (e it : Addr) (i c : Nat) (ti u : Tok) (m₁ : Str → Option Value) (news₁ : List (Addr × Obj)) (h : Heap) (tk : Nat) (o1 o2 : Obj), x.cps[i]? = some c → J i m₁ news₁ → (∀ p ∈ news₁, p.1 ≠ e ∧ p.1 ≠ it) → Fr h₀ env.locals h (fun y => if y = xc then some (.str ⟨#[c]⟩ u) else if y = xi then some (.int (i : Nat) ti) else m₁ y) → News h₀ env.locals h ((e, o1) :: (it, o2) :: news₁) →
      wpAny (model prog w) A (execs body env) (TurnEnd2 Q' s h₀ env.locals e it o1 o2 (J' (i + 1))) NoErr { s with heap := h, toks := tk })
    (done : ∀ h tk m' news', Fr h₀ env.locals h m' → News h₀ env.locals h news' → J x.length m' news' → Q .next { s with heap := h, toks := tk }) :
    wpAny (model prog w) A (call (.type "enumerate") [.str x t]) (fun xv s₁ => Hold (ForAt prog w A env (.Tuple [.Name xi pk, .Name xc pv] x1 pt) body Q E xv s₁)) E s := for_enum J hh F N hj hxi hxc hp (turn J Q rfl fun _ _ x => x) done
end
end Mine
end
section
-- E1
open PySem PySem.W PyProof.Rows PySem.Calls
set_option Elab.async false
set_option maxRecDepth 100000
set_option maxHeartbeats 4000000
set_option pp.deepTerms false
set_option pp.maxSteps 700
namespace Mine
theorem startE1 : True := by
  w_top off
  exact trivial
local macro_rules | `(tactic| walk_at "no key 0") => `(tactic| skip)
theorem fill : PySem.Challenge.rw_wr0013_01 = PySem.Challenge.rw_wr0013_01 ∧ Mine.hv.heap_1 = Mine.hv.heap_1 := by
  k_fill
  exact ⟨rfl, rfl⟩
theorem c_iseof (w : World) (n : Int) (t : Tok) : Ct w 81 [.int n t] (fun _ => .bool (decide (n = 0))) := by
  intro mean mg mb dp un gd cn cs a ccd cl outer A₀ base h₀ L m news s Q E B F KX N T hk hdp hun hret
  refine wpAny_call ?_
  k_dflt cell_enter
  repeat' (first | (k_unfold; (try dsimp only)) | walk1 | (dsimp only; walk1) | fail "no step")
  exact hret 0 _ _ (by k_asm) (by k_asm)
theorem c_isterm (w : World) (n : Int) (t : Tok) : Ct w 67 [.int n t] (fun _ => .bool (decide (n < 256))) := by
  intro mean mg mb dp un gd cn cs a ccd cl outer A₀ base h₀ L m news s Q E B F KX N T hk hdp hun hret
  refine wpAny_call ?_
  k_dflt cell_enter
  repeat' (first | (k_unfold; (try dsimp only)) | walk1 | (dsimp only; walk1) | fail "no step")
  exact hret 0 _ _ (by k_asm) (by k_asm)
theorem c_isnon (w : World) (n : Int) (t : Tok) : Ct w 74 [.int n t] (fun _ => .bool (decide (256 ≤ n))) := by
  intro mean mg mb dp un gd cn cs a ccd cl outer A₀ base h₀ L m news s Q E B F KX N T hk hdp hun hret
  refine wpAny_call ?_
  k_dflt cell_enter
  repeat' (first | (k_unfold; (try dsimp only)) | walk1 | (dsimp only; walk1) | fail "no step")
  exact hret 0 _ _ (by k_asm) (by k_asm)
end Mine
end
section
-- P1
open PySem PySem.W PyProof.Rows PySem.Calls
set_option Elab.async false
set_option maxRecDepth 100000
set_option maxHeartbeats 4000000
set_option pp.deepTerms false
set_option pp.maxSteps 700
namespace Mine
theorem startP1 : True := by
  w_top off
  exact trivial
local macro_rules | `(tactic| walk_at "no key 0") => `(tactic| skip)
local macro_rules | `(tactic| walk_at "exec While Compare cons nil") => `(tactic| (with_reducible (rename Mine.StopLoops => hstop); refine Mine.Hold.of ?_))
theorem fillP : PySem.Challenge.rw_wr0013_01 = PySem.Challenge.rw_wr0013_01 ∧ Mine.hv.heap_1 = Mine.hv.heap_1 := by
  k_fill
  exact ⟨rfl, rfl⟩
def scan : List Nat → List Nat
  | [] => []
  | [c] => if c = 34 then [] else [c]
  | c :: d :: r => if c = 34 then (if d = 34 then 34 :: scan r else []) else c :: scan (d :: r)
def parseF (x : Str) : Str := if Txt.slice x (some 3) (some 5) != Str.ofString " \"" then Str.ofString "" else ⟨(scan (x.cps.toList.drop 5)).toArray⟩
theorem scan_ne {c : Nat} (h : c ≠ 34) (r : List Nat) : scan (c :: r) = c :: scan r := by
  cases r with
  | nil => simp [scan, h]
  | cons d r => simp [scan, h]
theorem cons_drop {l : List Nat} {i : Nat} (h : i < l.length) : l.drop i = l[i] :: l.drop (i + 1) := List.drop_eq_getElem_cons h
theorem item_of {x : Str} {i : Nat} (h : i < x.length) : Txt.item x (i : Int) = ⟨#[x.cps.toList[i]'(by simpa [Str.length] using h)]⟩ := by
  rw [item_meets ⟨by omega, by omega⟩]
  have h' : i < x.cps.size := h
  simp [h']
theorem item_is {x : Str} {i : Nat} (h : i < x.length) {c : Nat} : (Txt.item x (i : Int) == ⟨#[c]⟩) = decide (x.cps.toList[i]'(by simpa [Str.length] using h) = c) := by
  rw [item_of h]
  by_cases e : x.cps.toList[i]'(by simpa [Str.length] using h) = c
  · rw [decide_eq_true e, e]; exact beq_self_eq_true _
  · rw [decide_eq_false e]
    refine beq_eq_false_iff_ne.mpr fun q => e ?_
    have := congrArg (fun z : Str => z.cps.toList) q
    simpa using this
theorem q34 : Str.ofString "\"" = ⟨#[34]⟩ := by decide +kernel
theorem str_of_list {d : Str} {l : List Nat} (h : d.cps.toList = l) : d = ⟨l.toArray⟩ := by
  cases d; simp only at h; subst h; simp
theorem len_list (x : Str) : x.cps.toList.length = x.length := by simp [Str.length]
theorem app_list (x y : Str) : (x ++ y).cps.toList = x.cps.toList ++ y.cps.toList := by
  show (x.cps ++ y.cps).toList = _
  simp
theorem item_list {x : Str} {i : Nat} (h : i < x.length) : (Txt.item x (i : Int)).cps.toList = [x.cps.toList[i]'(by rw [len_list]; exact h)] := by rw [item_of h]
theorem item_q {x : Str} {i : Nat} (h : i < x.length) : (Txt.item x (i : Int) == Str.ofString "\"") = decide (x.cps.toList[i]'(by rw [len_list]; exact h) = 34) := by
  rw [q34]; exact item_is h
theorem scan_end {x : Str} {i : Nat} (h : (i : Int) < x.length) (hq : (Txt.item x (i : Int) == Str.ofString "\"") = true) (he : (x.length : Int) ≤ i + 1) : scan (x.cps.toList.drop i) = [] := by
  have h1 : i < x.length := by omega
  rw [item_q h1] at hq
  rw [cons_drop (by rw [len_list]; exact h1), of_decide_eq_true hq, List.drop_eq_nil_of_le (by rw [len_list]; omega)]
  rfl
theorem scan_stop {x : Str} {i : Nat} (hq : (Txt.item x (i : Int) == Str.ofString "\"") = true) (he : ¬ (x.length : Int) ≤ i + 1) (hr : (Txt.item x ((i : Int) + 1) != Str.ofString "\"") = true) : scan (x.cps.toList.drop i) = [] := by
  have h1 : i < x.length := by omega
  have h2 : i + 1 < x.length := by omega
  rw [item_q h1] at hq
  have hr' : (Txt.item x ((i + 1 : Nat) : Int) == Str.ofString "\"") = false := by simpa [bne] using hr
  rw [item_q h2] at hr'
  rw [cons_drop (by rw [len_list]; exact h1), cons_drop (by rw [len_list]; exact h2), of_decide_eq_true hq]
  have hn := of_decide_eq_false hr'
  rw [scan, if_pos rfl, if_neg hn]
theorem scan_dbl {x : Str} {i : Nat} (hq : (Txt.item x (i : Int) == Str.ofString "\"") = true) (he : ¬ (x.length : Int) ≤ i + 1) (hr : (Txt.item x ((i : Int) + 1) != Str.ofString "\"") = false) : scan (x.cps.toList.drop i) = (Txt.item x (i : Int)).cps.toList ++ scan (x.cps.toList.drop (i + 2)) := by
  have h1 : i < x.length := by omega
  have h2 : i + 1 < x.length := by omega
  rw [item_list h1]
  rw [item_q h1] at hq
  have hr' : (Txt.item x ((i + 1 : Nat) : Int) == Str.ofString "\"") = true := by simpa [bne] using hr
  rw [item_q h2] at hr'
  rw [cons_drop (by rw [len_list]; exact h1), cons_drop (by rw [len_list]; exact h2), of_decide_eq_true hq, of_decide_eq_true hr']
  simp [scan]
theorem scan_one {x : Str} {i : Nat} (h : (i : Int) < x.length) (hq : (Txt.item x (i : Int) == Str.ofString "\"") = false) : scan (x.cps.toList.drop i) = (Txt.item x (i : Int)).cps.toList ++ scan (x.cps.toList.drop (i + 1)) := by
  have h1 : i < x.length := by omega
  rw [item_list h1]
  rw [item_q h1] at hq
  rw [cons_drop (by rw [len_list]; exact h1), scan_ne (of_decide_eq_false hq)]
  rfl
theorem parse_len {x : Str} (h : (Txt.slice x (some 3) (some 5) != Str.ofString " \"") = false) : 5 ≤ x.length := by
  have e : Txt.slice x (some 3) (some 5) = Str.ofString " \"" := by simpa using h
  have h1 := slice_ab x (a := 3) (b := 5) (by omega)
  rw [show ((3 : Nat) : Int) = 3 from rfl, show ((5 : Nat) : Int) = 5 from rfl, e] at h1
  have h2 := congrArg List.length h1
  rw [show Lx (Str.ofString " \"") = [32, 34] by decide +kernel, List.length_take, List.length_drop, Lx_len] at h2
  simp only [List.length_cons, List.length_nil] at h2
  omega
theorem parse_end {x d : Str} {i : Nat} (hgo : parseF x = ⟨(scan (x.cps.toList.drop 5)).toArray⟩) (hd : d.cps.toList ++ scan (x.cps.toList.drop i) = scan (x.cps.toList.drop 5)) (h : scan (x.cps.toList.drop i) = []) : d = parseF x := by
  rw [h, List.append_nil] at hd
  rw [hgo]; exact str_of_list hd
theorem parse_go {x d y : Str} {i j : Nat} (hd : d.cps.toList ++ scan (x.cps.toList.drop i) = scan (x.cps.toList.drop 5)) (h : scan (x.cps.toList.drop i) = y.cps.toList ++ scan (x.cps.toList.drop j)) :
    (d ++ y).cps.toList ++ scan (x.cps.toList.drop j) = scan (x.cps.toList.drop 5) := by
  rw [app_list, List.append_assoc, ← h, hd]
theorem scan_nil {x : Str} {i : Nat} (h : ¬ (i : Int) < x.length) : scan (x.cps.toList.drop i) = [] := by
  rw [List.drop_eq_nil_of_le (by rw [len_list]; omega)]; rfl
theorem len_app (x y : Str) : (x ++ y).length = x.length + y.length := Str.length_append x y
theorem item_one {x : Str} {i : Nat} (h : (i : Int) < x.length) : (Txt.item x (i : Int)).length = 1 := by
  rw [item_of (by omega)]; rfl
inductive PInv (g1 : Heap) (L1 : Addr) (s : Shared) (news : List (Addr × Obj)) (x : Str) (tx : Tok) (k : Nat) (s' : Shared) : Prop
  | mk (h : Heap) (tk : Nat) (m' : Str → Option Value) (i : Nat) (d : Str) (e : s' = { s with heap := h, toks := tk }) (F : Fr g1 L1 h m') (N : News g1 L1 h news) (m1 : m' (Str.ofString "resp") = some (.str x tx)) (m2 : HasS m' (Str.ofString "dirname") d) (m3 : HasI m' (Str.ofString "i") i) (m4 : HasI m' (Str.ofString "n") x.length)
      (h5 : 5 ≤ i) (hi : i ≤ x.length) (hd : d.cps.toList ++ scan (x.cps.toList.drop i) = scan (x.cps.toList.drop 5)) (hk : k = x.length - i) (hl : d.length ≤ i) : PInv g1 L1 s news x tx k s'
theorem c_parse (w : World) (x : Str) (tx : Tok) (hx : x.length ≤ 1000) (h257 : Txt.slice x none (some 3) = Str.ofString "257") : Ct w 53 [.str x tx] (fun t => .str (parseF x) t) := by
  intro mean mg mb dp un gd cn cs a ccd cl outer A₀ base h₀ L m news s Q E B F KX N T hk hdp hun hret
  have hst : StopLoops := ⟨⟩
  refine wpAny_call ?_
  k_dflt cell_enter
  rename_i g1 L1 h1 FG1 F1 N1 B1 X1 T1
  repeat' (first | (k_unfold; (try dsimp only)) | walk1 | (dsimp only; walk1) | fail "no step")
  · rename (_ != _) = true => hne
    rw [h257] at hne
    exact absurd hne (by decide +kernel)
  · rename (Txt.slice x (some 3) (some 5) != _) = true => hne
    have e : parseF x = Str.ofString "" := by unfold parseF; rw [if_pos hne]
    have h2 := hret
    rw [e] at h2
    exact h2 _ _ _ (by k_asm) (by k_asm)
  · refine Hold.mk ?_
    rename (Txt.slice x (some 3) (some 5) != _) = false => hne
    have hgo : parseF x = ⟨(scan (x.cps.toList.drop 5)).toArray⟩ := by unfold parseF; rw [if_neg (by rw [hne]; decide)]
    have hlen : 5 ≤ x.length := parse_len hne
    with_reducible rename Fr g1 L1 _ _ => F2
    with_reducible rename News g1 L1 _ _ => N2
    refine while_ruleO (PInv g1 L1 s news x tx) (x.length - 5) ?_ ?_
    · refine ⟨_, _, _, 5, Str.ofString "", rfl, F2, N2, rfl, ⟨_, rfl⟩, ⟨_, rfl⟩, ⟨_, rfl⟩, Nat.le_refl _, ?_, ?_, rfl, ?_⟩
      · exact hlen
      · rfl
      · decide +kernel
    · rintro I' Q' eI hQ' k s' ⟨h, tk, m', i, d, rfl, F3, N3, hm1, ⟨td, hm2⟩, ⟨ti, hm3⟩, ⟨tn, hm4⟩, hi5, hi, hd, rfl, hdl⟩
      replace F3 := fr_canon _ F3 (ps4 hm1 hm2 hm3 hm4)
      clear F2 N2
      repeat' (first | (k_unfold; (try dsimp only)) | walk1 | (dsimp only; walk1) | fail "no step")
      all_goals (try dsimp only)
      all_goals refine Hold.mk ?_
      · have e := parse_end hgo hd (scan_end (by assumption) (by assumption) (by assumption))
        refine hQ' _ _ ?_
        repeat' (first | (k_unfold; (try dsimp only)) | walk1 | (dsimp only; walk1) | fail "no step")
        rw [e]; exact hret _ _ _ (by k_asm) (by k_asm)
      · have e := parse_end hgo hd (scan_stop (by assumption) (by assumption) (by assumption))
        refine hQ' _ _ ?_
        repeat' (first | (k_unfold; (try dsimp only)) | walk1 | (dsimp only; walk1) | fail "no step")
        rw [e]; exact hret _ _ _ (by k_asm) (by k_asm)
      · have h1 : (i : Int) < x.length := by assumption
        with_reducible rename Fr g1 L1 _ _ => F9
        with_reducible rename News g1 L1 _ _ => N9
        subst eI
        exact ⟨x.length - (i + 2), by omega, _, _, _, i + 2, _, rfl, F9, N9, rfl, ⟨_, rfl⟩, ⟨_, rfl⟩, ⟨_, rfl⟩, by omega, by omega, parse_go hd (scan_dbl (by assumption) (by assumption) (by assumption)), rfl, by rw [len_app, item_one h1]; omega⟩
      · have h1 : (i : Int) < x.length := by assumption
        with_reducible rename Fr g1 L1 _ _ => F9
        with_reducible rename News g1 L1 _ _ => N9
        subst eI
        exact ⟨x.length - (i + 1), by omega, _, _, _, i + 1, _, rfl, F9, N9, rfl, ⟨_, rfl⟩, ⟨_, rfl⟩, ⟨_, rfl⟩, by omega, by omega, parse_go hd (scan_one h1 (by assumption)), rfl, by rw [len_app, item_one h1]; omega⟩
      · have e := parse_end hgo hd (scan_nil (by assumption))
        refine hQ' _ _ ?_
        repeat' (first | (k_unfold; (try dsimp only)) | walk1 | (dsimp only; walk1) | fail "no step")
        rw [e]; exact hret _ _ _ (by k_asm) (by k_asm)
end Mine
end
section
-- R1
open PySem PySem.W PyProof.Rows PySem.Calls
set_option Elab.async false
set_option maxRecDepth 100000
set_option maxHeartbeats 4000000
set_option pp.deepTerms false
set_option pp.maxSteps 700
namespace Mine
theorem startR1 : True := by
  w_top off
  exact trivial
theorem fillR : PySem.Challenge.rw_wr0013_01 = PySem.Challenge.rw_wr0013_01 ∧ Mine.hv.heap_1 = Mine.hv.heap_1 := by
  k_fill
  exact ⟨rfl, rfl⟩
def replyF (x y : Str) : Str := Str.ofString "257 \"" ++ Txt.replace x (Str.ofString "\"") (Str.ofString "\"\"") ++ y
theorem rep_len (x : Str) : (Txt.replace x (Str.ofString "\"") (Str.ofString "\"\"")).length ≤ x.length + (x.length + 1) * 2 := by
  have h2 : (Str.ofString "\"\"").length = 2 := by decide +kernel
  unfold Txt.replace
  split
  · omega
  · have h1 := StrLaws.occ_length_le x (Str.ofString "\"") 0 x.length (x.length + 1)
    have hy : (Builtin.Str.glued (Str.ofString "\"") (Builtin.Str.partsBetween x (Builtin.Str.occurrences x (Str.ofString "\"") 0 x.length (x.length + 1)) (Str.ofString "\"").length)).length = x.length := by rw [StrLaws.glued_between_self]
    rw [size_glued, length_partsBetween, Nat.add_sub_cancel] at hy
    rw [size_glued, length_partsBetween, Nat.add_sub_cancel, h2]
    omega
theorem c_reply (w : World) (x y : Str) (tx ty : Tok) (hx : x.length ≤ 200) (hy : y.length ≤ 100) : Ct w 88 [.str x tx, .str y ty] (fun t => .str (replyF x y) t) := by
  intro mean mg mb dp un gd cn cs a ccd cl outer A₀ base h₀ L m news s Q E B F KX N T hk hdp hun hret
  refine wpAny_call ?_
  have hl1 := rep_len x
  have hl2 : (Str.ofString "257 \"").length = 5 := by decide +kernel
  k_dflt cell_enter
  repeat' (first | (k_unfold; (try dsimp only)) | walk1 | (dsimp only; walk1) | fail "no step")
  exact hret _ _ _ (by k_asm) (by k_asm)
end Mine
end
section
-- N1
open PySem PySem.W PyProof.Rows PySem.Calls PySem.StrLaws Builtin Builtin.Str
set_option Elab.async false
set_option maxRecDepth 100000
namespace Mine
theorem Ldots : Lx (Str.ofString "...") = [46, 46, 46] := by decide +kernel
theorem ldots : (Str.ofString "...").length = 3 := by decide +kernel
theorem at_iff {x y : Str} {hi k : Nat} : At x y hi k ↔ k + y.length ≤ hi ∧ ((Lx x).drop k).take y.length = Lx y := by
  unfold At
  rw [subAt_eq]
  simp [Lx]
theorem at_dots {x : Str} {k : Nat} : At x (Str.ofString "...") x.length k ↔ ((Lx x).drop k).take 3 = [46, 46, 46] := by
  rw [at_iff, ldots, Ldots]
  refine ⟨fun h => h.2, fun h => ⟨?_, h⟩⟩
  have := congrArg List.length h
  rw [List.length_take, List.length_drop, Lx_len] at this
  simp at this
  omega

/-- a list of codes, cut at three full stops -/
def lsp : List Nat → List Nat → List (List Nat)
  | acc, c :: d :: e :: r => if c = 46 ∧ d = 46 ∧ e = 46 then acc :: lsp [] r else lsp (acc ++ [c]) (d :: e :: r)
  | acc, [c, d] => [acc ++ [c, d]]
  | acc, [c] => [acc ++ [c]]
  | acc, [] => [acc]
theorem lsp_short {acc l : List Nat} (h : l.length ≤ 2) : lsp acc l = [acc ++ l] := by
  match l, h with
  | [], _ => simp [lsp]
  | [c], _ => simp [lsp]
  | [c, d], _ => simp [lsp]
theorem lsp_dots (acc r : List Nat) : lsp acc (46 :: 46 :: 46 :: r) = acc :: lsp [] r := by
  rw [lsp, if_pos ⟨rfl, rfl, rfl⟩]
theorem lsp_step {acc l : List Nat} {c : Nat} (h : (c :: l).take 3 ≠ [46, 46, 46]) : lsp acc (c :: l) = lsp (acc ++ [c]) l := by
  match l, h with
  | [], _ => simp [lsp]
  | [d], _ => simp [lsp]
  | d :: e :: r, h =>
    rw [lsp, if_neg]
    rintro ⟨rfl, rfl, rfl⟩
    exact h rfl
theorem lsp_skip : ∀ (m : Nat) (acc l : List Nat), (∀ j < m, (l.drop j).take 3 ≠ [46, 46, 46]) → m ≤ l.length → lsp acc l = lsp (acc ++ l.take m) (l.drop m)
  | 0, acc, l, _, _ => by simp
  | m + 1, acc, [], _, h => by simp at h
  | m + 1, acc, c :: l, h, hl => by
    rw [lsp_step (h 0 (by omega)), lsp_skip m _ l (fun j hj => h (j + 1) (by omega)) (by simpa using hl)]
    simp
theorem lsp_len : ∀ (n : Nat) (acc l : List Nat), l.length ≤ n → (lsp acc l).length ≤ l.length + 1
  | n, acc, [], _ => by simp [lsp]
  | n, acc, [c], _ => by simp [lsp]
  | n, acc, [c, d], _ => by simp [lsp]
  | 0, acc, c :: d :: e :: r, h => by simp at h
  | n + 1, acc, c :: d :: e :: r, h => by
    simp only [List.length_cons] at h ⊢
    rw [lsp]
    split
    · have := lsp_len n [] r (by omega)
      simp only [List.length_cons]; omega
    · have := lsp_len n (acc ++ [c]) (d :: e :: r) (by simp only [List.length_cons]; omega)
      simp only [List.length_cons] at this; omega
theorem lsp_ne (acc l : List Nat) : lsp acc l ≠ [] := by
  match l with
  | [] => simp [lsp]
  | [c] => simp [lsp]
  | [c, d] => simp [lsp]
  | c :: d :: e :: r =>
    rw [lsp]
    split
    · simp
    · exact lsp_ne (acc ++ [c]) (d :: e :: r)
termination_by l.length

theorem parts_lsp (x : Str) : ∀ (cuts : List Nat) (a f : Nat), a ≤ x.length → ChainG x (Str.ofString "...") x.length a cuts f → (∀ k, f ≤ k → ¬ At x (Str.ofString "...") x.length k) → (partsFrom x 3 a cuts).map Lx = lsp [] ((Lx x).drop a)
  | [], a, f, ha, hc, hn => by
    obtain rfl : f = a := hc
    have h1 := lsp_skip ((Lx x).drop f).length [] ((Lx x).drop f) (fun j _ => by
      rw [List.drop_drop]; exact fun q => hn (f + j) (by omega) (at_dots.mpr q)) (Nat.le_refl _)
    rw [h1, List.take_length, List.drop_length, List.nil_append]
    simp only [partsFrom, List.map_cons, List.map_nil, lsp]
    congr 1
    show (strSub x f x.length).cps.toList = _
    rw [strSub_toList, List.take_of_length_le (by rw [List.length_drop]; exact Nat.le_of_eq (by rw [← Lx_len]))]
  | c :: r, a, f, ha, hc, hn => by
    obtain ⟨hac, hat, htight, hrest⟩ := hc
    rw [ldots] at hrest
    have hcl := hat.1
    rw [ldots] at hcl
    have h1 := lsp_skip (c - a) [] ((Lx x).drop a) (fun j hj => by
      rw [List.drop_drop]; exact fun q => htight (a + j) (by omega) (by omega) (at_dots.mpr q)) (by rw [List.length_drop, Lx_len]; omega)
    have h2 := at_dots.mp hat
    have h3 : (Lx x).drop c = 46 :: 46 :: 46 :: (Lx x).drop (c + 3) := by
      rw [← List.take_append_drop 3 ((Lx x).drop c), h2, List.drop_drop]; rfl
    rw [h1, List.drop_drop, show a + (c - a) = c by omega, h3, lsp_dots, List.nil_append]
    simp only [partsFrom, List.map_cons]
    rw [parts_lsp x r (c + 3) f hcl hrest hn]
    congr 1
    show (strSub x a c).cps.toList = _
    rw [strSub_toList]
theorem kind_dots (x : Str) : ¬ (PySem.Builtin.Str.strKind x < PySem.Builtin.Str.strKind (Str.ofString "...")) := by
  rw [show PySem.Builtin.Str.strKind (Str.ofString "...") = 1 by decide +kernel]
  unfold PySem.Builtin.Str.strKind
  split
  · omega
  · split <;> omega
theorem split_lsp (x : Str) : (Txt.split x (Str.ofString "...")).map Lx = lsp [] (Lx x) := by
  obtain ⟨f, hc, hn⟩ := occ_tight x (Str.ofString "...") (by rw [ldots]; omega)
  have h1 := parts_lsp x _ 0 f (Nat.zero_le _) hc hn
  rw [List.drop_zero] at h1
  have h0 : (Builtin.Str.occurrences x (Str.ofString "...") 0 x.length (x.length + 1)) = [] → [x].map Lx = lsp [] (Lx x) := by
    intro h
    rw [h] at h1
    simp only [partsFrom] at h1
    rw [sub_whole] at h1
    exact h1
  unfold Txt.split
  split
  · rename_i h
    refine h0 ?_
    have hlt : x.length < 3 := by
      rcases (by simpa using h : x.length < (Str.ofString "...").length ∨ PySem.Builtin.Str.strKind x < PySem.Builtin.Str.strKind (Str.ofString "...")) with h | h
      · rwa [ldots] at h
      · exact absurd h (kind_dots x)
    cases ho : occurrences x (Str.ofString "...") 0 x.length (x.length + 1) with
    | nil => rfl
    | cons c r =>
      rw [ho] at hc
      have := hc.2.1.1
      rw [ldots] at this; omega
  · split
    · rename_i h
      exact h0 (by simpa using h)
    · rw [partsBetween_eq, ldots]; exact h1
theorem split_few (x : Str) : (Txt.split x (Str.ofString "...")).length ≤ x.length + 1 := by
  have h := congrArg List.length (split_lsp x)
  rw [List.length_map] at h
  rw [h, ← Lx_len]
  exact lsp_len _ _ _ (Nat.le_refl _)
theorem split_two {x : Str} (h : (Builtin.Str.occurrences x (Str.ofString "...") 0 x.length 1).isEmpty = false) : 2 ≤ (Txt.split x (Str.ofString "...")).length := by
  obtain ⟨i, h1, h2⟩ := (found_iff x (Str.ofString "...")).mp (by rw [h]; rfl)
  have hat : At x (Str.ofString "...") x.length i := ⟨h1, h2⟩
  rw [ldots] at h1
  unfold Txt.split
  rw [if_neg (by
    intro q
    rcases (by simpa using q : x.length < (Str.ofString "...").length ∨ PySem.Builtin.Str.strKind x < PySem.Builtin.Str.strKind (Str.ofString "...")) with q | q
    · rw [ldots] at q; omega
    · exact kind_dots x q)]
  have hne : occurrences x (Str.ofString "...") 0 x.length (x.length + 1) ≠ [] := by
    intro q
    obtain ⟨f, hc, hn⟩ := occ_tight x (Str.ofString "...") (by rw [ldots]; omega)
    rw [q] at hc
    obtain rfl : f = 0 := hc
    exact hn i (Nat.zero_le _) hat
  rw [if_neg (by simpa using hne), partsBetween_eq]
  cases ho : occurrences x (Str.ofString "...") 0 x.length (x.length + 1) with
  | nil => exact absurd ho hne
  | cons c r =>
    obtain ⟨p, q, e⟩ := partsFrom_ne x (Str.ofString "...").length (c + (Str.ofString "...").length) r
    simp only [partsFrom, e, List.length_cons]
    omega
end Mine
end
section
-- M1
open PySem PySem.W PyProof.Rows PySem.Calls
set_option Elab.async false
set_option maxRecDepth 100000
set_option maxHeartbeats 4000000
set_option pp.deepTerms false
set_option pp.maxSteps 700
namespace Mine
theorem startM1 : True := by
  w_top off
  exact trivial
structure StopIf : Prop where
structure StopAssert : Prop where
local macro_rules | `(tactic| walk_at "exec Assert") => `(tactic| (have hq : Mine.StopAssert := (by with_reducible assumption); clear hq; refine Mine.Hold.of ?_))
local macro_rules | `(tactic| walk_at "exec If") => `(tactic| (have hq : Mine.StopIf := (by with_reducible assumption); clear hq; refine Mine.Hold.of ?_))
local macro_rules | `(tactic| walk_at "exec For Name Name cons nil") => `(tactic| (have hq : Mine.StopLoops := (by with_reducible assumption); clear hq; with_unfolding_all refine Mine.for_start ?_))
local macro_rules | `(tactic| walk_at "subscriptTail Name Constant ref int") => `(tactic| (have hq : Mine.StopText := (by with_reducible assumption); clear hq; refine Mine.Hold.of ?_))
local macro_rules | `(tactic| walk_at "subscriptTail Name UnaryOp ref int") => `(tactic| (have hq : Mine.StopText := (by with_reducible assumption); clear hq; refine Mine.Hold.of ?_))
local macro_rules | `(tactic| walk_at "delItem ref int") => `(tactic| (have hq : Mine.StopText := (by with_reducible assumption); clear hq; refine Mine.Hold.of ?_))
local macro_rules | `(tactic| walk_at "call builtin:str.find") => `(tactic| (refine Mine.call_find4 ?_))
theorem fillM1 : PySem.Challenge.rw_wr0013_01 = PySem.Challenge.rw_wr0013_01 ∧ Mine.hv.heap_1 = Mine.hv.heap_1 := by
  k_fill
  exact ⟨rfl, rfl⟩

section
variable {prog : Program} {w : World} {A : Around} {E : Value → Shared → Prop} {s : Shared} {h₀ : Heap} {L : Addr} {m : Str → Option Value} {news rest : List (Addr × Obj)}
theorem item_first {value slice : PySem.Expr} {D : Addr} {n : Nat} {p : Str} {tp : Tok} {l : List (Str × Tok)} {u : Tok} {Q : Value → Shared → Prop} (N : News h₀ L s.heap ((D, listOf (strValues ((p, tp) :: l)).toArray n) :: rest)) (h : Q (.str p tp) s)
    (hs : subscripted slice false (.ref D) (.int 0 u) = operate [.ref D, .int 0 u] (getItem (.ref D) (.int 0 u)) := by with_unfolding_all rfl) (hg : ∀ r, letTemporaryGo value (.ref D) r = pure () := by intro _; with_unfolding_all rfl) :
    wpAny (model prog w) A (subscriptTail value slice (.ref D) (.int 0 u)) Q E s :=
  kim_list N (.head _) rfl rfl (by decide) (by decide) rfl h hs hg
theorem item_last {value slice : PySem.Expr} {D : Addr} {n : Nat} {p : Str} {tp : Tok} {l : List (Str × Tok)} {u : Tok} {Q : Value → Shared → Prop} (N : News h₀ L s.heap ((D, listOf (strValues (l ++ [(p, tp)])).toArray n) :: rest)) (h : Q (.str p tp) s)
    (hs : subscripted slice false (.ref D) (.int (-1) u) = operate [.ref D, .int (-1) u] (getItem (.ref D) (.int (-1) u)) := by with_unfolding_all rfl) (hg : ∀ r, letTemporaryGo value (.ref D) r = pure () := by intro _; with_unfolding_all rfl) :
    wpAny (model prog w) A (subscriptTail value slice (.ref D) (.int (-1) u)) Q E s := by
  have e : ((-1 : Int) + ((strValues (l ++ [(p, tp)])).length : Int)).toNat = l.length := by simp [strValues]; omega
  refine kim_back N (.head _) rfl rfl (by decide) (by simp [strValues]; omega) (by decide) ?_ h hs hg
  rw [e]
  simp [strValues]
theorem del_first {D : Addr} {n : Nat} {p : Str × Tok} {l : List (Str × Tok)} {u : Tok} {Q : Unit → Shared → Prop} (F : Fr h₀ L s.heap m) (N : News h₀ L s.heap ((D, listOf (strValues (p :: l)).toArray n) :: rest)) (hap : ∀ p ∈ rest, p.1 ≠ D)
    (h : ∀ h' n', Fr h₀ L h' m → News h₀ L h' ((D, listOf (strValues l).toArray n') :: rest) → Q () { s with heap := h' }) (hsz : l.length ≤ 2000) :
    wpAny (model prog w) A (delItem (.ref D) (.int 0 u)) Q E s := by
  refine delItem_head (k := 0) F N hap (by decide) (by simp [strValues, seqIndex?]) (fun h' F' N' => ?_) (by simp [strValues, sizeLine]; omega)
  exact h h' _ F' (by simpa [strValues] using N')
theorem del_last {D : Addr} {n : Nat} {p : Str × Tok} {l : List (Str × Tok)} {u : Tok} {Q : Unit → Shared → Prop} (F : Fr h₀ L s.heap m) (N : News h₀ L s.heap ((D, listOf (strValues (l ++ [p])).toArray n) :: rest)) (hap : ∀ p ∈ rest, p.1 ≠ D)
    (h : ∀ h' n', Fr h₀ L h' m → News h₀ L h' ((D, listOf (strValues l).toArray n') :: rest) → Q () { s with heap := h' }) (hsz : l.length ≤ 2000) :
    wpAny (model prog w) A (delItem (.ref D) (.int (-1) u)) Q E s := by
  refine delItem_head (k := l.length) F N hap (by decide) ?_ (fun h' F' N' => ?_) (by simp [strValues, sizeLine]; omega)
  · have := seqIndex_back (i := -1) (n := (strValues (l ++ [p])).toArray.size) (by decide) (by simp [strValues]; omega)
    rw [this]; simp [strValues]; omega
  · refine h h' (n + 1) F' ?_
    have e : ((strValues (l ++ [p])).toArray.toList.eraseIdx l.length) = strValues l := by
      simp [strValues, List.eraseIdx_append_of_length_le]
    rw [e] at N'
    exact N'
end

def findAll (y : Str) : List Str → Int → Int → Bool
  | [], _, _ => true
  | w :: ws, a, b => if find4 y w a b < 0 then false else findAll y ws (find4 y w a b + w.length) b
/-- what is done behind the cut of the last piece -/
def matchC (y : Str) (ws : List Str) (a b : Int) : Bool := if a > b then false else findAll y ws a b
/-- behind the first piece -/
def matchB (y : Str) (ws : List Str) (a : Int) : Bool :=
  if (ws.getLastD Str.empty).length = 0 then matchC y ws a y.length
  else if Txt.endswith y (ws.getLastD Str.empty) then matchC y ws.dropLast a (y.length - (ws.getLastD Str.empty).length) else false
def matchA (y : Str) : List Str → Bool
  | [] => false
  | p :: ws => if p.length = 0 then matchB y (p :: ws) 0 else if Txt.startswith y p then matchB y ws p.length else false
def matchF (x y : Str) : Bool := if (Builtin.Str.occurrences x (Str.ofString "...") 0 x.length 1).isEmpty = true then x == y else matchA y (Txt.split x (Str.ofString "..."))
inductive MI1 (s : Shared) (g1 : Heap) (L1 D : Addr) (news : List (Addr × Obj)) (y : Str) (ty : Tok) (G : Bool) (R : List Str → Int → Bool) (s' : Shared) : Prop
  | mk (h : Heap) (tk : Nat) (m' : Str → Option Value) (ws' : List (Str × Tok)) (n' : Nat) (a : Int) (e : s' = { s with heap := h, toks := tk }) (F : Fr g1 L1 h m') (N : News g1 L1 h ((D, listOf (strValues ws').toArray n') :: news)) (m1 : m' (Str.ofString "got") = some (.str y ty)) (m2 : m' (Str.ofString "ws") = some (.ref D))
      (m3 : HasI m' (Str.ofString "startpos") a) (m4 : HasI m' (Str.ofString "endpos") y.length) (hG : G = R (ws'.map (·.1)) a) (hne : ws' ≠ []) (hl : ws'.length ≤ 1001) (h0 : 0 ≤ a) (h1 : a ≤ 1000) (hq : ∀ q ∈ ws'.map (·.1), q.length ≤ 1000) : MI1 s g1 L1 D news y ty G R s'
inductive MI2 (s : Shared) (g1 : Heap) (L1 D : Addr) (news : List (Addr × Obj)) (y : Str) (ty : Tok) (G : Bool) (R : List Str → Int → Int → Bool) (s' : Shared) : Prop
  | mk (h : Heap) (tk : Nat) (m' : Str → Option Value) (ws' : List (Str × Tok)) (n' : Nat) (a b : Int) (e : s' = { s with heap := h, toks := tk }) (F : Fr g1 L1 h m') (N : News g1 L1 h ((D, listOf (strValues ws').toArray n') :: news)) (m1 : m' (Str.ofString "got") = some (.str y ty)) (m2 : m' (Str.ofString "ws") = some (.ref D))
      (m3 : HasI m' (Str.ofString "startpos") a) (m4 : HasI m' (Str.ofString "endpos") b) (hG : G = R (ws'.map (·.1)) a b) (hl : ws'.length ≤ 1001) (h0 : 0 ≤ a) (h1 : a ≤ 1000) (hb : b ≤ 1000) (hq : ∀ q ∈ ws'.map (·.1), q.length ≤ 1000) : MI2 s g1 L1 D news y ty G R s'
inductive MIR (s : Shared) (g1 : Heap) (L1 : Addr) (news : List (Addr × Obj)) (G : Bool) (v : Value) (s' : Shared) : Prop
  | mk (hv : v = .bool false) (hG : G = false) (h : Heap) (tk : Nat) (m' : Str → Option Value) (e : s' = { s with heap := h, toks := tk }) (F : Fr g1 L1 h m') (N : News g1 L1 h news) : MIR s g1 L1 news G v s'
abbrev AtIf1 (s : Shared) (g1 : Heap) (L1 D : Addr) (news : List (Addr × Obj)) (y : Str) (ty : Tok) (G : Bool) (R : List Str → Int → Bool) (f : Flow) (s' : Shared) : Prop :=
  Hold (match f with
   | .next => MI1 s g1 L1 D news y ty G R s'
   | .ret v => MIR s g1 L1 news G v s'
   | _ => False)
abbrev AtIf2 (s : Shared) (g1 : Heap) (L1 D : Addr) (news : List (Addr × Obj)) (y : Str) (ty : Tok) (G : Bool) (R : List Str → Int → Int → Bool) (f : Flow) (s' : Shared) : Prop :=
  Hold (match f with
   | .next => MI2 s g1 L1 D news y ty G R s'
   | .ret v => MIR s g1 L1 news G v s'
   | _ => False)
theorem c_match (w : World) (x y : Str) (tx ty : Tok) (hx : x.length ≤ 1000) (hy : y.length ≤ 1000) : Ct w 21 [.str x tx, .str y ty] (fun t => .bool (matchF x y)) := by
  intro mean mg mb dp un gd cn cs a ccd cl outer A₀ base h₀ L m news s Q E B F KX N T hk hdp hun hret
  have hst : StopAssert := ⟨⟩
  refine wpAny_call ?_
  k_dflt cell_enter
  rename_i g1 L1 h1 FG1 F1 N1 B1 X1 T1
  have hap : ∀ p ∈ news, p.1 ≠ h1.objs.size := fun p hp => Nat.ne_of_lt (Heap.lt_size (N1 p hp).1)
  repeat' (first | (k_unfold; (try dsimp only)) | walk1 | (dsimp only; walk1) | fail "no step")
  · rename (Builtin.Str.occurrences _ _ _ _ _).isEmpty = true => ho
    have e : matchF x y = (x == y) := by unfold matchF; rw [if_pos ho]
    have h2 := hret
    rw [e] at h2
    exact h2 0 _ _ (by k_asm) (by k_asm)
  · rename (Builtin.Str.occurrences _ _ _ _ _).isEmpty = false => ho
    have e : matchF x y = matchA y (Txt.split x (Str.ofString "...")) := by unfold matchF; rw [if_neg (by rw [ho]; decide)]
    have h2 := hret
    rename List.map _ _ = Txt.split x _ => hl
    rename List (Str × Tok) => l
    rename ∀ _ ∈ List.map _ _, _ => hsm
    have hlen2 := split_two ho
    have hfew := split_few x
    rw [← hl] at e hlen2 hfew
    obtain ⟨⟨p, tp⟩, l1, rfl⟩ : ∃ p l1, l = p :: l1 := by
      cases l with
      | nil => exact absurd hlen2 (by decide)
      | cons p l1 => exact ⟨p, l1, rfl⟩
    have hpl : p.length ≤ 1000 := Nat.le_trans (hsm p (by simp)) hx
    refine Hold.mk ?_
    simp only [List.map_cons, List.length_cons, List.length_map] at hlen2 hfew
    rename StopAssert => hst
    clear hst
    have hst3 : StopIf := ⟨⟩
    have hst4 : StopText := ⟨⟩
    have hst2 : StopLoops := ⟨⟩
    repeat' (first | (k_unfold; (try dsimp only)) | walk1 | (dsimp only; walk1) | fail "no step")
    · refine Hold.mk ?_
      with_reducible rename News g1 L1 _ _ => N2
      have N3 : News g1 L1 _ ((h1.objs.size, listOf (strValues ((p, tp) :: l1)).toArray 0) :: news) := fun q hq => N2 q (.tail _ hq)
      clear N2
      refine item_first N3 ?_
      repeat' (first | (k_unfold; (try dsimp only)) | walk1 | (dsimp only; walk1) | fail "no step")
      refine Hold.mk (wpAny_mono (Q := AtIf1 s g1 L1 h1.objs.size news y ty (matchF x y) (matchB y)) (E := NoErr) ?_ ?_ (fun _ _ e => e.elim))
      · clear hst3
        repeat' (first | (k_unfold; (try dsimp only)) | walk1 | (dsimp only; walk1) | fail "no step")
        all_goals (try dsimp only)
        all_goals refine Hold.mk ?_
        · rename Txt.startswith y p = true => hsw
          rename (p.length : Int) ≠ 0 => hp0
          have hap' : ∀ q ∈ news, q.1 ≠ h1.objs.size := hap
          refine del_first (by k_asm) (by k_asm) hap' (fun h9 n9 F9 N9 => ?_) (by omega)
          repeat' (first | (k_unfold; (try dsimp only)) | walk1 | (dsimp only; walk1) | fail "no step")
          all_goals (try dsimp only)
          refine Hold.mk ⟨_, _, _, l1, _, _, rfl, F9, N9, rfl, rfl, ⟨_, rfl⟩, ⟨_, rfl⟩, ?_, ?_, by omega, by omega, by omega, ?_⟩
          · rw [e]; simp only [List.map_cons, matchA]; rw [if_neg (by omega), if_pos hsw]
          · rintro rfl; simp at hlen2
          · intro q hq; exact Nat.le_trans (hsm q (List.mem_cons_of_mem _ hq)) hx
        · rename Txt.startswith y p = false => hsw
          rename (p.length : Int) ≠ 0 => hp0
          refine ⟨rfl, ?_, _, _, _, rfl, by k_asm, fun q hq => (by k_asm : News g1 L1 _ _) q (.tail _ hq)⟩
          rw [e]; simp only [List.map_cons, matchA]; rw [if_neg (by omega), hsw]; rfl
        · refine ⟨_, _, _, (p, tp) :: l1, _, _, rfl, by k_asm, by k_asm, rfl, rfl, ⟨_, rfl⟩, ⟨_, rfl⟩, ?_, by simp, by simp only [List.length_cons]; omega, by omega, by omega, ?_⟩
          · rw [e]; simp only [List.map_cons, matchA]; rw [if_pos (by omega)]
          · intro q hq; exact Nat.le_trans (hsm q hq) hx
      · intro f s' hf
        cases f with
        | brk => exact (show False from hf).elim
        | cont => exact (show False from hf).elim
        | ret v =>
          obtain ⟨rfl, hG, h, tk, m', rfl, F9, N9⟩ := (show MIR _ _ _ _ _ _ _ from hf)
          rw [hG] at h2
          repeat' (first | (k_unfold; (try dsimp only)) | walk1 | (dsimp only; walk1) | fail "no step")
          exact h2 0 _ _ (by k_asm) (by k_asm)
        | next =>
          obtain ⟨h, tk, m', ws, n', av, rfl, F9, N9, hm1, hm2, ⟨ta, hm3⟩, ⟨tb, hm4⟩, hG, hne, hwl, ha0, ha1, hsm'⟩ := (show MI1 _ _ _ _ _ _ _ _ _ _ from hf)
          replace F9 := fr_canon _ F9 (ps4 hm1 hm2 hm3 hm4)
          obtain ⟨ws0, ⟨z, tz⟩, rfl⟩ : ∃ ws0 z, ws = ws0 ++ [z] := ⟨_, _, (List.dropLast_concat_getLast hne).symm⟩
          have hzl : z.length ≤ 1000 := hsm' z (by simp)
          simp only [List.length_append, List.length_singleton] at hwl
          clear hf hsm hlen2
          dsimp only
          repeat' (first | (k_unfold; (try dsimp only)) | walk1 | (dsimp only; walk1) | fail "no step")
          refine Hold.mk (item_last N9 ?_)
          repeat' (first | (k_unfold; (try dsimp only)) | walk1 | (dsimp only; walk1) | fail "no step")
          refine Hold.mk (wpAny_mono (Q := AtIf2 s g1 L1 h1.objs.size news y ty (matchF x y) (matchC y)) (E := NoErr) ?_ ?_ (fun _ _ e => e.elim))
          · rename StopIf => hq
            clear hq
            have hlast : ((ws0 ++ [(z, tz)]).map (·.1)).getLastD Str.empty = z := by simp
            have hdl : ((ws0 ++ [(z, tz)]).map (·.1)).dropLast = ws0.map (·.1) := by simp
            repeat' (first | (k_unfold; (try dsimp only)) | walk1 | (dsimp only; walk1) | fail "no step")
            all_goals (try dsimp only)
            all_goals refine Hold.mk ?_
            · rename Txt.endswith y z = true => hsw
              have hap' : ∀ q ∈ news, q.1 ≠ h1.objs.size := hap
              refine del_last (by k_asm) (by k_asm) hap' (fun h8 n8 F8 N8 => ?_) (by omega)
              repeat' (first | (k_unfold; (try dsimp only)) | walk1 | (dsimp only; walk1) | fail "no step")
              all_goals (try dsimp only)
              refine Hold.mk ⟨_, _, _, ws0, _, _, _, rfl, F8, N8, rfl, rfl, ⟨_, rfl⟩, ⟨_, rfl⟩, ?_, by omega, by omega, by omega, by omega, ?_⟩
              · rw [hG]; simp only [matchB, hlast]; rw [if_neg (by omega), if_pos hsw, hdl]
              · intro q hq; exact hsm' q (by rw [List.map_append]; exact List.mem_append_left _ hq)
            · rename Txt.endswith y z = false => hsw
              refine ⟨rfl, ?_, _, _, _, rfl, by k_asm, fun q hq => (by k_asm : News g1 L1 _ _) q (.tail _ hq)⟩
              rw [hG]; simp only [matchB, hlast]; rw [if_neg (by omega), hsw]; rfl
            · refine ⟨_, _, _, ws0 ++ [(z, tz)], _, _, _, rfl, by k_asm, by k_asm, rfl, rfl, ⟨_, rfl⟩, ⟨_, rfl⟩, ?_, by simp only [List.length_append, List.length_singleton]; omega, by omega, by omega, by omega, hsm'⟩
              rw [hG]; simp only [matchB, hlast]; rw [if_pos (by omega)]
          · intro f s' hf
            cases f with
            | brk => exact (show False from hf).elim
            | cont => exact (show False from hf).elim
            | ret v =>
              obtain ⟨rfl, hG', h, tk, m', rfl, F7, N7⟩ := (show MIR _ _ _ _ _ _ _ from hf)
              rw [hG'] at h2
              repeat' (first | (k_unfold; (try dsimp only)) | walk1 | (dsimp only; walk1) | fail "no step")
              exact h2 0 _ _ (by k_asm) (by k_asm)
            | next =>
              rename StopIf => hq
              clear hq hsm' hwl hne
              try clear hm1 hm2 hm3 hm4
              obtain ⟨h, tk, m', ws, n', av, bv, rfl, F9, N9, hm1, hm2, ⟨ta, hm3⟩, ⟨tb, hm4⟩, hG2, hwl, ha0, ha1, hb1, hsm'⟩ := (show MI2 _ _ _ _ _ _ _ _ _ _ from hf)
              replace F9 := fr_canon _ F9 (ps4 hm1 hm2 hm3 hm4)
              clear hf
              dsimp only
              repeat' (first | (k_unfold; (try dsimp only)) | walk1 | (dsimp only; walk1) | fail "no step")
              · rename bv < av => hgt
                have hfin : matchF x y = false := by rw [hG2]; unfold matchC; rw [if_pos hgt]
                rw [hfin] at h2
                exact h2 0 _ _ (by k_asm) (news_tail (by k_asm))
              · rename ¬ (bv < av) => hgt
                have hfin : matchF x y = findAll y (ws.map (·.1)) av bv := by rw [hG2]; unfold matchC; rw [if_neg hgt]
                refine Hold.mk (for_list (vs := strValues ws) (nn := n') (fun i m' nx => nx = (h1.objs.size, listOf (strValues ws).toArray n') :: news ∧ m' (Str.ofString "got") = some (.str y ty) ∧
                    ∃ ai, HasI m' (Str.ofString "startpos") ai ∧ HasI m' (Str.ofString "endpos") bv ∧ matchF x y = findAll y ((ws.drop i).map (·.1)) ai bv)
                  (fun i m' nx hj => by rw [hj.1]; exact .head _) rfl F9 N9 ?_ rfl rfl ?_ ?_)
                · exact ⟨rfl, rfl, av, ⟨_, rfl⟩, ⟨_, rfl⟩, hfin⟩
                · rintro I i v m₁ nx h8 tk8 o hv ⟨rfl, hg, ai, ⟨ti, hs⟩, ⟨te, he⟩, hfin⟩ hnI F8 N8
                  obtain ⟨⟨u, tu⟩, hu, rfl⟩ : ∃ q, ws[i]? = some q ∧ v = .str q.1 q.2 := by
                    simp only [strValues, List.getElem?_map, Option.map_eq_some_iff] at hv
                    obtain ⟨q, h1, h2⟩ := hv
                    exact ⟨q, h1, h2.symm⟩
                  have hdr : ws.drop i = (u, tu) :: ws.drop (i + 1) := by
                    obtain ⟨hlt, hget⟩ := List.getElem?_eq_some_iff.mp hu
                    rw [List.drop_eq_getElem_cons hlt, hget]
                  have hul : u.length ≤ 1000 := hsm' u (List.mem_map.mpr ⟨_, List.mem_of_getElem? hu, rfl⟩)
                  rw [hdr] at hfin
                  simp only [List.map_cons, findAll] at hfin
                  rw [(kstB_self (ps3 hg hs he)).symm] at F8
                  clear F9 N9
                  repeat' (first | (k_unfold; (try dsimp only)) | walk1 | (dsimp only; walk1) | fail "no step")
                  · rename find4 y u ai bv < 0 => hlt
                    rw [hfin, if_pos hlt] at h2
                    refine TurnEnd.ret ?_
                    repeat' (first | (k_unfold; (try dsimp only)) | walk1 | (dsimp only; walk1) | fail "no step")
                    exact h2 0 _ _ (by k_asm) (news_tail (news_tail (by k_asm)))
                  · rename ¬ (find4 y u ai bv < 0) => hlt
                    rw [if_neg hlt] at hfin
                    refine TurnEnd.next (by k_asm) (by k_asm) hnI ⟨rfl, rfl, _, ⟨_, rfl⟩, ⟨_, rfl⟩, hfin⟩
                · rintro h8 tk8 m₁ nx F8 N8 ⟨rfl, hg, ai, hs, he, hfin⟩
                  have hfin' : matchF x y = true := by rw [hfin, List.drop_of_length_le (by simp [strValues])]; rfl
                  rw [hfin'] at h2
                  clear F9 N9
                  repeat' (first | (k_unfold; (try dsimp only)) | walk1 | (dsimp only; walk1) | fail "no step")
                  exact h2 0 _ _ (by k_asm) (news_tail (by k_asm))
    · rename ¬ (2 ≤ _) => hc
      exact absurd (by simp only [List.length_cons]; omega) hc
end Mine
end
section
-- W1
open PySem PySem.W PyProof.Rows PySem.Calls
set_option Elab.async false
set_option maxRecDepth 100000
set_option maxHeartbeats 4000000
set_option pp.deepTerms false
set_option pp.maxSteps 700
namespace Mine
theorem startW1 : True := by
  w_top off
  exact trivial
local macro_rules | `(tactic| walk_at "exec While Name cons nil") => `(tactic| (have hq : Mine.StopLoops := (by with_reducible assumption); clear hq; refine Mine.Hold.of ?_))
local macro_rules | `(tactic| walk_at "truthy ref") => `(tactic| (have hq : Mine.StopText := (by with_reducible assumption); clear hq; refine Mine.Hold.of ?_))
local macro_rules | `(tactic| walk_at "call builtin:list.pop") => `(tactic| (have hq : Mine.StopText := (by with_reducible assumption); clear hq; refine Mine.Hold.of ?_))
local macro_rules | `(tactic| walk_at "call ref") => `(tactic| (k_here; (with_reducible show wpAny _ _ (PySem.call (Value.ref 81) _) _ _ _); k_dflt (refine' Mine.ct_use (Mine.c_iseof _ _ _) ?B ?F ?X ?N ?T rfl ?d ?u ?_; (case B => k_asm); (case F => k_asm); (case X => k_asm); (case N => k_asm); (case T => k_asm); (case d => ktr_room); (case u => ktr_units); intro t9 h9 tk9 F9 N9)))
local macro_rules | `(tactic| walk_at "call ref") => `(tactic| (k_here; (with_reducible show wpAny _ _ (PySem.call (Value.ref 67) _) _ _ _); k_dflt (refine' Mine.ct_use (Mine.c_isterm _ _ _) ?B ?F ?X ?N ?T rfl ?d ?u ?_; (case B => k_asm); (case F => k_asm); (case X => k_asm); (case N => k_asm); (case T => k_asm); (case d => ktr_room); (case u => ktr_units); intro t9 h9 tk9 F9 N9)))
local macro_rules | `(tactic| walk_at "call ref") => `(tactic| (k_here; (with_reducible show wpAny _ _ (PySem.call (Value.ref 74) _) _ _ _); k_dflt (refine' Mine.ct_use (Mine.c_isnon _ _ _) ?B ?F ?X ?N ?T rfl ?d ?u ?_; (case B => k_asm); (case F => k_asm); (case X => k_asm); (case N => k_asm); (case T => k_asm); (case d => ktr_room); (case u => ktr_units); intro t9 h9 tk9 F9 N9)))
section
variable {prog : Program} {w : World} {A : Around} {E : Value → Shared → Prop} {s : Shared} {h₀ : Heap} {L : Addr} {m : Str → Option Value} {rest : List (Addr × Obj)}
theorem reorder6 {h₀ h : Heap} {L : Addr} {e1 e2 e3 e4 e5 e6 : Addr × Obj} {rest : List (Addr × Obj)} (N : News h₀ L h (e1 :: e2 :: e3 :: e4 :: e5 :: e6 :: rest)) : News h₀ L h (e5 :: e6 :: e1 :: e2 :: rest) := fun p hp => by
  refine N p ?_
  simp only [List.mem_cons] at hp ⊢
  rcases hp with h | h | h | h | h
  · exact .inr (.inr (.inr (.inr (.inl h))))
  · exact .inr (.inr (.inr (.inr (.inr (.inl h)))))
  · exact .inl h
  · exact .inr (.inl h)
  · exact .inr (.inr (.inr (.inr (.inr (.inr h)))))
theorem truthy_some {P : Addr} {n : Nat} {l : List Value} {v : Value} {Q : Bool → Shared → Prop} (N : News h₀ L s.heap ((P, listOf (l ++ [v]).toArray n) :: rest)) (hz : l.length ≤ 1000) (h : Q true { s with toks := s.toks + 1 + 1 }) : wpAny (model prog w) A (truthy (.ref P)) Q E s := by
  refine wpAny_truthy_list (News.isList N (.head _)) (by rw [List.size_toArray, List.length_append]; simp; omega) ?_
  have e : (!(l ++ [v]).toArray.isEmpty) = true := by simp
  rw [e]; exact h
theorem pop_top {P : Addr} {n : Nat} {l : List Value} {v : Value} {Q : Value → Shared → Prop} (F : Fr h₀ L s.heap m) (N : News h₀ L s.heap ((P, listOf (l ++ [v]).toArray n) :: rest)) (hap : ∀ p ∈ rest, p.1 ≠ P) (hz : l.length ≤ 1000)
    (h : ∀ h' n', Fr h₀ L h' m → News h₀ L h' ((P, listOf l.toArray n') :: rest) → Q v { s with heap := h' }) : wpAny (model prog w) A (call (.builtin "list.pop") [.ref P]) Q E s :=
  kl_pop F N (by simpa using kpa_last v l) (Upd.head hap) (by simp [sizeLine]; omega) fun h' F' N' => h h' _ F' N'
end
theorem fillW : PySem.Challenge.rw_wr0013_01 = PySem.Challenge.rw_wr0013_01 ∧ Mine.hv.heap_1 = Mine.hv.heap_1 := by
  k_fill
  exact ⟨rfl, rfl⟩
local macro_rules | `(tactic| k_all) => `(tactic| with_reducible assumption)
/-- a def's contract: what it hands back is a new list of texts -/
abbrev CtL (d : Nat) (w : World) (f : Addr) (vs : List Value) (R : List Str) : Prop :=
  ∀ (mean : ExcName → Option Value) (mg mb : Str → Option Value) (dp un : Nat) (gd : Option (List Code)) (cn : Str) (cs : Scope) (a : Addr) (ccd : Value) (cl : List (Str × Addr)) (outer : List Env) (A₀ : Around) (base h₀ : Heap) (L : Addr) (m : Str → Option Value) (news : List (Addr × Obj)) (s : Shared) (Q E : Value → Shared → Prop),
    Below A₀ base outer h₀ → Fr h₀ L s.heap m → (Mine.hv.heap_1 w.params).In h₀ → News h₀ L s.heap news → Top pv (looseW pv []) mean mg mb h₀ → cs.kind = .function →
    dp + d < recursionLimit → un + 8 * d < cLine →
    (∀ (D : Addr) (l : List (Str × Tok)) (n : Nat) (h' : Heap) (tk' : Nat), Fr h₀ L h' m → News h₀ L h' ((D, listOf (strValues l).toArray n) :: news) → (∀ p ∈ news, p.1 ≠ D) → l.map (·.1) = R → Q (.ref D) { s with heap := h', toks := tk' }) →
      wpAny (model pg w) (ktrTop dp un gd cn cs L a ccd cl outer) (call (.ref f) vs) Q E s
def genW (x : Str) : Nat → Str → List Str
  | 0, u => [u]
  | 1, u => genW x 0 (u ++ x)
  | k + 2, u => genW x k (u ++ Str.ofString "\"") ++ genW x (k + 1) (u ++ x)
def costW : Nat → Nat
  | 0 => 1
  | 1 => 1
  | k + 2 => 1 + costW (k + 1) + costW k
structure Pl where
  a : Addr
  k : Nat
  u : Str
abbrev tupW (k : Int) (u : Str) (ti tu : Tok) : Obj := { cls := .type "tuple", data := .seq [Value.int k ti, Value.str u tu].toArray }
def Pl.In (q : Pl) (l : List (Addr × Obj)) : Prop := ∃ ti tu, (q.a, tupW (255 + (q.k : Int)) q.u ti tu) ∈ l
def Pl.gen (x : Str) (q : Pl) : List Str := match q.k with | 0 => [] | k + 1 => genW x k q.u
theorem genW_zero {x u : Str} {k : Nat} (h : k = 1) (a : Addr) : Pl.gen x ⟨a, k, u⟩ = [u] := by subst h; rfl
theorem genW_go {x u : Str} {k : Nat} (h : 2 ≤ k) (a b c : Addr) : Pl.gen x ⟨a, k, u⟩ = Pl.gen x ⟨b, k - 2, u ++ Str.ofString "\""⟩ ++ Pl.gen x ⟨c, k - 1, u ++ x⟩ := by
  match k, h with
  | 2, _ => rfl
  | k + 3, _ => rfl
theorem costW_go {k : Nat} (h : 2 ≤ k) : costW k = 1 + costW (k - 1) + costW (k - 2) := by
  match k, h with
  | k + 2, _ => rfl
theorem costW_pos : ∀ k, 1 ≤ costW k
  | 0 => Nat.le_refl _
  | 1 => Nat.le_refl _
  | k + 2 => by unfold costW; omega
theorem genW_len (x : Str) : ∀ k u v, (genW x k u).length = (genW x k v).length
  | 0, _, _ => rfl
  | 1, _, _ => rfl
  | k + 2, u, v => by unfold genW; rw [List.length_append, List.length_append, genW_len x k _ (v ++ Str.ofString "\""), genW_len x (k + 1) _ (v ++ x)]
def fibW : Nat → Nat
  | 0 => 1
  | 1 => 1
  | k + 2 => fibW k + fibW (k + 1)
theorem genW_fib (x : Str) : ∀ k u, (genW x k u).length = fibW k
  | 0, _ => rfl
  | 1, _ => rfl
  | k + 2, u => by unfold genW fibW; rw [List.length_append, genW_fib x k, genW_fib x (k + 1)]
theorem genW_small (x : Str) {r : Nat} (hr : r ≤ 5) (u : Str) : (genW x r u).length ≤ 100 := by
  rw [genW_fib]
  have : r = 0 ∨ r = 1 ∨ r = 2 ∨ r = 3 ∨ r = 4 ∨ r = 5 := by omega
  rcases this with rfl | rfl | rfl | rfl | rfl | rfl <;> decide
def pileVals (st : List Pl) : List Value := (st.reverse).map fun q => .ref q.a
inductive WInv (g1 : Heap) (L1 : Addr) (s : Shared) (P W : Addr) (x : Str) (tx : Tok) (r : Nat) (news : List (Addr × Obj)) (k : Nat) (s' : Shared) : Prop
  | mk (h : Heap) (tk : Nat) (m' : Str → Option Value) (st : List Pl) (ws : List (Str × Tok)) (n1 n2 : Nat) (rest : List (Addr × Obj))
      (e : s' = { s with heap := h, toks := tk }) (F : Fr g1 L1 h m') (N : News g1 L1 h ((P, listOf (pileVals st).toArray n1) :: (W, listOf (strValues ws).toArray n2) :: rest)) (m1 : m' (Str.ofString "one") = some (.str x tx)) (m2 : m' (Str.ofString "words") = some (.ref W)) (m3 : m' (Str.ofString "pile") = some (.ref P))
      (hP : ∀ p ∈ rest, p.1 ≠ P) (hW : ∀ p ∈ rest, p.1 ≠ W) (hst : ∀ q ∈ st, q.In rest) (hn : ∀ p ∈ news, p ∈ rest) (hl : ∀ q ∈ st, q.u.length + q.k ≤ 6) (hk : k = (st.map fun q => costW q.k).sum) (h25 : k ≤ 25) (hg : ws.map (·.1) ++ st.flatMap (Pl.gen x) = genW x r (Str.ofString "")) : WInv g1 L1 s P W x tx r news k s'
theorem c_words (w : World) (r : Nat) (tr : Tok) (x : Str) (tx : Tok) (hx : x.length = 1) (hr : r ≤ 5) : CtL 4 w 102 [.int r tr, .str x tx] (genW x r (Str.ofString "")) := by
  intro mean mg mb dp un gd cn cs a ccd cl outer A₀ base h₀ L m news s Q E B F KX N T hk hdp hun hret
  have hst : StopLoops := ⟨⟩
  refine wpAny_call ?_
  k_dflt cell_enter
  rename_i g1 L1 h1 FG1 F1 N1 B1 X1 T1
  have hap : ∀ p ∈ news, p.1 < h1.objs.size := fun p hp => (Heap.lt_size (N1 p hp).1)
  repeat' (first | (k_unfold; (try dsimp only)) | walk1 | (dsimp only; walk1) | fail "no step")
  refine Hold.mk ?_
  with_reducible rename Fr g1 L1 _ _ => F2
  with_reducible rename News g1 L1 _ _ => N2
  rename_i W hy1 o1 hy2 tk0 T0 hy3 o2 P hy4 o3 hy5
  replace o1 := allLt_of o1
  refine while_ruleO (WInv g1 L1 s P W x tx r news) (costW (r + 1)) ?_ ?_
  · have N4 : News g1 L1 hy5 ((P, listOf (pileVals [⟨T0, r + 1, Str.ofString ""⟩]).toArray 0) :: (W, listOf (strValues []).toArray 0) :: (T0, _) :: news) := fun p hp => N2 p (by
      rcases List.mem_cons.mp hp with rfl | hp
      · exact .head _
      · rcases List.mem_cons.mp hp with rfl | hp
        · exact .tail _ (.tail _ (.head _))
        · rcases List.mem_cons.mp hp with rfl | hp
          · exact .tail _ (.head _)
          · exact .tail _ (.tail _ (.tail _ hp)))
    refine ⟨_, _, _, [⟨T0, r + 1, Str.ofString ""⟩], [], 0, 0, _, rfl, F2, N4, rfl, rfl, rfl, ?_, ?_, ?_, ?_, ?_, ?_, ?_, ?_⟩
    · intro p hp
      rcases List.mem_cons.mp hp with rfl | hp
      · exact Nat.ne_of_lt o3.1
      · exact Nat.ne_of_lt (ktn_ltOf o3.2.2 p hp)
    · intro p hp
      rcases List.mem_cons.mp hp with rfl | hp
      · exact Nat.ne_of_gt o2.1
      · exact Nat.ne_of_lt (ktn_ltOf o1 p hp)
    · intro q hq
      rw [List.mem_singleton.mp hq]
      refine ⟨tk0 + 1, tk0 + 1 + 1, ?_⟩
      have e : (255 + ((r + 1 : Nat) : Int)) = 256 + (r : Int) := by omega
      show (T0, tupW (255 + ((r + 1 : Nat) : Int)) (Str.ofString "") _ _) ∈ _
      rw [e]
      exact .head _
    · exact fun p hp => .tail _ hp
    · intro q hq
      rw [List.mem_singleton.mp hq]
      show (Str.ofString "").length + (r + 1) ≤ 6
      have : (Str.ofString "").length = 0 := by decide +kernel
      omega
    · simp
    · have : r = 0 ∨ r = 1 ∨ r = 2 ∨ r = 3 ∨ r = 4 ∨ r = 5 := by omega
      rcases this with rfl | rfl | rfl | rfl | rfl | rfl <;> decide
    · simp [Pl.gen]
  · rintro I' Q' eI hQ' k s' ⟨h, tk, m', st, ws, n1, n2, rest, rfl, F3, N3, hm1, hm2, hm3, hP, hW, hst3, hnews, hlen, hk, hk25, hgen⟩
    replace F3 := fr_canon _ F3 (ps3 hm1 hm2 hm3)
    clear F2 N2
    have hPW : P ≠ W := Nat.ne_of_gt o3.2.1
    cases st with
    | nil =>
      repeat' (first | (k_unfold; (try dsimp only)) | walk1 | (dsimp only; walk1) | fail "no step")
      refine Hold.mk ?_
      rename List (Addr × Obj) => rest
      with_reducible rename News g1 L1 _ _ => N9
      have N8 : News g1 L1 h ((W, listOf (strValues ws).toArray n2) :: news) := fun p hp => by
        rcases List.mem_cons.mp hp with rfl | hp
        · exact N9 _ (.tail _ (.head _))
        · exact N9 _ (.tail _ (.tail _ (hnews p hp)))
      clear N9
      refine hQ' _ _ ?_
      repeat' (first | (k_unfold; (try dsimp only)) | walk1 | (dsimp only; walk1) | fail "no step")
      exact hret W ws n2 _ _ (by k_asm) (by k_asm) (fun p hp => hW p (hnews p hp)) (by simpa using hgen)
    | cons q st =>
      have hst5 : StopText := ⟨⟩
      obtain ⟨ti, tu, hq⟩ := hst3 q (.head _)
      have hpv : pileVals (q :: st) = pileVals st ++ [Value.ref q.a] := by simp [pileVals]
      have hpl : (pileVals st).length = st.length := by simp [pileVals]
      have hsl : st.length ≤ 25 := by
        rw [hk] at hk25
        have hl : ∀ l : List Pl, l.length ≤ (l.map fun q => costW q.k).sum := by
          intro l
          induction l with
          | nil => exact Nat.le_refl _
          | cons a l ih => have := costW_pos a.k; simp only [List.length_cons, List.map_cons, List.sum_cons]; omega
        have := hl (q :: st)
        simp only [List.length_cons] at this
        omega
      have hwl : (strValues ws).length ≤ 100 := by
        have h1 := congrArg List.length hgen
        have h2 : (genW x r (Str.ofString "")).length ≤ 100 := genW_small x hr _
        simp only [List.length_append, List.length_map] at h1
        simp only [strValues, List.length_map]
        omega
      have hql := hlen q (.head _)
      have hqP : q.a ≠ P := hP _ hq
      have hqW : q.a ≠ W := hW _ hq
      rw [hpv] at N3
      repeat' (first | (k_unfold; (try dsimp only)) | walk1 | (dsimp only; walk1) | fail "no step")
      refine Hold.mk (truthy_some N3 (by omega) ?_)
      repeat' (first | (k_unfold; (try dsimp only)) | walk1 | (dsimp only; walk1) | fail "no step")
      refine Hold.mk (pop_top (by k_asm) (by k_asm) ?_ (by omega) fun h8 n8 F8 N8 => ?_)
      · intro p hp
        rcases List.mem_cons.mp hp with rfl | hp
        · exact hPW.symm
        · exact hP p hp
      have N7 : News g1 L1 h8 ((q.a, tupW (255 + (q.k : Int)) q.u ti tu) :: (P, listOf (pileVals st).toArray n8) :: (W, listOf (strValues ws).toArray n2) :: rest) := fun p hp => by
        rcases List.mem_cons.mp hp with rfl | hp
        · exact N8 _ (.tail _ (.tail _ hq))
        · exact N8 p hp
      clear N8
      rename StopText => hq5
      clear hq5
      repeat' (first | (k_unfold; (try dsimp only)) | walk1 | (dsimp only; walk1) | fail "no step")
      all_goals try dsimp only
      all_goals refine Hold.mk ?_
      all_goals subst eI
      · rename (_ != _) = true => hc
        exfalso
        revert hc
        by_cases hk0 : q.k = 0
        · simp [hk0]
        · have h1 : ¬ (255 + (q.k : Int) < 256) := by omega
          have h2 : 256 ≤ 255 + (q.k : Int) := by omega
          simp [h1, h2]
      · rename (_ != _) = true => hc
        exfalso
        revert hc
        by_cases hk0 : q.k = 0
        · simp [hk0]
        · have h1 : ¬ (255 + (q.k : Int) < 256) := by omega
          have h2 : 256 ≤ 255 + (q.k : Int) := by omega
          simp [h1, h2]
      · rename (_ == true) = true => hc
        have hk1 : q.k = 1 := by
          have : 255 + (q.k : Int) - 256 = 0 := by simpa using hc
          omega
        with_reducible rename Fr g1 L1 _ _ => F9
        with_reducible rename News g1 L1 _ _ => N9
        have e1 : (strValues ws).toArray.push (Value.str q.u tu) = (strValues (ws ++ [(q.u, tu)])).toArray := by simp [strValues]
        rw [e1] at N9
        refine ⟨_, ?_, _, _, _, st, ws ++ [(q.u, tu)], _, _, rest, rfl, F9, news_tail (news_tail N9), rfl, rfl, rfl, hP, hW, fun q' h' => hst3 q' (.tail _ h'), hnews, fun q' h' => hlen q' (.tail _ h'), rfl, ?_, ?_⟩
        · rw [hk, List.map_cons, List.sum_cons, hk1]; simp [costW]
        · rw [hk, List.map_cons, List.sum_cons] at hk25; omega
        · rw [← hgen, List.flatMap_cons, show Pl.gen x q = [q.u] from genW_zero hk1 q.a]; simp
      · rename 256 ≤ 255 + (q.k : Int) => h256
        rename (_ == true) = false => hc
        have hk2 : 2 ≤ q.k := by
          have : ¬ (255 + (q.k : Int) - 256 = 0) := by simpa using hc
          omega
        with_reducible rename Fr g1 L1 _ _ => F9
        with_reducible rename News g1 L1 _ _ => N9
        rename_i t1 k1 len1 D1 hA o1' hB tkA t2 k2 len2 D2 hC o2' hD
        have e1 : (((pileVals st).toArray.push (Value.ref D1)).push (Value.ref D2)) = (pileVals (⟨D2, q.k - 2, q.u ++ Str.ofString "\""⟩ :: ⟨D1, q.k - 1, q.u ++ x⟩ :: st)).toArray := by simp [pileVals]
        rw [e1] at N9
        obtain ⟨o2a, o2b, o2c, o2d, o2e, o2f⟩ := o2'
        obtain ⟨o1b, o1c, o1d, o1e, o1f⟩ := o1'
        have hqs : (Str.ofString "\"").length = 1 := by decide +kernel
        have i1 : (255 + (q.k : Int)) - 1 = 255 + ((q.k - 1 : Nat) : Int) := by omega
        have i2 : (255 + (q.k : Int)) - 2 = 255 + ((q.k - 2 : Nat) : Int) := by omega
        rw [i1, i2] at N9
        refine ⟨_, ?_, _, _, _, ⟨D2, q.k - 2, q.u ++ Str.ofString "\""⟩ :: ⟨D1, q.k - 1, q.u ++ x⟩ :: st, ws, _, _, _, rfl, F9, reorder6 N9, rfl, rfl, rfl, ?_, ?_, ?_, ?_, ?_, rfl, ?_, ?_⟩
        · rw [hk]
          simp only [List.map_cons, List.sum_cons]
          rw [costW_go hk2]; omega
        · intro p hp
          rcases List.mem_cons.mp hp with rfl | hp
          · exact Nat.ne_of_gt o2d
          rcases List.mem_cons.mp hp with rfl | hp
          · exact Nat.ne_of_gt o1d
          · exact hP p hp
        · intro p hp
          rcases List.mem_cons.mp hp with rfl | hp
          · exact Nat.ne_of_gt o2e
          rcases List.mem_cons.mp hp with rfl | hp
          · exact Nat.ne_of_gt o1e
          · exact hW p hp
        · intro q' h'
          rcases List.mem_cons.mp h' with rfl | h'
          · exact ⟨_, _, .head _⟩
          rcases List.mem_cons.mp h' with rfl | h'
          · exact ⟨_, _, .tail _ (.head _)⟩
          · obtain ⟨a1, a2, a3⟩ := hst3 q' (.tail _ h')
            exact ⟨a1, a2, .tail _ (.tail _ a3)⟩
        · exact fun p hp => .tail _ (.tail _ (hnews p hp))
        · intro q' h'
          rcases List.mem_cons.mp h' with rfl | h'
          · show (q.u ++ Str.ofString "\"").length + (q.k - 2) ≤ 6
            omega
          rcases List.mem_cons.mp h' with rfl | h'
          · show (q.u ++ x).length + (q.k - 1) ≤ 6
            omega
          · exact hlen q' (.tail _ h')
        · rw [hk] at hk25
          simp only [List.map_cons, List.sum_cons] at hk25 ⊢
          rw [costW_go hk2] at hk25; omega
        · rw [← hgen, List.flatMap_cons, List.flatMap_cons, List.flatMap_cons, show Pl.gen x q = _ from genW_go hk2 q.a D2 D1, List.append_assoc]
      · rename ¬ (256 ≤ 255 + (q.k : Int)) => h256
        have hk0 : q.k = 0 := by omega
        with_reducible rename Fr g1 L1 _ _ => F9
        with_reducible rename News g1 L1 _ _ => N9
        refine ⟨_, ?_, _, _, _, st, ws, _, _, rest, rfl, F9, news_tail (news_tail N9), rfl, rfl, rfl, hP, hW, fun q' h' => hst3 q' (.tail _ h'), hnews, fun q' h' => hlen q' (.tail _ h'), rfl, ?_, ?_⟩
        · rw [hk, List.map_cons, List.sum_cons, hk0]; simp [costW]
        · rw [hk, List.map_cons, List.sum_cons] at hk25; omega
        · rw [← hgen, List.flatMap_cons, show Pl.gen x q = [] from by unfold Pl.gen; rw [hk0]]; simp
      · rename (_ == true) = false => hc1
        rename (_ == false) = false => hc2
        exfalso
        revert hc1 hc2
        cases decide (255 + (q.k : Int) - 256 = 0) <;> simp
end Mine
end
section
-- D1
open PySem PySem.W PyProof.Rows PySem.Calls
set_option Elab.async false
set_option maxRecDepth 100000
set_option maxHeartbeats 4000000
set_option pp.deepTerms false
set_option pp.maxSteps 700
namespace Mine
theorem startD1 : True := by
  w_top off
  exact trivial
local macro_rules | `(tactic| walk_at "exec For Name Call cons nil") => `(tactic| (have hq : Mine.StopLoops := (by with_reducible assumption); clear hq; with_unfolding_all refine Mine.for_start ?_))
local macro_rules | `(tactic| walk_at "exec For Name Name cons nil") => `(tactic| (have hq : Mine.StopLoops := (by with_reducible assumption); clear hq; with_unfolding_all refine Mine.for_start ?_))
local macro_rules | `(tactic| walk_at "exec For Tuple Call cons nil") => `(tactic| (have hq : Mine.StopLoops := (by with_reducible assumption); clear hq; with_unfolding_all refine Mine.for_start ?_))
local macro_rules | `(tactic| walk_at "eval Dict cons cons") => `(tactic| (have hq : Mine.StopText := (by with_reducible assumption); clear hq; refine Mine.Hold.of ?_))
local macro_rules | `(tactic| walk_at "call type:enumerate") => `(tactic| (have hq : Mine.StopText := (by with_reducible assumption); clear hq; refine Mine.Hold.of ?_))
local macro_rules | `(tactic| walk_at "setItem ref str int") => `(tactic| (have hq : Mine.StopText := (by with_reducible assumption); clear hq; refine Mine.Hold.of ?_))
local macro_rules | `(tactic| walk_at "call builtin:dict.get") => `(tactic| (have hq : Mine.StopText := (by with_reducible assumption); clear hq; refine Mine.Hold.of ?_))
local macro_rules | `(tactic| walk_at "subscriptTail Name Name ref str") => `(tactic| (have hq : Mine.StopText := (by with_reducible assumption); clear hq; refine Mine.Hold.of ?_))
local macro_rules | `(tactic| k_all) => `(tactic| with_reducible assumption)
theorem fillD : PySem.Challenge.rw_wr0013_01 = PySem.Challenge.rw_wr0013_01 ∧ Mine.hv.heap_1 = Mine.hv.heap_1 := by
  k_fill
  exact ⟨rfl, rfl⟩
/-- a def's contract: what it hands back is a new dict of texts and ints -/
abbrev CtM (d : Nat) (w : World) (f : Addr) (vs : List Value) (R : List (Str × Int)) : Prop :=
  ∀ (mean : ExcName → Option Value) (mg mb : Str → Option Value) (dp un : Nat) (gd : Option (List Code)) (cn : Str) (cs : Scope) (a : Addr) (ccd : Value) (cl : List (Str × Addr)) (outer : List Env) (A₀ : Around) (base h₀ : Heap) (L : Addr) (m : Str → Option Value) (news : List (Addr × Obj)) (s : Shared) (Q E : Value → Shared → Prop),
    Below A₀ base outer h₀ → Fr h₀ L s.heap m → (Mine.hv.heap_1 w.params).In h₀ → News h₀ L s.heap news → Top pv (looseW pv []) mean mg mb h₀ → cs.kind = .function →
    dp + d < recursionLimit → un + 8 * d < cLine →
    (∀ (D : Addr) (ob : Obj) (kvs : List (Str × Value)) (h' : Heap) (tk' : Nat), Fr h₀ L h' m → News h₀ L h' ((D, ob) :: news) → (∀ p ∈ news, p.1 ≠ D) → (D == sysModules) = false → ob.IsDictOf (PySem.strKind pg w) kvs → PyProof.V.FlatPairs PyData.str kvs (kdpD R) → Q (.ref D) { s with heap := h', toks := tk' }) →
      wpAny (model pg w) (ktrTop dp un gd cn cs L a ccd cl outer) (call (.ref f) vs) Q E s
def lowAt (y h : Str) (i c : Nat) : Str := Txt.slice h none (some (i : Int)) ++ (if c = 34 then y else Str.ofString "") ++ Txt.slice h (some ((i : Int) + 1)) none
def stepIn (y : Str) (W : List (Str × Int)) (h : Str) : Nat → List Nat → List (Str × Int) → List (Str × Int)
  | _, [], c => c
  | i, ch :: r, c => if ch = 34 then stepIn y W h (i + 1) r (kdpPut c (lowAt y h i ch) (kdpLook c (lowAt y h i ch) 0 + kdpLook W h 0)) else kdpPut c (lowAt y h i ch) (kdpLook c (lowAt y h i ch) 0 + kdpLook W h 0)
def stepF (y : Str) (W : List (Str × Int)) (c : List (Str × Int)) (p : Str × Int) : List (Str × Int) := stepIn y W p.1 0 p.1.cps.toList c
def downI (y x : Str) : Nat → List (Str × Int)
  | 0 => [(x, 1)]
  | i + 1 => (downI y x i).foldl (stepF y (downI y x i)) []
theorem flat_get {kvs : List (Str × Value)} {c : List (Str × Int)} (h : PyProof.V.FlatPairs PyData.str kvs (kdpD c)) : ∀ {j : Nat} {k : Str} {v : Value}, kvs[j]? = some (k, v) → ∃ n, c[j]? = some (k, n) := by
  induction c generalizing kvs with
  | nil =>
    cases h
    intro j k v hj
    simp at hj
  | cons q c ih =>
    obtain ⟨a, n⟩ := q
    have h' : PyProof.V.FlatPairs PyData.str kvs ((PyData.str a, PyData.int n) :: kdpD c) := h
    cases h' with
    | cons hf hr =>
      intro j k v hj
      cases j with
      | zero =>
        simp only [List.getElem?_cons_zero, Option.some.injEq, Prod.mk.injEq] at hj
        obtain ⟨rfl, _⟩ := hj
        exact ⟨n, rfl⟩
      | succ j => simpa using ih hr (by simpa using hj)
theorem flat_len {kvs : List (Str × Value)} {c : List (Str × Int)} (h : PyProof.V.FlatPairs PyData.str kvs (kdpD c)) : kvs.length = c.length := by
  induction c generalizing kvs with
  | nil => cases h; rfl
  | cons q c ih =>
    obtain ⟨a, n⟩ := q
    have h' : PyProof.V.FlatPairs PyData.str kvs ((PyData.str a, PyData.int n) :: kdpD c) := h
    cases h' with
    | cons hf hr => simp [ih hr]
theorem put_keys {P : Str → Prop} {c : List (Str × Int)} {k : Str} {v : Int} (h : ∀ q ∈ c, P q.1) (hk : P k) : ∀ q ∈ kdpPut c k v, P q.1 := by
  intro q hq
  unfold kdpPut at hq
  split at hq
  · obtain ⟨r, hr, rfl⟩ := List.mem_map.mp hq
    by_cases e : decide (r.1 = k) = true
    · rw [if_pos e]; exact h r hr
    · rw [if_neg e]; exact h r hr
  · rcases List.mem_append.mp hq with hq | hq
    · exact h q hq
    · rw [List.mem_singleton.mp hq]; exact hk
theorem low_len {y k : Str} {p ch : Nat} (hy : y.length = 1) (hp : p < k.length) : (lowAt y k p ch).length ≤ k.length := by
  have h1 : (Txt.slice k none (some (p : Int))).length = p := by
    rw [← Lx_len, slice_b, List.length_take, Lx_len]; omega
  have h2 : (Txt.slice k (some ((p : Int) + 1)) none).length = k.length - (p + 1) := by
    rw [← Lx_len, show ((p : Int) + 1) = ((p + 1 : Nat) : Int) by omega, slice_a, List.length_drop, Lx_len]
  have h3 : (if ch = 34 then y else Str.ofString "").length ≤ 1 := by
    split
    · omega
    · decide +kernel
  unfold lowAt
  rw [Str.length_append, Str.length_append, h1, h2]
  omega
theorem stepIn_q {y : Str} {W : List (Str × Int)} {h : Str} {i ch : Nat} {r : List Nat} {c : List (Str × Int)} (e : ch = 34) : stepIn y W h i (ch :: r) c = stepIn y W h (i + 1) r (kdpPut c (lowAt y h i ch) (kdpLook c (lowAt y h i ch) 0 + kdpLook W h 0)) := by
  rw [stepIn, if_pos e]
theorem stepIn_o {y : Str} {W : List (Str × Int)} {h : Str} {i ch : Nat} {r : List Nat} {c : List (Str × Int)} (e : ch ≠ 34) : stepIn y W h i (ch :: r) c = kdpPut c (lowAt y h i ch) (kdpLook c (lowAt y h i ch) 0 + kdpLook W h 0) := by
  rw [stepIn, if_neg e]
theorem lowAt_q {y h : Str} {i ch : Nat} (e : ch = 34) : Txt.slice h none (some (i : Int)) ++ y ++ Txt.slice h (some ((i : Int) + 1)) none = lowAt y h i ch := by
  unfold lowAt; rw [if_pos e]
theorem lowAt_o {y h : Str} {i ch : Nat} (e : ch ≠ 34) : Txt.slice h none (some (i : Int)) ++ Str.ofString "" ++ Txt.slice h (some ((i : Int) + 1)) none = lowAt y h i ch := by
  unfold lowAt; rw [if_neg e]
theorem take_fold {y : Str} {W : List (Str × Int)} {j : Nat} {k : Str} {cnt : Int} (h : W[j]? = some (k, cnt)) : (W.take (j + 1)).foldl (stepF y W) [] = stepF y W ((W.take j).foldl (stepF y W) []) (k, 0) := by
  rw [List.take_add_one, h]
  simp only [Option.toList_some, List.foldl_append, List.foldl_cons, List.foldl_nil]
  rfl
theorem swap2 {h₀ h : Heap} {L : Addr} {e1 e2 : Addr × Obj} {rest : List (Addr × Obj)} (N : News h₀ L h (e1 :: e2 :: rest)) : News h₀ L h (e2 :: e1 :: rest) := fun p hp => by
  refine N p ?_
  rcases List.mem_cons.mp hp with rfl | hp
  · exact .tail _ (.head _)
  rcases List.mem_cons.mp hp with rfl | hp
  · exact .head _
  · exact .tail _ (.tail _ hp)
theorem drop23 {h₀ h : Heap} {L : Addr} {e1 e2 e3 : Addr × Obj} {rest : List (Addr × Obj)} (N : News h₀ L h (e1 :: e2 :: e3 :: rest)) : News h₀ L h (e2 :: e1 :: rest) := fun p hp => by
  refine N p ?_
  rcases List.mem_cons.mp hp with rfl | hp
  · exact .tail _ (.head _)
  rcases List.mem_cons.mp hp with rfl | hp
  · exact .head _
  · exact .tail _ (.tail _ (.tail _ hp))
theorem reorder3 {h₀ h : Heap} {L : Addr} {e1 e2 e3 e4 : Addr × Obj} {rest : List (Addr × Obj)} (N : News h₀ L h (e1 :: e2 :: e3 :: e4 :: rest)) : News h₀ L h (e4 :: e3 :: rest) := fun p hp => by
  refine N p ?_
  rcases List.mem_cons.mp hp with rfl | hp
  · exact .tail _ (.tail _ (.tail _ (.head _)))
  rcases List.mem_cons.mp hp with rfl | hp
  · exact .tail _ (.tail _ (.head _))
  · exact .tail _ (.tail _ (.tail _ (.tail _ hp)))
theorem small_upto {n : Nat} (hn : n ≤ 8) : Builtin.Range.small 0 n 1 = true := by
  have : n = 0 ∨ n = 1 ∨ n = 2 ∨ n = 3 ∨ n = 4 ∨ n = 5 ∨ n = 6 ∨ n = 7 ∨ n = 8 := by omega
  rcases this with rfl | rfl | rfl | rfl | rfl | rfl | rfl | rfl | rfl <;> decide +kernel
theorem size_upto (n : Nat) : Builtin.Range.rangeSize 0 n 1 = (n : Int) := by
  rw [rangeSize_nat]; simp
inductive DJ1 (w : World) (news : List (Addr × Obj)) (y x : Str) (ty : Tok) (i : Nat) (m' : Str → Option Value) (nx : List (Addr × Obj)) : Prop
  | mk (d : Addr) (ob : Obj) (kvs : List (Str × Value)) (e : nx = (d, ob) :: news) (hn : ∀ p ∈ news, p.1 ≠ d) (hs : (d == sysModules) = false) (hd : ob.IsDictOf (PySem.strKind pg w) kvs) (hf : PyProof.V.FlatPairs PyData.str kvs (kdpD (downI y x i)))
      (m1 : m' (Str.ofString "one") = some (.str y ty)) (m2 : m' (Str.ofString "ways") = some (.ref d)) (hl : (downI y x i).length ≤ 8 ^ i) (hk : ∀ q ∈ downI y x i, q.1.length ≤ 8) : DJ1 w news y x ty i m' nx
inductive DJ2 (w : World) (rest : List (Addr × Obj)) (dl d2 : Addr) (y x : Str) (ty : Tok) (i : Nat) (j : Nat) (m' : Str → Option Value) (nx : List (Addr × Obj)) : Prop
  | mk (obL : Obj) (kvsL : List (Str × Value)) (e : nx = (dl, obL) :: rest) (hd : obL.IsDictOf (PySem.strKind pg w) kvsL) (hf : PyProof.V.FlatPairs PyData.str kvsL (kdpD (((downI y x i).take j).foldl (stepF y (downI y x i)) [])))
      (m1 : m' (Str.ofString "one") = some (.str y ty)) (m2 : m' (Str.ofString "ways") = some (.ref d2)) (m3 : m' (Str.ofString "lower") = some (.ref dl)) (hl : (((downI y x i).take j).foldl (stepF y (downI y x i)) []).length ≤ 8 * j) (hk : ∀ q ∈ (((downI y x i).take j).foldl (stepF y (downI y x i)) []), q.1.length ≤ 8) : DJ2 w rest dl d2 y x ty i j m' nx
inductive DJ3 (w : World) (rest : List (Addr × Obj)) (dl d2 : Addr) (y x k : Str) (ty tk5 : Tok) (i j : Nat) (p : Nat) (m' : Str → Option Value) (nx : List (Addr × Obj)) : Prop
  | mk (obL : Obj) (kvsL : List (Str × Value)) (c : List (Str × Int)) (e : nx = (dl, obL) :: rest) (hd : obL.IsDictOf (PySem.strKind pg w) kvsL) (hf : PyProof.V.FlatPairs PyData.str kvsL (kdpD c))
      (m1 : m' (Str.ofString "one") = some (.str y ty)) (m2 : m' (Str.ofString "ways") = some (.ref d2)) (m3 : m' (Str.ofString "lower") = some (.ref dl)) (m4 : m' (Str.ofString "high") = some (.str k tk5)) (hl : c.length ≤ 8 * j + p) (hk : ∀ q ∈ c, q.1.length ≤ 8)
      (hg : stepIn y (downI y x i) k p (k.cps.toList.drop p) c = stepF y (downI y x i) (((downI y x i).take j).foldl (stepF y (downI y x i)) []) (k, 0)) : DJ3 w rest dl d2 y x k ty tk5 i j p m' nx
theorem c_down (w : World) (x y : Str) (tx ty : Tok) (n : Nat) (tn : Tok) (hx : x.length ≤ 8) (hy : y.length = 1) (hn : n ≤ 8) : CtM 2 w 109 [.str x tx, .str y ty, .int n tn] (downI y x n) := by
  intro mean mg mb dp un gd cn cs a ccd cl outer A₀ base h₀ L m news s Q E B F KX N T hk hdp hun hret
  have hst : StopLoops := ⟨⟩
  have hst2 : StopText := ⟨⟩
  refine wpAny_call ?_
  k_dflt cell_enter
  rename_i g1 L1 h1 FG1 F1 N1 B1 X1 T1
  have hap : ∀ p ∈ news, p.1 < h1.objs.size := fun p hp => (Heap.lt_size (N1 p hp).1)
  repeat' (first | (k_unfold; (try dsimp only)) | walk1 | (dsimp only; walk1) | fail "no step")
  refine Hold.mk ?_
  refine kdn_eval (knd := PySem.strKind pg w) (by k_asm) (by k_asm) (Top.nolimit (by k_asm)) rfl rfl (by simp) (by decide) fun d h2 o F2 N2 hlt hlo hd => ?_
  have hnd : ∀ p ∈ news, p.1 ≠ d := fun p hp => Nat.ne_of_lt (hlt p hp)
  repeat' (first | (k_unfold; (try dsimp only)) | walk1 | (dsimp only; walk1) | fail "no step")
  rename_i hA ob hd1 hf1 hB Fz1 Nz1 hC tkC t1 u1 v1 R1 F3 N3 hkC
  refine Hold.mk (for_rangeO (n := n) (DJ1 w news y x ty) R1 ?_ ?_ rfl F3 N3 ?_ rfl rfl ?_ ?_)
  · exact small_upto hn
  · exact size_upto n
  · refine ⟨d, ob, _, rfl, hnd, hlo, hd1, ?_, rfl, rfl, by simp [downI], ?_⟩
    · exact hf1
    · intro q hq
      rw [List.mem_singleton.mp hq]; exact hx
  · rintro J1 Q1 eJ1 hQ1 I i tk' m₁ nx h4 tk4 o4 hi ⟨d2, ob2, kvs2, rfl, hnd2, hlo2, hd2, hf2, hm1, hm2, hsz, hks⟩ hnI F4 N4
    rw [(kstB_self (ps2 hm1 hm2)).symm] at F4
    clear F3 N3
    repeat' (first | (k_unfold; (try dsimp only)) | walk1 | (dsimp only; walk1) | fail "no step")
    with_reducible rename Fr g1 L1 _ _ => F5
    with_reducible rename News g1 L1 _ _ => N5
    rename_i dl hD oL Fz Nz hloL hdL hfL hiL hgL lt1 hE
    obtain ⟨ltI, lt2, ltn⟩ := lt1
    have hndl : ∀ p ∈ news, p.1 ≠ dl := fun p hp => Nat.ne_of_lt (ktn_ltOf ltn p hp)
    have hndI : ∀ p ∈ news, p.1 ≠ I := fun p hp => hnI p (.tail _ hp)
    have h2I : d2 ≠ I := hnI (d2, ob2) (.head _)
    refine Hold.mk (for_dictO (d := d2) (ob := ob2) (kvs := kvs2) (DJ2 w ((I, o4) :: (d2, ob2) :: news) dl d2 y x ty i) hd2 hlo2 ?_ rfl F5 N5 ?_ rfl rfl ?_ ?_)
    · rintro j m' nx ⟨_, _, rfl, _⟩
      exact .tail _ (.tail _ (.head _))
    · exact ⟨_, _, rfl, hdL, by simpa [kdpD] using hfL, rfl, rfl, rfl, by simp, by simp⟩
    · rintro J2 Q2 eJ2 hQ2 I2 j k vv tk5 m₂ nx h5 tk6 o5 hkv ⟨obL, kvsL, rfl, hdL', hfL', hm1', hm2', hm3', hszL, hksL⟩ hnI2 F6 N6
      rw [(kstB_self (ps3 hm1' hm2' hm3')).symm] at F6
      clear F5 N5 Fz Nz
      repeat' (first | (k_unfold; (try dsimp only)) | walk1 | (dsimp only; walk1) | fail "no step")
      obtain ⟨cnt, hcnt⟩ := flat_get hf2 hkv
      have hkl : k.length ≤ 8 := hks _ (List.mem_of_getElem? hcnt)
      have hkh : kdpHas (downI y x i) k = true := List.any_eq_true.mpr ⟨_, List.mem_of_getElem? hcnt, by simp⟩
      refine Hold.mk (for_enumO (DJ3 w ((I2, o5) :: (I, o4) :: (d2, ob2) :: news) dl d2 y x k ty tk5 i j) rfl (by k_asm) (swap2 (by k_asm)) ?_ rfl rfl rfl ?_ ?_)
      · exact ⟨obL, kvsL, _, rfl, hdL', hfL', rfl, rfl, rfl, rfl, hszL, hksL, rfl⟩
      · rintro J3 Q3 eJ3 hQ3 e it p ch ti u m₃ nx h6 tk7 o6 o7 hch ⟨obM, kvsM, c, rfl, hdM, hfM, hn1, hn2, hn3, hn4, hszM, hksM, hgo⟩ hnI3 F7 N7
        rw [(kstB_self (ps4 hn1 hn2 hn3 hn4)).symm] at F7
        clear F6 N6
        have hedl : dl ≠ e := (hnI3 (dl, obM) (.head _)).1
        have hidl : dl ≠ it := (hnI3 (dl, obM) (.head _)).2
        have hrdl : ∀ q ∈ (I2, o5) :: (I, o4) :: (d2, ob2) :: news, q.1 ≠ dl := by
          intro q hq
          rcases List.mem_cons.mp hq with rfl | hq
          · exact (hnI2 (dl, obL) (.head _)).symm
          rcases List.mem_cons.mp hq with rfl | hq
          · exact Nat.ne_of_lt ltI
          rcases List.mem_cons.mp hq with rfl | hq
          · exact Nat.ne_of_lt lt2
          · exact hndl q hq
        have hnI3' : ∀ (ob : Obj), ∀ q ∈ (dl, ob) :: (I2, o5) :: (I, o4) :: (d2, ob2) :: news, q.1 ≠ e ∧ q.1 ≠ it := fun ob q hq => by
          rcases List.mem_cons.mp hq with rfl | hq
          · exact ⟨hedl, hidl⟩
          · exact hnI3 q (.tail _ hq)
        have hnI2' : ∀ (ob : Obj), ∀ q ∈ (dl, ob) :: (I, o4) :: (d2, ob2) :: news, q.1 ≠ I2 := fun ob q hq => by
          rcases List.mem_cons.mp hq with rfl | hq
          · exact hnI2 (dl, obL) (.head _)
          · exact hnI2 q (.tail _ hq)
        have hjl : j < (downI y x i).length := (List.getElem?_eq_some_iff.mp hcnt).1
        have hpl : p < k.length := (Array.getElem?_eq_some_iff.mp hch).1
        have hpow : (8 : Nat) ^ (i + 1) ≤ 8 ^ 8 := Nat.pow_le_pow_right (by decide) (by omega)
        have hp8 : (8 : Nat) ^ (i + 1) = 8 * 8 ^ i := by rw [Nat.pow_succ]; omega
        have h88 : (8 : Nat) ^ 8 = 16777216 := by decide
        have hbig : c.length ≤ 16777216 := by omega
        repeat' (first | (k_unfold; (try dsimp only)) | walk1 | (dsimp only; walk1) | fail "no step")
        all_goals (
          refine Hold.mk (kdp_get2 (TabAt.ofNews (by k_asm) (.tail _ (.tail _ (.head _))) hloL hdM hfM) fun tg => ?_)
          repeat' (first | (k_unfold; (try dsimp only)) | walk1 | (dsimp only; walk1) | fail "no step")
          refine Hold.mk (kdp_item (TabAt.ofNews (by k_asm) (.tail _ (.tail _ (.tail _ (.tail _ (.tail _ (.head _)))))) hlo2 hd2 hf2) hkh fun th => ?_)
          repeat' (first | (k_unfold; (try dsimp only)) | walk1 | (dsimp only; walk1) | fail "no step")
          refine Hold.mk (kdp_setItem (by k_asm) (by k_asm) (UpdF.tail hedl.symm (UpdF.tail hidl.symm (UpdF.head hrdl))) hdM hfM hbig fun h9 o9 kvs9 F9 N9 hd9 hf9 => ?_)
          repeat' (first | (k_unfold; (try dsimp only)) | walk1 | (dsimp only; walk1) | fail "no step")
          all_goals (try dsimp only))
        · rename (_ == _) = true => q1
          rename (_ != _) = true => q2
          exfalso
          simp only [bne, q1] at q2
          exact absurd q2 (by decide)
        · rename (_ == _) = true => q1
          have hq : ch = 34 := by rw [one_q] at q1; exact of_decide_eq_true q1
          rw [lowAt_q hq] at hf9
          rw [drop_at hch, stepIn_q hq] at hgo
          with_reducible rename Fr g1 L1 _ _ => F8
          subst eJ3
          exact TurnEnd2.next F8 (by k_asm) (hnI3' o9) ⟨o9, kvs9, _, rfl, hd9, hf9, rfl, rfl, rfl, rfl, Nat.le_trans (kdpPut_len _ _ _) (by omega), put_keys (P := fun z => z.length ≤ 8) hksM (Nat.le_trans (low_len hy hpl) hkl), hgo⟩
        · rename (_ == _) = false => q1
          have hq : ch ≠ 34 := by rw [one_q] at q1; exact of_decide_eq_false q1
          rw [lowAt_o hq] at hf9
          rw [drop_at hch, stepIn_o hq] at hgo
          rw [hgo] at hf9
          have hlen9 := kdpPut_len c (lowAt y k p ch) (kdpLook c (lowAt y k p ch) 0 + kdpLook (downI y x i) k 0)
          have hks9 := put_keys (P := fun z => z.length ≤ 8) (v := kdpLook c (lowAt y k p ch) 0 + kdpLook (downI y x i) k 0) hksM (Nat.le_trans (low_len (ch := ch) hy hpl) hkl)
          rw [hgo] at hlen9 hks9
          refine TurnEnd2.brk (hQ3 _ _ ?_)
          dsimp only
          repeat' (first | (k_unfold; (try dsimp only)) | walk1 | (dsimp only; walk1) | fail "no step")
          with_reducible rename Fr g1 L1 _ _ => F8
          with_reducible rename News g1 L1 _ _ => N8
          subst eJ2
          refine TurnEnd.next F8 (reorder3 N8) (hnI2' o9) ⟨o9, kvs9, rfl, hd9, ?_, rfl, rfl, rfl, ?_, ?_⟩
          · rw [take_fold hcnt]; exact hf9
          · rw [take_fold hcnt]; exact Nat.le_trans hlen9 (by omega)
          · rw [take_fold hcnt]; exact hks9
        · rename (_ == _) = false => q1
          rename (_ != _) = false => q2
          exfalso
          simp only [bne, q1] at q2
          exact absurd q2 (by decide)
      · rintro h6 tk7 m₃ nx F7 N7 ⟨obM, kvsM, c, rfl, hdM, hfM, hn1, hn2, hn3, hn4, hszM, hksM, hgo⟩
        have hnil : k.cps.toList.drop k.length = [] := List.drop_eq_nil_of_le (by rw [show k.cps.toList.length = k.length from Lx_len k]; exact Nat.le_refl _)
        have hgo' : c = stepF y (downI y x i) (((downI y x i).take j).foldl (stepF y (downI y x i)) []) (k, 0) := by
          rw [← hgo, hnil]; rfl
        rw [(kstB_self (ps3 hn1 hn2 hn3)).symm] at F7
        clear F6 N6
        dsimp only
        repeat' (first | (k_unfold; (try dsimp only)) | walk1 | (dsimp only; walk1) | fail "no step")
        have hnI2' : ∀ (ob : Obj), ∀ q ∈ (dl, ob) :: (I, o4) :: (d2, ob2) :: news, q.1 ≠ I2 := fun ob q hq => by
          rcases List.mem_cons.mp hq with rfl | hq
          · exact hnI2 (dl, obL) (.head _)
          · exact hnI2 q (.tail _ hq)
        subst eJ2
        refine TurnEnd.next (by k_asm) (swap2 (by k_asm)) (hnI2' obM) ⟨obM, kvsM, rfl, hdM, ?_, rfl, rfl, rfl, ?_, ?_⟩
        · rw [take_fold hcnt, ← hgo']; exact hfM
        · rw [take_fold hcnt, ← hgo']; omega
        · rw [take_fold hcnt, ← hgo']; exact hksM
    · rintro h5 tk6 m₂ nx F6 N6 ⟨obL, kvsL, rfl, hdL', hfL', hm1', hm2', hm3', hszL, hksL⟩
      rw [(kstB_self (ps3 hm1' hm2' hm3')).symm] at F6
      clear F5 N5 Fz Nz
      repeat' (first | (k_unfold; (try dsimp only)) | walk1 | (dsimp only; walk1) | fail "no step")
      have hwl : kvs2.length = (downI y x i).length := flat_len hf2
      have hdn : ((downI y x i).take kvs2.length).foldl (stepF y (downI y x i)) [] = downI y x (i + 1) := by
        rw [hwl, List.take_length]; rfl
      rw [hdn] at hfL' hszL hksL
      subst eJ1
      refine TurnEnd.next (by k_asm) (drop23 (by k_asm)) ?_ ⟨dl, obL, kvsL, rfl, hndl, hloL, hdL', hfL', rfl, rfl, ?_, hksL⟩
      · intro q hq
        rcases List.mem_cons.mp hq with rfl | hq
        · exact Nat.ne_of_gt ltI
        · exact hndI q hq
      · rw [Nat.pow_succ]; omega
  · rintro h4 tk4 m₁ nx F4 N4 ⟨d2, ob2, kvs2, rfl, hnd2, hlo2, hd2, hf2, hm1, hm2, hsz, hks⟩
    rw [(kstB_self (ps2 hm1 hm2)).symm] at F4
    clear F3 N3
    repeat' (first | (k_unfold; (try dsimp only)) | walk1 | (dsimp only; walk1) | fail "no step")
    exact hret d2 ob2 kvs2 _ _ (by k_asm) (by k_asm) hnd2 hlo2 hd2 hf2
end Mine
end
section
-- S1
open PySem PySem.W PyProof.Rows PySem.Calls
set_option Elab.async false
set_option maxRecDepth 100000
namespace Mine
section
variable {prog : Program} {w : World} {A₀ A : Around} {s : Shared} {base h₀ : Heap} {env : Env} {L : Addr} {m : Str → Option Value} {news : List (Addr × Obj)} {K : Frag} {p : Program} {loose : List Str} {mean : ExcName → Option Value} {mg mb : Str → Option Value}
    {R : Result → Shared → Prop} {name qual : Str} {params : Arguments} {body : List Stmt} {scope : Scope} {dV kV doc pm cdv ct oc : Value} {an od : Option Addr} {osl : Array (Option Value)} {f : Addr} {args : Args} {binds : List (Str × Value)}
/-- the outermost def (with cells or without) calls a def in which a try may catch -/
theorem code_defX0 (B : Below A₀ base [] h₀) (F : Fr h₀ L s.heap m) (X₀ : K.In h₀) (N : News h₀ L s.heap news) (T : Top p loose mean mg mb h₀) (hA : A.frames = some [env]) (hf : env.frame = some L) (hke : env.scope.kind = .function)
    (ho : K.lookup f = some ⟨oc, od, .func (fnOf name qual params body scope dV kV doc pm an cdv ct), osl⟩) (hcd : codeIn K cdv qual = true) (hroom : A.depth < recursionLimit)
    (hbind : BindsTo s (fnOf name qual params body scope dV kV doc pm an cdv ct) args binds) (hloc : ∀ y ∈ binds, scope.names.lookup y.1 = some .local)
    (h : ∀ g L' h₁, Fr h₀ L g m → Fr g L' h₁ (fun y => binds.reverse.lookup y) → News g L' h₁ news → Below A base [env] g → K.In g → Top p loose mean mg mb g → KtsDicts ([env].filterMap (·.frame)) g →
      wpAny (model prog w) (A.deeper (envOf qual scope L' f cdv)) (execs body (envOf qual scope L' f cdv))
        (fun fl s' => LeaveS0 ([env].filterMap (·.frame)) h₀ L m g R (match fl with | .ret v => v | _ => .none) s')
        (fun e s' => wpAny (model prog w) (A.deeper (envOf qual scope L' f cdv)) (leaving (envOf qual scope L' f cdv) e) (fun _ s'' => R (.error e) s'') (fun e' s'' => R (.error e') s'') s')
        { s with heap := h₁, toks := s.toks + binds.length })
    (hco : scope.isCoroutine = false) (hgen : scope.isGenerator = false) (hk : scope.kind = .function)
    (hcell : ∀ x ∈ scope.names, x.2 ≠ .cell) : codeAny (model prog w) A (.call (.ref f) args) R s := by
  have X := X₀.keeps F.keep
  refine codeAny_call_def (fd := fnOf name qual params body scope dV kV doc pm an cdv ct) (body := body) (binds := binds) hroom (X _ _ ho) rfl (T.nolimit.keeps F.keep) (codeRec_of X hcd) rfl hbind hcell hloc (fun h₁ hns hk₁ => ?_) hco hgen hk
  have hfs : [env].filterMap (·.frame) = [L] := by simp [hf]
  have nm : ∀ b o, h₀.get? b = some o → b ∉ news.map (·.1) := fun b o e q => by
    obtain ⟨p, hp, rfl⟩ := List.mem_map.mp q
    rw [(N p hp).2.2] at e; cases e
  have st : h₀.StaysIn (hideAll s.heap (news.map (·.1))) := fun b o e => hideAll_get _ (F.keep b o e) (nm b o e)
  obtain ⟨oL, es, ep, hL, hLd, hLk, hLf⟩ := F.ns
  have nL : L ∉ news.map (·.1) := fun q => by
    obtain ⟨p, hp, e⟩ := List.mem_map.mp q
    exact (N p hp).2.1 e
  have hLg := hideAll_get (news.map (·.1)) hL nL
  have nL₀ : h₀.get? L = none := kts_self F
  have nLb : base.get? L = none := by
    cases q : base.get? L with
    | none => rfl
    | some o => rw [B.stays _ _ q] at nL₀; cases nL₀
  have hN : ∀ (sl : Array (Option Value)) h', h'.get? L = some { oL with slots := sl } → Heap.Ns h' L m := fun sl h' e => ⟨_, es, ep, e, hLd, hLk, hLf⟩
  have B₂ : Below A base [env] (hideAll s.heap (news.map (·.1))) := by
    have q1 : env.scope.kind ≠ .module := by rw [hke]; decide
    have q2 : ∀ vs, oL.data ≠ .fields vs := by rw [hLd]; intro vs q; cases q
    exact ⟨hA, fun b o e => st b o (B.stays b o e), q1, ⟨L, oL, hf, nLb, hLg, q2⟩, trivial⟩
  refine wpAny_mono (h _ s.heap.objs.size h₁ ⟨⟨oL, es, ep, hLg, hLd, hLk, hLf⟩, st, F.above⟩ ⟨hns, fun b o e => hk₁ b o (of_hideAll _ e), Nat.le_of_eq (hideAll_size _ _)⟩
    (fun p hp => ⟨hk₁ _ _ (N p hp).1, Nat.ne_of_lt (Heap.lt_size (N p hp).1), hideAll_none _ (List.mem_map_of_mem hp)⟩) B₂ (X₀.keeps st) (T.keeps st) (fun b hb => by
      rw [hfs] at hb
      rw [List.mem_singleton.mp hb]
      exact ⟨oL, es, ep, hLg, hLd⟩)) (fun fl s' hl => ?_) fun _ _ y => y
  obtain ⟨g', L', m', news', T', F', N', k⟩ := hl
  rw [hfs] at T'
  obtain ⟨sl, hs⟩ := T'.up hLg
  refine k ⟨hN sl _ (F'.keep _ _ hs), fun b o e => F'.keep b o (T'.other b o (st b o e) (fun q => by
    rw [List.mem_singleton.mp q, nL₀] at e
    cases e)), F.above⟩ fun p hp => ⟨(N' p hp).1, fun q => ?_, ?_⟩
  · have := (N' p hp).2.2; rw [q, hs] at this; cases this
  · cases q : h₀.get? p.1 with
    | none => rfl
    | some o =>
      obtain ⟨sl', hs'⟩ := T'.up (st _ _ q)
      have := (N' p hp).2.2
      rw [hs'] at this
      cases this
/-- the same, the caller's ledger kept in the ground -/
theorem code_defX1 (B : Below A₀ base [] h₀) (F : Fr h₀ L s.heap m) (X₀ : K.In h₀) (N : News h₀ L s.heap news) (T : Top p loose mean mg mb h₀) (hA : A.frames = some [env]) (hf : env.frame = some L) (hke : env.scope.kind = .function)
    (ho : K.lookup f = some ⟨oc, od, .func (fnOf name qual params body scope dV kV doc pm an cdv ct), osl⟩) (hcd : codeIn K cdv qual = true) (hroom : A.depth < recursionLimit)
    (hbind : BindsTo s (fnOf name qual params body scope dV kV doc pm an cdv ct) args binds) (hloc : ∀ y ∈ binds, scope.names.lookup y.1 = some .local)
    (h : ∀ g L' h₁, Fr h₀ L g m → (∀ p ∈ news, g.get? p.1 = some p.2) → Fr g L' h₁ (fun y => binds.reverse.lookup y) → News g L' h₁ [] → Below A base [env] g → K.In g → Top p loose mean mg mb g → KtsDicts ([env].filterMap (·.frame)) g →
      wpAny (model prog w) (A.deeper (envOf qual scope L' f cdv)) (execs body (envOf qual scope L' f cdv))
        (fun fl s' => LeaveS0 ([env].filterMap (·.frame)) h₀ L m g R (match fl with | .ret v => v | _ => .none) s')
        (fun e s' => wpAny (model prog w) (A.deeper (envOf qual scope L' f cdv)) (leaving (envOf qual scope L' f cdv) e) (fun _ s'' => R (.error e) s'') (fun e' s'' => R (.error e') s'') s')
        { s with heap := h₁, toks := s.toks + binds.length })
    (hco : scope.isCoroutine = false) (hgen : scope.isGenerator = false) (hk : scope.kind = .function)
    (hcell : ∀ x ∈ scope.names, x.2 ≠ .cell) : codeAny (model prog w) A (.call (.ref f) args) R s := by
  have X := X₀.keeps F.keep
  refine codeAny_call_def (fd := fnOf name qual params body scope dV kV doc pm an cdv ct) (body := body) (binds := binds) hroom (X _ _ ho) rfl (T.nolimit.keeps F.keep) (codeRec_of X hcd) rfl hbind hcell hloc (fun h₁ hns hk₁ => ?_) hco hgen hk
  have hfs : [env].filterMap (·.frame) = [L] := by simp [hf]
  have nm : ∀ b o, h₀.get? b = some o → b ∉ ([] : List Addr) := fun b o e q => nomatch q
  have st : h₀.StaysIn (hideAll s.heap []) := fun b o e => hideAll_get _ (F.keep b o e) (nm b o e)
  obtain ⟨oL, es, ep, hL, hLd, hLk, hLf⟩ := F.ns
  have nL : L ∉ ([] : List Addr) := fun q => nomatch q
  have hLg := hideAll_get [] hL nL
  have nL₀ : h₀.get? L = none := kts_self F
  have nLb : base.get? L = none := by
    cases q : base.get? L with
    | none => rfl
    | some o => rw [B.stays _ _ q] at nL₀; cases nL₀
  have hN : ∀ (sl : Array (Option Value)) h', h'.get? L = some { oL with slots := sl } → Heap.Ns h' L m := fun sl h' e => ⟨_, es, ep, e, hLd, hLk, hLf⟩
  have B₂ : Below A base [env] (hideAll s.heap []) := by
    have q1 : env.scope.kind ≠ .module := by rw [hke]; decide
    have q2 : ∀ vs, oL.data ≠ .fields vs := by rw [hLd]; intro vs q; cases q
    exact ⟨hA, fun b o e => st b o (B.stays b o e), q1, ⟨L, oL, hf, nLb, hLg, q2⟩, trivial⟩
  refine wpAny_mono (h _ s.heap.objs.size h₁ ⟨⟨oL, es, ep, hLg, hLd, hLk, hLf⟩, st, F.above⟩ (fun p hp => hideAll_get [] (N p hp).1 (fun q => nomatch q)) ⟨hns, fun b o e => hk₁ b o (of_hideAll _ e), Nat.le_of_eq (hideAll_size _ _)⟩
    (fun p hp => nomatch hp) B₂ (X₀.keeps st) (T.keeps st) (fun b hb => by
      rw [hfs] at hb
      rw [List.mem_singleton.mp hb]
      exact ⟨oL, es, ep, hLg, hLd⟩)) (fun fl s' hl => ?_) fun _ _ y => y
  obtain ⟨g', L', m', news', T', F', N', k⟩ := hl
  rw [hfs] at T'
  obtain ⟨sl, hs⟩ := T'.up hLg
  refine k ⟨hN sl _ (F'.keep _ _ hs), fun b o e => F'.keep b o (T'.other b o (st b o e) (fun q => by
    rw [List.mem_singleton.mp q, nL₀] at e
    cases e)), F.above⟩ fun p hp => ⟨(N' p hp).1, fun q => ?_, ?_⟩
  · have := (N' p hp).2.2; rw [q, hs] at this; cases this
  · cases q : h₀.get? p.1 with
    | none => rfl
    | some o =>
      obtain ⟨sl', hs'⟩ := T'.up (st _ _ q)
      have := (N' p hp).2.2
      rw [hs'] at this
      cases this
end
end Mine
end
section
-- S2
open PySem PySem.W PyProof.Rows PySem.Calls PySem.Spec
set_option Elab.async false
set_option maxRecDepth 100000
namespace Mine
section
variable {prog : Program} {w : World} {A : Around} {E : Value → Shared → Prop} {s : Shared} {K : Frag} {e t C : Addr}
theorem own_type {M : Model} {h : Heap} {o : Obj} (ho : h.get? e = some o) (hc : o.cls = .ref C) : Looks M h (typeOf (.ref e)) (.ref C) := hc ▸ (Looks.ld ho).andThen .now
open Builtin Builtin.BaseException Builtin.Exceptions in
theorem own_bexcArgs {M : Model} {o : Obj} {ws : Array Value} {items : List Value} {Q : Value × List Value → Shared → Prop} (ho : s.heap.get? e = some o) (hd : o.data = .fields ws) (h0 : ws[0]? = some (.ref t)) (ht : s.heap.TupAt t items) (hq : Q (.ref t, items) s) :
    wpAny M A (bexcArgs (.ref e)) Q E s := by
  obtain ⟨ot, k, hto, _, htd⟩ := ht
  unfold bexcArgs
  refine wpAny_bind (wpAny_field ho hd h0 (wpAny_bind (wpAny_seqItems hto htd ?_)))
  have : items.toArray.toList = items := by simp
  show wpAny M A (pure (Value.ref t, items.toArray.toList)) Q E s
  rw [this]; exact wpAny_pure hq
open Builtin Builtin.BaseException Builtin.Exceptions in
theorem own_special {m : Str} {tk : Tok} {Q : Option Value → Shared → Prop} {o : Obj} {ws : Array Value} (X : K.In s.heap) (ho : s.heap.get? e = some o) (hc : o.cls = .ref C) (hd : o.data = .fields ws) (h0 : ws[0]? = some (.ref t)) (ht : s.heap.TupAt t [.str m tk])
    (hs : findIn K (.ref C) "__str__" = some (some (.builtin "BaseException.__str__"))) (hm : mroIn K C (.type "BaseException") = some true) (hq : Q (some (.str m tk)) s) :
    wpAny (model prog w) A (callSpecial? (.ref e) (Str.ofString "__str__")) Q E s := by
  refine wpAny_bind (wpAny_bind ((own_type ho hc).here ((looks_findIn X hs).here (wpAny_holding (wpAny_bind ((Looks.of_pure (PySem.F.excStr_Exception.str.bind _)).here (wpAny_bind ?_)))))))
  refine wpAny_call (codeAny_call_builtin PySem.F.excStr_Exception.str.plain PySem.F.entry_bexc_str (check_slot (i := "BaseException.__str__") (owner := "BaseException") (n := "__str__") (by decide +kernel) (by decide +kernel) ((own_type ho hc).andThen (looks_mroIn X hm)) (PySem.F.args_bexc_str _) ?_))
  unfold Builtin.«BaseException.__str__»
  repeat (first | with_reducible refine own_bexcArgs ho hd h0 ht ?_ | wp_step)
  exact hq
open Builtin Builtin.Str in
/-- `str(e)` of an object of a class of the program under BaseException, made with one text -/
theorem own_str {m : Str} {tk : Tok} {Q : Value → Shared → Prop} {o : Obj} {ws : Array Value} (hu : A.in1.in1.units < cLine) (X : K.In s.heap) (ho : s.heap.get? e = some o) (hc : o.cls = .ref C) (hd : o.data = .fields ws) (h0 : ws[0]? = some (.ref t)) (ht : s.heap.TupAt t [.str m tk])
    (hs : findIn K (.ref C) "__str__" = some (some (.builtin "BaseException.__str__"))) (hm : mroIn K C (.type "BaseException") = some true) (hq : Q (.str m tk) s) :
    wpAny (model prog w) A (call (.type "str") [.ref e]) Q E s := by
  refine callType_codes (T := "str") (Bi := Builtin.«object.__init__») (Q₁ := fun r s₁ => ∃ y u, r = .str y u ∧ Q r s₁) PySem.F.called_str (PySem.F.typeCall_str_1 _) PySem.F.entry_object_init ?_ ?_
  · refine codeAny_of_tree ?_
    show wpAny _ A.in1.in1 (do checkBuiltinCall "str.__new__" ⟨[.type "str", .ref e], []⟩; again (.builtin "str.__new__" ⟨[.type "str", .ref e], []⟩)) _ _ s
    refine wpAny_bind (wpAny_of_eq (PySem.F.newCall_str_1 _) (wpAny_pure ⟨plainId_quiet (by decide +kernel) _, codeAny_builtin PySem.F.entry_str_new ?_⟩))
    rw [Around.under_plainId (by decide +kernel) _]
    rw [str_new_tree]
    refine wpAny_bind (wpAny_pure ?_)
    refine wpAny_bind (wpAny_of_eq isSubtype_str_str ?_)
    have key : wpAny (model prog w) A.in1.in1 (PySem.Builtin.Str.strOf (.ref e)) (fun r s₁ => ∃ y u, r = .str y u ∧ Q r s₁) E s := by
      unfold PySem.Builtin.Str.strOf
      rw [show isExactStr (.ref e) = false from rfl]
      refine wpAny_bind (m := cRoomFor _ _) (wpAny_cRoomFor hu ?_)
      refine wpAny_bind (m := callSpecial? (.ref e) (Str.ofString "__str__")) (own_special X ho hc hd h0 ht hs hm ?_)
      exact wpAny_pure ⟨_, _, rfl, hq⟩
    exact wpAny_bind (wpAny_mono key (fun r s₁ hr => wpAny_pure hr) fun _ _ y => y)
  · rintro obj s₁ ⟨y, u, rfl, hq⟩
    exact ⟨typeIs_str _ _ _, PySem.F.args_object_init_2 _ _, object_init_meets PySem.F.called_str.init.lookup PySem.F.called_str.made (by decide) prog w A.in1 _ s₁ ⟨typeIs_str _ _ _, rfl, hq⟩⟩
theorem got_str {m : Str} {tk : Tok} {Q : Value → Shared → Prop} {h₀ : Heap} {L : Addr} {news : List (Addr × Obj)} (X : K.In s.heap) (N : News h₀ L s.heap news) (G : Got news e t (.ref C) [.str m tk]) (hu : A.in1.in1.units < cLine)
    (hs : findIn K (.ref C) "__str__" = some (some (.builtin "BaseException.__str__"))) (hm : mroIn K C (.type "BaseException") = some true) (hq : Q (.str m tk) s) :
    wpAny (model prog w) A (call (.type "str") [.ref e]) Q E s := by
  obtain ⟨oe, ot, ws, nt, h1, h2, hc, hd, h0, htc, htd⟩ := G
  exact own_str hu X (N.get h1) hc hd h0 ⟨ot, nt, N.get h2, htc, htd⟩ hs hm hq
end
end Mine
end
section
-- F1
open PySem PySem.W PyProof.Rows PySem.Calls
set_option Elab.async false
set_option maxRecDepth 100000
set_option maxHeartbeats 4000000
set_option pp.deepTerms false
set_option pp.maxSteps 700
namespace Mine
theorem startF1 : True := by
  w_top off
  exact trivial
theorem fillF : PySem.Challenge.rw_wr0013_01 = PySem.Challenge.rw_wr0013_01 ∧ Mine.hv.heap_1 = Mine.hv.heap_1 := by
  k_fill
  exact ⟨rfl, rfl⟩
/-- a def's contract, called from the outermost def alone: tries in it may catch what its callee raises -/
abbrev CtS (d : Nat) (w : World) (f : Addr) (vs : List Value) (R : Tok → Value) : Prop :=
  ∀ (mean : ExcName → Option Value) (mg mb : Str → Option Value) (dp un : Nat) (gd : Option (List Code)) (cn : Str) (cs : Scope) (a : Addr) (ccd : Value) (cl : List (Str × Addr)) (A₀ : Around) (base h₀ : Heap) (L : Addr) (m : Str → Option Value) (news : List (Addr × Obj)) (s : Shared) (Q E : Value → Shared → Prop),
    Below A₀ base [] h₀ → Fr h₀ L s.heap m → (Mine.hv.heap_1 w.params).In h₀ → News h₀ L s.heap news → Top pv (looseW pv []) mean mg mb h₀ → (Mine.hv.heap_1 w.params).In base → Top pv (looseW pv []) mean mg mb base → cs.kind = .function →
    dp + d < recursionLimit → un + 8 * d < cLine →
    (∀ (t : Tok) (h' : Heap) (tk' : Nat), Fr h₀ L h' m → News h₀ L h' news → Q (R t) { s with heap := h', toks := tk' }) →
      wpAny (model pg w) (ktrTop dp un gd cn cs L a ccd cl []) (call (.ref f) vs) Q E s
local macro_rules | `(tactic| walk_at "call ref") => `(tactic| (k_here; (with_reducible show wpAny _ _ (PySem.call (Value.ref 53) _) _ _ _); k_dflt (refine wpAny_call ?_; (refine' code_defS ?k1 ?k2 ?k3 ?k4 ?k5 ?XB ?TB ?D ?T0 ?kA ?k6 ?k7 ?k8 ?k9 ?kB ?_ ?cK ?c2 ?c3 ?c4 ?c5; (case kA => exact rfl); (case k2 => k_asm); (case k1 => k_asm); (case XB => assumption); (case TB => assumption); (case D => assumption); (case T0 => first | assumption | exact KtsTurn.refl); (case k3 => k_asm); (case k4 => k_asm); (case k5 => k_asm); (case k6 => k_is); (case k7 => k_is); (case k8 => ktr_room); (case k9 => exact BindsTo.of_eq rfl); (case kB => exact locs rfl); (case cK => exact rfl); (case c2 => exact rfl); (case c3 => exact rfl); (case c4 => exact rfl); (case c5 => decide); k_whole; intro g' L' h' FG' F' N' B' X' T' D'; (try dsimp only); (try k_lift B'); (try k_fold)))))
local macro_rules | `(tactic| walk_at "call type:str") => `(tactic| (k_here; (with_reducible show wpAny _ _ (call (Value.type "str") [Value.ref _]) _ _ _); k_dflt (refine' Mine.got_str ?X ?N ?G ?U ?S ?M ?_; (case G => assumption); (case N => assumption); (case X => k_in); (case U => first | k_units | ktr_units); (case S => k_is); (case M => k_is); k_whole)))
theorem c_refused (w : World) (x : Str) (tx : Tok) (hx : x.length ≤ 1000) (h257 : (Txt.slice x none (some 3) != Str.ofString "257") = true) : CtS 6 w 95 [.str x tx] (fun _ => .bool true) := by
  intro mean mg mb dp un gd cn cs a ccd cl A₀ base h₀ L m news s Q E B F KX N T KXb Tb hk hdp hun hret
  refine wpAny_call ?_
  k_dflt (refine' Mine.code_defX0 ?k1 ?k2 ?k3 ?k4 ?k5 ?kA ?kF ?kK ?k6 ?k7 ?k8 ?k9 ?kB ?_ ?c2 ?c3 ?c4 ?c5; (case kA => exact rfl); (case kF => exact rfl); (case kK => exact hk); (case k2 => k_asm); (case k1 => k_asm); (case k3 => k_asm); (case k4 => k_asm); (case k5 => k_asm); (case k6 => k_is); (case k7 => k_is); (case k8 => ktr_room); (case k9 => exact BindsTo.of_eq rfl); (case kB => exact locs rfl); (case c2 => exact rfl); (case c3 => exact rfl); (case c4 => exact rfl); (case c5 => decide); k_whole; intro g' L' h' FG' F' N' B' X' T' D'; (try dsimp only); (try k_lift B'); (try k_fold))
  repeat' (first | (k_unfold; (try dsimp only)) | walk1 | (dsimp only; walk1) | fail "no step")
  rw [show (x == x) = true from beq_self_eq_true x]
  with_reducible rename Fr h₀ L _ m => F9
  with_reducible rename News h₀ L _ news => N9
  exact hret tx _ _ F9 N9
end Mine
end
section
-- G1
open PySem PySem.W PyProof.Rows PySem.Calls
set_option Elab.async false
set_option maxRecDepth 100000
namespace Mine
section
variable {M : Model} {A : Around} {R : GenEnd} {Y : Protocol} {n : Nat} {s₀ : Shared} {c : Code} {fs : List Frame} {s : Shared} {env : Env}
  {K : Flow → Sem Fin} {H : Value → Sem Fin} {gd : Bool → Bool} {lv : List Value → List Value}

theorem seg_If {test : PySem.Expr} {b1 b2 : List Stmt} {pos : Pos}
    (h : wpAny M (A.over c fs) (isTrue test env (eval test env)) (fun b s' => if b = true then Seg M A R Y n s₀ c ((execs b1 env).wrap K H gd lv) fs s' else Seg M A R Y n s₀ c ((execs b2 env).wrap K H gd lv) fs s') (fun x s' => Seg M A R Y n s₀ c (H x) fs s') s) :
    Seg M A R Y n s₀ c ((exec (.If test b1 b2 pos) env).wrap K H gd lv) fs s := by
  rw [exec_If]
  refine seg_bind_wrap (wpAny_standAt ?_)
  refine seg_bind_wrap (wpAny_mono h (fun b s' h' => ?_) fun _ _ e => e)
  cases b with
  | true => rw [if_pos rfl] at h'; rw [if_pos rfl]; exact h'
  | false => rw [if_neg (by decide)] at h'; rw [if_neg (by decide)]; exact h'

theorem seg_stmt {st : Stmt} (h : wpAny M (A.over c fs) (exec st env) (fun f s' => Seg M A R Y n s₀ c (K f) fs s') (fun x s' => Seg M A R Y n s₀ c (H x) fs s') s) :
    Seg M A R Y n s₀ c ((exec st env).wrap K H gd lv) fs s := seg_wrap h

/-- what is done at the end of a loop's own code -/
def backFrom (env : Env) (K : Flow → Sem Fin) (H : Value → Sem Fin) (gd : Bool → Bool) (lv : List Value → List Value) (r : Result) : Sem Fin :=
  ((match r with | .ok f => (.pure f : Sem Flow) | .error e => .raise e).onRaise fun (x : Value) => do
        if (← field x 1) == Value.none then unsupported "frame.own-activation:exception-without-traceback"
        setFlight x env.frame).wrap K H gd lv

theorem seg_runOwn {c' : Code}
    (h : ∀ p, Seg M A R Y n s₀ c' (M.den c') (.ret (backFrom env K H gd lv) none (gd false) (lv []) c p [] :: fs) s) :
    Seg M A R Y n s₀ c ((runOwn c' env).wrap K H gd lv) fs s := seg_call h
theorem backFrom_ok {f : Flow} : backFrom env K H gd lv (.ok f) = K f := rfl

theorem seg_For {target iter : PySem.Expr} {body : List Stmt} {pos : Pos}
    (h : wpAny M (A.over c fs) (eval iter env) (fun xv s₁ => wpAny M (A.over c fs) (pyIter xv) (fun it s₂ => ∀ p,
      Seg M A R Y n s₀ (.forLoop target it body [] env) (M.den (.forLoop target it body [] env)) (.ret (backFrom env K H gd lv) none (gd false) (lv []) c p [] :: fs) s₂)
        (fun x s' => Seg M A R Y n s₀ c (H x) fs s') s₁) (fun x s' => Seg M A R Y n s₀ c (H x) fs s') s)
    (hs : ∀ x, foldedSetIterable iter env x = pure x := by intro _; rfl) :
    Seg M A R Y n s₀ c ((exec (.For target iter body [] pos) env).wrap K H gd lv) fs s := by
  rw [exec_For]
  refine seg_bind_wrap (wpAny_standAt ?_)
  refine seg_bind_wrap (wpAny_mono h (fun xv s₁ h₁ => ?_) fun _ _ e => e)
  refine seg_bind_wrap (wpAny_of_eq (hs xv) ?_)
  refine seg_bind_wrap (wpAny_standAt ?_)
  refine seg_bind_wrap (wpAny_holding (wpAny_mono h₁ (fun it s₂ h₂ => ?_) fun _ _ e => e))
  exact seg_runOwn h₂
end

section
variable {prog : Program} {w : World} {A : Around} {R : GenEnd} {Y : Protocol} {n : Nat} {s₀ : Shared} {fs : List Frame} {s : Shared} {env : Env}

/-- what is done on a raise in a loop's own code -/
def notes (env : Env) (e : Value) : Sem Fin := (do noteFrame e env; theTreesLotGoes e : Sem Unit).wrap (fun _ => .raise e) .raise id id

theorem seg_forLoop {x : Str} {px : Pos} {it : Value} {body : List Stmt}
    (h : wpAny (model prog w) (A.over (.forLoop (.Name x px) it body [] env) fs) (pyNext it) (fun r s' => match r with
        | none => Seg (model prog w) A R Y n s₀ (.block [] env) (leafOf (.ok .next)) fs s'
        | some v => wpAny (model prog w) (A.over (.forLoop (.Name x px) it body [] env) fs) (assign (.Name x px) env v) (fun _ s'' =>
          Seg (model prog w) A R Y n s₀ (.forLoop (.Name x px) it body [] env) ((execs body env).wrap (fun f => match f with
            | .next | .cont => .pure (.again (.forLoop (.Name x px) it body [] env))
            | .brk => .pure (.done .next)
            | .ret v => .pure (.done (.ret v))) (notes env) id id) fs s'') (fun _ _ => False) s') (fun _ _ => False) s) :
    Seg (model prog w) A R Y n s₀ (.forLoop (.Name x px) it body [] env) ((model prog w).den (.forLoop (.Name x px) it body [] env)) fs s := by
  show Seg _ A R Y n s₀ _ ((forTurn (.Name x px) it body [] env).onRaise (fun x => do noteFrame x env; theTreesLotGoes x)) fs s
  unfold forTurn
  rw [Sem.onRaise_eq_wrap]
  refine seg_bind_wrap (wpAny_standAt ?_)
  refine seg_bind_wrap (wpAny_onRaise (wpAny_mono h (fun r s' h' => ?_) fun _ _ e => e.elim))
  cases r with
  | none =>
    refine seg_again (c' := .block [] env) rfl ?_
    exact h'
  | some v =>
    refine seg_bind_wrap (wpAny_of_eq (rfl : letOwnedTupleGo (.Name x px) it v = pure ()) ?_)
    refine seg_bind_wrap (wpAny_mono h' (fun _ s'' h'' => ?_) fun _ _ e => e.elim)
    rw [Sem.bind_eq_wrap', Sem.wrap_wrap]
    rw [Sem.wrap_congr (execs body env) _ _ (K' := fun f => match f with
            | .next | .cont => .pure (.again (.forLoop (.Name x px) it body [] env))
            | .brk => .pure (.done .next)
            | .ret v => .pure (.done (.ret v))) (H' := notes env)
        (fun f => by cases f <;> rfl)
        (fun e => by first | exact Sem.bind_eq_wrap _ _ | (show (do noteFrame e env; theTreesLotGoes e : Sem Unit).bind (fun _ => .raise e) = _; rw [Sem.bind_eq_wrap]; rfl))]
    exact h''
end
end Mine
end
section
-- G2
open PySem PySem.W PyProof.Rows PySem.Calls
set_option Elab.async false
set_option maxRecDepth 100000
set_option maxHeartbeats 4000000
set_option pp.deepTerms false
set_option pp.maxSteps 1500
namespace Mine
theorem startG2 : True := by
  w_top off
  exact trivial
local macro_rules | `(tactic| walk_at "no key 0") => `(tactic| skip)
theorem fillG : PySem.Challenge.rw_wr0013_01 = PySem.Challenge.rw_wr0013_01 ∧ Mine.hv.heap_1 = Mine.hv.heap_1 := by
  k_fill
  exact ⟨rfl, rfl⟩
theorem lk_cases {K : Frag} {f : Addr} {name qual : Str} {params : Arguments} {body : List Stmt} {scope : Scope} {dV kV doc pm cdv ct oc : Value} {an od : Option Addr} {osl : Array (Option Value)}
    {name' qual' : Str} {params' : Arguments} {body' : List Stmt} {scope' : Scope} {dV' kV' doc' pm' cdv' ct' oc' : Value} {an' od' : Option Addr} {osl' : Array (Option Value)} {G : Prop}
    (h1 : K.lookup f = some ⟨oc, od, .func (fnOf name qual params body scope dV kV doc pm an cdv ct), osl⟩)
    (h2 : K.lookup f = some ⟨oc', od', .func (fnOf name' qual' params' body' scope' dV' kV' doc' pm' an' cdv' ct'), osl'⟩)
    (k : name' = name → qual' = qual → params' = params → body' = body → scope' = scope → cdv' = cdv → G) : G := by
  have e := Option.some.inj (h1.symm.trans h2)
  simp only [Obj.mk.injEq, Data.func.injEq, fnOf, FuncData.mk.injEq, FuncBody.stmts.injEq] at e
  obtain ⟨_, _, e, _⟩ := e
  refine k ?_ ?_ ?_ ?_ ?_ ?_ <;> simp only [e]
def intOf : Value → Option Int
  | .int z _ => some z
  | _ => none
def IntVals (zs : List Int) (vals : List Value) : Prop := vals.map intOf = zs.map some
theorem IntVals.at {zs : List Int} {vals : List Value} (h : IntVals zs vals) {i : Nat} {v : Value} (e : vals[i]? = some v) : ∃ z t, zs[i]? = some z ∧ v = .int z t := by
  have h1 : (vals.map intOf)[i]? = (zs.map some)[i]? := by rw [h]
  rw [List.getElem?_map, List.getElem?_map, e] at h1
  cases hz : zs[i]? with
  | none => rw [hz] at h1; cases h1
  | some z =>
    rw [hz] at h1
    cases v <;> simp [intOf] at h1
    exact ⟨z, _, rfl, by rw [h1]⟩
theorem IntVals.len {zs : List Int} {vals : List Value} (h : IntVals zs vals) : vals.length = zs.length := by
  have := congrArg List.length h
  simpa using this

/-- what the walked generator gives from a state: outs, and whether the outs are cut (an endless run) -/
def Plan (lp : Bool) : Option Int → List Int → List Int → Prop
  | _, [], os => lp = false ∧ os = []
  | last, z :: r, os => if z = 127 then lp = false ∧ os = [] else if z = 0 then (∃ y, last = some y ∧ lp = true ∧ os ≠ [] ∧ ∀ o ∈ os, o = y)
      else (∃ o', os = z :: o' ∧ ((lp = true ∧ o' = []) ∨ Plan lp (some z) r o'))

structure GSince (h₀ : Heap) (GL : Addr) (s₀ s' : Shared) : Prop where
  eq : ∃ h' tk, s' = { s₀ with heap := h', toks := tk }
  keep : ∀ b o, b ≠ GL → ¬(o.cls = .type "list_iterator" ∧ ∃ vs, o.data = .fields vs) → s₀.heap.get? b = some o → s'.heap.get? b = some o
  stays : h₀.StaysIn s₀.heap → h₀.StaysIn s'.heap

/-- the generator's own objects -/
structure GOwn (h₀ : Heap) (GL : Addr) (own : List (Addr × Obj)) (h : Heap) : Prop where
  at_ : ∀ p ∈ own, h.get? p.1 = some p.2
  new : ∀ p ∈ own, h₀.get? p.1 = none
  kind : ∀ p ∈ own, p.1 = GL ∨ (p.2.cls = .type "list_iterator" ∧ ∃ vs, p.2.data = .fields vs)

def GNext (h₀ : Heap) (l : Addr) (ol : Obj) (own : List (Addr × Obj)) (k : Shared → Prop) : Prop :=
  ∀ s'' : Shared, h₀.StaysIn s''.heap → (∀ p ∈ own, s''.heap.get? p.1 = some p.2) → s''.heap.get? l = some ol → k s''

def GY (h₀ : Heap) (GL l : Addr) (ol : Obj) (lp : Bool) (outs : List Int) : Protocol := fun n s₀ v s' kap =>
  (∃ z t, outs[outs.length - 1 - n]? = some z ∧ v = .int z t) ∧ GSince h₀ GL s₀ s' ∧
    ∃ oG it oI, GOwn h₀ GL [(GL, oG), (it, oI)] s'.heap ∧ ((lp = true ∧ n = 0) ∨ GNext h₀ l ol [(GL, oG), (it, oI)] (kap (.send .none)))
def GR (h₀ : Heap) (GL : Addr) (lp : Bool) : GenEnd := fun n s₀ r s₁ => r = .ok (.ret .none) ∧ n = 0 ∧ lp = false ∧ GSince h₀ GL s₀ s₁

theorem GSince.refl {h₀ : Heap} {GL : Addr} {s : Shared} : GSince h₀ GL s s := ⟨⟨s.heap, s.toks, rfl⟩, fun _ _ _ _ e => e, fun h => h⟩
theorem GSince.trans {h₀ : Heap} {GL : Addr} {s s1 s2 : Shared} (a : GSince h₀ GL s s1) (b : GSince h₀ GL s1 s2) : GSince h₀ GL s s2 :=
  ⟨by obtain ⟨h1, t1, rfl⟩ := a.eq; obtain ⟨h2, t2, rfl⟩ := b.eq; exact ⟨h2, t2, rfl⟩, fun b' o h1 h2 e => b.keep b' o h1 h2 (a.keep b' o h1 h2 e), fun h => b.stays (a.stays h)⟩
theorem GSince.toks {h₀ : Heap} {GL : Addr} {s₀ s : Shared} (a : GSince h₀ GL s₀ s) (tk : Nat) : GSince h₀ GL s₀ { s with toks := tk } :=
  a.trans ⟨⟨s.heap, tk, rfl⟩, fun _ _ _ _ e => e, fun h => h⟩

section
variable {prog : Program} {w : World} {A : Around} {R : GenEnd} {Y : Protocol} {n : Nat} {s₀ : Shared} {c : Code} {fs : List Frame} {s : Shared} {env : Env}
  {K : Flow → Sem Fin} {H : Value → Sem Fin} {gd : Bool → Bool} {lv : List Value → List Value}
theorem seg_setName {x : Str} {e : PySem.Expr} {px pos : Pos} {m : Str → Option Value} {v : Value} (hx : env.kindOf x = some .local) (hp : (env.scope.kind == .class || (env.scope.kind == .module && env.locals != env.globals)) = false)
    (hv : wpAny (model prog w) (A.over c fs) (exec (.Assign [.Name x px] e pos) env) (fun f s' => Seg (model prog w) A R Y n s₀ c (K f) fs s') (fun _ _ => False) s) :
    Seg (model prog w) A R Y n s₀ c ((exec (.Assign [.Name x px] e pos) env).wrap K H gd lv) fs s := seg_wrap (wpAny_mono hv (fun _ _ h => h) fun _ _ e => e.elim)
end
structure StopSeg : Prop where
structure StopStore : Prop where
local macro_rules | `(tactic| walk_at "storeName") => `(tactic| (have hq : Mine.StopStore := (by with_reducible assumption); clear hq; refine Mine.Hold.of ?_))
/-- what may have moved between two places of one run of the generator -/
theorem GSince.step {h₀ : Heap} {GL it : Addr} {s₀ s : Shared} {h1 h2 : Heap} {tk : Nat} (a : GSince h₀ GL s₀ s) (hi0 : h₀.get? it = none) (hG0 : h₀.get? GL = none) (hoit : ∀ o, s.heap.get? it = some o → o.cls = .type "list_iterator" ∧ ∃ vs, o.data = .fields vs)
    (hk1 : ∀ b o, b ≠ it → s.heap.get? b = some o → h1.get? b = some o) (hk2 : ∀ b o, b ≠ GL → h1.get? b = some o → h2.get? b = some o) : GSince h₀ GL s₀ { s with heap := h2, toks := tk } :=
  a.trans ⟨⟨h2, tk, rfl⟩, fun b o h1' h2' e => hk2 b o h1' (hk1 b o (fun q => h2' (hoit o (q ▸ e))) e), fun h b o e => hk2 b o (fun q => by rw [q, hG0] at e; cases e) (hk1 b o (fun q => by rw [q, hi0] at e; cases e) (h b o e))⟩
theorem IsListIter.obj {h : Heap} {it l : Addr} {i : Nat} (x : h.IsListIter it l i) : ∀ o, h.get? it = some o → o.cls = .type "list_iterator" ∧ ∃ vs, o.data = .fields vs := by
  intro o e
  obtain ⟨o', e', h1, h2⟩ := x
  rw [e] at e'; cases e'
  exact ⟨h1, _, h2⟩
local macro_rules | `(tactic| walk_at "Seg") => `(tactic| (have hq : Mine.StopSeg := (by with_reducible assumption); clear hq; refine Mine.Hold.of ?_))
theorem drop_step {outs o' : List Int} {z : Int} (hos : z :: o' = outs.drop (outs.length - (o'.length + 1))) : outs[outs.length - 1 - o'.length]? = some z ∧ o' = outs.drop (outs.length - o'.length) := by
  have hl := congrArg List.length hos
  rw [List.length_cons, List.length_drop] at hl
  constructor
  · have h1 : (outs.drop (outs.length - (o'.length + 1)))[0]? = some z := by rw [← hos]; rfl
    rw [List.getElem?_drop] at h1
    rw [← h1]; congr 1; omega
  · have h1 := congrArg List.tail hos
    rw [List.tail_cons, List.tail_drop] at h1
    rw [h1]; congr 1
    rw [← h1]; omega

theorem seg_forever {prog : Program} {w : World} {A : Around} {h₀ : Heap} {GL l : Addr} {ol : Obj} {outs : List Int} {env : Env} {x : Str} {px yp ep pc : Pos} {kc : Nat} {fs : List Frame} {y : Int} {ty : Tok}
    (hco : env.scope.isCoroutine = false) (hin : interactive env = false) (hfs : splitAtGen fs = none) (hfg : fs.any Frame.guarded = false) (I : Shared → Prop)
    (htest : ∀ (A' : Around) (s : Shared) (Q : Bool → Shared → Prop) (E : Value → Shared → Prop), Q true s → wpAny (model prog w) A' (isTrue (.Constant (.bool true) kc pc) env (eval (.Constant (.bool true) kc pc) env)) Q E s)
    (hev : ∀ (A' : Around) (s : Shared) (Q E : Value → Shared → Prop), I s → Q (.int y ty) s → wpAny (model prog w) A' (eval (.Name x px) env) Q E s)
    (htoks : ∀ (s : Shared) tk, I s → I { s with toks := tk })
    (hnext : ∀ s : Shared, I s → ∃ oG it oI, GOwn h₀ GL [(GL, oG), (it, oI)] s.heap ∧ GNext h₀ l ol [(GL, oG), (it, oI)] I) :
    ∀ (os : List Int), (∀ o ∈ os, o = y) → os ≠ [] → os = outs.drop (outs.length - os.length) → ∀ (s₀ s : Shared), GSince h₀ GL s₀ s → I s →
      Seg (model prog w) A (GR h₀ GL true) (GY h₀ GL l ol true outs) os.length s₀ (.whileLoop (.Constant (.bool true) kc pc) [.Expr (.Yield (some (.Name x px)) yp) ep] [] env)
        ((model prog w).den (.whileLoop (.Constant (.bool true) kc pc) [.Expr (.Yield (some (.Name x px)) yp) ep] [] env)) fs s := by
  intro os
  induction os with
  | nil => intro _ h; exact absurd rfl h
  | cons z o' ih =>
    intro hall _ hos s₀ s hsince hI
    obtain rfl : z = y := hall z (.head _)
    obtain ⟨hix, hos'⟩ := drop_step hos
    rw [List.length_cons]
    refine seg_whileLoop (htest _ _ _ _ ?_)
    rw [if_pos rfl]
    refine seg_execs_cons (seg_Expr_Yield hfs rfl hfg ?_ hco hin)
    refine hev _ _ _ _ hI fun kap hkap => ?_
    obtain ⟨oG, it, oI, hown, hnx⟩ := hnext s hI
    refine ⟨⟨z, ty, hix, rfl⟩, hsince, oG, it, oI, hown, ?_⟩
    cases o' with
    | nil => exact .inl ⟨rfl, rfl⟩
    | cons z' o'' =>
      refine .inr fun s'' h1 h2 h3 => hkap _ _ ?_
      dsimp only
      refine seg_execs_nil ?_
      exact seg_again rfl (ih (fun o h => hall o (.tail _ h)) (fun h => nomatch h) hos' s'' s'' GSince.refl (hnx s'' h1 h2 h3))

theorem gi_loop (w : World) {name qual : Str} {params : Arguments} {body : List Stmt} {scope : Scope} {dV kV doc pm cdv ct oc : Value} {an od : Option Addr} {osl : Array (Option Value)}
    (ho : (Mine.hv.heap_1 w.params).lookup 60 = some ⟨oc, od, .func (fnOf name qual params body scope dV kV doc pm an cdv ct), osl⟩)
    {A : Around} (hh : A.handled = none) {mean : ExcName → Option Value} {mg mb : Str → Option Value} {h₀ : Heap} {GL l it : Addr} {zs outs : List Int} {vals : List Value} {nn : Nat} {lp : Bool}
    (KX : (Mine.hv.heap_1 w.params).In h₀) (T : Top pv (looseW pv []) mean mg mb h₀) (hiv : IntVals zs vals) (hi0 : h₀.get? it = none) (hiL : it ≠ GL) (hil : it ≠ l) (hlL : l ≠ GL)
    {st1 : Stmt} {x : Str} {px fpos : Pos} {fit : PySem.Expr} {fbody : List Stmt} (hbody : body = [st1, .For (.Name x px) fit fbody [] fpos]) {kk : Result → Sem Fin} {lvs : List Value} {c : Code} {p : Pos}
    (hend : ∀ r : Result, r = .ok .next ∨ r = .ok (.ret .none) → ∀ n s₀ s, GR h₀ GL lp n s₀ (.ok (.ret .none)) s → Seg (model pg w) A (GR h₀ GL lp) (GY h₀ GL l (listOf vals.toArray nn) lp outs) n s₀ c (kk r) [] s) :
    ∀ (rem : Nat) (k : Nat) (s₀ s : Shared) (m : Str → Option Value) (last : Option Int) (os : List Int), zs.length - k = rem → k ≤ zs.length → Plan lp last (zs.drop k) os → os = outs.drop (outs.length - os.length) →
      Fr h₀ GL s.heap m → s.heap.IsListIter it l k → s.heap.get? l = some (listOf vals.toArray nn) → GSince h₀ GL s₀ s → (match last with | none => m "last_interval" = some .none | some y => ∃ t, m "last_interval" = some (.int y t)) →
      Seg (model pg w) A (GR h₀ GL lp) (GY h₀ GL l (listOf vals.toArray nn) lp outs) os.length s₀ (.forLoop (.Name x px) (.ref it) fbody [] (envOf qual scope GL 60 cdv))
        ((model pg w).den (.forLoop (.Name x px) (.ref it) fbody [] (envOf qual scope GL 60 cdv))) [.ret kk none false lvs c p []] s := by
  refine' lk_cases ?h ho ?_
  case h => k_is
  intro e1 e2 e3 e4 e5 e6
  subst e1 e2 e3 e4 e5 e6
  simp only [List.cons.injEq, Stmt.For.injEq, Expr.Name.injEq] at hbody
  obtain ⟨rfl, ⟨⟨rfl, rfl⟩, rfl, rfl, _, rfl⟩, _⟩ := hbody
  intro rem
  induction rem with
  | zero =>
    intro k s₀ s m last os hk hkl hplan hos F hit hl hsince hlast
    have hlen : k = zs.length := by omega
    subst hlen
    rw [List.drop_length] at hplan
    obtain ⟨hlp, hos0⟩ := hplan
    subst hos0
    refine seg_forLoop ((Walks.list (by exact hh) it l (Ne.symm hil) vals.toArray).done s _ _ ⟨?_, ⟨_, hl, rfl, nn, rfl⟩⟩ fun h' tk hk' => ?_)
    · rw [show vals.toArray.size = zs.length by simp [hiv.len]]; exact hit
    · refine seg_leaf (.ok .next) (hend _ (.inl rfl) _ _ _ ⟨rfl, rfl, hlp, ?_⟩)
      exact hsince.step hi0 (kts_self F) (IsListIter.obj hit) (fun b o hb e => hk' b o (by simpa using hb) e) (fun _ _ _ e => e)
  | succ rem ih =>
    intro k s₀ s m last os hk hkl hplan hos F hit hl hsince hlast
    have hlt : k < zs.length := by omega
    refine seg_forLoop ((Walks.list (by exact hh) it l (Ne.symm hil) vals.toArray).item k s _ _ ?_ ?_ fun v h1 tk1 hv hst1 hk1 => ?_)
    · simpa [hiv.len] using hlt
    · exact ⟨hit, ⟨_, hl, rfl, nn, rfl⟩⟩
    refine wpAny_assign_Name (wpAny_storeName_local (by rfl) (F.ns.at' fun o e => hk1 _ o (by simpa using hiL.symm) e) (fun h2 hn2 hs2 => ?_) (by rfl))
    obtain ⟨z, t, hz, rfl⟩ := hiv.at (i := k) (v := v) (by simpa using hv)
    obtain ⟨lastv, hlv, hlm⟩ : ∃ lastv, m "last_interval" = some lastv ∧ (match last with | none => lastv = Value.none | some y => ∃ t, lastv = .int y t) := by
      cases last with
      | none => exact ⟨_, hlast, rfl⟩
      | some y => obtain ⟨t, ht⟩ := hlast; exact ⟨_, ht, t, rfl⟩
    have F1 : Fr h₀ GL h1 m := ⟨F.ns.at' fun o e => hk1 _ o (by simpa using hiL.symm) e, fun b o e => hk1 b o (by intro q; rw [List.mem_singleton.mp q, hi0] at e; cases e) (F.keep b o e), F.above⟩
    have F2 := F1.set hn2 hs2
    replace F2 := fr_canon [(Str.ofString "interval", .int z t), (Str.ofString "last_interval", lastv)] F2 (ps2 (m := fun y => if y = Str.ofString "interval" then some (.int z t) else m y) (if_pos rfl) ((if_neg (by decide)).trans hlv))
    have N2 : News h₀ GL h2 [] := News.nil
    have hG0 := kts_self F
    have hdr : zs.drop k = z :: zs.drop (k + 1) := by rw [List.drop_eq_getElem_cons hlt]; congr 1; exact Option.some.inj ((List.getElem?_eq_getElem hlt).symm.trans hz)
    rw [hdr] at hplan
    have hs2' : Heap.SameBut GL h1 h2 := hs2
    have hsince2 : ∀ tk, GSince h₀ GL s₀ { s with heap := h2, toks := tk } := fun tk => hsince.step hi0 hG0 (IsListIter.obj hit) (fun b o hb e => hk1 b o (by simpa using hb) e) (fun b o hb e => hs2'.extBut b o hb e)
    obtain ⟨oG, hoG, hoGn⟩ : ∃ o, h2.get? GL = some o ∧ ∀ h : Heap, h.get? GL = some o → h.Ns GL _ := by
      obtain ⟨o, es, ep, e1, e2⟩ := F2.ns
      exact ⟨o, e1, fun h e => ⟨o, es, ep, e, e2⟩⟩
    obtain ⟨oI, hoI, hoIc, hoId⟩ := hst1.1.extBut hs2'.extBut hiL
    have hown : GOwn h₀ GL [(GL, oG), (it, oI)] h2 := by
      refine ⟨?_, ?_, ?_⟩ <;> simp only [List.forall_mem_cons]
      · exact ⟨hoG, hoI, fun _ h => nomatch h⟩
      · exact ⟨hG0, hi0, fun _ h => nomatch h⟩
      · exact ⟨.inl trivial, .inr ⟨hoIc, _, hoId⟩, fun _ h => nomatch h⟩
    refine seg_execs_cons (seg_If ?_)
    dsimp only
    have stopSeg : StopSeg := ⟨⟩
    repeat' (first | (k_unfold; (try dsimp only)) | walk1 | (dsimp only; walk1))
    · rename_i hz127
      subst hz127
      obtain ⟨hlp, hos0⟩ : lp = false ∧ os = [] := hplan
      subst hos0
      refine Hold.mk (seg_execs_cons (seg_stmt (wpAny_Return_none ?_)))
      dsimp only
      exact seg_leaf (.ok (.ret .none)) (hend _ (.inr rfl) _ _ _ ⟨rfl, rfl, hlp, hsince2 _⟩)
    · rename_i hz127
      refine Hold.mk (seg_execs_nil ?_)
      dsimp only
      refine seg_execs_cons (seg_If ?_)
      repeat' (first | (k_unfold; (try dsimp only)) | walk1 | (dsimp only; walk1))
      · rename_i hz0
        subst hz0
        refine Hold.mk (seg_execs_cons (seg_If ?_))
        obtain ⟨y, hy, hlp, hne, hall⟩ : ∃ y, last = some y ∧ lp = true ∧ os ≠ [] ∧ ∀ o ∈ os, o = y := hplan
        subst hy
        obtain ⟨ty, rfl⟩ := hlm
        repeat' (first | (k_unfold; (try dsimp only)) | walk1 | (dsimp only; walk1))
        refine Hold.mk (seg_execs_nil ?_)
        dsimp only
        refine seg_execs_cons (seg_While fun p' => ?_)
        subst hlp
        refine seg_forever (ty := ty) rfl rfl rfl rfl (fun s1 => Fr h₀ GL s1.heap (kstB (fun x => if x = Str.ofString "interval" then some (Value.int 0 t) else m x) [(Str.ofString "interval", .int 0 t), (Str.ofString "last_interval", .int y ty)]) ∧ s1.heap.get? GL = some oG ∧ s1.heap.get? it = some oI) ?_ ?_ ?_ ?_ os hall hne hos _ _ (hsince2 _) ⟨F2, hoG, hoI⟩
        · intro A' s1 Q E hq
          repeat' (first | exact hq | walk1)
        · intro A' s1 Q E h hq
          have F9 := h.1
          walk1
          exact hq
        · exact fun s1 tk h => h
        · intro s1 h
          refine ⟨oG, it, oI, ⟨?_, hown.new, hown.kind⟩, fun s'' h1 h2 h3 => ?_⟩
          · simp only [List.forall_mem_cons]
            exact ⟨h.2.1, h.2.2, fun _ h => nomatch h⟩
          · exact ⟨⟨hoGn _ (h2 _ (.head _)), h1, F2.above⟩, h2 _ (.head _), h2 _ (.tail _ (.head _))⟩
      · rename_i hz0
        refine Hold.mk (seg_execs_nil ?_)
        dsimp only
        obtain ⟨o', rfl, hpl⟩ : ∃ o', os = z :: o' ∧ ((lp = true ∧ o' = []) ∨ Plan lp (some z) (zs.drop (k + 1)) o') := by
          rw [Plan, if_neg hz127, if_neg hz0] at hplan
          exact hplan
        rw [List.length_cons]
        refine seg_execs_cons (seg_Expr_Yield rfl rfl rfl ?_)
        repeat' (first | (k_unfold; (try dsimp only)) | walk1 | (dsimp only; walk1))
        rename_i kap hkap
        obtain ⟨hix, hos'⟩ := drop_step hos
        refine ⟨⟨z, t, hix, rfl⟩, hsince2 _, _, _, _, hown, ?_⟩
        rcases hpl with ⟨h1, h2⟩ | hpl
        · exact .inl ⟨h1, by rw [h2]; rfl⟩
        refine .inr fun s'' hst'' hown'' hl'' => hkap _ _ ?_
        have hGL'' := hown'' _ (.head _)
        have hit'' := hown'' _ (.tail _ (.head _))
        have F3 : Fr h₀ GL s''.heap _ := ⟨hoGn _ hGL'', hst'', F2.above⟩
        have N3 : News h₀ GL s''.heap [] := News.nil
        dsimp only
        refine seg_execs_cons (seg_stmt ?_)
        have stopStore : StopStore := ⟨⟩
        repeat' (first | (k_unfold; (try dsimp only)) | walk1 | (dsimp only; walk1))
        refine Hold.mk (wpAny_storeName_local (by rfl) F3.ns (fun h3 hn3 hs3 => ?_) (by rfl))
        have hs3' : Heap.SameBut GL s''.heap h3 := hs3
        dsimp only
        refine seg_execs_nil ?_
        dsimp only
        refine seg_again rfl (ih (k + 1) s'' _ _ (some z) o' (by omega) hlt hpl hos' (F3.set hn3 hs3) ?_ (hs3'.extBut _ _ hlL hl'') ?_ ⟨t, if_pos rfl⟩)
        · exact ⟨oI, hs3'.extBut _ _ hiL hit'', hoIc, hoId⟩
        · exact (GSince.refl (s := s'')).step hi0 hG0 (fun o e => by rw [hit''] at e; cases e; exact ⟨hoIc, _, hoId⟩) (fun _ _ _ e => e) (fun b o hb e => hs3'.extBut b o hb e)
end Mine
end
section
-- G3
open PySem PySem.W PyProof.Rows PySem.Calls
set_option Elab.async false
set_option maxRecDepth 100000
set_option maxHeartbeats 4000000
set_option pp.deepTerms false
set_option pp.maxSteps 1500
namespace Mine
theorem startG3 : True := by
  w_top off
  exact trivial
theorem fillG3 : PySem.Challenge.rw_wr0013_01 = PySem.Challenge.rw_wr0013_01 ∧ Mine.hv.heap_1 = Mine.hv.heap_1 := by
  k_fill
  exact ⟨rfl, rfl⟩
local macro_rules | `(tactic| walk_at "Seg") => `(tactic| (have hq : Mine.StopSeg := (by with_reducible assumption); clear hq; refine Mine.Hold.of ?_))
local macro_rules | `(tactic| walk_at "storeName") => `(tactic| (have hq : Mine.StopStore := (by with_reducible assumption); clear hq; refine Mine.Hold.of ?_))
theorem gi_start (w : World) {name qual : Str} {params : Arguments} {body : List Stmt} {scope : Scope} {dV kV doc pm cdv ct oc : Value} {an od : Option Addr} {osl : Array (Option Value)}
    (ho : (Mine.hv.heap_1 w.params).lookup 60 = some ⟨oc, od, .func (fnOf name qual params body scope dV kV doc pm an cdv ct), osl⟩)
    {A : Around} (hh : A.handled = none) {mean : ExcName → Option Value} {mg mb : Str → Option Value} {h₀ : Heap} {GL l : Addr} {zs outs : List Int} {vals : List Value} {nn : Nat} {lp : Bool}
    (KX : (Mine.hv.heap_1 w.params).In h₀) (T : Top pv (looseW pv []) mean mg mb h₀) (hiv : IntVals zs vals) (hlL : l ≠ GL)
    (s : Shared) (m : Str → Option Value) (hplan : Plan lp none zs outs) (F : Fr h₀ GL s.heap m) (hm : m "grouping" = some (.ref l)) (hl : s.heap.get? l = some (listOf vals.toArray nn)) :
      Seg (model pg w) A (GR h₀ GL lp) (GY h₀ GL l (listOf vals.toArray nn) lp outs) outs.length s (.func body (envOf qual scope GL 60 cdv))
        ((model pg w).den (.func body (envOf qual scope GL 60 cdv))) [] s := by
  refine' lk_cases ?h ho ?_
  case h => k_is
  intro e1 e2 e3 e4 e5 e6
  subst e1 e2 e3 e4 e5 e6
  refine seg_func (seg_execs_cons (seg_stmt ?_))
  have stopSeg : StopSeg := ⟨⟩
  have stopStore : StopStore := ⟨⟩
  have F1 := fr_canon [(Str.ofString "grouping", .ref l)] F (by simp only [List.forall_mem_cons]; exact ⟨hm, fun _ h => nomatch h⟩)
  have N1 : News h₀ GL s.heap [] := News.nil
  repeat' (first | (k_unfold; (try dsimp only)) | walk1 | (dsimp only; walk1))
  refine Hold.mk (wpAny_storeName_local (by rfl) F.ns (fun h3 hn3 hs3 => ?_) (by rfl))
  have hs3' : Heap.SameBut GL s.heap h3 := hs3
  dsimp only
  refine seg_execs_cons (seg_For ?_)
  have F3 := F.set hn3 hs3
  have F4 := fr_canon [(Str.ofString "grouping", .ref l)] F3 (by simp only [List.forall_mem_cons]; exact ⟨(if_neg (by decide)).trans hm, fun _ h => nomatch h⟩)
  have N3 : News h₀ GL h3 [] := News.nil
  walk1
  dsimp only
  have hl3 : h3.get? l = some (listOf vals.toArray nn) := hs3'.extBut _ _ hlL hl
  refine wpAny_pyIter_list ⟨_, hl3, rfl, nn, rfl⟩ fun p => ?_
  have hnew : h₀.get? h3.objs.size = none := next_is_new F3
  have hiL : h3.objs.size ≠ GL := Nat.ne_of_gt F3.ns.lt
  have hil : h3.objs.size ≠ l := Nat.ne_of_gt (Heap.lt_size hl3)
  refine gi_loop w ho hh KX T hiv hnew hiL hil hlL rfl ?_ (zs.length) 0 s _ _ none outs (by omega) (Nat.zero_le _) hplan (by simp) (F3.push _) ⟨_, Heap.get?_push_size _ rfl, rfl, rfl⟩ (Heap.get?_push_of_some _ hl3) ?_ ?_
  · rintro r (rfl | rfl) n s₀ s hr
    · rw [backFrom_ok]
      dsimp only
      refine seg_execs_nil ?_
      exact seg_end (.ok (.ret .none)) hr
    · rw [backFrom_ok]
      dsimp only
      exact seg_end (.ok (.ret .none)) hr
  · exact ⟨⟨_, _, rfl⟩, fun b o h1 h2 e => Heap.get?_push_of_some _ (hs3'.extBut _ _ h1 e), fun h b o e => (F3.push _).keep b o e⟩
  · exact if_pos rfl
end Mine
end
section
-- G4
open PySem PySem.W PyProof.Rows PySem.Calls
set_option Elab.async false
set_option maxRecDepth 100000
namespace Mine
section
variable {prog : Program} {w : World} {A₀ A : Around} {s : Shared} {base h₀ : Heap} {env : Env} {outer : List Env} {L : Addr} {m : Str → Option Value} {news : List (Addr × Obj)} {K : Frag} {p : Program} {loose : List Str} {mean : ExcName → Option Value} {mg mb : Str → Option Value}
    {R : Result → Shared → Prop} {name qual : Str} {params : Arguments} {body : List Stmt} {scope : Scope} {dV kV doc pm cdv ct oc : Value} {an od : Option Addr} {osl : Array (Option Value)} {f : Addr} {args : Args} {binds : List (Str × Value)}
abbrev genObj (g : Nat) (nm qn : Value) : Obj := { cls := .type "generator", data := .fields #[.int g 0, nm, qn] }
/-- a generator function is called: nothing of it runs yet -/
theorem code_gen (F : Fr h₀ L s.heap m) (X₀ : K.In h₀) (N : News h₀ L s.heap news) (T : Top p loose mean mg mb h₀)
    (ho : K.lookup f = some ⟨oc, od, .func (fnOf name qual params body scope dV kV doc pm an cdv ct), osl⟩) (hcd : codeIn K cdv qual = true) (hroom : A.depth < recursionLimit)
    (hbind : BindsTo s (fnOf name qual params body scope dV kV doc pm an cdv ct) args binds) (hloc : ∀ y ∈ binds, scope.names.lookup y.1 = some .local)
    (h : ∀ GL I oG h₁ tk nm qn, Fr h₀ L h₁ m → News h₀ L h₁ ((I, genObj s.gens.size nm qn) :: (GL, oG) :: news) → Fr h₀ GL h₁ (fun y => binds.reverse.lookup y) → h₁.get? GL = some oG → (∀ q ∈ news, q.1 < GL) → GL < I → L < GL →
      R (.ok (.ret (.ref I))) { s with heap := h₁, gens := s.gens.push (.fresh (.func body (envOf qual scope GL f cdv))), toks := tk })
    (hco : scope.isCoroutine = false) (hgen : scope.isGenerator = true) (hk : scope.kind = .function)
    (hcell : ∀ x ∈ scope.names, x.2 ≠ .cell) : codeAny (model prog w) A (.call (.ref f) args) R s := by
  have X := X₀.keeps F.keep
  refine codeAny_call_generator (fd := fnOf name qual params body scope dV kV doc pm an cdv ct) (body := body) hroom (X _ _ ho) rfl hco hgen rfl (codeRec_of X hcd) ?_
  refine hbind _ _ _ _ (wpAny_newFunctionEnv hcell hloc (fun h' hns hsb => ?_) hk)
  have keep : ∀ b o, s.heap.get? b = some o → h'.get? b = some o := fun b o e => hsb.extBut b o (Nat.ne_of_lt (Heap.lt_size e)) (Heap.get?_push_of_some _ e)
  have hsz : h'.objs.size = s.heap.objs.size + 1 := by rw [hsb.1, Heap.size_push]
  refine ⟨(T.nolimit.keeps F.keep).keeps keep, ?_⟩
  have F1 : Fr h₀ L h' m := ⟨F.ns.at' fun o e => keep _ o e, fun b o e => keep b o (F.keep b o e), F.above⟩
  have hLlt := F.ns.lt
  have hsz0 : h₀.objs.size ≤ s.heap.objs.size := Nat.le_of_lt (Nat.lt_of_le_of_lt F.above hLlt)
  obtain ⟨oG, es, ep, e1, e2⟩ := id hns
  have F2 : Fr h₀ s.heap.objs.size h' (fun y => binds.reverse.lookup y) := ⟨hns, fun b o e => keep b o (F.keep b o e), hsz0⟩
  have N1 : News h₀ L h' news := fun q hq => ⟨keep _ _ (N q hq).1, (N q hq).2⟩
  have nn : ∀ a, h₀.objs.size ≤ a → h₀.get? a = none := fun a ha => by
    cases q : h₀.get? a with
    | none => rfl
    | some o => exact absurd (Heap.lt_size q) (Nat.not_lt.mpr ha)
  refine h s.heap.objs.size h'.objs.size oG _ _ (.str name (s.toks + binds.length)) (.str qual (s.toks + binds.length + 1)) (F1.push _) ?_ (F2.push _) (Heap.get?_push_of_some _ e1) (fun q hq => Heap.lt_size (N q hq).1) (by rw [hsz]; exact Nat.lt_succ_self _) hLlt
  intro q hq
  rcases List.mem_cons.mp hq with rfl | hq
  · exact ⟨Heap.get?_push_size _ rfl, Nat.ne_of_gt (show L < h'.objs.size by rw [hsz]; exact Nat.lt_succ_of_lt hLlt), nn _ (show h₀.objs.size ≤ h'.objs.size by rw [hsz]; exact Nat.le_succ_of_le hsz0)⟩
  rcases List.mem_cons.mp hq with rfl | hq
  · exact ⟨Heap.get?_push_of_some _ e1, Nat.ne_of_gt hLlt, nn _ hsz0⟩
  · exact ⟨Heap.get?_push_of_some _ (N1 q hq).1, (N1 q hq).2⟩
end

section
variable {prog : Program} {w : World} {A : Around} {E : Value → Shared → Prop} {s : Shared}
/-- one wake of a generator: it yields, it ends, or it raises -/
theorem pyNext_gen {a : Addr} {g n : Nat} {gs : GenState} {R : GenEnd} {Y : Protocol} {Q : Option Value → Shared → Prop} (hh : A.handled = none)
    (hl : s.heap.NoLimit) (hroom : A.depth < recursionLimit) (hg : s.heap.IsGen a g) (hgs : s.gens[g]? = some gs)
    (hgo : gs.Goes (model prog w) A.in1 R Y n (.send .none) (s.setGen g .running))
    (hY : ∀ v s₁ gs', gs'.bare = true → Y (n - 1) (s.setGen g .running) v s₁ (fun r' s'' => match n with
        | 0 => False
        | m + 1 => gs'.Goes (model prog w) A.in1 R Y m r' s'') → Q (some v) (s₁.setGen g gs'))
    (hR : ∀ r s₁, R n (s.setGen g .running) r s₁ → (r = .ok (.ret .none) ∧ ∀ h', (∀ b o, s₁.heap.get? b = some o → h'.get? b = some o) → Q none { s₁.setGen g .finished with heap := h' }) ∨
      (∃ e X, r = .error (.ref e) ∧ s₁.heap.IsGen a g ∧ s₁.TypeIs (.ref e) X ∧ isSubtype (.type X) (.type "StopIteration") = pure false ∧ E (.ref e) (s₁.setGen g .finished))) :
    wpAny (model prog w) A (pyNext (.ref a)) Q E s := by
  unfold pyNext
  refine wpAny_bind (wpAny_attempt (wpAny_callSpecial?_slot (name := Str.ofString "__next__") hg.typeIs slot_gen_next
    (wpAny_call_entry slot_gen_next hg.typeIs entry_gen_next ?_ (args_gen_next _))))
  show wpAny _ A.in1 (Builtin.Generator.genWake (.ref a) (.send .none)) _ _ s
  unfold Builtin.Generator.genWake
  refine wpAny_bind (wpAny_holding (wpAny_genNumber hg (wpAny_bind (wpAny_genState hgs ?_))))
  cases gs with
  | running => exact hgo.elim
  | finished => exact hgo.elim
  | _ =>
    refine wpAny_bind (wpAny_roomToWake hl hroom ?_)
    show wpAny _ A.in1 (.resume g (.send .none) [] _) _ _ s
    refine wpAny_resumeQ hgs hgo (fun x s₁ hx => ?_) (fun v s₁ gs' hb hv => ?_)
    · rcases hR x s₁ hx with ⟨rfl, hp⟩ | ⟨e, X, rfl, hg1, hX, hsub, hE⟩
      · show wpAny _ A.in1 (newExc (.type "StopIteration") [] >>= _) _ _ _
        refine wpAny_bind ?_
        simp only [newExc, newTuple]
        refine wpAny_bind (wpAny_newObj_type ?_ (by size_fits))
        refine wpAny_bind (m := firstArgMember _ _) (wpAny_of_eq (a := Value.none) (by first | rfl | (simp only [firstArgMember]; rfl)) ?_)
        refine wpAny_newObj_type ?_ (by size_fits)
        simp only [raiseNew]
        refine wpAny_bind (wpAny_bind (wpAny_handled ?_))
        first | rw [show A.in1.handled = none from hh] | rw [hh]
        refine wpAny_throw ?_
        refine wpAny_bind (wpAny_isInstance (T := "StopIteration") (b := true) ⟨_, Heap.get?_push_size _ rfl, rfl⟩ isSubtype_stop ?_)
        exact wpAny_pure (hp _ fun b o hb => Heap.get?_push_of_some _ (Heap.get?_push_of_some _ hb))
      · have hX' : (s₁.setGen g .finished).TypeIs (.ref e) X := hX
        obtain ⟨o, nm, qn, hho, hc, hd, hsl⟩ := hg1
        have hho' : (s₁.setGen g .finished).heap.get? a = some o := hho
        show wpAny _ A.in1 (Builtin.Generator.genLeft (.ref a) (.ref e)) _ _ _
        unfold Builtin.Generator.genLeft Builtin.Generator.madeByALambda
        refine wpAny_bind (wpAny_bind (wpAny_load hho' (wpAny_pure ?_)))
        refine wpAny_bind (wpAny_isInstance hX' hsub ?_)
        rw [if_neg (by rw [Bool.and_false]; decide)]
        show wpAny _ A.in1 (Builtin.Generator.genEscaped (.ref e)) _ _ _
        unfold Builtin.Generator.genEscaped
        refine wpAny_bind (wpAny_isInstance hX' hsub ?_)
        rw [if_pos (by decide)]
        first | refine wpAny_bind (wpAny_throw ?_) | refine wpAny_throw ?_
        refine wpAny_bind (wpAny_isInstance hX' hsub ?_)
        rw [if_neg (by decide)]
        exact wpAny_throw hE
    · exact wpAny_pure ⟨v, rfl, wpAny_pure (hY v s₁ gs' hb hv)⟩
end
end Mine
end
section
-- G5
open PySem PySem.W PyProof.Rows PySem.Calls
set_option Elab.async false
set_option maxRecDepth 100000
namespace Mine
abbrev LIter (o : Obj) : Prop := o.cls = .type "list_iterator" ∧ ∃ vs, o.data = .fields vs
/-- the generator after i of its outs -/
structure GenIn (prog : Program) (w : World) (A : Around) (h₀ : Heap) (GL l : Addr) (ol : Obj) (lp : Bool) (outs : List Int) (g : Nat) (own : List (Addr × Obj)) (i : Nat) (gens : Array GenState) : Prop where
  new : ∀ p ∈ own, h₀.get? p.1 = none
  kind : ∀ p ∈ own, p.1 = GL ∨ LIter p.2
  st : ∃ gs, gens[g]? = some gs ∧ GNext h₀ l ol own (fun s'' => gs.Goes (model prog w) A.in1 (GR h₀ GL lp) (GY h₀ GL l ol lp outs) (outs.length - i) (.send .none) s'')
section
variable {prog : Program} {w : World} {A : Around} {E : Value → Shared → Prop} {s : Shared} {h₀ : Heap} {GL l I : Addr} {ol : Obj} {lp : Bool} {outs : List Int} {g : Nat} {own : List (Addr × Obj)}

theorem gen_item {i : Nat} {Q : Option Value → Shared → Prop} (hh : A.handled = none) (hlim : s.heap.NoLimit) (hroom : A.depth < recursionLimit) (hg : s.heap.IsGen I g)
    (G : GenIn prog w A h₀ GL l ol lp outs g own i s.gens) (hi : i < outs.length) (hst : h₀.StaysIn s.heap) (hown : ∀ p ∈ own, s.heap.get? p.1 = some p.2) (hl : s.heap.get? l = some ol)
    (hQ : ∀ z t h' tk' gens' oG it oI, outs[i]? = some z → (∀ b o, b ≠ GL → ¬ LIter o → s.heap.get? b = some o → h'.get? b = some o) → h₀.StaysIn h' → GOwn h₀ GL [(GL, oG), (it, oI)] h' →
      ((lp = true ∧ i + 1 = outs.length) ∨ GenIn prog w A h₀ GL l ol lp outs g [(GL, oG), (it, oI)] (i + 1) gens') → (AllBare s.gens → AllBare gens') → Q (some (.int z t)) { s with heap := h', gens := gens', toks := tk' }) :
    wpAny (model prog w) A (pyNext (.ref I)) Q E s := by
  obtain ⟨gs, hgs, hgo⟩ := G.st
  obtain ⟨m, hm⟩ : ∃ m, outs.length - i = m + 1 := ⟨outs.length - i - 1, by omega⟩
  rw [hm] at hgo
  refine pyNext_gen hh hlim hroom hg hgs (hgo (s.setGen g .running) hst hown hl) (fun v s₁ gs' hb hv => ?_) (fun r s₁ hr => ?_)
  · obtain ⟨⟨z, t, hz, rfl⟩, hsince, oG, it, oI, hown', hnx⟩ := hv
    obtain ⟨h', tk', rfl⟩ := hsince.eq
    rw [show outs.length - 1 - (m + 1 - 1) = i by omega] at hz
    refine hQ z t h' tk' _ oG it oI hz hsince.keep (hsince.stays hst) hown' ?_ ?_
    · rcases hnx with ⟨h1, h2⟩ | hnx
      · exact .inl ⟨h1, by omega⟩
      · refine .inr ⟨hown'.new, hown'.kind, gs', setGen_self (gs := .running) (setGen_self hgs), ?_⟩
        rw [show outs.length - (i + 1) = m by omega]
        exact hnx
    · exact fun hb0 => (GenOnlyQ.of ((GenOnly.setGen s g .running).trans (GenOnly.setGen _ g gs')) (setGen_self (gs := .running) (setGen_self hgs)) hb).bare hb0
  · obtain ⟨_, h0, _⟩ := hr
    exact absurd h0 (Nat.succ_ne_zero m)

theorem gen_done {Q : Option Value → Shared → Prop} (hlL : l ≠ GL) (hol : ¬ LIter ol) (hh : A.handled = none) (hlim : s.heap.NoLimit) (hroom : A.depth < recursionLimit) (hg : s.heap.IsGen I g)
    (G : GenIn prog w A h₀ GL l ol false outs g own outs.length s.gens) (hst : h₀.StaysIn s.heap) (hown : ∀ p ∈ own, s.heap.get? p.1 = some p.2) (hl : s.heap.get? l = some ol)
    (hQ : ∀ h' tk' gens', (∀ b o, b ≠ GL → ¬ LIter o → s.heap.get? b = some o → h'.get? b = some o) → h₀.StaysIn h' → (AllBare s.gens → AllBare gens') → Q none { s with heap := h', gens := gens', toks := tk' }) :
    wpAny (model prog w) A (pyNext (.ref I)) Q E s := by
  obtain ⟨gs, hgs, hgo⟩ := G.st
  rw [Nat.sub_self] at hgo
  refine pyNext_gen hh hlim hroom hg hgs (hgo (s.setGen g .running) hst hown hl) (fun v s₁ gs' hb hv => ?_) (fun r s₁ hr => ?_)
  · obtain ⟨_, _, _, _, _, _, hnx⟩ := hv
    rcases hnx with ⟨h1, _⟩ | hnx
    · cases h1
    · rename_i hsince oG it oI hown'
      exact (hnx s₁ (hsince.stays hst) hown'.at_ (hsince.keep _ _ hlL hol hl)).elim
  · obtain ⟨rfl, _, _, hsince⟩ := hr
    refine .inl ⟨rfl, fun h' hk => ?_⟩
    obtain ⟨h1, tk', rfl⟩ := hsince.eq
    exact hQ h' tk' _ (fun b o h1 h2 e => hk b o (hsince.keep b o h1 h2 e)) (fun b o e => hk b o (hsince.stays hst b o e)) (fun hb0 => (GenOnlyQ.of ((GenOnly.setGen s g .running).trans (GenOnly.setGen _ g .finished)) (setGen_self (gs := .running) (setGen_self hgs)) rfl).bare hb0)
end
section
variable {prog : Program} {w : World} {A : Around} {E : Value → Shared → Prop} {s : Shared} {env : Env} {h₀ : Heap} {Q : Flow → Shared → Prop} {GL l I : Addr} {ol : Obj} {lp : Bool} {outs : List Int} {g : Nat}
/-- what a turn of a for over the generator must end in -/
abbrev TurnEndG (Q : Flow → Shared → Prop) (s : Shared) (h₀ : Heap) (L GL it : Addr) (oG oI : Obj) (gens : Array GenState) (ok : Prop) (J : (Str → Option Value) → List (Addr × Obj) → Prop) (f : Flow) (s₃ : Shared) : Prop :=
  Hold (match f with
    | .next | .cont => ∃ h' tk' m₂ news₂, s₃ = { s with heap := h', gens := gens, toks := tk' } ∧ Fr h₀ L h' m₂ ∧ News h₀ L h' ((GL, oG) :: (it, oI) :: news₂) ∧ J m₂ news₂ ∧ ok
    | .brk => Q .next s₃
    | .ret v => Q (.ret v) s₃)
theorem for_gen {x : Str} {px : Pos} {body : List Stmt} {nm qn : Value} {own : List (Addr × Obj)} {m₀ : Str → Option Value} {news : List (Addr × Obj)}
    (J : Nat → (Str → Option Value) → List (Addr × Obj) → Prop)
    (hJC : ∀ i m nx, J i m nx → (I, genObj g nm qn) ∈ nx ∧ (l, ol) ∈ nx ∧ ∀ p ∈ nx, p.1 ≠ GL ∧ ¬ LIter p.2)
    (hh : A.handled = none) (hroom : A.depth < recursionLimit) (hlim : h₀.NoLimit) (hLG : env.locals ≠ GL) (hlL : l ≠ GL) (hol : ¬ LIter ol)
    (G : GenIn prog w A h₀ GL l ol lp outs g own 0 s.gens) (hlp : lp = true → 0 < outs.length)
    (F : Fr h₀ env.locals s.heap m₀) (N : News h₀ env.locals s.heap (own ++ news)) (hj : J 0 m₀ news)
    (hx : env.kindOf x = some .local) (hp : (env.scope.kind == .class || (env.scope.kind == .module && env.locals != env.globals)) = false)
    (turn : ∀ i z t m₁ news₁ h tk gens oG it oI, outs[i]? = some z → J i m₁ news₁ → Fr h₀ env.locals h (fun y => if y = x then some (.int z t) else m₁ y) → News h₀ env.locals h ((GL, oG) :: (it, oI) :: news₁) → (AllBare s.gens → AllBare gens) →
      wpAny (model prog w) A (execs body env) (TurnEndG Q s h₀ env.locals GL it oG oI gens (lp = true → i + 1 < outs.length) (J (i + 1))) NoErr { s with heap := h, gens := gens, toks := tk })
    (done : lp = false → ∀ h tk gens m' news', Fr h₀ env.locals h m' → News h₀ env.locals h news' → J outs.length m' news' → (AllBare s.gens → AllBare gens) → Q .next { s with heap := h, gens := gens, toks := tk }) :
    ForAt prog w A env (.Name x px) body Q E (.ref I) s := by
  have gen_at : ∀ {i m nx h}, J i m nx → News h₀ env.locals h nx → h.IsGen I g := fun hJ N => ⟨_, nm, qn, (N _ (hJC _ _ _ hJ).1).1, rfl, rfl, rfl⟩
  unfold ForAt
  refine wpAny_pyIter_gen (gen_at hj fun p hp => N p (List.mem_append_right _ hp)) ?_
  refine codeAny_forLoop
    (fun k s' => ∃ h' tk m' news' own' gens' i, s' = { s with heap := h', gens := gens', toks := tk } ∧ GenIn prog w A h₀ GL l ol lp outs g own' i gens' ∧ Fr h₀ env.locals h' m' ∧ News h₀ env.locals h' (own' ++ news') ∧ J i m' news' ∧ i ≤ outs.length ∧ (lp = true → i < outs.length) ∧ (AllBare s.gens → AllBare gens') ∧ k = outs.length + 1 - i) ?_ (outs.length + 1)
    ⟨s.heap, s.toks, m₀, news, own, s.gens, 0, rfl, G, F, N, hj, Nat.zero_le _, hlp, id, rfl⟩
  rintro k s' ⟨h', tk, m', news', own', gens', i, rfl, G', F', N', hJ, hi, hlp', hbare, rfl⟩
  obtain ⟨hc1, hc2, hc3⟩ := hJC _ _ _ hJ
  have Nn : News h₀ env.locals h' news' := fun p hp => N' p (List.mem_append_right _ hp)
  have nextF : ∀ h₁ : Heap, (∀ b o, b ≠ GL → ¬ LIter o → h'.get? b = some o → h₁.get? b = some o) → h₀.StaysIn h₁ → Fr h₀ env.locals h₁ m' ∧ News h₀ env.locals h₁ news' := fun h₁ hk hst =>
    ⟨⟨(by
        obtain ⟨o, es, ep, e1, e2, e3⟩ := F'.ns
        exact ⟨o, es, ep, hk _ _ hLG (fun q => by obtain ⟨_, vs, q⟩ := q; rw [e2] at q; cases q) e1, e2, e3⟩), hst, F'.above⟩,
     fun p hp => ⟨hk _ _ (hc3 p hp).1 (hc3 p hp).2 (Nn p hp).1, (Nn p hp).2⟩⟩
  by_cases hlt : i < outs.length
  · refine gen_item hh (hlim.keeps F'.keep) hroom (gen_at hJ Nn) G' hlt F'.keep (fun p hp => (N' p (List.mem_append_left _ hp)).1) (Nn _ hc2).1 fun z t h₁ tk₁ gens₁ oG it oI hz hk hst hown hnx hb => ?_
    obtain ⟨F₁, N₁⟩ := nextF h₁ hk hst
    have hGL : GL ≠ env.locals := Ne.symm hLG
    have hitL : it ≠ env.locals := by
      intro q
      obtain ⟨o, es, ep, e1, e2, e3⟩ := F₁.ns
      have h2 := hown.at_ _ (.tail _ (.head _))
      simp only at h2
      rw [q, e1] at h2
      cases h2
      rcases hown.kind _ (.tail _ (.head _)) with q' | ⟨_, vs, q'⟩
      · exact hLG (q.symm.trans q')
      · rw [e2] at q'; cases q'
    have N₂ : News h₀ env.locals h₁ ((GL, oG) :: (it, oI) :: news') := fun p hp => by
      rcases List.mem_cons.mp hp with rfl | hp
      · exact ⟨hown.at_ _ (.head _), hGL, hown.new _ (.head _)⟩
      rcases List.mem_cons.mp hp with rfl | hp
      · exact ⟨hown.at_ _ (.tail _ (.head _)), hitL, hown.new _ (.tail _ (.head _))⟩
      · exact N₁ p hp
    refine wpAny_assign_Name (wpAny_storeName_local hx F₁.ns (fun h₂ hn₂ hs₂ => ?_) hp)
    refine wpAny_mono (turn i z t m' news' h₂ _ gens₁ oG it oI hz hJ (F₁.set hn₂ hs₂) (N₂.set hs₂) (fun h => hb (hbare h))) (fun f s₃ h₃ => ?_) fun _ _ e => e.elim
    have fin : (∃ h' tk' m₂ news₂, s₃ = { s with heap := h', gens := gens₁, toks := tk' } ∧ Fr h₀ env.locals h' m₂ ∧ News h₀ env.locals h' ((GL, oG) :: (it, oI) :: news₂) ∧ J (i + 1) m₂ news₂ ∧ (lp = true → i + 1 < outs.length)) →
        ∃ m, m < outs.length + 1 - i ∧ ∃ h' tk m' news' own' gens' i, s₃ = { s with heap := h', gens := gens', toks := tk } ∧ GenIn prog w A h₀ GL l ol lp outs g own' i gens' ∧ Fr h₀ env.locals h' m' ∧ News h₀ env.locals h' (own' ++ news') ∧ J i m' news' ∧ i ≤ outs.length ∧ (lp = true → i < outs.length) ∧ (AllBare s.gens → AllBare gens') ∧ m = outs.length + 1 - i := by
      rintro ⟨h₃', tk₃, m₂, news₂, rfl, F₃, N₃', hJ₃, hok⟩
      refine ⟨outs.length + 1 - (i + 1), by omega, h₃', tk₃, m₂, news₂, [(GL, oG), (it, oI)], gens₁, i + 1, rfl, ?_, F₃, N₃', hJ₃, hlt, hok, fun h => hb (hbare h), rfl⟩
      rcases hnx with ⟨h1, h2⟩ | hnx
      · exact absurd (hok h1) (by omega)
      · exact hnx
    cases f with
    | ret v => exact h₃
    | brk => exact h₃
    | cont => exact fin h₃
    | next => exact fin h₃
  · have hin : i = outs.length := by omega
    subst hin
    have hlpf : lp = false := by cases lp with | false => rfl | true => exact absurd (hlp' rfl) hlt
    subst hlpf
    refine gen_done hlL hol hh (hlim.keeps F'.keep) hroom (gen_at hJ Nn) G' F'.keep (fun p hp => (N' p (List.mem_append_left _ hp)).1) (Nn _ hc2).1 fun h₁ tk₁ gens₁ hk hst hb => wpAny_execs_nil ?_
    obtain ⟨F₁, N₁⟩ := nextF h₁ hk hst
    exact done rfl h₁ tk₁ gens₁ m' news' F₁ N₁ hJ (fun h => hb (hbare h))
theorem for_genO {x : Str} {px : Pos} {body : List Stmt} {nm qn : Value} {own : List (Addr × Obj)} {m₀ : Str → Option Value} {news : List (Addr × Obj)}
    (J : Nat → (Str → Option Value) → List (Addr × Obj) → Prop)
    (hJC : ∀ i m nx, J i m nx → (I, genObj g nm qn) ∈ nx ∧ (l, ol) ∈ nx ∧ ∀ p ∈ nx, p.1 ≠ GL ∧ ¬ LIter p.2)
    (hh : A.handled = none) (hroom : A.depth < recursionLimit) (hlim : h₀.NoLimit) (hLG : env.locals ≠ GL) (hlL : l ≠ GL) (hol : ¬ LIter ol)
    (G : GenIn prog w A h₀ GL l ol lp outs g own 0 s.gens) (hlp : lp = true → 0 < outs.length)
    (F : Fr h₀ env.locals s.heap m₀) (N : News h₀ env.locals s.heap (own ++ news)) (hj : J 0 m₀ news)
    (hx : env.kindOf x = some .local) (hp : (env.scope.kind == .class || (env.scope.kind == .module && env.locals != env.globals)) = false)
    (turn : ∀ (J' : Nat → (Str → Option Value) → List (Addr × Obj) → Prop) (Q' : Flow → Shared → Prop), J' = J → (∀ f s', Q f s' → Q' f s') → ∀ (i : Nat) (z : Int) (t : Tok) (m₁ : Str → Option Value) (news₁ : List (Addr × Obj)) (h : Heap) (tk : Nat) (gens : Array GenState) (oG : Obj) (it : Addr) (oI : Obj), outs[i]? = some z → J i m₁ news₁ → Fr h₀ env.locals h (fun y => if y = x then some (.int z t) else m₁ y) → News h₀ env.locals h ((GL, oG) :: (it, oI) :: news₁) → (AllBare s.gens → AllBare gens) →
      wpAny (model prog w) A (execs body env) (TurnEndG Q' s h₀ env.locals GL it oG oI gens (lp = true → i + 1 < outs.length) (J' (i + 1))) NoErr { s with heap := h, gens := gens, toks := tk })
    (done : lp = false → ∀ h tk gens m' news', Fr h₀ env.locals h m' → News h₀ env.locals h news' → J outs.length m' news' → (AllBare s.gens → AllBare gens) → Q .next { s with heap := h, gens := gens, toks := tk }) :
    ForAt prog w A env (.Name x px) body Q E (.ref I) s :=
  for_gen J hJC hh hroom hlim hLG hlL hol G hlp F N hj hx hp (turn J Q rfl fun _ _ x => x) done
end
end Mine
end
section
-- G6a
open PySem PySem.W PyProof.Rows PySem.Calls
set_option Elab.async false
set_option maxRecDepth 100000
namespace Mine
section
variable {M : Model} {A : Around} {E : Value → Shared → Prop} {s : Shared}
theorem note_made {base h : Heap} {env : Env} {outer : List Env} {L e : Addr} {cls : Value} {args : List Value} {Q : Unit → Shared → Prop}
    (hfr : A.frames = some (env :: outer)) (hf : env.frame = some L) (hkb : base.StaysIn h) (hl : h.FunFrames base (env :: outer)) (hx : Heap.MadeExcOf h s.heap e cls args)
    (hQ : ∀ h' t, Heap.HeldW base (env :: outer) e cls (.ref t) L h' → h'.TupAt t args → base.get? t = none → s.heap.UpToSlots h' → Q () { s with heap := h' }) : wpAny M A (noteFrame (.ref e) env) Q E s := by
  obtain ⟨t, he, htn, ht⟩ := hx.there
  have fresh : ∀ b, h.get? b = none → base.get? b = none := fun b hb => by
    cases hq : base.get? b with
    | none => rfl
    | some o' => have := hkb b o' hq; rw [hb] at this; cases this
  unfold noteFrame
  simp only [hf]
  refine wpAny_bind (wpAny_field he (vs := #[.ref t, .none, .none, .none, .bool false, .none]) (x := .none) rfl rfl ?_)
  rw [if_neg (show ¬ ((Value.none != Value.none) = true) from by simp)]
  refine wpAny_entryW (a0 := .ref t) hfr (hl.of_keeps fun b o hb _ => ⟨o, hx.keeps b o hb, rfl⟩) hf he (fun b o hb => hx.keeps b o (hkb b o hb)) (fresh e hx.new) rfl (by simp) rfl fun h' hN => ?_
  obtain ⟨k1, k2, k3, k4⟩ := hN
  exact hQ h' t ⟨k1, fresh e hx.new, k2, k3⟩ (Heap.TupAt.of_slots ⟨_, _, ht, rfl, rfl⟩ k4) (fresh t htn) k4

theorem flight_again {base : Heap} {l : List Env} {e L : Addr} {cls a0 : Value} {Q : Unit → Shared → Prop} (R : Heap.HeldW base l e cls a0 L s.heap)
    (h : ∀ h', Heap.HeldW base l e cls a0 L h' → s.heap.UpToSlots h' → Q () { s with heap := h' }) : wpAny M A (do
        if (← field (.ref e) 1) == Value.none then unsupported "frame.own-activation:exception-without-traceback"
        setFlight (.ref e) (some L)) Q E s := by
  obtain ⟨hkb, hen, hl, oe, vs, T, oT, ts, he, hcls, hd, h1, hnT, hTe, hT, hdT, h3⟩ := R
  have hsz3 : 3 < ts.size := (Array.getElem?_eq_some_iff.mp h3).1
  have other : ∀ b, b ≠ T → (s.heap.update T (Obj.mapFields (·.setIfInBounds 3 ((some L).elim Value.none fun f => rawInt f)))).get? b = s.heap.get? b :=
    fun b hb => Heap.get?_update_other _ _ (Ne.symm hb)
  have noRecord : ∀ b o, s.heap.get? b = some o → (∀ vs, o.data ≠ .fields vs) → b ≠ T := fun b o hb hnf q => by
    rw [q, hT] at hb; injection hb with hb; subst hb; exact hnf ts hdT
  refine wpAny_bind (wpAny_field he hd h1 ?_)
  rw [if_neg (show ¬ ((Value.ref T == Value.none) = true) from by simp)]
  unfold setFlight
  refine wpAny_bind (wpAny_field he hd h1 ?_)
  rw [if_pos (show (Value.ref T != Value.none) = true from by simp)]
  refine wpAny_setField hT hdT hsz3 (h _ ⟨fun b o hbo => (other b fun q => by rw [q, hnT] at hbo; cases hbo).trans (hkb b o hbo), hen,
    hl.of_keeps fun b o hb hnf => ⟨o, (other b (noRecord b o hb hnf)).trans hb, rfl⟩, ?_⟩ fun b o hb hnf => ⟨o.slots, (other b (noRecord b o hb hnf)).trans hb⟩)
  exact ⟨oe, vs, T, _, _, (other e (Ne.symm hTe)).trans he, hcls, hd, h1, hnT, hTe, Heap.get?_update_self _ hT (Obj.isFreed_of_fields (Obj.data_mapFields hdT _)), Obj.data_mapFields hdT _, by simp [hsz3]⟩

theorem leaves_held {base : Heap} {env : Env} {outer : List Env} {L e : Addr} {cls a0 : Value} {Q : Unit → Shared → Prop} (hf : env.frame = some L)
    (hh : Heap.HeldW base (env :: outer) e cls a0 L s.heap) (hQ : ∀ h', Heap.FlyingW base outer e cls a0 h' → s.heap.UpToSlots h' → Q () { s with heap := h' }) : wpAny M A (leaving env (.ref e)) Q E s := by
  unfold leaving
  refine wpAny_bind (wpAny_noteFrame_againW hf hh.2.2.2 ?_)
  refine wpAny_landsW hh fun h' hfl hu => ?_
  obtain ⟨k1, k2, ⟨_, _, k3⟩, k4⟩ := hfl
  exact hQ h' ⟨k1, k2, k3, k4⟩ hu
end
theorem funFrames_move {h h' base base' : Heap} : ∀ {l : List Env}, h.FunFrames base l → (∀ b ∈ l.filterMap (·.frame), base'.get? b = none ∧ ∀ o, h.get? b = some o → h'.get? b = some o) → h'.FunFrames base' l
  | [], _, _ => trivial
  | env :: rest, ⟨h1, ⟨L, o, hf, hb, ho, hd⟩, h3⟩, k => by
    have hL : L ∈ (env :: rest).filterMap (·.frame) := List.mem_filterMap.mpr ⟨env, .head _, hf⟩
    refine ⟨h1, ⟨L, o, hf, (k L hL).1, (k L hL).2 o ho, hd⟩, funFrames_move h3 fun b hb => k b ?_⟩
    obtain ⟨env', he', hf'⟩ := List.mem_filterMap.mp hb
    exact List.mem_filterMap.mpr ⟨env', .tail _ he', hf'⟩
end Mine
end
section
-- G6
open PySem PySem.W PyProof.Rows PySem.Calls
set_option Elab.async false
set_option maxRecDepth 100000
set_option maxHeartbeats 4000000
set_option pp.deepTerms false
set_option pp.maxSteps 1500
namespace Mine
theorem startG6 : True := by
  w_top off
  exact trivial
local macro_rules | `(tactic| walk_at "no key 0") => `(tactic| skip)
theorem fillG6 : PySem.Challenge.rw_wr0013_01 = PySem.Challenge.rw_wr0013_01 ∧ Mine.hv.heap_1 = Mine.hv.heap_1 := by
  k_fill
  exact ⟨rfl, rfl⟩
local macro_rules | `(tactic| walk_at "Seg") => `(tactic| (have hq : Mine.StopSeg := (by with_reducible assumption); clear hq; refine Mine.Hold.of ?_))
local macro_rules | `(tactic| walk_at "storeName") => `(tactic| (have hq : Mine.StopStore := (by with_reducible assumption); clear hq; refine Mine.Hold.of ?_))
/-- the generator's run ends in a ValueError -/
def GErr (h₀ : Heap) (GL : Addr) (frs : List Env) : GenEnd := fun _ s₀ r s₁ => ∃ (e t : Addr) (h6 B : Heap) (tk : Tok), r = .error (.ref e) ∧ (∃ h' tk', s₁ = { s₀ with heap := h', toks := tk' }) ∧
  (∀ b o, b ≠ GL → s₀.heap.get? b = some o → h6.get? b = some o) ∧ h6.UpToSlots s₁.heap ∧ (∀ b o, b ∉ GL :: frs.filterMap (·.frame) → h6.get? b = some o → B.get? b = some o) ∧ (∀ b, b ∈ GL :: frs.filterMap (·.frame) → B.get? b = none) ∧
  Heap.FlyingW B frs e (.type "ValueError") (.ref t) s₁.heap ∧ s₁.heap.TupAt t [.str "invalid grouping" tk] ∧ B.get? t = none
theorem gi_raise (w : World) {name qual : Str} {params : Arguments} {body : List Stmt} {scope : Scope} {dV kV doc pm cdv ct oc : Value} {an od : Option Addr} {osl : Array (Option Value)}
    (ho : (Mine.hv.heap_1 w.params).lookup 60 = some ⟨oc, od, .func (fnOf name qual params body scope dV kV doc pm an cdv ct), osl⟩)
    {A : Around} (hh : A.handled = none) {mean : ExcName → Option Value} {mg mb : Str → Option Value} {h₀ : Heap} {GL l : Addr} {zs : List Int} {vals : List Value} {nn : Nat} {Y : Protocol} {frs : List Env} {base : Heap} (hfr : A.frames = some frs)
    (KX : (Mine.hv.heap_1 w.params).In h₀) (T : Top pv (looseW pv []) mean mg mb h₀) (hiv : IntVals (0 :: zs) vals) (hlL : l ≠ GL)
    (s : Shared) (m : Str → Option Value) (F : Fr h₀ GL s.heap m) (hm : m "grouping" = some (.ref l)) (hl : s.heap.get? l = some (listOf vals.toArray nn)) (hfun : s.heap.FunFrames base frs) (hGf : GL ∉ frs.filterMap (·.frame)) :
      Seg (model pg w) A (GErr h₀ GL frs) Y 0 s (.func body (envOf qual scope GL 60 cdv))
        ((model pg w).den (.func body (envOf qual scope GL 60 cdv))) [] s := by
  refine' lk_cases ?h ho ?_
  case h => k_is
  intro e1 e2 e3 e4 e5 e6
  subst e1 e2 e3 e4 e5 e6
  refine seg_func (seg_execs_cons (seg_stmt ?_))
  have stopSeg : StopSeg := ⟨⟩
  have stopStore : StopStore := ⟨⟩
  have F1 := fr_canon [(Str.ofString "grouping", .ref l)] F (by simp only [List.forall_mem_cons]; exact ⟨hm, fun _ h => nomatch h⟩)
  have N1 : News h₀ GL s.heap [] := News.nil
  repeat' (first | (k_unfold; (try dsimp only)) | walk1 | (dsimp only; walk1))
  refine Hold.mk (wpAny_storeName_local (by rfl) F.ns (fun h3 hn3 hs3 => ?_) (by rfl))
  have hs3' : Heap.SameBut GL s.heap h3 := hs3
  dsimp only
  refine seg_execs_cons (seg_For ?_)
  have F3 := F.set hn3 hs3
  have F4 := fr_canon [(Str.ofString "grouping", .ref l)] F3 (by simp only [List.forall_mem_cons]; exact ⟨(if_neg (by decide)).trans hm, fun _ h => nomatch h⟩)
  have N3 : News h₀ GL h3 [] := News.nil
  walk1
  dsimp only
  have hl3 : h3.get? l = some (listOf vals.toArray nn) := hs3'.extBut _ _ hlL hl
  refine wpAny_pyIter_list ⟨_, hl3, rfl, nn, rfl⟩ fun p => ?_
  have hnew : h₀.get? h3.objs.size = none := next_is_new F3
  have hiL : h3.objs.size ≠ GL := Nat.ne_of_gt F3.ns.lt
  have hil : h3.objs.size ≠ l := Nat.ne_of_gt (Heap.lt_size hl3)
  have hvl : 0 < vals.length := by rw [hiv.len]; simp
  refine seg_forLoop ((Walks.list (by exact hh) h3.objs.size l (Ne.symm hil) vals.toArray).item 0 _ _ _ (by simpa using hvl) ⟨⟨_, Heap.get?_push_size _ rfl, rfl, rfl⟩, ⟨_, Heap.get?_push_of_some _ hl3, rfl, nn, rfl⟩⟩ fun v h5 tk5 hv hst5 hk5 => ?_)
  have F5 : Fr h₀ GL h5 _ := ⟨(F3.push _).ns.at' fun o e => hk5 _ o (by simpa using hiL.symm) e, fun b o e => hk5 b o (by intro q; rw [List.mem_singleton.mp q, hnew] at e; cases e) ((F3.push _).keep b o e), F3.above⟩
  refine wpAny_assign_Name (wpAny_storeName_local (by rfl) F5.ns (fun h6 hn6 hs6 => ?_) (by rfl))
  obtain ⟨z, t, hz, rfl⟩ := hiv.at (i := 0) (v := v) (by simpa using hv)
  obtain rfl : 0 = z := Option.some.inj hz
  have F6 := F5.set hn6 hs6
  replace F6 := fr_canon [(Str.ofString "interval", .int 0 t), (Str.ofString "last_interval", .none)] F6 (ps2 (m := fun y => if y = Str.ofString "interval" then some (.int 0 t) else if y = Str.ofString "last_interval" then some .none else m y) (if_pos rfl) ((if_neg (by decide)).trans (if_pos rfl)))
  have N6 : News h₀ GL h6 [] := News.nil
  refine seg_execs_cons (seg_If ?_)
  dsimp only
  repeat' (first | (k_unfold; (try dsimp only)) | walk1 | (dsimp only; walk1))
  refine Hold.mk (seg_execs_nil ?_)
  dsimp only
  refine seg_execs_cons (seg_If ?_)
  repeat' (first | (k_unfold; (try dsimp only)) | walk1 | (dsimp only; walk1))
  refine Hold.mk (seg_execs_cons (seg_If ?_))
  repeat' (first | (k_unfold; (try dsimp only)) | walk1 | (dsimp only; walk1))
  refine Hold.mk (seg_execs_cons (seg_stmt ?_))
  refine' Raise_madeB PySem.F.excCall_ValueError PySem.F.excRaise_ValueError ?hh ?hx
  case hh => exact hh
  refine' name_B F6 ?k1 ?k2 ?k3 ?k4 ?k5 ?_
  case k1 => k_asm
  case k2 => k_asm
  case k3 => k_is
  case k4 => boot_by_name
  case k5 => decide
  refine ⟨rfl, ?_⟩
  repeat' (first | (k_unfold; (try dsimp only)) | walk1 | (dsimp only; walk1))
  rename_i h7 e hmade
  have hx := Heap.MadeExc.of hmade
  have hk6 : ∀ b o, b ≠ GL → s.heap.get? b = some o → h6.get? b = some o := fun b o hb e => by
    have hs6' : Heap.SameBut GL h5 h6 := hs6
    have e3 := hs3'.extBut b o hb e
    exact hs6'.extBut _ _ hb (hk5 b o (by intro q; rw [List.mem_singleton.mp q] at e3; exact absurd (Heap.lt_size e3) (Nat.lt_irrefl _)) (Heap.get?_push_of_some _ e3))
  obtain ⟨oG, esG, epG, hoG, hoGd, _⟩ := F6.ns
  have hfun6 : h6.FunFrames (hideAll h6 (GL :: frs.filterMap (·.frame))) frs := funFrames_move hfun fun b hb => ⟨hideAll_none _ (.tail _ hb), fun o e => hk6 b o (fun q => hGf (q ▸ hb)) e⟩
  refine Hold.mk ?_
  unfold notes
  refine seg_wrap (wpAny_bind (note_made (outer := frs) (base := hideAll h6 (GL :: frs.filterMap (·.frame))) ?hfr rfl ?hkb ?hl hx fun h8 t8 hheld htup hbt hu => wpAny_theTreesLotGoes ?_))
  case hfr => (unfold Around.over; dsimp only; rw [hfr]; rfl)
  case hkb => exact fun b o e => of_hideAll _ e
  case hl => exact ⟨(by intro q; cases q), ⟨GL, oG, rfl, hideAll_none _ (.head _), hoG, fun vs q => by rw [hoGd] at q; cases q⟩, hfun6⟩
  refine seg_leaf (.error (.ref e)) ?_
  show Seg _ _ _ _ _ _ _ (((do
        if (← field (.ref e) 1) == Value.none then unsupported "frame.own-activation:exception-without-traceback"
        setFlight (.ref e) (some GL)) >>= fun _ => (Sem.raise (.ref e) : Sem Flow)).wrap _ _ _ _) _ _
  refine seg_bind_wrap (flight_again hheld fun h9 hheld9 hu9 => ?_)
  refine seg_wrap (m := leaving _ (.ref e)) (leaves_held rfl hheld9 fun h10 hfl hu10 => ?_)
  refine seg_end (.error (.ref e)) ⟨e, t8, h6, _, _, rfl, ⟨_, _, rfl⟩, hk6, ?_, ?_, ?_, hfl, (htup.of_slots hu9).of_slots hu10, hbt⟩
  · exact (Heap.UpToSlots.of_keeps hx.keeps).trans (hu.trans (hu9.trans hu10))
  · exact fun b o hb e => hideAll_get _ e hb
  · exact fun b hb => hideAll_none _ hb
end Mine
end
section
-- G7
open PySem PySem.W PyProof.Rows PySem.Calls
set_option Elab.async false
set_option maxRecDepth 100000
namespace Mine
section
variable {prog : Program} {w : World} {A A₀ : Around} {E : Value → Shared → Prop} {s : Shared} {env : Env} {outer : List Env} {h₀ base : Heap} {Q : Flow → Shared → Prop} {GL I : Addr} {g : Nat}
theorem sub_value_stop : isSubtype (.type "ValueError") (.type "StopIteration") = pure false := by rw [isSubtype_type]; kernel_rfl
theorem for_raise {x : Str} {px : Pos} {body : List Stmt} {nm qn : Value} {m : Str → Option Value} {news : List (Addr × Obj)} {code : Code}
    (hh : A.handled = none) (hroom : A.depth < recursionLimit) (hlim : h₀.NoLimit) (hfr : A.frames = some (env :: outer)) (hf : env.frame = some env.locals)
    (hB : base.StaysIn h₀) (hBf : h₀.FunFrames base outer) (hfun : s.heap.FunFrames base (env :: outer)) (hG0 : h₀.get? GL = none) (hGL : GL ≠ env.locals)
    (F : Fr h₀ env.locals s.heap m) (N : News h₀ env.locals s.heap news) (hI : (I, genObj g nm qn) ∈ news) (hnG : ∀ p ∈ news, p.1 ≠ GL) (hgs : s.gens[g]? = some (.fresh code))
    (hseg : Seg (model prog w) A.in1 (GErr h₀ GL (env :: outer)) (fun _ _ _ _ _ => False) 0 (s.setGen g .running) code ((model prog w).den code) [] (s.setGen g .running))
    (hE : ∀ e t h' tk tk' gens' G, Fr h₀ env.locals G m → G.UpToSlots h' → RaisedH base G (env :: outer) env.locals e (.type "ValueError") t [.str "invalid grouping" tk] news h' → (AllBare s.gens → AllBare gens') → E (.ref e) { s with heap := h', gens := gens', toks := tk' }) :
    ForAt prog w A env (.Name x px) body Q E (.ref I) s := by
  have hgen : s.heap.IsGen I g := ⟨_, nm, qn, (N _ hI).1, rfl, rfl, rfl⟩
  unfold ForAt
  refine wpAny_pyIter_gen hgen ?_
  refine codeAny_forLoop (fun k s' => s' = s) ?_ 0 rfl
  rintro k s' rfl
  refine pyNext_gen hh (hlim.keeps F.keep) hroom hgen hgs ⟨rfl, hseg⟩ (fun v s₁ gs' hb hv => ?_) (fun r s₁ hr => .inr ?_)
  · exact hv.elim
  · obtain ⟨e, t, h6, B, tk, rfl, ⟨h1, tk1, rfl⟩, hk6, hup, hB6, hBn, hfl, htup, hbt⟩ := hr
    have hsm : ∀ q ∈ news, q.1 ∉ (env :: outer).filterMap (·.frame) := fun q hq hm => by
      obtain ⟨en, he, hfe⟩ := List.mem_filterMap.mp hm
      rcases List.mem_cons.mp he with rfl | he
      · rw [hf] at hfe
        exact (N q hq).2.1 (Option.some.inj hfe).symm
      · obtain ⟨L', o, h2, h3⟩ := funFrames_in hBf en he
        rw [hfe] at h2
        cases h2
        have := (N q hq).2.2
        rw [h3] at this; cases this
    refine ⟨e, "ValueError", rfl, ?_, ?_, sub_value_stop, ?_⟩
    · refine ⟨_, nm, qn, hfl.1 _ _ (hB6 I _ (fun hm => ?_) (hk6 I _ (hnG _ hI) (N _ hI).1)), rfl, rfl, rfl⟩
      rcases List.mem_cons.mp hm with z | hm
      · exact hnG _ hI z
      · exact hsm _ hI hm
    · obtain ⟨ob, e1, e2⟩ := hfl.there
      exact ⟨ob, e1, e2⟩
    · refine wpAny_looks_onW hfr hf hfl fun h2 hheld hu2 => ?_
      refine wpAny_mono (Q := fun _ s'' => E (.ref e) s'') (E := E) ?_ (fun _ _ h => h) fun _ _ h => h
      rw [hf]
      refine flight_again hheld fun h3 hheld3 hu3 => ?_
      have nL : env.locals ∉ GL :: news.map (·.1) := fun hm => by
        rcases List.mem_cons.mp hm with q | hm
        · exact hGL q.symm
        · obtain ⟨p, hp, q⟩ := List.mem_map.mp hm
          exact (N p hp).2.1 q
      have nK : ∀ b o, h₀.get? b = some o → b ∉ GL :: news.map (·.1) := fun b o e hm => by
        rcases List.mem_cons.mp hm with q | hm
        · rw [q, hG0] at e; cases e
        · obtain ⟨p, hp, q⟩ := List.mem_map.mp hm
          rw [← q, (N p hp).2.2] at e; cases e
      refine hE e t h3 tk _ _ (hideAll s'.heap (GL :: news.map (·.1))) ⟨?_, fun b o e => hideAll_get _ (F.keep b o e) (nK b o e), F.above⟩ ?_ ⟨⟨B, ?_, ?_, ?_, hheld3, hbt⟩, (htup.of_slots hu2).of_slots hu3⟩ ?_
      · obtain ⟨oL, es, ep, e1, e2⟩ := F.ns
        exact ⟨oL, es, ep, hideAll_get _ e1 nL, e2⟩
      · intro b o e hn
        have hb : b ∉ GL :: news.map (·.1) := fun hm => by rw [hideAll_none _ hm] at e; cases e
        exact (hup.trans (hu2.trans hu3)) b o (hk6 b o (fun q => hb (q ▸ .head _)) (of_hideAll _ e)) hn
      · intro b o e
        have hnf : b ∉ (env :: outer).filterMap (·.frame) := fun hm => by rw [(hfun.mem hm).1] at e; cases e
        have hbG : b ≠ GL := fun q => by have := hB b o e; rw [q, hG0] at this; cases this
        exact hB6 b o (fun hm => by rcases List.mem_cons.mp hm with q | hm; exact hbG q; exact hnf hm) (hk6 b o hbG (F.keep b o (hB b o e)))
      · intro b o e hnf
        have hb : b ∉ GL :: news.map (·.1) := fun hm => by rw [hideAll_none _ hm] at e; cases e
        exact hB6 b o (fun hm => by rcases List.mem_cons.mp hm with q | hm; exact hb (q ▸ .head _); exact hnf hm) (hk6 b o (fun q => hb (q ▸ .head _)) (of_hideAll _ e))
      · intro q hq
        refine ⟨hB6 _ _ (fun hm => ?_) (hk6 _ _ (hnG q hq) (N q hq).1), hideAll_none _ (.tail _ (List.mem_map_of_mem hq)), fresh_of_stays hB (N q hq).2.2⟩
        rcases List.mem_cons.mp hm with z | hm
        · exact hnG q hq z
        · exact hsm q hq hm
      · exact fun hb0 => (GenOnlyQ.of ((GenOnly.setGen s' g .running).trans (GenOnly.setGen _ g .finished)) (setGen_self (gs := .running) (setGen_self hgs)) rfl).bare hb0
end
end Mine
end
section
-- G8
open PySem PySem.W PyProof.Rows PySem.Calls
set_option Elab.async false
set_option maxRecDepth 100000
set_option maxHeartbeats 4000000
namespace Mine
theorem fillG8 : PySem.Challenge.rw_wr0013_01 = PySem.Challenge.rw_wr0013_01 ∧ Mine.hv.heap_1 = Mine.hv.heap_1 := by
  k_fill
  exact ⟨rfl, rfl⟩
structure GiFn (K : Frag) (name qual : Str) (params : Arguments) (body : List Stmt) (scope : Scope) (dV kV doc pm cdv ct oc : Value) (an od : Option Addr) (osl : Array (Option Value)) : Prop where
  ho : K.lookup 60 = some ⟨oc, od, .func (fnOf name qual params body scope dV kV doc pm an cdv ct), osl⟩
  hcd : codeIn K cdv qual = true
  hbind : ∀ s l, BindsTo s (fnOf name qual params body scope dV kV doc pm an cdv ct) ⟨[.ref l], []⟩ [(Str.ofString "grouping", .ref l)]
  hloc : ∀ (l : Addr), ∀ y ∈ [(Str.ofString "grouping", Value.ref l)], scope.names.lookup y.1 = some .local
  hco : scope.isCoroutine = false
  hgen : scope.isGenerator = true
  hk : scope.kind = .function
  hcell : ∀ x ∈ scope.names, x.2 ≠ .cell
theorem gi_fn_mk {K : Frag} {name qual : Str} {params : Arguments} {body : List Stmt} {scope : Scope} {dV kV doc pm cdv ct oc : Value} {an od : Option Addr} {osl : Array (Option Value)}
    (h : GiFn K name qual params body scope dV kV doc pm cdv ct oc an od osl) : ∃ name qual params body scope dV kV doc pm cdv ct oc an od osl, GiFn K name qual params body scope dV kV doc pm cdv ct oc an od osl := ⟨_, _, _, _, _, _, _, _, _, _, _, _, _, _, _, h⟩
theorem gi_fn (w : World) : ∃ name qual params body scope dV kV doc pm cdv ct oc an od osl, GiFn (Mine.hv.heap_1 w.params) name qual params body scope dV kV doc pm cdv ct oc an od osl := by
  refine' gi_fn_mk (GiFn.mk ?a ?b ?c ?d ?e ?f ?g ?h)
  case a => k_is
  case b => k_is
  case c => exact fun s l => BindsTo.of_eq rfl
  case d => exact fun l => by simp only [List.forall_mem_cons]; exact ⟨rfl, fun _ h => nomatch h⟩
  case e => exact rfl
  case f => exact rfl
  case g => exact rfl
  case h => decide
theorem ints_vals : ∀ {vs : List Value} {ns : List Int}, IntsAre vs ns → IntVals ns vs
  | _, _, .nil => rfl
  | _, _, .cons n t h => by
    have := ints_vals h
    simp only [IntVals, List.map_cons, intOf] at this ⊢
    rw [this]
section
variable {w : World} {A : Around} {E : Value → Shared → Prop} {s : Shared} {h₀ : Heap} {L l : Addr} {m : Str → Option Value} {news : List (Addr × Obj)} {mean : ExcName → Option Value} {mg mb : Str → Option Value} {zs outs : List Int} {vals : List Value} {nn : Nat} {lp : Bool} {Q : Value → Shared → Prop}
theorem liter_list {vals : Array Value} {nn : Nat} : ¬ LIter (listOf vals nn) := fun ⟨q, _⟩ => absurd (Value.type.inj q) (by decide)
theorem call_gen (F : Fr h₀ L s.heap m) (KX : (Mine.hv.heap_1 w.params).In h₀) (N : News h₀ L s.heap news) (T : Top pv (looseW pv []) mean mg mb h₀) (hl : (l, listOf vals.toArray nn) ∈ news) (hiv : IntVals zs vals) (hplan : Plan lp none zs outs) (hroom : A.depth < recursionLimit)
    (h : ∀ GL I oG h₁ tk nm qn gens, Fr h₀ L h₁ m → News h₀ L h₁ ((I, genObj s.gens.size nm qn) :: (GL, oG) :: news) → (∀ q ∈ news, q.1 < GL) → GL < I → L < GL → h₀.get? GL = none →
      (∀ A' : Around, A'.handled = none → GenIn pg w A' h₀ GL l (listOf vals.toArray nn) lp outs s.gens.size [(GL, oG)] 0 gens) → (AllBare s.gens → AllBare gens) → Q (.ref I) { s with heap := h₁, gens := gens, toks := tk }) :
    wpAny (model pg w) A (call (.ref 60) [.ref l]) Q E s := by
  obtain ⟨name, qual, params, body, scope, dV, kV, doc, pm, cdv, ct, oc, an, od, osl, G⟩ := gi_fn w
  refine wpAny_call (code_gen F KX N T G.ho G.hcd hroom (G.hbind _ _) (G.hloc _) ?_ G.hco G.hgen G.hk G.hcell)
  intro GL I oG h₁ tk nm qn F1 N1 FG hoG hlt hGI hLG
  have hG0 : h₀.get? GL = none := (N1 _ (.tail _ (.head _))).2.2
  have hlL : l ≠ GL := Nat.ne_of_lt (hlt _ hl)
  obtain ⟨o2, es, ep, e1, e2⟩ := FG.ns
  rw [hoG] at e1
  cases e1
  refine h GL I oG h₁ tk nm qn _ F1 N1 hlt hGI hLG hG0 (fun A' hA' => ⟨?_, ?_, .fresh (.func body (envOf qual scope GL 60 cdv)), Array.getElem?_push_size .., ?_⟩) (fun hb => hb.push rfl)
  · simp only [List.forall_mem_cons]; exact ⟨hG0, fun _ h => nomatch h⟩
  · simp only [List.forall_mem_cons]; exact ⟨.inl trivial, fun _ h => nomatch h⟩
  · intro s'' hst hown hl''
    refine ⟨rfl, ?_⟩
    refine gi_start w G.ho (A := A'.in1) hA' KX T hiv hlL s'' _ hplan ⟨⟨oG, es, ep, hown _ (.head _), e2⟩, hst, FG.above⟩ ?_ hl''
    rfl
/-- the generator that raises at its first wake -/
theorem call_gen_raise {zs' : List Int} (F : Fr h₀ L s.heap m) (KX : (Mine.hv.heap_1 w.params).In h₀) (N : News h₀ L s.heap news) (T : Top pv (looseW pv []) mean mg mb h₀) (hl : (l, listOf vals.toArray nn) ∈ news) (hiv : IntVals (0 :: zs') vals) (hroom : A.depth < recursionLimit)
    (h : ∀ GL I oG h₁ tk nm qn code, Fr h₀ L h₁ m → News h₀ L h₁ ((I, genObj s.gens.size nm qn) :: (GL, oG) :: news) → (∀ q ∈ news, q.1 < GL) → GL < I → L < GL → h₀.get? GL = none →
      (∀ (A' : Around) (frs : List Env) (base : Heap) (s'' : Shared), A'.handled = none → A'.frames = some frs → s''.heap.FunFrames base frs → GL ∉ frs.filterMap (·.frame) → s''.heap = h₁ → Seg (model pg w) A' (GErr h₀ GL frs) (fun _ _ _ _ _ => False) 0 s'' code ((model pg w).den code) [] s'') → (AllBare s.gens → AllBare (s.gens.push (.fresh code))) → Q (.ref I) { s with heap := h₁, gens := s.gens.push (.fresh code), toks := tk }) :
    wpAny (model pg w) A (call (.ref 60) [.ref l]) Q E s := by
  obtain ⟨name, qual, params, body, scope, dV, kV, doc, pm, cdv, ct, oc, an, od, osl, G⟩ := gi_fn w
  refine wpAny_call (code_gen F KX N T G.ho G.hcd hroom (G.hbind _ _) (G.hloc _) ?_ G.hco G.hgen G.hk G.hcell)
  intro GL I oG h₁ tk nm qn F1 N1 FG hoG hlt hGI hLG
  have hG0 : h₀.get? GL = none := (N1 _ (.tail _ (.head _))).2.2
  have hlL : l ≠ GL := Nat.ne_of_lt (hlt _ hl)
  refine h GL I oG h₁ tk nm qn (.func body (envOf qual scope GL 60 cdv)) F1 N1 hlt hGI hLG hG0 (fun A' frs base s'' hA' hfr hfun hGf hs'' => ?_) (fun hb => hb.push rfl)
  subst hs''
  exact gi_raise w G.ho hA' hfr KX T hiv hlL s'' _ FG rfl (N1 _ (.tail _ (.tail _ hl))).1 hfun hGf
end
end Mine
end
section
-- H1
open PySem PySem.W PyProof.Rows PySem.Calls
set_option Elab.async false
set_option maxRecDepth 100000
set_option maxHeartbeats 4000000
set_option pp.deepTerms false
set_option pp.maxSteps 1500
namespace Mine
theorem startH1 : True := by
  w_top off
  exact trivial
theorem fillH : PySem.Challenge.rw_wr0013_01 = PySem.Challenge.rw_wr0013_01 ∧ Mine.hv.heap_1 = Mine.hv.heap_1 := by
  k_fill
  exact ⟨rfl, rfl⟩
structure StopComp : Prop where
structure StopSum : Prop where
structure StopGen : Prop where
structure StopAdd : Prop where
structure StopLeave : Prop where
local macro_rules | `(tactic| walk_at "inplaceOp Mult int int") => `(tactic| (refine imul_int ?_ (PySem.IntMulOk.of_right (PySem.intBits_le_64 (by omega) (by omega)))))
local macro_rules | `(tactic| walk_at "LeaveS0") => `(tactic| (have hq : Mine.StopLeave := (by with_reducible assumption); clear hq; refine Mine.Hold.of ?_))
local macro_rules | `(tactic| walk_at "binaryOp Add ref ref") => `(tactic| (have hq : Mine.StopAdd := (by with_reducible assumption); clear hq; refine Mine.Hold.of ?_))
local macro_rules | `(tactic| walk_at "pyIter str") => `(tactic| (have hq : Mine.StopComp := (by with_reducible assumption); clear hq; refine Mine.Hold.of ?_))
local macro_rules | `(tactic| walk_at "call builtin:sum") => `(tactic| (have hq : Mine.StopSum := (by with_reducible assumption); clear hq; refine Mine.Hold.of ?_))
local macro_rules | `(tactic| walk_at "exec For Name Call cons nil") => `(tactic| (have hq : Mine.StopLoops := (by with_reducible assumption); clear hq; with_unfolding_all refine Mine.for_start ?_))
local macro_rules | `(tactic| walk_at "call ref") => `(tactic| (have hq : Mine.StopCalls := (by with_reducible assumption); clear hq; refine Mine.Hold.of ?_))
local macro_rules | `(tactic| walk_at "exec While BoolOp cons nil") => `(tactic| (have hq : Mine.StopGen := (by with_reducible assumption); clear hq; with_unfolding_all refine Mine.Hold.of ?_))
def sizeOf (c : Str) : Int := if c = Str.ofString "\"" then 2 else 1
def sizesOf (x : Str) : List Int := (signs (Txt.sliceBy x none none (-1, 0))).map sizeOf
theorem rev_tok (x : Str) (u : Tok) : Txt.sliceBy x none none (-1, u) = Txt.sliceBy x none none (-1, 0) := by
  have h1 := step_rev_list x u
  have h2 := step_rev_list x 0
  generalize Txt.sliceBy x none none (-1, u) = a at h1
  generalize Txt.sliceBy x none none (-1, 0) = b at h2
  obtain ⟨a⟩ := a
  obtain ⟨b⟩ := b
  congr 1
  exact Array.toList_inj.mp (h1.trans h2.symm)
def intValues (l : List (Int × Tok)) : List Value := l.map fun p => .int p.1 p.2
theorem ints_values : ∀ {vs : List Value} {ns : List Int}, IntsAre vs ns → ∃ l, vs = intValues l ∧ l.map (·.1) = ns
  | _, _, .nil => ⟨[], rfl, rfl⟩
  | _, _, .cons n t h => by
    obtain ⟨l, rfl, rfl⟩ := ints_values h
    exact ⟨(n, t) :: l, rfl, rfl⟩
theorem values_ints : ∀ (l : List (Int × Tok)), IntsAre (intValues l) (l.map (·.1))
  | [] => .nil
  | (n, t) :: l => .cons n t (values_ints l)
theorem sizesOf_ok (x : Str) : ∀ z ∈ sizesOf x, z = 1 ∨ z = 2 := by
  intro z hz
  obtain ⟨c, _, rfl⟩ := List.mem_map.mp hz
  unfold sizeOf
  split
  · exact .inr rfl
  · exact .inl rfl
theorem sizesOf_len (x : Str) : (sizesOf x).length = x.length := by
  rw [sizesOf, List.length_map, signs_length, step_rev_len]
def pstep (cp : Int × Int) (z : Int) : Int × Int := (cp.1 + z, cp.2 * (if z = 2 then cp.1 + 1 else 1))
def prodOf (ns : List Int) : Int := (ns.foldl pstep (0, 1)).2
theorem pstep_sum : ∀ (ns : List Int) (cp : Int × Int), (ns.foldl pstep cp).1 = cp.1 + ns.sum
  | [], cp => by simp
  | z :: r, cp => by rw [List.foldl_cons, pstep_sum r, List.sum_cons]; simp only [pstep]; omega
theorem psn {m : Str → Option Value} : ∀ p ∈ ([] : List (Str × Value)), m p.1 = some p.2 := fun _ h => nomatch h
theorem psc {m : Str → Option Value} {x : Str} {v : Value} {ps : List (Str × Value)} (h : m x = some v) (t : ∀ p ∈ ps, m p.1 = some p.2) : ∀ p ∈ (x, v) :: ps, m p.1 = some p.2 := fun p hp => by
  rcases List.mem_cons.mp hp with rfl | hp
  · exact h
  · exact t p hp
theorem sum_small : ∀ (ns : List Int), (∀ z ∈ ns, z = 1 ∨ z = 2) → 0 ≤ ns.sum ∧ ns.sum ≤ 2 * ns.length
  | [], _ => by simp
  | z :: r, h => by
    have h1 := h z (.head _)
    have h2 := sum_small r fun y hy => h y (.tail _ hy)
    rw [List.sum_cons, List.length_cons]
    omega
theorem plan_end (tail : List Int) (ht : tail = [] ∨ ∃ r, tail = 127 :: r) : ∀ (ns : List Int) (last : Option Int), (∀ z ∈ ns, z = 1 ∨ z = 2) → Plan false last (ns ++ tail) ns
  | [], last, _ => by
    rcases ht with rfl | ⟨r, rfl⟩
    · exact ⟨rfl, rfl⟩
    · rw [List.nil_append, Plan, if_pos rfl]; exact ⟨rfl, rfl⟩
  | z :: ns, last, h => by
    have hz := h z (.head _)
    have h1 : z ≠ 127 := by omega
    have h2 : z ≠ 0 := by omega
    rw [List.cons_append, Plan, if_neg h1, if_neg h2]
    exact ⟨ns, rfl, .inr (plan_end tail ht ns _ fun y hy => h y (.tail _ hy))⟩
theorem plan_loop (r : List Int) (b : Int) (k : Nat) : ∀ (ns : List Int) (last : Option Int), (∀ z ∈ ns, z = 1 ∨ z = 2) → (b = 1 ∨ b = 2) → Plan true last (ns ++ b :: 0 :: r) (ns ++ b :: List.replicate (k + 1) b)
  | [], last, _, hb => by
    have h1 : b ≠ 127 := by omega
    have h2 : b ≠ 0 := by omega
    rw [List.nil_append, List.nil_append, Plan, if_neg h1, if_neg h2]
    refine ⟨_, rfl, .inr ?_⟩
    rw [Plan, if_neg (by decide), if_pos rfl]
    exact ⟨b, rfl, rfl, by simp [List.replicate_succ], fun o ho => (List.mem_replicate.mp ho).2⟩
  | z :: ns, last, h, hb => by
    have hz := h z (.head _)
    have h1 : z ≠ 127 := by omega
    have h2 : z ≠ 0 := by omega
    rw [List.cons_append, List.cons_append, Plan, if_neg h1, if_neg h2]
    exact ⟨_, rfl, .inr (plan_loop r b k ns _ (fun y hy => h y (.tail _ hy)) hb)⟩
/-- a def's contract, called from the outermost def alone: generators may be left behind -/
abbrev CtG (d : Nat) (w : World) (f : Addr) (vs : List Value) (R : Tok → Value) : Prop :=
  ∀ (mean : ExcName → Option Value) (mg mb : Str → Option Value) (dp un : Nat) (gd : Option (List Code)) (cn : Str) (cs : Scope) (a : Addr) (ccd : Value) (cl : List (Str × Addr)) (A₀ : Around) (base h₀ : Heap) (L : Addr) (m : Str → Option Value) (news : List (Addr × Obj)) (s : Shared) (Q E : Value → Shared → Prop),
    Below A₀ base [] h₀ → Fr h₀ L s.heap m → (Mine.hv.heap_1 w.params).In h₀ → News h₀ L s.heap news → Top pv (looseW pv []) mean mg mb h₀ → (Mine.hv.heap_1 w.params).In base → Top pv (looseW pv []) mean mg mb base → cs.kind = .function →
    dp + d < recursionLimit → un + 8 * d < cLine →
    (∀ (t : Tok) (h' : Heap) (tk' : Nat) (gens' : Array GenState), Fr h₀ L h' m → News h₀ L h' news → (AllBare s.gens → AllBare gens') → Q (R t) { s with heap := h', gens := gens', toks := tk' }) →
      wpAny (model pg w) (ktrTop dp un gd cn cs L a ccd cl []) (call (.ref f) vs) Q E s
inductive PJ (nx₀ : List (Addr × Obj)) (x : Str) (tx te : Tok) (e : Int) (i : Nat) (m2 : Str → Option Value) (nx : List (Addr × Obj)) : Prop
  | mk (e0 : nx = nx₀) (m1 : m2 "word" = some (.str x tx)) (m2' : m2 "ending" = some (.int e te)) (m3 : HasI m2 "rank" (sizesOf x).sum) (m4 : HasI m2 "counted" (((sizesOf x).take i).foldl pstep (0, 1)).1) (m5 : HasI m2 "product" (((sizesOf x).take i).foldl pstep (0, 1)).2) (m6 : HasS m2 "refused" (Str.ofString "")) : PJ nx₀ x tx te e i m2 nx
theorem PJ.of {nx₀ nx : List (Addr × Obj)} {x : Str} {tx te : Tok} {e : Int} {i : Nat} {m2 : Str → Option Value} {c1 p1 : Int} (h : ((sizesOf x).take i).foldl pstep (0, 1) = (c1, p1)) (e0 : nx = nx₀) (m1 : m2 "word" = some (.str x tx)) (m2' : m2 "ending" = some (.int e te)) (m3 : HasI m2 "rank" (sizesOf x).sum) (m4 : HasI m2 "counted" c1) (m5 : HasI m2 "product" p1) (m6 : HasS m2 "refused" (Str.ofString "")) : PJ nx₀ x tx te e i m2 nx :=
  ⟨e0, m1, m2', m3, by rw [h]; exact m4, by rw [h]; exact m5, m6⟩
theorem c_prod0 (w : World) (x : Str) (tx te : Tok) (hx : x.length ≤ 8) : CtG 8 w 114 [.str x tx, .int 0 te] (fun t => .int (prodOf (sizesOf x)) t) := by
  intro mean mg mb dp un gd cn cs a ccd cl A₀ base h₀ L m news s Q E B F KX N T KXb Tb hk hdp hun hret
  refine wpAny_call ?_
  k_dflt (refine' Mine.code_defX1 ?k1 ?k2 ?k3 ?k4 ?k5 ?kA ?kF ?kK ?k6 ?k7 ?k8 ?k9 ?kB ?_ ?c2 ?c3 ?c4 ?c5; (case kA => exact rfl); (case kF => exact rfl); (case kK => exact hk); (case k2 => k_asm); (case k1 => k_asm); (case k3 => k_asm); (case k4 => k_asm); (case k5 => k_asm); (case k6 => k_is); (case k7 => k_is); (case k8 => ktr_room); (case k9 => exact BindsTo.of_eq rfl); (case kB => exact locs rfl); (case c2 => exact rfl); (case c3 => exact rfl); (case c4 => exact rfl); (case c5 => decide); k_whole; intro g' L' h' FG' HN' F' N' B' X' T' D'; (try dsimp only); (try k_lift B'); (try k_fold))
  have stopComp : StopComp := ⟨⟩
  repeat' (first | (k_unfold; (try dsimp only)) | walk1 | (dsimp only; walk1) | fail "no step")
  refine Hold.mk ?_
  dsimp only
  rw [rev_tok]
  with_reducible rename Fr g' L' _ _ => F2
  with_reducible rename News g' L' _ _ => N2
  refine srcA_signsD (pz := fun _ => true) (d := fun a => PyData.int (sizeOf a)) rfl F2 N2 ?_ ?_ ?_ (by rw [step_rev_len, sizeLine_eq]; omega)
  · intro C a' v s2 m2 E' _ _ _ _
    exact wpAny_pure ⟨rfl, s2.heap, s2.toks, rfl, fun _ _ h => h⟩
  · intro C a' v s2 m2 E' hi _ hns hm _
    obtain ⟨u, rfl⟩ := hi
    repeat' (first | (k_unfold; (try dsimp only)) | walk1 | (dsimp only; walk1))
    · rename_i ha
      have : sizeOf a' = 2 := if_pos (by simpa using ha)
      rw [this]; exact Carried.int _ _
    · exact ⟨s2.heap, _, rfl, fun _ _ h => h⟩
    · rename_i ha
      have : sizeOf a' = 1 := if_neg (by simpa using ha)
      rw [this]; exact Carried.int _ _
    · exact ⟨s2.heap, _, rfl, fun _ _ h => h⟩
  · intro D ys h2 tk2 F3 N3 hD hlD hpl hca
    rw [List.filter_eq_self.mpr (fun _ _ => rfl)] at hca
    have hys : IntsAre ys (sizesOf x) := CarriedAll.intsOf hca
    clear F2 N2
    obtain ⟨nD, N4, hne⟩ := gn_enter hpl F3 N3 hD
    obtain ⟨l, rfl, hl⟩ := ints_values hys
    have hys' := values_ints l
    rw [← hl] at hys
    have stopLoops : StopLoops := ⟨⟩
    have stopAdd : StopAdd := ⟨⟩
    have stopCalls : StopCalls := ⟨⟩
    repeat' (first | (k_unfold; (try dsimp only)) | walk1 | (dsimp only; walk1) | fail "no step")
    refine Hold.mk ?_
    with_reducible rename Fr g' L' _ _ => F9
    with_reducible rename News g' L' _ _ => N9
    refine kmk_add_ints F9 N9 ⟨_, (N9 _ (.tail _ (.tail _ (.tail _ (.tail _ (.tail _ (.head _))))))).1, rfl, _, rfl⟩ ⟨_, (N9 _ (.tail _ (.tail _ (.tail _ (.head _))))).1, rfl, _, rfl⟩ hys' .nil (fun C us h8 F8 N8 _ hus => ?_) ?_
    rotate_left
    · rw [hl, sizesOf_len, sizeLine_eq]; simp only [List.length_nil]; omega
    rw [hl] at hus
    clear F9 N9
    repeat' (first | (k_unfold; (try dsimp only)) | walk1 | (dsimp only; walk1) | fail "no step")
    refine Hold.mk ?_
    have N7 : News g' L' h8 [(C, listOf us.toArray 0)] := fun p hp => by
      rcases List.mem_cons.mp hp with rfl | hp
      · exact N8 _ (.head _)
      · exact nomatch hp
    clear N8
    refine call_gen F8 X' N7 T' (.head _) (ints_vals hus) (plan_end [] (.inl rfl) _ none (sizesOf_ok x)) (by ktr_room) ?_
    intro GL I oG h9 tk9 nm qn gens9 F9 N9 hlt9 hGI hLG hG0 hgen hbare
    have stopLeave : StopLeave := ⟨⟩
    refine Hold.mk ?_
    refine for_genO (nm := nm) (qn := qn) (g := s.gens.size) (own := [(GL, oG)]) (news := [(I, genObj s.gens.size nm qn), (C, listOf us.toArray 0)]) (J := PJ [(I, genObj s.gens.size nm qn), (C, listOf us.toArray 0)] x tx te 0)
      ?_ rfl (by ktr_room) T'.nolimit (Nat.ne_of_lt hLG) (Nat.ne_of_lt (hlt9 _ (.head _))) liter_list (hgen _ rfl) (fun h => nomatch h) F9 (fun p hp => ?_) ?_ rfl rfl ?_ ?_
    · rintro i m2 nx ⟨rfl, _⟩
      refine ⟨.head _, .tail _ (.head _), ?_⟩
      simp only [List.forall_mem_cons]
      exact ⟨⟨Nat.ne_of_gt hGI, fun q => absurd (Value.type.inj q.1) (by decide)⟩, ⟨Nat.ne_of_lt (hlt9 _ (.head _)), liter_list⟩, fun _ h => nomatch h⟩
    · rcases List.mem_cons.mp hp with rfl | hp
      · exact N9 _ (.tail _ (.head _))
      rcases List.mem_cons.mp hp with rfl | hp
      · exact N9 _ (.head _)
      · exact N9 _ (.tail _ (.tail _ hp))
    · refine ⟨rfl, ?_, ?_, ?_, ?_, ?_, ?_⟩
      · with_unfolding_all rfl
      · with_unfolding_all rfl
      · exact ⟨_, by with_unfolding_all rfl⟩
      · exact ⟨_, by with_unfolding_all rfl⟩
      · exact ⟨_, by with_unfolding_all rfl⟩
      · exact ⟨_, by with_unfolding_all rfl⟩
    · intro J' Q' eJ hQ' i z t m1 nx1 h3 tk3 gens3 oG3 it oI3 hz hj F3 N3 hb3
      obtain ⟨rfl, hm1, hm2, ⟨t3, hm3⟩, ⟨t4, hm4⟩, ⟨t5, hm5⟩, ⟨t6, hm6⟩⟩ := hj
      have hlt : i < (sizesOf x).length := (List.getElem?_eq_some_iff.mp hz).1
      have hz2 : z = 1 ∨ z = 2 := sizesOf_ok x z (List.mem_of_getElem? hz)
      have htk : (sizesOf x).take (i + 1) = (sizesOf x).take i ++ [z] := by rw [List.take_add_one, hz]; rfl
      have hfold : ((sizesOf x).take (i + 1)).foldl pstep (0, 1) = pstep (((sizesOf x).take i).foldl pstep (0, 1)) z := by rw [htk, List.foldl_append]; rfl
      generalize hcp : ((sizesOf x).take i).foldl pstep (0, 1) = cp at hm4 hm5 hfold
      obtain ⟨c0, p0⟩ := cp
      dsimp only at hm4 hm5
      generalize hM : (fun y => if y = Str.ofString "size" then some (Value.int z t) else m1 y) = M at F3
      have e0 : M "size" = some (.int z t) := by rw [← hM]; exact if_pos rfl
      have e1 : M "word" = some (.str x tx) := by rw [← hM]; exact (if_neg (by decide)).trans hm1
      have e2 : M "ending" = some (.int 0 te) := by rw [← hM]; exact (if_neg (by decide)).trans hm2
      have e3 : M "rank" = some (.int (sizesOf x).sum t3) := by rw [← hM]; exact (if_neg (by decide)).trans hm3
      have e4 : M "counted" = some (.int c0 t4) := by rw [← hM]; exact (if_neg (by decide)).trans hm4
      have e5 : M "product" = some (.int p0 t5) := by rw [← hM]; exact (if_neg (by decide)).trans hm5
      have e6 : M "refused" = some (.str (Str.ofString "") t6) := by rw [← hM]; exact (if_neg (by decide)).trans hm6
      have F4 := fr_canon _ F3 (psc e0 (psc e1 (psc e2 (psc e3 (psc e4 (psc e5 (psc e6 psn)))))))
      have hc0 : 0 ≤ c0 ∧ c0 ≤ 16 := by
        have h1 := pstep_sum ((sizesOf x).take i) (0, 1)
        rw [hcp] at h1
        have h2 := sum_small ((sizesOf x).take i) (fun y hy => sizesOf_ok x y (List.mem_of_mem_take hy))
        have h3 : ((sizesOf x).take i).length ≤ 8 := by rw [List.length_take, sizesOf_len]; omega
        simp only at h1
        omega
      clear F3
      repeat' (first | (k_unfold; (try dsimp only)) | walk1 | (dsimp only; walk1) | fail "no step")
      · rename z = 2 => hz2'
        subst eJ
        exact Hold.mk ⟨_, _, _, _, rfl, by k_asm, by k_asm, PJ.of (c1 := c0 + z) (p1 := p0 * (c0 + 1)) (by rw [hfold]; simp [pstep, hz2']) rfl rfl rfl ⟨_, rfl⟩ ⟨_, rfl⟩ ⟨_, rfl⟩ ⟨_, rfl⟩, fun h => nomatch h⟩
      · rename z ≠ 2 => hz2'
        subst eJ
        exact Hold.mk ⟨_, _, _, _, rfl, by k_asm, by k_asm, PJ.of (c1 := c0 + z) (p1 := p0 * 1) (by rw [hfold]; simp [pstep, hz2']) rfl rfl rfl ⟨_, rfl⟩ ⟨_, rfl⟩ ⟨_, rfl⟩ ⟨_, rfl⟩, fun h => nomatch h⟩
    · intro _ h tk gens m' news' F5 N5 hj hb5
      obtain ⟨rfl, hm1, hm2, ⟨t3, hm3⟩, ⟨t4, hm4⟩, ⟨t5, hm5⟩, ⟨t6, hm6⟩⟩ := hj
      rw [List.take_length] at hm4 hm5
      have hsum : ((sizesOf x).foldl pstep (0, 1)).1 = (sizesOf x).sum := by rw [pstep_sum]; simp
      rw [hsum] at hm4
      have F6 := fr_canon [(Str.ofString "word", .str x tx), (Str.ofString "ending", .int 0 te), (Str.ofString "rank", .int (sizesOf x).sum t3), (Str.ofString "counted", .int (sizesOf x).sum t4), (Str.ofString "product", .int ((sizesOf x).foldl pstep (0, 1)).2 t5), (Str.ofString "refused", .str (Str.ofString "") t6)] F5
        (psc hm1 (psc hm2 (psc hm3 (psc hm4 (psc hm5 (psc hm6 psn))))))
      clear F5
      repeat' (first | (k_unfold; (try dsimp only)) | walk1 | (dsimp only; walk1) | fail "no step")
      · refine Hold.mk (leaveS0_ (news' := []) F6 News.nil KtsTurn.refl fun kF _ => ?_)
        exact hret _ _ _ _ kF (fun p hp => ⟨F6.keep _ _ (HN' p hp), (N p hp).2⟩) (fun hb => hb5 (hbare hb))
      · rename (sizesOf x).sum ≠ _ => hbad
        exact absurd rfl hbad
end Mine
end
section
-- H1b
open PySem PySem.W PyProof.Rows PySem.Calls
set_option Elab.async false
set_option maxRecDepth 100000
set_option maxHeartbeats 4000000
set_option pp.deepTerms false
set_option pp.maxSteps 1500
namespace Mine
theorem startH1b : True := by
  w_top off
  exact trivial
local macro_rules | `(tactic| walk_at "no key 0") => `(tactic| skip)
theorem fillH1b : PySem.Challenge.rw_wr0013_01 = PySem.Challenge.rw_wr0013_01 ∧ Mine.hv.heap_1 = Mine.hv.heap_1 := by
  k_fill
  exact ⟨rfl, rfl⟩
local macro_rules | `(tactic| walk_at "inplaceOp Mult int int") => `(tactic| (refine imul_int ?_ (PySem.IntMulOk.of_right (PySem.intBits_le_64 (by omega) (by omega)))))
local macro_rules | `(tactic| walk_at "LeaveS0") => `(tactic| (have hq : Mine.StopLeave := (by with_reducible assumption); clear hq; refine Mine.Hold.of ?_))
local macro_rules | `(tactic| walk_at "binaryOp Add ref ref") => `(tactic| (have hq : Mine.StopAdd := (by with_reducible assumption); clear hq; refine Mine.Hold.of ?_))
local macro_rules | `(tactic| walk_at "pyIter str") => `(tactic| (have hq : Mine.StopComp := (by with_reducible assumption); clear hq; refine Mine.Hold.of ?_))
local macro_rules | `(tactic| walk_at "call builtin:sum") => `(tactic| (have hq : Mine.StopSum := (by with_reducible assumption); clear hq; refine Mine.Hold.of ?_))
local macro_rules | `(tactic| walk_at "exec For Name Call cons nil") => `(tactic| (have hq : Mine.StopLoops := (by with_reducible assumption); clear hq; with_unfolding_all refine Mine.for_start ?_))
local macro_rules | `(tactic| walk_at "call ref") => `(tactic| (have hq : Mine.StopCalls := (by with_reducible assumption); clear hq; refine Mine.Hold.of ?_))
local macro_rules | `(tactic| walk_at "exec While BoolOp cons nil") => `(tactic| (have hq : Mine.StopGen := (by with_reducible assumption); clear hq; with_unfolding_all refine Mine.Hold.of ?_))
theorem c_prod1 (w : World) (x : Str) (tx te : Tok) (hx : x.length ≤ 8) : CtG 8 w 114 [.str x tx, .int 1 te] (fun t => .int (prodOf (sizesOf x)) t) := by
  intro mean mg mb dp un gd cn cs a ccd cl A₀ base h₀ L m news s Q E B F KX N T KXb Tb hk hdp hun hret
  refine wpAny_call ?_
  k_dflt (refine' Mine.code_defX1 ?k1 ?k2 ?k3 ?k4 ?k5 ?kA ?kF ?kK ?k6 ?k7 ?k8 ?k9 ?kB ?_ ?c2 ?c3 ?c4 ?c5; (case kA => exact rfl); (case kF => exact rfl); (case kK => exact hk); (case k2 => k_asm); (case k1 => k_asm); (case k3 => k_asm); (case k4 => k_asm); (case k5 => k_asm); (case k6 => k_is); (case k7 => k_is); (case k8 => ktr_room); (case k9 => exact BindsTo.of_eq rfl); (case kB => exact locs rfl); (case c2 => exact rfl); (case c3 => exact rfl); (case c4 => exact rfl); (case c5 => decide); k_whole; intro g' L' h' FG' HN' F' N' B' X' T' D'; (try dsimp only); (try k_lift B'); (try k_fold))
  have stopComp : StopComp := ⟨⟩
  repeat' (first | (k_unfold; (try dsimp only)) | walk1 | (dsimp only; walk1) | fail "no step")
  refine Hold.mk ?_
  dsimp only
  rw [rev_tok]
  with_reducible rename Fr g' L' _ _ => F2
  with_reducible rename News g' L' _ _ => N2
  refine srcA_signsD (pz := fun _ => true) (d := fun a => PyData.int (sizeOf a)) rfl F2 N2 ?_ ?_ ?_ (by rw [step_rev_len, sizeLine_eq]; omega)
  · intro C a' v s2 m2 E' _ _ _ _
    exact wpAny_pure ⟨rfl, s2.heap, s2.toks, rfl, fun _ _ h => h⟩
  · intro C a' v s2 m2 E' hi _ hns hm _
    obtain ⟨u, rfl⟩ := hi
    repeat' (first | (k_unfold; (try dsimp only)) | walk1 | (dsimp only; walk1))
    · rename_i ha
      have : sizeOf a' = 2 := if_pos (by simpa using ha)
      rw [this]; exact Carried.int _ _
    · exact ⟨s2.heap, _, rfl, fun _ _ h => h⟩
    · rename_i ha
      have : sizeOf a' = 1 := if_neg (by simpa using ha)
      rw [this]; exact Carried.int _ _
    · exact ⟨s2.heap, _, rfl, fun _ _ h => h⟩
  · intro D ys h2 tk2 F3 N3 hD hlD hpl hca
    rw [List.filter_eq_self.mpr (fun _ _ => rfl)] at hca
    have hys : IntsAre ys (sizesOf x) := CarriedAll.intsOf hca
    clear F2 N2
    obtain ⟨nD, N4, hne⟩ := gn_enter hpl F3 N3 hD
    obtain ⟨l, rfl, hl⟩ := ints_values hys
    have hys' := values_ints l
    rw [← hl] at hys
    have stopLoops : StopLoops := ⟨⟩
    have stopAdd : StopAdd := ⟨⟩
    have stopCalls : StopCalls := ⟨⟩
    repeat' (first | (k_unfold; (try dsimp only)) | walk1 | (dsimp only; walk1) | fail "no step")
    refine Hold.mk ?_
    with_reducible rename Fr g' L' _ _ => F9
    with_reducible rename News g' L' _ _ => N9
    refine kmk_add_ints F9 N9 ⟨_, (N9 _ (.tail _ (.tail _ (.tail _ (.tail _ (.tail _ (.head _))))))).1, rfl, _, rfl⟩ ⟨_, (N9 _ (.tail _ (.tail _ (.head _)))).1, rfl, _, rfl⟩ hys' (.cons 127 _ (.cons 2 _ .nil)) (fun C us h8 F8 N8 _ hus => ?_) ?_
    rotate_left
    · rw [hl, sizesOf_len, sizeLine_eq]; simp only [List.length_nil, List.length_cons]; omega
    rw [hl] at hus
    clear F9 N9
    repeat' (first | (k_unfold; (try dsimp only)) | walk1 | (dsimp only; walk1) | fail "no step")
    refine Hold.mk ?_
    have N7 : News g' L' h8 [(C, listOf us.toArray 0)] := fun p hp => by
      rcases List.mem_cons.mp hp with rfl | hp
      · exact N8 _ (.head _)
      · exact nomatch hp
    clear N8
    refine call_gen F8 X' N7 T' (.head _) (ints_vals hus) (plan_end [127, 2] (.inr ⟨_, rfl⟩) _ none (sizesOf_ok x)) (by ktr_room) ?_
    intro GL I oG h9 tk9 nm qn gens9 F9 N9 hlt9 hGI hLG hG0 hgen hbare
    have stopLeave : StopLeave := ⟨⟩
    refine Hold.mk ?_
    refine for_gen (nm := nm) (qn := qn) (g := s.gens.size) (own := [(GL, oG)]) (news := [(I, genObj s.gens.size nm qn), (C, listOf us.toArray 0)]) (J := fun i m2 nx => nx = [(I, genObj s.gens.size nm qn), (C, listOf us.toArray 0)] ∧ m2 "word" = some (.str x tx) ∧ m2 "ending" = some (.int 1 te) ∧ HasI m2 "rank" (sizesOf x).sum ∧ HasI m2 "counted" (((sizesOf x).take i).foldl pstep (0, 1)).1 ∧ HasI m2 "product" (((sizesOf x).take i).foldl pstep (0, 1)).2 ∧ HasS m2 "refused" (Str.ofString ""))
      ?_ rfl (by ktr_room) T'.nolimit (Nat.ne_of_lt hLG) (Nat.ne_of_lt (hlt9 _ (.head _))) liter_list (hgen _ rfl) (fun h => nomatch h) F9 (fun p hp => ?_) ?_ rfl rfl ?_ ?_
    · rintro i m2 nx ⟨rfl, _⟩
      refine ⟨.head _, .tail _ (.head _), ?_⟩
      simp only [List.forall_mem_cons]
      exact ⟨⟨Nat.ne_of_gt hGI, fun q => absurd (Value.type.inj q.1) (by decide)⟩, ⟨Nat.ne_of_lt (hlt9 _ (.head _)), liter_list⟩, fun _ h => nomatch h⟩
    · rcases List.mem_cons.mp hp with rfl | hp
      · exact N9 _ (.tail _ (.head _))
      rcases List.mem_cons.mp hp with rfl | hp
      · exact N9 _ (.head _)
      · exact N9 _ (.tail _ (.tail _ hp))
    · refine ⟨rfl, ?_, ?_, ?_, ?_, ?_, ?_⟩
      · with_unfolding_all rfl
      · with_unfolding_all rfl
      · exact ⟨_, by with_unfolding_all rfl⟩
      · exact ⟨_, by with_unfolding_all rfl⟩
      · exact ⟨_, by with_unfolding_all rfl⟩
      · exact ⟨_, by with_unfolding_all rfl⟩
    · intro i z t m1 nx1 h3 tk3 gens3 oG3 it oI3 hz hj F3 N3 hb3
      obtain ⟨rfl, hm1, hm2, ⟨t3, hm3⟩, ⟨t4, hm4⟩, ⟨t5, hm5⟩, ⟨t6, hm6⟩⟩ := hj
      have hlt : i < (sizesOf x).length := (List.getElem?_eq_some_iff.mp hz).1
      have hz2 : z = 1 ∨ z = 2 := sizesOf_ok x z (List.mem_of_getElem? hz)
      have htk : (sizesOf x).take (i + 1) = (sizesOf x).take i ++ [z] := by rw [List.take_add_one, hz]; rfl
      have hfold : ((sizesOf x).take (i + 1)).foldl pstep (0, 1) = pstep (((sizesOf x).take i).foldl pstep (0, 1)) z := by rw [htk, List.foldl_append]; rfl
      rw [hfold]
      generalize hcp : ((sizesOf x).take i).foldl pstep (0, 1) = cp at hm4 hm5 ⊢
      obtain ⟨c0, p0⟩ := cp
      dsimp only at hm4 hm5
      generalize hM : (fun y => if y = Str.ofString "size" then some (Value.int z t) else m1 y) = M at F3
      have e0 : M "size" = some (.int z t) := by rw [← hM]; exact if_pos rfl
      have e1 : M "word" = some (.str x tx) := by rw [← hM]; exact (if_neg (by decide)).trans hm1
      have e2 : M "ending" = some (.int 1 te) := by rw [← hM]; exact (if_neg (by decide)).trans hm2
      have e3 : M "rank" = some (.int (sizesOf x).sum t3) := by rw [← hM]; exact (if_neg (by decide)).trans hm3
      have e4 : M "counted" = some (.int c0 t4) := by rw [← hM]; exact (if_neg (by decide)).trans hm4
      have e5 : M "product" = some (.int p0 t5) := by rw [← hM]; exact (if_neg (by decide)).trans hm5
      have e6 : M "refused" = some (.str (Str.ofString "") t6) := by rw [← hM]; exact (if_neg (by decide)).trans hm6
      have F4 := fr_canon _ F3 (psc e0 (psc e1 (psc e2 (psc e3 (psc e4 (psc e5 (psc e6 psn)))))))
      have hc0 : 0 ≤ c0 ∧ c0 ≤ 16 := by
        have h1 := pstep_sum ((sizesOf x).take i) (0, 1)
        rw [hcp] at h1
        have h2 := sum_small ((sizesOf x).take i) (fun y hy => sizesOf_ok x y (List.mem_of_mem_take hy))
        have h3 : ((sizesOf x).take i).length ≤ 8 := by rw [List.length_take, sizesOf_len]; omega
        simp only at h1
        omega
      clear F3
      repeat' (first | (k_unfold; (try dsimp only)) | walk1 | (dsimp only; walk1) | fail "no step")
      · rename z = 2 => hz2'
        rw [show pstep (c0, p0) z = (c0 + z, p0 * (c0 + 1)) by simp [pstep, hz2']]
        exact Hold.mk ⟨_, _, _, _, rfl, by k_asm, by k_asm, ⟨rfl, rfl, rfl, ⟨_, rfl⟩, ⟨_, rfl⟩, ⟨_, rfl⟩, ⟨_, rfl⟩⟩, fun h => nomatch h⟩
      · rename z ≠ 2 => hz2'
        rw [show pstep (c0, p0) z = (c0 + z, p0 * 1) by simp [pstep, hz2']]
        exact Hold.mk ⟨_, _, _, _, rfl, by k_asm, by k_asm, ⟨rfl, rfl, rfl, ⟨_, rfl⟩, ⟨_, rfl⟩, ⟨_, rfl⟩, ⟨_, rfl⟩⟩, fun h => nomatch h⟩
    · intro _ h tk gens m' news' F5 N5 hj hb5
      obtain ⟨rfl, hm1, hm2, ⟨t3, hm3⟩, ⟨t4, hm4⟩, ⟨t5, hm5⟩, ⟨t6, hm6⟩⟩ := hj
      rw [List.take_length] at hm4 hm5
      have hsum : ((sizesOf x).foldl pstep (0, 1)).1 = (sizesOf x).sum := by rw [pstep_sum]; simp
      rw [hsum] at hm4
      have F6 := fr_canon [(Str.ofString "word", .str x tx), (Str.ofString "ending", .int 1 te), (Str.ofString "rank", .int (sizesOf x).sum t3), (Str.ofString "counted", .int (sizesOf x).sum t4), (Str.ofString "product", .int ((sizesOf x).foldl pstep (0, 1)).2 t5), (Str.ofString "refused", .str (Str.ofString "") t6)] F5
        (psc hm1 (psc hm2 (psc hm3 (psc hm4 (psc hm5 (psc hm6 psn))))))
      clear F5
      repeat' (first | (k_unfold; (try dsimp only)) | walk1 | (dsimp only; walk1) | fail "no step")
      · refine Hold.mk (leaveS0_ (news' := []) F6 News.nil KtsTurn.refl fun kF _ => ?_)
        exact hret _ _ _ _ kF (fun p hp => ⟨F6.keep _ _ (HN' p hp), (N p hp).2⟩) (fun hb => hb5 (hbare hb))
      · rename (sizesOf x).sum ≠ _ => hbad
        exact absurd rfl hbad
end Mine
end
section
-- H2
open PySem PySem.W PyProof.Rows PySem.Calls
set_option Elab.async false
set_option maxRecDepth 100000
set_option maxHeartbeats 4000000
set_option pp.deepTerms false
set_option pp.maxSteps 1500
namespace Mine
theorem startH2 : True := by
  w_top off
  exact trivial
theorem fillH2 : PySem.Challenge.rw_wr0013_01 = PySem.Challenge.rw_wr0013_01 ∧ Mine.hv.heap_1 = Mine.hv.heap_1 := by
  k_fill
  exact ⟨rfl, rfl⟩
local macro_rules | `(tactic| walk_at "inplaceOp Mult int int") => `(tactic| (refine imul_int ?_ (PySem.IntMulOk.of_right (PySem.intBits_le_64 (by omega) (by omega)))))
local macro_rules | `(tactic| walk_at "LeaveS0") => `(tactic| (have hq : Mine.StopLeave := (by with_reducible assumption); clear hq; refine Mine.Hold.of ?_))
local macro_rules | `(tactic| walk_at "binaryOp Add ref ref") => `(tactic| (have hq : Mine.StopAdd := (by with_reducible assumption); clear hq; refine Mine.Hold.of ?_))
local macro_rules | `(tactic| walk_at "pyIter str") => `(tactic| (have hq : Mine.StopComp := (by with_reducible assumption); clear hq; refine Mine.Hold.of ?_))
local macro_rules | `(tactic| walk_at "call builtin:sum") => `(tactic| (have hq : Mine.StopSum := (by with_reducible assumption); clear hq; refine Mine.Hold.of ?_))
local macro_rules | `(tactic| walk_at "exec For Name Call cons nil") => `(tactic| (have hq : Mine.StopLoops := (by with_reducible assumption); clear hq; with_unfolding_all refine Mine.for_start ?_))
local macro_rules | `(tactic| walk_at "call ref") => `(tactic| (have hq : Mine.StopCalls := (by with_reducible assumption); clear hq; refine Mine.Hold.of ?_))
local macro_rules | `(tactic| walk_at "exec While BoolOp cons nil") => `(tactic| (have hq : Mine.StopGen := (by with_reducible assumption); clear hq; with_unfolding_all refine Mine.Hold.of ?_))
local macro_rules | `(tactic| walk_at "subscriptTail Name UnaryOp ref int") => `(tactic| (have hq : Mine.StopText := (by with_reducible assumption); clear hq; refine Mine.Hold.of ?_))
local macro_rules | `(tactic| walk_at "call builtin:len") => `(tactic| (have hq : Mine.StopText := (by with_reducible assumption); clear hq; refine Mine.Hold.of ?_))
local macro_rules | `(tactic| walk_at "call type:str") => `(tactic| (k_here; (with_reducible show wpAny _ _ (call (Value.type "str") [Value.ref _]) _ _ _); k_dflt (refine' str_got_one PySem.F.excStr_ValueError ?N ?G ?U ?_; (case G => assumption); (case N => assumption); (case U => ktr_units); k_whole)))
local macro_rules | `(tactic| walk_at "call builtin:list.pop") => `(tactic| (have hq : Mine.StopText := (by with_reducible assumption); clear hq; refine Mine.Hold.of ?_))
section
variable {prog : Program} {w : World} {A : Around} {E : Value → Shared → Prop} {s : Shared} {h₀ : Heap} {L : Addr} {m : Str → Option Value} {rest : List (Addr × Obj)}
theorem item_neg {value slice : PySem.Expr} {D : Addr} {n : Nat} {l : List Value} {v : Value} {u : Tok} {k : Int} {Q : Value → Shared → Prop} (N : News h₀ L s.heap ((D, listOf l.toArray n) :: rest)) (hk : k < 0) (hb : 0 ≤ k + (l.length : Int)) (hkb : -(2 ^ 63) ≤ k) (hv : l[(k + (l.length : Int)).toNat]? = some v) (h : Q v s)
    (hs : subscripted slice false (.ref D) (.int k u) = operate [.ref D, .int k u] (getItem (.ref D) (.int k u)) := by with_unfolding_all rfl) (hg : ∀ r, letTemporaryGo value (.ref D) r = pure () := by intro _; with_unfolding_all rfl) :
    wpAny (model prog w) A (subscriptTail value slice (.ref D) (.int k u)) Q E s := by
  refine kim_back N (.head _) rfl rfl hk (by omega) hkb ?_ h hs hg
  simpa using hv
theorem len_head {D : Addr} {n : Nat} {l : List Value} {Q : Value → Shared → Prop} (N : News h₀ L s.heap ((D, listOf l.toArray n) :: rest)) (hz : l.length ≤ 1000) (h : Q (.int l.length (s.toks + 1)) { s with toks := s.toks + 1 + 1 }) : wpAny (model prog w) A (call (.builtin "len") [.ref D]) Q E s :=
  call_len_list ⟨_, (N _ (.head _)).1, rfl, _, rfl⟩ (by simp only [List.size_toArray]; omega) (by simpa using h)
end
/-- what is left of the sizes while equal last ones go -/
def SRel (ns : List Int) (l : List (Int × Tok)) : Prop := (l = [] ∧ ns = []) ∨ ∃ l0 b t k, l = l0 ++ [(b, t)] ∧ ns = l0.map (·.1) ++ b :: List.replicate k b
theorem take_sum : ∀ (ns : List Int) (i : Nat), (∀ z ∈ ns, z = 1 ∨ z = 2) → (ns.take i).sum = ns.sum → ns.take i = ns
  | [], i, _, _ => List.take_nil
  | z :: r, 0, h, hs => by
    have h1 := h z (.head _)
    have h2 := sum_small r fun y hy => h y (.tail _ hy)
    rw [List.take_zero, List.sum_nil, List.sum_cons] at hs
    omega
  | z :: r, i + 1, h, hs => by
    rw [List.take_succ_cons, List.sum_cons, List.sum_cons] at hs
    rw [List.take_succ_cons, take_sum r i (fun y hy => h y (.tail _ hy)) (by omega)]
theorem lt_of_sum_ne {ns : List Int} {i : Nat} (h : (ns.take i).sum ≠ ns.sum) : i < ns.length := by
  rcases Nat.lt_or_ge i ns.length with h' | h'
  · exact h'
  · exact absurd (by rw [List.take_of_length_le h']) h
theorem srel_start (l : List (Int × Tok)) : SRel (l.map (·.1)) l := by
  rcases List.eq_nil_or_concat l with h | ⟨l0, ⟨b, t⟩, rfl⟩
  · subst h; exact .inl ⟨rfl, rfl⟩
  · exact .inr ⟨l0, b, t, 0, List.concat_eq_append .., by simp⟩
theorem c_prod2 (w : World) (x : Str) (tx te : Tok) (hx : x.length ≤ 8) : CtG 8 w 114 [.str x tx, .int 2 te] (fun t => .int (prodOf (sizesOf x)) t) := by
  intro mean mg mb dp un gd cn cs a ccd cl A₀ base h₀ L m news s Q E B F KX N T KXb Tb hk hdp hun hret
  refine wpAny_call ?_
  k_dflt (refine' Mine.code_defX1 ?k1 ?k2 ?k3 ?k4 ?k5 ?kA ?kF ?kK ?k6 ?k7 ?k8 ?k9 ?kB ?_ ?c2 ?c3 ?c4 ?c5; (case kA => exact rfl); (case kF => exact rfl); (case kK => exact hk); (case k2 => k_asm); (case k1 => k_asm); (case k3 => k_asm); (case k4 => k_asm); (case k5 => k_asm); (case k6 => k_is); (case k7 => k_is); (case k8 => ktr_room); (case k9 => exact BindsTo.of_eq rfl); (case kB => exact locs rfl); (case c2 => exact rfl); (case c3 => exact rfl); (case c4 => exact rfl); (case c5 => decide); k_whole; intro g' L' h' FG' HN' F' N' B' X' T' D'; (try dsimp only); (try k_lift B'); (try k_fold))
  have stopComp : StopComp := ⟨⟩
  repeat' (first | (k_unfold; (try dsimp only)) | walk1 | (dsimp only; walk1) | fail "no step")
  refine Hold.mk ?_
  dsimp only
  rw [rev_tok]
  with_reducible rename Fr g' L' _ _ => F2
  with_reducible rename News g' L' _ _ => N2
  refine srcA_signsD (pz := fun _ => true) (d := fun a => PyData.int (sizeOf a)) rfl F2 N2 ?_ ?_ ?_ (by rw [step_rev_len, sizeLine_eq]; omega)
  · intro C a' v s2 m2 E' _ _ _ _
    exact wpAny_pure ⟨rfl, s2.heap, s2.toks, rfl, fun _ _ h => h⟩
  · intro C a' v s2 m2 E' hi _ hns hm _
    obtain ⟨u, rfl⟩ := hi
    repeat' (first | (k_unfold; (try dsimp only)) | walk1 | (dsimp only; walk1))
    · rename_i ha
      have : sizeOf a' = 2 := if_pos (by simpa using ha)
      rw [this]; exact Carried.int _ _
    · exact ⟨s2.heap, _, rfl, fun _ _ h => h⟩
    · rename_i ha
      have : sizeOf a' = 1 := if_neg (by simpa using ha)
      rw [this]; exact Carried.int _ _
    · exact ⟨s2.heap, _, rfl, fun _ _ h => h⟩
  · intro D ys h2 tk2 F3 N3 hD hlD hpl hca
    rw [List.filter_eq_self.mpr (fun _ _ => rfl)] at hca
    have hys : IntsAre ys (sizesOf x) := CarriedAll.intsOf hca
    clear F2 N2
    obtain ⟨nD, N4, hne⟩ := gn_enter hpl F3 N3 hD
    obtain ⟨l, rfl, hl⟩ := ints_values hys
    have hys' := values_ints l
    rw [← hl] at hys
    have stopLoops : StopLoops := ⟨⟩
    have stopAdd : StopAdd := ⟨⟩
    have stopCalls : StopCalls := ⟨⟩
    have stopGen : StopGen := ⟨⟩
    repeat' (first | (k_unfold; (try dsimp only)) | walk1 | (dsimp only; walk1) | fail "no step")
    with_reducible rename Fr g' L' _ _ => F9
    with_reducible rename News g' L' _ _ => N9
    refine Hold.mk (wpAny_mono (Q := fun f s' => f = .next ∧ ∃ h' tk' m' l' nn, s' = { s with heap := h', toks := tk' } ∧ Fr g' L' h' m' ∧ News g' L' h' [(D, listOf (intValues l').toArray nn)] ∧ l'.length ≤ 8 ∧ SRel (sizesOf x) l' ∧ m' "word" = some (.str x tx) ∧ m' "ending" = some (.int 2 te) ∧ m' "sizes" = some (.ref D) ∧ HasI m' "rank" (sizesOf x).sum) (E := NoErr) ?_ ?_ (fun _ _ e => e.elim))
    refine (while_rule (I := fun n s' => ∃ h' tk' m' l' nn, s' = { s with heap := h', toks := tk' } ∧ Fr g' L' h' m' ∧ News g' L' h' [(D, listOf (intValues l').toArray nn)] ∧ n = l'.length ∧ l'.length ≤ 8 ∧ SRel (sizesOf x) l' ∧ m' "word" = some (.str x tx) ∧ m' "ending" = some (.int 2 te) ∧ m' "sizes" = some (.ref D) ∧ HasI m' "rank" (sizesOf x).sum) l.length ?_ ?_)
    · refine ⟨_, _, _, l, _, rfl, F9, N9, rfl, ?_, ?_, ?_, ?_, ?_, ?_⟩
      · have := congrArg List.length hl; rw [List.length_map, sizesOf_len] at this; omega
      · rw [← hl]; exact srel_start l
      · with_unfolding_all rfl
      · with_unfolding_all rfl
      · with_unfolding_all rfl
      · exact ⟨_, by with_unfolding_all rfl⟩
    · clear F9 N9
      rintro n s1 ⟨h3, tk3, m3, l3, nn3, rfl, F3, N3, rfl, hl8, hrel, e1, e2, e3, ⟨t3, e4⟩⟩
      have F4 := fr_canon _ F3 (psc e1 (psc e2 (psc e3 (psc e4 psn))))
      clear F3
      rename StopGen => hq9
      clear hq9
      rcases hrel with ⟨rfl, hns⟩ | ⟨l0, b, t, k, rfl, hns⟩
      · repeat' (first | (k_unfold; (try dsimp only)) | walk1 | (dsimp only; walk1) | fail "no step")
        exact Hold.mk ⟨trivial, _, _, _, [], _, rfl, F4, N3, hl8, .inl ⟨rfl, hns⟩, rfl, rfl, rfl, ⟨_, rfl⟩⟩
      rcases List.eq_nil_or_concat l0 with rfl | ⟨l1, ⟨a2, ta⟩, rfl⟩
      · repeat' (first | (k_unfold; (try dsimp only)) | walk1 | (dsimp only; walk1) | fail "no step")
        exact Hold.mk ⟨trivial, _, _, _, _, _, rfl, F4, N3, hl8, .inr ⟨[], b, t, k, rfl, hns⟩, rfl, rfl, rfl, ⟨_, rfl⟩⟩
      · rw [List.concat_eq_append] at *
        have hil : (intValues (l1 ++ [(a2, ta)] ++ [(b, t)])).length ≤ 8 := by simpa [intValues] using hl8
        have hil2 : (intValues (l1 ++ [(a2, ta)] ++ [(b, t)])).length = l1.length + 2 := by simp [intValues]
        have stopText : StopText := ⟨⟩
        repeat' (first | (k_unfold; (try dsimp only)) | walk1 | (dsimp only; walk1) | fail "no step")
        refine Hold.mk (len_head N3 (by omega) ?_)
        rw [hil2]
        repeat' (first | (k_unfold; (try dsimp only)) | walk1 | (dsimp only; walk1) | fail "no step")
        refine Hold.mk (item_neg (v := .int b t) N3 (by decide) (by omega) (by decide) ?_ ?_)
        · rw [show (-1 + ((intValues (l1 ++ [(a2, ta)] ++ [(b, t)])).length : Int)).toNat = l1.length + 1 by omega]
          simp [intValues]
        repeat' (first | (k_unfold; (try dsimp only)) | walk1 | (dsimp only; walk1) | fail "no step")
        refine Hold.mk (item_neg (v := .int a2 ta) N3 (by decide) (by omega) (by decide) ?_ ?_)
        · rw [show (-2 + ((intValues (l1 ++ [(a2, ta)] ++ [(b, t)])).length : Int)).toNat = l1.length by omega]
          simp [intValues]
        repeat' (first | (k_unfold; (try dsimp only)) | walk1 | (dsimp only; walk1) | fail "no step")
        · rename b = a2 => hba
          subst hba
          have N4 : News g' L' h3 [(D, listOf (intValues (l1 ++ [(b, ta)]) ++ [Value.int b t]).toArray nn3)] := by
            have e : intValues (l1 ++ [(b, ta)]) ++ [Value.int b t] = intValues (l1 ++ [(b, ta)] ++ [(b, t)]) := by simp [intValues]
            rw [e]; exact N3
          clear N3
          refine Hold.mk (pop_top F4 N4 (fun _ h => nomatch h) (by simp [intValues]; simp at hl8; omega) fun h5 n5 F5 N5 => ?_)
          repeat' (first | (k_unfold; (try dsimp only)) | walk1 | (dsimp only; walk1) | fail "no step")
          refine Hold.mk ⟨_, ?_, _, _, _, l1 ++ [(b, ta)], _, rfl, F5, N5, rfl, ?_, .inr ⟨l1, b, ta, k + 1, rfl, ?_⟩, rfl, rfl, rfl, ⟨_, rfl⟩⟩
          · simp
          · simp at hl8 ⊢; omega
          · rw [hns]; simp [List.replicate_succ]
        · exact Hold.mk ⟨trivial, _, _, _, _, _, rfl, F4, N3, hl8, .inr ⟨l1 ++ [(a2, ta)], b, t, k, rfl, hns⟩, rfl, rfl, rfl, ⟨_, rfl⟩⟩
    · rintro f s1 ⟨rfl, h3, tk3, m3, l3, nn3, rfl, F3, N3, hl8, hrel, e1, e2, e3, ⟨t3, e4⟩⟩
      have F4 := fr_canon _ F3 (psc e1 (psc e2 (psc e3 (psc e4 psn))))
      clear F3 F9 N9
      dsimp only
      clear hys'
      clear hys
      have hys := values_ints l3
      repeat' (first | (k_unfold; (try dsimp only)) | walk1 | (dsimp only; walk1) | fail "no step")
      refine Hold.mk ?_
      with_reducible rename Fr g' L' _ _ => F9
      with_reducible rename News g' L' _ _ => N9
      refine kmk_add_ints F9 N9 ⟨_, (N9 _ (.tail _ (.tail _ (.tail _ (.tail _ (.tail _ (.head _))))))).1, rfl, _, rfl⟩ ⟨_, (N9 _ (.tail _ (.head _))).1, rfl, _, rfl⟩ hys (.cons 0 _ (.cons 1 _ .nil)) (fun C us h8 F8 N8 _ hus => ?_) ?_
      rotate_left
      · rw [List.length_map, sizeLine_eq]; simp only [List.length_nil, List.length_cons]; omega
      clear F9 N9
      have stopLeave : StopLeave := ⟨⟩
      repeat' (first | (k_unfold; (try dsimp only)) | walk1 | (dsimp only; walk1) | fail "no step")
      refine Hold.mk ?_
      have N7 : News g' L' h8 [(C, listOf us.toArray 0)] := fun p hp => by
        rcases List.mem_cons.mp hp with rfl | hp
        · exact N8 _ (.head _)
        · exact nomatch hp
      clear N8
      rcases hrel with ⟨rfl, hns⟩ | ⟨l0, b, t, k, rfl, hns⟩
      · have hx0 : x.length = 0 := by rw [← sizesOf_len, hns]; rfl
        have hxe : x = Str.ofString "" := by
          obtain ⟨c⟩ := x
          have : c = #[] := Array.size_eq_zero_iff.mp hx0
          rw [this]; rfl
        subst hxe
        rw [hns] at F8
        have hp : prodOf (sizesOf (Str.ofString "")) = 1 := by rw [hns]; rfl
        simp only [hp] at hret
        refine call_gen_raise F8 X' N7 T' (.head _) (ints_vals hus) (by ktr_room) ?_
        intro GL I oG h9 tk9 nm qn code F9 N9 hlt9 hGI hLG hG0 hseg hbare
        refine Hold.mk ?_
        refine for_raise (base := base) (outer := [envX cn cs L a ccd cl]) (nm := nm) (qn := qn) (g := s.gens.size) (GL := GL) (code := code) (news := [(I, genObj s.gens.size nm qn), (C, listOf us.toArray 0)]) rfl (by ktr_room) T'.nolimit rfl rfl B'.stays B'.frames (Below.push B' F9).frames hG0 (Nat.ne_of_gt hLG) F9 ?_ (.head _) ?_ (Array.getElem?_push_size ..) (hseg _ _ base _ rfl rfl (Below.push B' F9).frames ?_ rfl) ?_
        · intro p hp
          rcases List.mem_cons.mp hp with rfl | hp
          · exact N9 _ (.head _)
          · exact N9 _ (.tail _ (.tail _ hp))
        · simp only [List.forall_mem_cons]
          exact ⟨Nat.ne_of_gt hGI, Nat.ne_of_lt (hlt9 _ (.head _)), fun _ h => nomatch h⟩
        · intro hm
          rcases kts_mem hm with q | hm
          · exact absurd q (Nat.ne_of_gt hLG)
          · obtain ⟨_, o, ho, _⟩ := B'.frames.mem hm
            rw [hG0] at ho; cases ho
        · intro e t h5 tk5 tk6 gens5 G5 FG5 hup hR hb5
          obtain ⟨⟨B0, hB0, hBG, hl0, hheld, hnew⟩, htup⟩ := hR
          refine wpAny_noteFrame_againW rfl hheld.2.2.2 ?_
          refine wpAny_landsW hheld fun h6 hfl hu => ?_
          have hR2 : RaisedS base G5 _ e _ t _ _ h6 := ⟨⟨B0, hB0, hBG, hl0, hfl, hnew⟩, htup.of_slots hu⟩
          refine' hit_SB hR2 FG5 B' (hup.trans hu) KXb Tb D' KtsTurn.refl ?T ?_
          case T => kts_test
          intro h7 g7 n7 tk7 T7 F7 N7' G7 N7'' K7 X7 P7 D7
          repeat' (first | (k_unfold; (try dsimp only)) | walk1 | (dsimp only; walk1) | fail "no step")
          with_reducible rename Fr g7 L' _ _ => F8'
          refine Hold.mk (leaveS0_ (news' := []) F8' News.nil T7 fun kF _ => ?_)
          refine hret _ _ _ _ kF (fun p hp => ⟨F8'.keep _ _ (T7.other _ _ (HN' p hp) fun hm => ?_), (N p hp).2⟩) (fun hb => hb5 (hbare hb))
          obtain ⟨en, he, hfe⟩ := List.mem_filterMap.mp hm
          rw [List.mem_singleton.mp he] at hfe
          exact (N p hp).2.1 (Option.some.inj hfe).symm
      have hne : x ≠ Str.ofString "" := by
        rintro rfl
        rw [show sizesOf (Str.ofString "") = [] by with_unfolding_all rfl] at hns
        simp at hns
      have hb12 : b = 1 ∨ b = 2 := sizesOf_ok x b (by rw [hns]; simp)
      have hus' : IntsAre us (l0.map (·.1) ++ b :: 0 :: [1]) := by
        have e : List.map (·.1) (l0 ++ [(b, t)]) ++ [0, 1] = l0.map (·.1) ++ b :: 0 :: [(1 : Int)] := by simp
        rw [← e]; exact hus
      have houts : l0.map (·.1) ++ b :: List.replicate (k + 1) b = sizesOf x ++ [b] := by rw [hns, List.replicate_succ']; simp
      have hpl := plan_loop [1] b k (l0.map (·.1)) none (fun z hz => sizesOf_ok x z (by rw [hns]; exact List.mem_append_left _ hz)) hb12
      rw [houts] at hpl
      refine call_gen F8 X' N7 T' (.head _) (ints_vals hus') hpl (by ktr_room) ?_
      intro GL I oG h9 tk9 nm qn gens9 F9 N9 hlt9 hGI hLG hG0 hgen hbare
      refine Hold.mk ?_
      refine for_gen (nm := nm) (qn := qn) (g := s.gens.size) (own := [(GL, oG)]) (news := [(I, genObj s.gens.size nm qn), (C, listOf us.toArray 0)]) (J := fun i m2 nx => nx = [(I, genObj s.gens.size nm qn), (C, listOf us.toArray 0)] ∧ m2 "word" = some (.str x tx) ∧ m2 "ending" = some (.int 2 te) ∧ HasI m2 "rank" (sizesOf x).sum ∧ HasI m2 "counted" (((sizesOf x).take i).foldl pstep (0, 1)).1 ∧ HasI m2 "product" (((sizesOf x).take i).foldl pstep (0, 1)).2 ∧ HasS m2 "refused" (Str.ofString ""))
        ?_ rfl (by ktr_room) T'.nolimit (Nat.ne_of_lt hLG) (Nat.ne_of_lt (hlt9 _ (.head _))) liter_list (hgen _ rfl) (fun _ => by simp) F9 (fun p hp => ?_) ?_ rfl rfl ?_ (fun h => nomatch h)
      · rintro i m2 nx ⟨rfl, _⟩
        refine ⟨.head _, .tail _ (.head _), ?_⟩
        simp only [List.forall_mem_cons]
        exact ⟨⟨Nat.ne_of_gt hGI, fun q => absurd (Value.type.inj q.1) (by decide)⟩, ⟨Nat.ne_of_lt (hlt9 _ (.head _)), liter_list⟩, fun _ h => nomatch h⟩
      · rcases List.mem_cons.mp hp with rfl | hp
        · exact N9 _ (.tail _ (.head _))
        rcases List.mem_cons.mp hp with rfl | hp
        · exact N9 _ (.head _)
        · exact N9 _ (.tail _ (.tail _ hp))
      · refine ⟨rfl, ?_, ?_, ?_, ?_, ?_, ?_⟩
        · with_unfolding_all rfl
        · with_unfolding_all rfl
        · exact ⟨_, by with_unfolding_all rfl⟩
        · exact ⟨_, by with_unfolding_all rfl⟩
        · exact ⟨_, by with_unfolding_all rfl⟩
        · exact ⟨_, by with_unfolding_all rfl⟩
      · intro i z t' m1 nx1 h4 tk4 gens3 oG3 it oI3 hz hj F3 N3 hb3
        obtain ⟨rfl, hm1, hm2, ⟨t3', hm3⟩, ⟨t4, hm4⟩, ⟨t5, hm5⟩, ⟨t6, hm6⟩⟩ := hj
        have hilt : i ≤ (sizesOf x).length := by
          have := (List.getElem?_eq_some_iff.mp hz).1
          rw [List.length_append, List.length_singleton] at this; omega
        generalize hcp : ((sizesOf x).take i).foldl pstep (0, 1) = cp at hm4 hm5
        obtain ⟨c0, p0⟩ := cp
        dsimp only at hm4 hm5
        generalize hM : (fun y => if y = Str.ofString "size" then some (Value.int z t') else m1 y) = M at F3
        have e0 : M "size" = some (.int z t') := by rw [← hM]; exact if_pos rfl
        have e1 : M "word" = some (.str x tx) := by rw [← hM]; exact (if_neg (by decide)).trans hm1
        have e2 : M "ending" = some (.int 2 te) := by rw [← hM]; exact (if_neg (by decide)).trans hm2
        have e3 : M "rank" = some (.int (sizesOf x).sum t3') := by rw [← hM]; exact (if_neg (by decide)).trans hm3
        have e4 : M "counted" = some (.int c0 t4) := by rw [← hM]; exact (if_neg (by decide)).trans hm4
        have e5 : M "product" = some (.int p0 t5) := by rw [← hM]; exact (if_neg (by decide)).trans hm5
        have e6 : M "refused" = some (.str (Str.ofString "") t6) := by rw [← hM]; exact (if_neg (by decide)).trans hm6
        have F4 := fr_canon _ F3 (psc e0 (psc e1 (psc e2 (psc e3 (psc e4 (psc e5 (psc e6 psn)))))))
        have hc1 : c0 = ((sizesOf x).take i).sum := by
          have h1 := pstep_sum ((sizesOf x).take i) (0, 1)
          rw [hcp] at h1; simpa using h1
        have hc0 : 0 ≤ c0 ∧ c0 ≤ 16 := by
          have h2 := sum_small ((sizesOf x).take i) (fun y hy => sizesOf_ok x y (List.mem_of_mem_take hy))
          have h3 : ((sizesOf x).take i).length ≤ 8 := by rw [List.length_take, sizesOf_len]; omega
          omega
        clear F3
        repeat' (first | (k_unfold; (try dsimp only)) | walk1 | (dsimp only; walk1) | fail "no step")
        · rename c0 = (sizesOf x).sum => hcs
          have htk := take_sum (sizesOf x) i (sizesOf_ok x) (hc1.symm.trans hcs)
          have hp : prodOf (sizesOf x) = p0 := by rw [htk] at hcp; rw [prodOf, hcp]
          simp only [hp] at hret
          refine Hold.mk ?_
          dsimp only
          have hxe : (x == Str.ofString "") = false := by simpa using hne
          repeat' (first | (k_unfold; (try dsimp only)) | walk1 | (dsimp only; walk1) | fail "no step")
          · refine Hold.mk (leaveS0_ (news' := []) F4 News.nil KtsTurn.refl fun kF _ => ?_)
            exact hret _ _ _ _ kF (fun p hp => ⟨F4.keep _ _ (HN' p hp), (N p hp).2⟩) (fun hb => hb3 (hbare hb))
          · rename c0 ≠ (sizesOf x).sum => hbad
            exact absurd hcs hbad
        all_goals rename c0 ≠ (sizesOf x).sum => hcs
        all_goals have hilt2 := lt_of_sum_ne (ns := sizesOf x) (i := i) (fun h => hcs (hc1.trans h))
        all_goals (have hz' : (sizesOf x)[i]? = some z := by rw [← hz, List.getElem?_append_left hilt2])
        all_goals (have hfold : ((sizesOf x).take (i + 1)).foldl pstep (0, 1) = pstep (c0, p0) z := by rw [List.take_add_one, hz', List.foldl_append, hcp]; rfl)
        all_goals (rw [hfold])
        · rename z = 2 => hz2'
          rw [show pstep (c0, p0) z = (c0 + z, p0 * (c0 + 1)) by simp [pstep, hz2']]
          exact Hold.mk ⟨_, _, _, _, rfl, by k_asm, by k_asm, ⟨rfl, rfl, rfl, ⟨_, rfl⟩, ⟨_, rfl⟩, ⟨_, rfl⟩, ⟨_, rfl⟩⟩, fun _ => by simpa using hilt2⟩
        · rename z ≠ 2 => hz2'
          rw [show pstep (c0, p0) z = (c0 + z, p0 * 1) by simp [pstep, hz2']]
          exact Hold.mk ⟨_, _, _, _, rfl, by k_asm, by k_asm, ⟨rfl, rfl, rfl, ⟨_, rfl⟩, ⟨_, rfl⟩, ⟨_, rfl⟩, ⟨_, rfl⟩⟩, fun _ => by simpa using hilt2⟩
end Mine
end
section
-- C1
open PySem PySem.W PyProof.Rows PySem.Calls
set_option Elab.async false
set_option maxRecDepth 100000
namespace Mine
section
variable {prog : Program} {w : World} {A : Around} {E : Value → Shared → Prop} {s : Shared} {h₀ : Heap} {L : Addr} {m : Str → Option Value} {env : Env}
theorem comp_block {elt iter : PySem.Expr} {x : Str} {px : Pos} {scope : Scope} {cl : List (Str × Addr)} {pos : Pos} {s₂ : Shared} {I : Addr} {fp : List Addr} {n : Nat} {P : Nat → Value → Prop} {St : Nat → Heap → Prop} {news : List (Addr × Obj)}
    {J : Nat → List Value → List (Addr × Obj) → Prop} {RR : Value → Addr → Result → Shared → Prop}
    (W : Walks prog w A I fp [I] n P St) (hsz : n ≤ sizeLine) (hIo : ∀ i h, St i h → ∃ o, h.get? I = some o)
    (hSt : ∀ i j ys h h' o nw, St i h → h.get? I = some o → h'.get? I = some o → (∀ b o, h₀.get? b = some o → h'.get? b = some o) → News h₀ L h' nw → J j ys nw → St i h')
    (hcell : ∀ y ∈ scope.names, y.2 ≠ .cell) (hkind : scope.kind = .function) (hx : scope.names.lookup x = some .local) (hst : St 0 s₂.heap) (hfp : ∀ b ∈ fp, b < s₂.heap.objs.size)
    (F : Fr h₀ L s₂.heap m) (N : News h₀ L s₂.heap news) (hIL : L ≠ I) (hI₀ : h₀.get? I = none) (off : ∀ p ∈ news, p.1 ≠ I) (hJ : J 0 [] news)
    (turn : ∀ i v I oI C oC D m₂ ys news₁ h tk gens (E' : Value → Shared → Prop), i < n → P i v → LCg.NsObj oC m₂ → m₂ x = some v → Fr h₀ L h m → News h₀ L h ((I, oI) :: (C, oC) :: (D, LCg.lst ys) :: news₁) → LCg.Off3 I C D news₁ → ((@Ne Nat I C) ∧ (@Ne Nat I D) ∧ (@Ne Nat C D)) → J i ys news₁ → (AllBare s₂.gens → AllBare gens) →
      wpAny (model prog w) A (eval elt (compEnvC scope cl C env)) (fun y s₄ => Hold (∃ h' tk' gens' news₂, s₄ = { s₂ with heap := h', gens := gens', toks := tk' } ∧ Fr h₀ L h' m ∧ News h₀ L h' ((I, oI) :: (C, oC) :: (D, LCg.lst ys) :: news₂) ∧ LCg.Off3 I C D news₂ ∧ J (i + 1) (ys ++ [y]) news₂ ∧ (AllBare s₂.gens → AllBare gens'))) E' { s₂ with heap := h, gens := gens, toks := tk })
    (hRR : ∀ D C h tk gens m' ys news', Fr h₀ L h m → News h₀ L h ((D, LCg.lst ys) :: news') → LCg.Off1 D news' → h.Ns C m' → h₀.get? C = none → h₀.get? D = none → C ≠ L → D ≠ L → C ≠ D → (∀ p ∈ news', p.1 ≠ C) → J n ys news' → (AllBare s₂.gens → AllBare gens) → RR (.ref D) C (.ok .next) { s₂ with heap := h, gens := gens, toks := tk }) :
    wpAny (model prog w) A (newList []) (fun acc s₃ => wpAny (model prog w) A (newFunctionEnv scope env.globals cl [] env.qual none .none (some env)) (fun cenv s₄ =>
      codeAny (model prog w) A (.compStart (.ListComp elt [⟨.Name x px, iter, [], 0⟩] scope pos) 0 (.ref I) acc { cenv with scope := relabel scope env }) (RR acc cenv.locals) s₄) E s₃) E s₂ := by
  refine wpAny_newObj_type (wpAny_newFunctionEnv hcell (by intro y hy; simp at hy) (fun h₁ hns₁ hsb₁ => ?_) hkind)
  dsimp only at hns₁ hsb₁ ⊢
  generalize hH2 : s₂.heap.push { cls := .type "list", dict := none, data := .seq ([] : List Value).toArray } = H2 at hns₁ hsb₁ ⊢
  have hC : H2.objs.size = s₂.heap.objs.size + 1 := by rw [← hH2, Heap.size_push]
  have hDC : s₂.heap.objs.size ≠ H2.objs.size := by rw [hC]; exact Nat.ne_of_lt (Nat.lt_succ_self _)
  have below : ∀ b, b < s₂.heap.objs.size → b ≠ H2.objs.size ∧ b ≠ s₂.heap.objs.size := fun b hb => ⟨by rw [hC]; exact Nat.ne_of_lt (Nat.lt_succ_of_lt hb), Nat.ne_of_lt hb⟩
  have hDf : s₂.heap.objs.size ∉ fp := fun hm => Nat.lt_irrefl _ (hfp _ hm)
  have hCf : H2.objs.size ∉ fp := fun hm => by have := hfp _ hm; rw [hC] at this; exact Nat.lt_irrefl _ (Nat.lt_of_succ_lt this)
  have hIf : I ∈ fp := W.sub I (List.mem_singleton.mpr rfl)
  have hIlt : I < s₂.heap.objs.size := hfp I hIf
  have old : ∀ b o, s₂.heap.get? b = some o → h₁.get? b = some o := fun b o e => hsb₁.extBut b o (below b (Heap.lt_size e)).1 (Heap.get?_push_of_some _ (hH2 ▸ Heap.get?_push_of_some _ e))
  have hacc : h₁.get? s₂.heap.objs.size = some (LCg.lst []) := hsb₁.extBut _ _ hDC (Heap.get?_push_of_some _ (hH2 ▸ Heap.get?_push_size _ rfl))
  have hst₁ : St 0 h₁ := W.frame _ _ _ hst fun b _ o e => old b o e
  have fresh : ∀ a, s₂.heap.objs.size ≤ a → s₂.heap.get? a = none := fun a ha => by
    cases e : s₂.heap.get? a with
    | none => rfl
    | some o' => exact absurd (Heap.lt_size e) (Nat.not_lt.mpr ha)
  have fresh₀ : ∀ a, s₂.heap.objs.size ≤ a → h₀.get? a = none := fun a ha => by
    cases e : h₀.get? a with
    | none => rfl
    | some o' => have := F.keep a o' e; rw [fresh a ha] at this; cases this
  have hD₀ : h₀.get? s₂.heap.objs.size = none := fresh₀ _ (Nat.le_refl _)
  have hC₀ : h₀.get? H2.objs.size = none := fresh₀ _ (by rw [hC]; exact Nat.le_succ _)
  have hLlt : L < s₂.heap.objs.size := F.ns.lt
  have hDL : s₂.heap.objs.size ≠ L := Ne.symm (below L hLlt).2
  have hCL : H2.objs.size ≠ L := Ne.symm (below L hLlt).1
  have hCI : I ≠ H2.objs.size := (below I hIlt).1
  have hDI : I ≠ s₂.heap.objs.size := (below I hIlt).2
  have off₀ : LCg.Off3 I H2.objs.size s₂.heap.objs.size news := LCg.Off3.of fun p hp => ⟨off p hp, (below _ (Heap.lt_size (N p hp).1)).1, (below _ (Heap.lt_size (N p hp).1)).2⟩
  have loop : ∀ s₃ : Shared, s₃ = { s₂ with heap := h₁, toks := s₂.toks + ([] : List (Str × Value)).length } →
      codeAny (model prog w) A (.compLoop (.ListComp elt [⟨.Name x px, iter, [], 0⟩] scope pos) 0 (.ref I) (.ref s₂.heap.objs.size) (compEnvC scope cl H2.objs.size env))
        (RR (.ref s₂.heap.objs.size) H2.objs.size) s₃ := by
    rintro s₃ rfl
    refine codeAny_compLoop_tests
      (fun k s' => ∃ h' tk gens' i ys m' news', s' = { s₂ with heap := h', gens := gens', toks := tk } ∧ i ≤ n ∧ k = n + 1 - i ∧ ys.length = i ∧ St i h' ∧ Fr h₀ L h' m ∧ h'.Ns H2.objs.size m' ∧ News h₀ L h' ((s₂.heap.objs.size, LCg.lst ys) :: news') ∧
        LCg.Off3 I H2.objs.size s₂.heap.objs.size news' ∧ J i ys news' ∧ (AllBare s₂.gens → AllBare gens')) ?_ (n + 1)
      ⟨h₁, _, s₂.gens, 0, [], _, news, rfl, Nat.zero_le _, rfl, rfl, hst₁, F.keeps old, hns₁, fun p hp => ?_, off₀, hJ, id⟩
    · rintro k s' ⟨h', tk, gens', i, ys, m', news', rfl, hi, rfl, hyl, hst', F', hn', N', off', hJ', hb'⟩
      by_cases hlt : i < n
      · refine W.item i _ _ _ hlt hst' fun v h₂ tk₂ hPv hst₂ hk₂ => ?_
        refine wpAny_assign_Name (wpAny_storeName_local (lookup_relabel_local hx) (hn'.at' fun o e => hk₂ _ o (by simpa using Ne.symm hCI) e) (fun h₃ hn₃ hs₃ => ?_) (by simp [compEnvC, relabel, hkind]))
        refine wpAny_tests_nil ?_
        simp only [if_true]
        have hst₃ : St (i + 1) h₃ := W.frame _ _ _ hst₂ fun b hb o e => hs₃.extBut b o (fun q => hCf (by have q' : b = H2.objs.size := q; rw [← q']; exact hb)) e
        obtain ⟨oI, heI⟩ := hIo _ _ hst₃
        obtain ⟨oC, heC, hoC⟩ := LCg.ns_obj hn₃
        have F₃ : Fr h₀ L h₃ m := (LCg.fr_but F' hk₂ hIL hI₀).change hs₃ hCL hC₀
        have off3 := off'.mem
        have N₂ : News h₀ L h₂ ((s₂.heap.objs.size, LCg.lst ys) :: news') := LCg.news_but N' hk₂ fun p hp => by
          rcases List.mem_cons.mp hp with rfl | hp
          · exact Ne.symm hDI
          · exact (off3 p hp).1
        have N₃ : News h₀ L h₃ ((I, oI) :: (H2.objs.size, oC) :: (s₂.heap.objs.size, LCg.lst ys) :: news') := fun p hp => by
          rcases List.mem_cons.mp hp with rfl | hp
          · exact ⟨heI, Ne.symm hIL, hI₀⟩
          · rcases List.mem_cons.mp hp with rfl | hp
            · exact ⟨heC, hCL, hC₀⟩
            · have z := N₂ p hp
              refine ⟨hs₃.extBut _ _ ?_ z.1, z.2⟩
              rcases List.mem_cons.mp hp with rfl | hp
              · exact hDC
              · exact (off3 p hp).2.1
        refine wpAny_mono (turn i v I oI H2.objs.size oC s₂.heap.objs.size _ ys news' h₃ _ gens' _ hlt hPv hoC (by simp) F₃ N₃ off' ⟨hCI, hDI, Ne.symm hDC⟩ hJ' hb') (fun y s₄ h₄ => ?_) fun _ _ e => e
        obtain ⟨h₄, tk₄, gens₄, news₄, rfl, F₄, N₄, off₄, hJ₄, hb₄⟩ := h₄
        have zI := (N₄ (I, oI) List.mem_cons_self).1
        have zC := (N₄ (H2.objs.size, oC) (List.mem_cons_of_mem _ List.mem_cons_self)).1
        have zD := (N₄ (s₂.heap.objs.size, LCg.lst ys) (List.mem_cons_of_mem _ (List.mem_cons_of_mem _ List.mem_cons_self))).1
        have N₄' : News h₀ L h₄ news₄ := fun p hp => N₄ p (List.mem_cons_of_mem _ (List.mem_cons_of_mem _ (List.mem_cons_of_mem _ hp)))
        have hst₄ : St (i + 1) h₄ := hSt _ _ _ _ _ _ _ hst₃ heI zI F₄.keep N₄' hJ₄
        refine append_at (hsz := by show ys.toArray.size ≤ sizeLine; rw [List.size_toArray, hyl]; exact Nat.le_trans hi hsz) zD fun h₅ hs₅ hD₅ => ?_
        have off4 := off₄.mem
        refine ⟨n + 1 - (i + 1), by omega, h₅, tk₄, gens₄, i + 1, ys ++ [y], _, news₄, rfl, hlt, rfl, by rw [List.length_append, List.length_singleton, hyl], W.frame _ _ _ hst₄ fun b hb o e => hs₅.extBut b o (fun q => hDf (q ▸ hb)) e, F₄.change hs₅ hDL hD₀,
          (hoC.ns zC).sameBut hs₅ (Ne.symm hDC), fun p hp => ?_, off₄, hJ₄, hb₄⟩
        · rcases List.mem_cons.mp hp with rfl | hp
          · exact ⟨hD₅.trans (congrArg some (LCg.lst_snoc ys y)), hDL, hD₀⟩
          · exact ⟨hs₅.extBut _ _ (off4 p hp).2.2 (N₄' p hp).1, (N₄' p hp).2⟩
      · obtain rfl : i = n := Nat.le_antisymm hi (Nat.not_lt.mp hlt)
        refine W.done _ _ _ hst' fun h₂ tk₂ hk₂ => ?_
        have off3 := off'.mem
        exact hRR _ _ h₂ tk₂ gens' _ ys news' (LCg.fr_but F' hk₂ hIL hI₀) (LCg.news_but N' hk₂ fun p hp => by
          rcases List.mem_cons.mp hp with rfl | hp
          · exact Ne.symm hDI
          · exact (off3 p hp).1) off'.one (hn'.at' fun o e => hk₂ _ o (by simpa using Ne.symm hCI) e) hC₀ hD₀ hCL hDL (Ne.symm hDC) (fun p hp => (off3 p hp).2.1) hJ' hb'
    · rcases List.mem_cons.mp hp with rfl | hp
      · exact ⟨hacc, hDL, hD₀⟩
      · exact ⟨old _ _ (N p hp).1, (N p hp).2⟩
  exact codeAny_compStart_list (loop _ rfl) (W.self 0 _ _ _ hst₁ (loop _ rfl))


/-- a list comp, as an expression, over a list of the ledger's -/
theorem comp_list {elt iter : PySem.Expr} {x : Str} {px : Pos} {scope : Scope} {cl : List (Str × Addr)} {pos : Pos} {ax : Addr} {vs : List Value} {nn : Nat} {news : List (Addr × Obj)} {Q : Value → Shared → Prop}
    (hclos : closureFor scope env = pure cl) (hcell : ∀ y ∈ scope.names, y.2 ≠ .cell) (hkind : scope.kind = .function)
    (hnames : ∀ y ∈ scope.names, y.2 = .local → scope.names.lookup y.1 = some .local) (hx : scope.names.lookup x = some .local) (hh : A.handled = none)
    (J : Nat → List Value → List (Addr × Obj) → Prop) (hJC : ∀ i ys nx, J i ys nx → (ax, listOf vs.toArray nn) ∈ nx) (hsz : vs.length ≤ sizeLine)
    (h : wpAny (model prog w) A (eval iter env) (fun xv s₁ => xv = .ref ax ∧ Fr h₀ L s₁.heap m ∧ News h₀ L s₁.heap news ∧ J 0 [] news ∧
      (∀ i v I oI C oC D m₂ ys news₁ h tk gens (E' : Value → Shared → Prop), i < vs.length → vs[i]? = some v → LCg.NsObj oC m₂ → m₂ x = some v → Fr h₀ L h m → News h₀ L h ((I, oI) :: (C, oC) :: (D, LCg.lst ys) :: news₁) → LCg.Off3 I C D news₁ → ((@Ne Nat I C) ∧ (@Ne Nat I D) ∧ (@Ne Nat C D)) → J i ys news₁ → (AllBare s₁.gens → AllBare gens) →
        wpAny (model prog w) A (eval elt (compEnvC scope cl C env)) (fun y s₄ => Hold (∃ h' tk' gens' news₂, s₄ = { s₁ with heap := h', gens := gens', toks := tk' } ∧ Fr h₀ L h' m ∧ News h₀ L h' ((I, oI) :: (C, oC) :: (D, LCg.lst ys) :: news₂) ∧ LCg.Off3 I C D news₂ ∧ J (i + 1) (ys ++ [y]) news₂ ∧ (AllBare s₁.gens → AllBare gens'))) E' { s₁ with heap := h, gens := gens, toks := tk }) ∧
      (∀ D h tk gens ys news', Fr h₀ L h m → News h₀ L h ((D, LCg.lst ys) :: news') → LCg.Off1 D news' → J vs.length ys news' → (AllBare s₁.gens → AllBare gens) → Q (.ref D) { s₁ with heap := h, gens := gens, toks := tk })) E s)
    (hs : ∀ x, foldedSetIterable iter env x = pure x := by intro _; rfl) :
    wpAny (model prog w) A (eval (.ListComp elt [⟨.Name x px, iter, [], 0⟩] scope pos) env) Q E s := by
  rw [eval_ListComp]
  refine wpAny_comprehension_free (use := none) rfl hs hclos hkind hnames (wpAny_mono h (fun xv s₁ h₁ => ?_) fun _ _ e => e)
  obtain ⟨rfl, F, N, hJ, turn, fin⟩ := h₁
  have hm := hJC _ _ _ hJ
  have hl : s₁.heap.IsList ax vs.toArray := ⟨_, (N _ hm).1, rfl, nn, rfl⟩
  have hlt : ax < s₁.heap.objs.size := Heap.lt_size (N _ hm).1
  refine wpAny_pyIter_list hl ?_
  have up : ∀ b o, s₁.heap.get? b = some o → (s₁.heap.push { cls := .type "list_iterator", data := .fields #[.ref ax, .int 0 0] }).get? b = some o := fun b o e => Heap.get?_push_of_some _ e
  have W := Walks.list (prog := prog) (w := w) hh s₁.heap.objs.size ax (Nat.ne_of_lt hlt) vs.toArray
  rw [show vs.toArray.size = vs.length by simp] at W
  refine comp_block (s₂ := { s₁ with heap := s₁.heap.push _ }) (J := J) W hsz (fun i h st => by obtain ⟨o, e, _⟩ := st.1; exact ⟨o, e⟩) ?_ hcell hkind hx ⟨⟨_, Heap.get?_push_size _ rfl, rfl, rfl⟩, hl.push _⟩ (fun b hb => ?_)
    (F.keeps up) (N.grown up) (Nat.ne_of_lt F.ns.lt) (next_is_new F) (fun p hp => Nat.ne_of_lt (Heap.lt_size (N p hp).1)) hJ ?_ ?_
  · intro i j ys h h' o nw st e1 e2 _ N' hJ'
    have := (N' _ (hJC _ _ _ hJ')).1
    obtain ⟨o1, ho1, hc1, hd1⟩ := st.1
    rw [e1] at ho1; cases ho1
    exact ⟨⟨o, e2, hc1, hd1⟩, ⟨_, this, rfl, nn, rfl⟩⟩
  · show b < (s₁.heap.push _).objs.size
    rw [Heap.size_push]
    rcases List.mem_cons.mp hb with rfl | hb
    · exact Nat.lt_succ_self _
    · rw [List.mem_singleton.mp hb]; exact Nat.lt_succ_of_lt hlt
  · intro i v I oI C oC D m₂ ys news₁ h tk gens E' hi hv
    exact turn i v I oI C oC D m₂ ys news₁ h tk gens E' hi (by simpa using hv)
  · intro D C h tk gens m' ys news' F' N' o1 hn hC₀ hD₀ hCL hDL hCD offC hJ' hb
    refine ⟨m', hn, fun h'' hs'' => fin D h'' tk gens ys news' (F'.change hs'' hCL hC₀) (fun p hp => ?_) o1 hJ' hb⟩
    refine ⟨hs''.extBut _ _ ?_ (N' p hp).1, (N' p hp).2⟩
    rcases List.mem_cons.mp hp with rfl | hp
    · exact Ne.symm hCD
    · exact offC p hp
end
end Mine
end
section
-- C2
open PySem PySem.W PyProof.Rows PySem.Calls
set_option Elab.async false
set_option maxRecDepth 100000
namespace Mine
section
variable {prog : Program} {w : World} {A : Around} {E : Value → Shared → Prop} {s : Shared} {h₀ : Heap} {L : Addr} {m : Str → Option Value} {env : Env}
theorem comp_pairs {elt iter : PySem.Expr} {a b : Str} {pa pb tp : Pos} {kk : Nat} {scope : Scope} {cl : List (Str × Addr)} {pos : Pos} {s₂ : Shared} {I : Addr} {fp wr : List Addr} {n : Nat} {Pt : Nat → Array Value → Prop} {St : Nat → Heap → Prop} {Mid : Nat → Addr → Heap → Prop} {P2 : Nat → Value → Value → Prop} {P3 : Nat → Value → Prop}
    {RR : Value → Addr → Result → Shared → Prop}
    (W : WalksT prog w A I fp wr n Pt St Mid) (h2 : ∀ i vals, Pt i vals → ∃ v0 v1, vals = #[v0, v1] ∧ P2 i v0 v1) (hsz : n ≤ sizeLine) (hh : A.handled = none)
    (hcell : ∀ y ∈ scope.names, y.2 ≠ .cell) (hkind : scope.kind = .function) (ha : scope.names.lookup a = some .local) (hb : scope.names.lookup b = some .local) (hab : a ≠ b) (hst : St 0 s₂.heap) (hfp : ∀ b ∈ fp, b < s₂.heap.objs.size)
    (helt : ∀ i v0 v1 (A' : Around) C m₂ (s₃ : Shared) (E' : Value → Shared → Prop), P2 i v0 v1 → s₃.heap.Ns C m₂ → m₂ a = some v0 → m₂ b = some v1 → wpAny (model prog w) A (eval elt (compEnvC scope cl C env)) (fun y s₄ => P3 i y ∧ ∃ tk', s₄ = { s₃ with toks := tk' }) E' s₃)
    (hRR : ∀ D C h tk m' ys, s₂.heap.get? D = none → s₂.heap.get? C = none → C ≠ D → h.get? D = some (LCg.lst ys) → h.Ns C m' → ys.length = n → (∀ j y, ys[j]? = some y → P3 j y) → (∀ b o, b ∉ wr → s₂.heap.get? b = some o → h.get? b = some o) → RR (.ref D) C (.ok .next) { s₂ with heap := h, toks := tk }) :
    wpAny (model prog w) A (newList []) (fun acc s₃ => wpAny (model prog w) A (newFunctionEnv scope env.globals cl [] env.qual none .none (some env)) (fun cenv s₄ =>
      codeAny (model prog w) A (.compStart (.ListComp elt [⟨.Tuple [.Name a pa, .Name b pb] kk tp, iter, [], 0⟩] scope pos) 0 (.ref I) acc { cenv with scope := relabel scope env }) (RR acc cenv.locals) s₄) E s₃) E s₂ := by
  refine wpAny_newObj_type (wpAny_newFunctionEnv hcell (by intro y hy; simp at hy) (fun h₁ hns₁ hsb₁ => ?_) hkind)
  dsimp only at hns₁ hsb₁ ⊢
  generalize hH2 : s₂.heap.push { cls := .type "list", dict := none, data := .seq ([] : List Value).toArray } = H2 at hns₁ hsb₁ ⊢
  have hC : H2.objs.size = s₂.heap.objs.size + 1 := by rw [← hH2, Heap.size_push]
  have hDC : s₂.heap.objs.size ≠ H2.objs.size := by rw [hC]; exact Nat.ne_of_lt (Nat.lt_succ_self _)
  have below : ∀ b, b < s₂.heap.objs.size → b ≠ H2.objs.size ∧ b ≠ s₂.heap.objs.size := fun b hb => ⟨by rw [hC]; exact Nat.ne_of_lt (Nat.lt_succ_of_lt hb), Nat.ne_of_lt hb⟩
  have hDf : s₂.heap.objs.size ∉ fp := fun hm => Nat.lt_irrefl _ (hfp _ hm)
  have hCf : H2.objs.size ∉ fp := fun hm => by have := hfp _ hm; rw [hC] at this; exact Nat.lt_irrefl _ (Nat.lt_of_succ_lt this)
  have hDw : s₂.heap.objs.size ∉ wr := fun hm => hDf (W.sub _ hm)
  have hCw : H2.objs.size ∉ wr := fun hm => hCf (W.sub _ hm)
  have old : ∀ b o, s₂.heap.get? b = some o → h₁.get? b = some o := fun b o e => hsb₁.extBut b o (below b (Heap.lt_size e)).1 (Heap.get?_push_of_some _ (hH2 ▸ Heap.get?_push_of_some _ e))
  have hacc : h₁.get? s₂.heap.objs.size = some (LCg.lst []) := hsb₁.extBut _ _ hDC (Heap.get?_push_of_some _ (hH2 ▸ Heap.get?_push_size _ rfl))
  have hst₁ : St 0 h₁ := W.frame _ _ _ hst fun b _ o e => old b o e
  have fresh : ∀ a, s₂.heap.objs.size ≤ a → s₂.heap.get? a = none := fun a ha => by
    cases e : s₂.heap.get? a with
    | none => rfl
    | some o' => exact absurd (Heap.lt_size e) (Nat.not_lt.mpr ha)
  have loop : ∀ s₃ : Shared, s₃ = { s₂ with heap := h₁, toks := s₂.toks + ([] : List (Str × Value)).length } →
      codeAny (model prog w) A (.compLoop (.ListComp elt [⟨.Tuple [.Name a pa, .Name b pb] kk tp, iter, [], 0⟩] scope pos) 0 (.ref I) (.ref s₂.heap.objs.size) (compEnvC scope cl H2.objs.size env))
        (RR (.ref s₂.heap.objs.size) H2.objs.size) s₃ := by
    rintro s₃ rfl
    refine LCp.codeAny_compLoop_pair
      (fun k s' => ∃ h' tk i ys m', s' = { s₂ with heap := h', toks := tk } ∧ i ≤ n ∧ k = n + 1 - i ∧ ys.length = i ∧ St i h' ∧ h'.Ns H2.objs.size m' ∧ h'.get? s₂.heap.objs.size = some (LCg.lst ys) ∧
        (∀ j y, ys[j]? = some y → P3 j y) ∧ (∀ b o, b ∉ wr → s₂.heap.get? b = some o → h'.get? b = some o)) ?_ (n + 1)
      ⟨h₁, _, 0, [], _, rfl, Nat.zero_le _, rfl, rfl, hst₁, hns₁, hacc, fun j y h => (by simp at h), fun b o _ e => old b o e⟩
    rintro k s' ⟨h', tk, i, ys, m', rfl, hi, rfl, hyl, hst', hn', hD', hP', hk'⟩
    by_cases hlt : i < n
    · refine W.item i _ _ _ hlt hst' fun T vals h₂ tk₂ hPt hTge hT hMid hk₂ => ?_
      obtain ⟨v0, v1, rfl, hP2⟩ := h2 i vals hPt
      have hTw := W.apart _ _ _ hMid
      refine W.go _ _ _ i T _ _ _ hMid fun h₃ hst₃ hk₃ => ?_
      have hT₃ : h₃.IsTuple T #[v0, v1] := by
        obtain ⟨o, ho, r⟩ := hT
        exact ⟨o, hk₃ _ _ hTw ho, r⟩
      have hn₃ : h₃.Ns H2.objs.size m' := (hn'.at' fun o e => hk₂ _ o hCw e).at' fun o e => hk₃ _ o hCw e
      refine kcp_assign hh hT₃ (lookup_relabel_local ha) (lookup_relabel_local hb) (by simp [compEnvC, relabel, hkind]) hn₃ fun h₄ tk₄ hn₄ hk₄ => ?_
      have up₄ : ∀ c o, c ∉ wr → c ≠ H2.objs.size → h'.get? c = some o → h₄.get? c = some o := fun c o hc hcC e => hk₄ c o hcC (hk₃ c o hc (hk₂ c o hc e))
      refine wpAny_mono (helt i v0 v1 A _ _ { s₂ with heap := h₄, toks := tk₄ } _ hP2 hn₄ ((if_neg hab).trans (if_pos rfl)) (if_pos rfl)) (fun y s₅ h₅ => ?_) fun _ _ e => e
      obtain ⟨hP3, tk₅, rfl⟩ := h₅
      refine append_at (hsz := by show ys.toArray.size ≤ sizeLine; rw [List.size_toArray, hyl]; exact Nat.le_trans hi hsz) (up₄ _ _ hDw hDC hD') fun h₆ hs₆ hD₆ => ?_
      have hst₄ : St (i + 1) h₄ := W.frame _ _ _ hst₃ fun c hc o e => hk₄ c o (fun q => hCf (by have q' : c = H2.objs.size := q; rw [← q']; exact hc)) e
      refine ⟨n + 1 - (i + 1), by omega, h₆, tk₅, i + 1, ys ++ [y], _, rfl, hlt, rfl, by rw [List.length_append, List.length_singleton, hyl], W.frame _ _ _ hst₄ fun c hc o e => hs₆.extBut c o (fun q => hDf (q ▸ hc)) e,
        hn₄.sameBut hs₆ (Ne.symm hDC), hD₆.trans (congrArg some (LCg.lst_snoc ys y)), ?_, fun c o hc e => ?_⟩
      · intro j z hz
        rcases Nat.lt_or_ge j ys.length with hj | hj
        · exact hP' j z (by rwa [List.getElem?_append_left hj] at hz)
        · rw [List.getElem?_append_right hj] at hz
          have hj0 : j - ys.length = 0 := by
            rcases Nat.eq_zero_or_pos (j - ys.length) with h | h
            · exact h
            · rw [List.getElem?_eq_none (by simp; omega)] at hz; cases hz
          rw [hj0] at hz
          have : j = i := by omega
          subst this
          cases hz; exact hP3
      · have hlt' := Heap.lt_size e
        exact hs₆.extBut c o (below c hlt').2 (up₄ c o hc (below c hlt').1 (hk' c o hc e))
    · obtain rfl : i = n := Nat.le_antisymm hi (Nat.not_lt.mp hlt)
      refine W.done _ _ _ hst' fun h₂ tk₂ hk₂ => ?_
      exact hRR _ _ h₂ tk₂ _ ys (fresh _ (Nat.le_refl _)) (fresh _ (by rw [hC]; exact Nat.le_succ _)) (Ne.symm hDC) (hk₂ _ _ hDw hD') (hn'.at' fun o e => hk₂ _ o hCw e) hyl hP' fun c o hc e => hk₂ c o hc (hk' c o hc e)
  exact codeAny_compStart_list (loop _ rfl) (W.self 0 _ _ _ hst₁ (loop _ rfl))

/-- a list comp over zip of two lists, its value bound to a name -/
theorem comp_zip {elt iter : PySem.Expr} {a b y : Str} {pa pb tp py : Pos} {kk : Nat} {scope : Scope} {cl : List (Str × Addr)} {pos spos : Pos} {P2 : Nat → Value → Value → Prop} {P3 : Nat → Value → Prop} {Q : Flow → Shared → Prop}
    (_F₀ : Fr h₀ env.locals s.heap m)
    (hsw : swapsWith (.ListComp elt [⟨.Tuple [.Name a pa, .Name b pb] kk tp, iter, [], 0⟩] scope pos) (some (.Name y py)) spos.line env = pure true)
    (hclos : closureFor scope env = pure cl) (hcell : ∀ z ∈ scope.names, z.2 ≠ .cell) (hkind : scope.kind = .function)
    (hnames : ∀ z ∈ scope.names, z.2 = .local → scope.names.lookup z.1 = some .local) (ha : scope.names.lookup a = some .local) (hb : scope.names.lookup b = some .local) (hab : a ≠ b) (hh : A.handled = none)
    (hy : env.kindOf y = some .local) (hp : (env.scope.kind == .class || (env.scope.kind == .module && env.locals != env.globals)) = false)
    (helt : ∀ i v0 v1 (A' : Around) C m₂ (s₃ : Shared) (E' : Value → Shared → Prop), P2 i v0 v1 → s₃.heap.Ns C m₂ → m₂ a = some v0 → m₂ b = some v1 → wpAny (model prog w) A (eval elt (compEnvC scope cl C env)) (fun y s₄ => P3 i y ∧ ∃ tk', s₄ = { s₃ with toks := tk' }) E' s₃)
    (h : wpAny (model prog w) A (eval iter env) (fun xv s₁ => ∃ z TI TO i1 i2 l1 l2 xs ys, xv = .ref z ∧ ZipApart z TI TO i1 i2 l1 l2 ∧ (IsZip s₁.heap z TI TO .none ∧ IsPair s₁.heap TI (.ref i1) (.ref i2) ∧ (∃ a b, IsPair s₁.heap TO a b) ∧ s₁.heap.IsListIter i1 l1 0 ∧ s₁.heap.IsListIter i2 l2 0 ∧ s₁.heap.IsList l1 xs ∧ s₁.heap.IsList l2 ys) ∧
      (∀ i x y, xs[i]? = some x → ys[i]? = some y → P2 i x y) ∧ min xs.size ys.size ≤ sizeLine ∧ (∀ c ∈ [z, TI, TO, i1, i2, l1, l2], c < s₁.heap.objs.size) ∧
      ∃ news, Fr h₀ env.locals s₁.heap m ∧ News h₀ env.locals s₁.heap news ∧ (∀ c ∈ [z, TO, i1, i2], c ≠ env.locals ∧ h₀.get? c = none ∧ ∀ p ∈ news, p.1 ≠ c) ∧
      (∀ D h tk ws, Fr h₀ env.locals h (fun z => if z = y then some (.ref D) else m z) → News h₀ env.locals h ((D, LCg.lst ws) :: news) → (∀ p ∈ news, p.1 ≠ D) → ws.length = min xs.size ys.size → (∀ j y, ws[j]? = some y → P3 j y) → Q .next { s₁ with heap := h, toks := tk })) E s)
    (hs : ∀ x, foldedSetIterable iter env x = pure x := by intro _; rfl) :
    wpAny (model prog w) A (exec (.Assign [.Name y py] (.ListComp elt [⟨.Tuple [.Name a pa, .Name b pb] kk tp, iter, [], 0⟩] scope pos) spos) env) Q E s := by
  rw [exec_Assign_Name_used _ _ _ _ hsw]
  refine wpAny_bind (wpAny_standAt (wpAny_bind ?_))
  show wpAny _ A (do let _ ← comprehension (.ListComp elt [⟨.Tuple [.Name a pa, .Name b pb] kk tp, iter, [], 0⟩] scope pos) scope env _ (newList []) false (eval iter env) (some (assign (.Name y py) env))) _ _ s
  refine wpAny_bind (wpAny_mono (wpAny_comprehension_free (use := some (assign (.Name y py) env)) (Q := fun _ s' => Q .next s') rfl hs hclos hkind hnames
    (wpAny_mono h (fun xv s₁ h₁ => ?_) fun _ _ e => e)) (fun _ s' hq => wpAny_pure (wpAny_pure hq)) fun _ _ e => e)
  obtain ⟨z, TI, TO, i1, i2, l1, l2, xs, ys, rfl, D, hz, hP2, hsz, hfp, news, F, N, hwr, fin⟩ := h₁
  refine wpAny_pyIter_zip hz.1 ?_
  refine comp_pairs (P2 := P2) (P3 := P3) (WalksT.zip2 hh z TI TO i1 i2 l1 l2 D xs ys) (fun i vals ⟨x, y, h1, h2, e⟩ => ⟨x, y, e, hP2 i x y h1 h2⟩) hsz hh hcell hkind ha hb hab hz hfp helt ?_
  intro Dl C h' tk m' ws hD0 hC0 hCD hD hn hlen hP hk
  have F' : Fr h₀ env.locals h' m := ⟨F.ns.at' fun o e => hk _ o (fun hm => (hwr _ hm).1 rfl) e, fun c o e => hk c o (fun hm => by rw [(hwr _ hm).2.1] at e; cases e) (F.keep c o e), F.above⟩
  have hCL : C ≠ env.locals := fun q => by obtain ⟨o, es, ep, e, _⟩ := F.ns; rw [← q, hC0] at e; cases e
  have hDL : Dl ≠ env.locals := fun q => by obtain ⟨o, es, ep, e, _⟩ := F.ns; rw [← q, hD0] at e; cases e
  have no : ∀ c, s₁.heap.get? c = none → h₀.get? c = none := fun c hc => by
    cases q : h₀.get? c with
    | none => rfl
    | some o => rw [F.keep _ _ q] at hc; cases hc
  have N' : News h₀ env.locals h' ((Dl, LCg.lst ws) :: news) := fun p hp => by
    rcases List.mem_cons.mp hp with rfl | hp
    · exact ⟨hD, hDL, no _ hD0⟩
    · exact ⟨hk _ _ (fun hm => (hwr _ hm).2.2 p hp rfl) (N p hp).1, (N p hp).2⟩
  have offC : ∀ p ∈ (Dl, LCg.lst ws) :: news, p.1 ≠ C := fun p hp => by
    rcases List.mem_cons.mp hp with rfl | hp
    · exact Ne.symm hCD
    · intro q; have := (N p hp).1; rw [q, hC0] at this; cases this
  have offD : ∀ p ∈ news, p.1 ≠ Dl := fun p hp q => by have := (N p hp).1; rw [q, hD0] at this; cases this
  show wpAny _ A (assign (.Name y py) env (.ref Dl)) _ _ _
  refine wpAny_assign_Name (wpAny_storeName_local hy F'.ns (fun h₂ hn₂ hs₂ => ?_) hp)
  have hL₀ : h₀.get? env.locals = none := Heap.get?_none_of_le F'.above
  have F₂ : Fr h₀ env.locals h₂ (fun z => if z = y then some (.ref Dl) else m z) := ⟨hn₂, fun b o e => hs₂.extBut b o (fun q => by rw [q, hL₀] at e; cases e) (F'.keep b o e), F'.above⟩
  refine ⟨m', hn.sameBut hs₂ hCL, fun h'' hs'' => fin Dl h'' _ ws (F₂.change hs'' hCL (no _ hC0)) (fun p hp => ?_) offD hlen hP⟩
  have zz : h₂.get? p.1 = some p.2 := hs₂.extBut _ _ (N' p hp).2.1 (N' p hp).1
  exact ⟨hs''.extBut _ _ (offC p hp) zz, (N' p hp).2⟩
end
end Mine
end
section
-- N2
open PySem PySem.W PyProof.Rows PySem.Calls PySem.StrLaws Builtin Builtin.Str
set_option Elab.async false
set_option maxRecDepth 100000
namespace Mine
/-- what is behind the first place of w -/
def finL (w : List Nat) : List Nat → Option (List Nat)
  | [] => if w = [] then some [] else none
  | c :: r => if (c :: r).take w.length = w then some ((c :: r).drop w.length) else finL w r
def emb : List (List Nat) → List Nat → Bool
  | [], _ => true
  | w :: ws, r => match finL w r with | none => false | some r' => emb ws r'
theorem finL_here {w r : List Nat} (h : r.take w.length = w) : finL w r = some (r.drop w.length) := by
  cases r with
  | nil =>
    have : w = [] := by simpa using h.symm
    subst this; simp [finL]
  | cons c r => rw [finL, if_pos h]
theorem finL_next {w r : List Nat} {c : Nat} (h : (c :: r).take w.length ≠ w) : finL w (c :: r) = finL w r := by rw [finL, if_neg h]
theorem finL_none {w : List Nat} : ∀ {r : List Nat}, (∀ k, (r.drop k).take w.length ≠ w) → finL w r = none
  | [], h => by
    rw [finL, if_neg]
    rintro rfl
    exact h 0 rfl
  | c :: r, h => by
    rw [finL_next (h 0)]
    exact finL_none fun k => h (k + 1)
theorem finL_at {w : List Nat} : ∀ (k : Nat) {r : List Nat}, (r.drop k).take w.length = w → k ≤ r.length → (∀ j < k, (r.drop j).take w.length ≠ w) → finL w r = some (r.drop (k + w.length))
  | 0, r, h, _, _ => by rw [finL_here (r := r) h, Nat.zero_add]
  | k + 1, [], h, hl, _ => by simp at hl
  | k + 1, c :: r, h, hl, hn => by
    rw [finL_next (hn 0 (by omega)), finL_at k (r := r) h (by simpa using hl) fun j hj => hn (j + 1) (by omega)]
    rw [show k + 1 + w.length = (k + w.length) + 1 by omega, List.drop_succ_cons]
theorem finL_empty (r : List Nat) : finL [] r = some r := by
  have := finL_here (w := []) (r := r) rfl
  simpa using this
theorem emb_nil_cons (ws : List (List Nat)) (r : List Nat) : emb ([] :: ws) r = emb ws r := by rw [emb, finL_empty]
theorem emb_snoc_nil : ∀ (ws : List (List Nat)) (r : List Nat), emb (ws ++ [[]]) r = emb ws r
  | [], r => by rw [List.nil_append, emb_nil_cons]
  | w :: ws, r => by
    rw [List.cons_append, emb, emb]
    cases finL w r with
    | none => rfl
    | some r' => exact emb_snoc_nil ws r'
theorem from_nat (n a : Nat) : fromIndex n (a : Int) = a := by
  unfold fromIndex
  rw [if_neg (by omega)]
  simp
theorem find_fin (y w : Str) {a b : Nat} (hab : a ≤ b) (hb : b ≤ y.length) :
    (find4 y w a b = -1 ∧ finL (Lx w) (((Lx y).take b).drop a) = none) ∨ ∃ k, a ≤ k ∧ k + w.length ≤ b ∧ find4 y w a b = (k : Int) ∧ finL (Lx w) (((Lx y).take b).drop a) = some (((Lx y).take b).drop (k + w.length)) := by
  have hlen : ((Lx y).take b).length = b := by rw [List.length_take, Lx_len]; omega
  have tr : ∀ k, a ≤ k → k ≤ b → ((((((Lx y).take b).drop a).drop (k - a)).take (Lx w).length = Lx w) ↔ At y w b k) := by
    intro k hk hkb0
    rw [at_iff, List.drop_drop, show a + (k - a) = k by omega, Lx_len]
    constructor
    · intro h
      have hl := congrArg List.length h
      rw [List.length_take, List.length_drop, hlen, Lx_len] at hl
      have hkb : k + w.length ≤ b := by omega
      refine ⟨hkb, ?_⟩
      rw [List.drop_take, List.take_take] at h
      rw [Nat.min_eq_left (by omega)] at h
      exact h
    · rintro ⟨hkb, h⟩
      rw [List.drop_take, List.take_take, Nat.min_eq_left (by omega)]
      exact h
  unfold find4
  rw [from_nat, from_nat, Nat.min_eq_left hb, occ_eq]
  rcases occ_first y w b 1 (Nat.le_refl 1) (List.range' a (b + 1 - a)) a (fun i hi => by have := List.mem_range'_1.mp hi; omega) with ⟨h0, hn⟩ | ⟨pre, c, post, e, h0, hc, hn⟩
  · left
    rw [h0]
    refine ⟨rfl, finL_none fun k hk => ?_⟩
    have hkb : a + k ≤ b := by
      rcases Nat.lt_or_ge b (a + k) with hlt | hge
      · exfalso
        rw [List.drop_of_length_le (by rw [List.length_drop, hlen]; omega), List.take_nil] at hk
        have hw : w.length = 0 := by rw [← Lx_len, ← hk]; rfl
        refine hn a (by rw [List.mem_range'_1]; omega) (at_iff.mpr ⟨by omega, ?_⟩)
        rw [hw, List.take_zero, hk]
      · exact hge
    have h1 := (tr (a + k) (by omega) hkb).mp (by rw [show a + k - a = k by omega]; exact hk)
    exact hn (a + k) (by have := h1.1; rw [List.mem_range'_1]; omega) h1
  · right
    obtain ⟨hac, hsp⟩ := range'_split_from e
    refine ⟨c, hac, hc.1, ?_, ?_⟩
    · generalize (forIn (List.range' a (b + 1 - a)) ((#[] : Array Nat), a) (occBody y w b 1)).run.fst = arr at h0
      have h1 : arr.toList[0]? = some c := by simpa using h0
      cases hL : arr.toList with
      | nil => rw [hL] at h1; cases h1
      | cons d t => rw [hL] at h1; simp at h1; rw [h1]
    · have h1 := finL_at (w := Lx w) (c - a) (r := ((Lx y).take b).drop a) ((tr c hac (by have := hc.1; omega)).mpr hc) (by rw [List.length_drop, hlen]; have := hc.1; omega) (fun j hj q => by
        have h2 := (tr (a + j) (by omega) (by have := hc.1; omega)).mp (by rw [show a + j - a = j by omega]; exact q)
        exact hn (a + j) (hsp (a + j) (by omega) (by omega)) h2)
      rw [h1, List.drop_drop, Lx_len, show a + (c - a + w.length) = c + w.length by omega]
theorem findAll_emb (y : Str) : ∀ (ws : List Str) {a b : Nat}, a ≤ b → b ≤ y.length → findAll y ws a b = emb (ws.map Lx) (((Lx y).take b).drop a)
  | [], a, b, _, _ => rfl
  | w :: ws, a, b, hab, hb => by
    rw [findAll, List.map_cons, emb]
    rcases find_fin y w hab hb with ⟨h1, h2⟩ | ⟨k, h0, h1, h2, h3⟩
    · rw [h1, h2, if_pos (by decide)]
    · rw [h2, h3, if_neg (by omega)]
      have := findAll_emb y ws (a := k + w.length) h1 hb
      rw [show (k : Int) + (w.length : Int) = ((k + w.length : Nat) : Int) by omega]
      exact this
theorem starts_iff (y p : Str) : Txt.startswith y p = decide ((Lx y).take p.length = Lx p) := by
  unfold Txt.startswith
  rw [subAt_eq, List.drop_zero, Nat.zero_add]
  by_cases h : (Lx y).take p.length = Lx p
  · have hl := congrArg List.length h
    rw [List.length_take, Lx_len, Lx_len] at hl
    rw [decide_eq_true h, Bool.and_eq_true]
    exact ⟨by rw [decide_eq_true_eq]; omega, by rw [beq_iff_eq]; exact h⟩
  · rw [decide_eq_false h, Bool.and_eq_false_iff]
    right
    rw [beq_eq_false_iff_ne]; exact h
theorem ends_iff (y q : Str) : Txt.endswith y q = decide (q.length ≤ y.length ∧ (Lx y).drop (y.length - q.length) = Lx q) := by
  rw [Bool.eq_iff_iff]
  unfold Txt.endswith
  rw [subAt_eq]
  simp only [Nat.zero_add, Bool.and_eq_true, decide_eq_true_eq, beq_iff_eq]
  refine and_congr_right fun h => ?_
  have e : ((Lx y).drop (y.length - q.length)).take q.length = (Lx y).drop (y.length - q.length) := by
    rw [List.take_of_length_le (by rw [List.length_drop, Lx_len]; omega)]
  exact ⟨fun h2 => e.symm.trans h2, fun h2 => e.trans h2⟩
theorem split_one {x : Str} (h : (Builtin.Str.occurrences x (Str.ofString "...") 0 x.length 1).isEmpty = true) : lsp [] (Lx x) = [Lx x] := by
  have hn : ∀ i, ¬ At x (Str.ofString "...") x.length i := fun i hi => by
    have := (found_iff x (Str.ofString "...")).mpr ⟨i, hi⟩
    rw [h] at this; cases this
  have h1 := lsp_skip (Lx x).length [] (Lx x) (fun j _ q => hn j (at_dots.mpr q)) (Nat.le_refl _)
  rw [h1, List.take_length, List.drop_length, List.nil_append]; rfl
/-- the match by pieces, on lists -/
def matL (p : List Nat) (mid : List (List Nat)) (q y : List Nat) : Bool :=
  decide (y.take p.length = p) && decide (q.length ≤ y.length ∧ y.drop (y.length - q.length) = q) && decide (p.length + q.length ≤ y.length) && emb mid ((y.take (y.length - q.length)).drop p.length)
theorem matchC_emb (y : Str) (ws : List Str) (a : Nat) (b : Nat) (hb : b ≤ y.length) : matchC y ws a b = (decide (a ≤ b) && emb (ws.map Lx) (((Lx y).take b).drop a)) := by
  unfold matchC
  by_cases h : a ≤ b
  · rw [if_neg (by omega), findAll_emb y ws h hb, decide_eq_true h, Bool.true_and]
  · rw [if_pos (by omega), decide_eq_false h, Bool.false_and]
theorem matchB_emb (y q : Str) (ws : List Str) (a : Nat) : matchB y (ws ++ [q]) a = (decide (q.length ≤ y.length ∧ (Lx y).drop (y.length - q.length) = Lx q) && decide (a + q.length ≤ y.length) && emb (ws.map Lx) (((Lx y).take (y.length - q.length)).drop a)) := by
  unfold matchB
  rw [show (ws ++ [q]).getLastD Str.empty = q by simp]
  by_cases h0 : q.length = 0
  · rw [if_pos h0, matchC_emb y _ a y.length (Nat.le_refl _), h0]
    have hq : Lx q = [] := List.length_eq_zero_iff.mp (by rw [Lx_len]; exact h0)
    have e1 : (Lx y).drop (y.length - 0) = Lx q := by rw [hq, List.drop_of_length_le (by rw [Lx_len]; omega)]
    rw [decide_eq_true (show 0 ≤ y.length ∧ (Lx y).drop (y.length - 0) = Lx q from ⟨Nat.zero_le _, e1⟩), Bool.true_and, List.map_append, List.map_cons, List.map_nil, hq, emb_snoc_nil]
    simp
  · rw [if_neg h0, ends_iff]
    by_cases h : q.length ≤ y.length ∧ (Lx y).drop (y.length - q.length) = Lx q
    · rw [decide_eq_true h, if_pos rfl, List.dropLast_concat, show (y.length : Int) - (q.length : Int) = ((y.length - q.length : Nat) : Int) by have := h.1; omega, matchC_emb y _ a _ (by omega), Bool.true_and]
      congr 1
      exact decide_eq_decide.mpr (by have := h.1; omega)
    · rw [decide_eq_false h, if_neg (by decide), Bool.false_and, Bool.false_and]
theorem matchF_pieces {x y : Str} {p q : List Nat} {mid : List (List Nat)} (h : lsp [] (Lx x) = p :: (mid ++ [q])) : matchF x y = matL p mid q (Lx y) := by
  have hs := split_lsp x
  rw [h] at hs
  unfold matchF
  rw [if_neg (by
    intro q'
    have := split_one q'
    rw [h] at this
    have := congrArg List.length this
    simp at this)]
  match hsp : Txt.split x (Str.ofString "..."), hs with
  | ps :: r, hs =>
    rw [List.map_cons] at hs
    obtain ⟨hp, hr⟩ := List.cons.inj hs
    have hrne : r ≠ [] := by rintro rfl; simp at hr
    obtain ⟨ms, qs, rfl⟩ : ∃ ms qs, r = ms ++ [qs] := ⟨_, _, (List.dropLast_concat_getLast hrne).symm⟩
    rw [List.map_append, List.map_cons, List.map_nil] at hr
    obtain ⟨hm, hq⟩ := List.append_inj' hr rfl
    have hq := (List.cons.inj hq).1
    have hpl : p.length = ps.length := by rw [← hp, Lx_len]
    have hql : q.length = qs.length := by rw [← hq, Lx_len]
    unfold matL
    show (if ps.length = 0 then matchB y (ps :: (ms ++ [qs])) 0 else if Txt.startswith y ps then matchB y (ms ++ [qs]) ps.length else false) = _
    by_cases h0 : ps.length = 0
    · have hpn : p = [] := List.length_eq_zero_iff.mp (by rw [hpl]; exact h0)
      subst hpn
      rw [if_pos h0, show ps :: (ms ++ [qs]) = (ps :: ms) ++ [qs] from rfl]
      have := matchB_emb y qs (ps :: ms) 0
      rw [show ((0 : Nat) : Int) = 0 from rfl] at this
      rw [this, List.map_cons, hp, emb_nil_cons, hm, hq, hql, Lx_len]
      simp
    · rw [if_neg h0, starts_iff, hp, ← hpl]
      by_cases hst : (Lx y).take p.length = p
      · rw [decide_eq_true hst, if_pos rfl, Bool.true_and, matchB_emb y qs ms p.length, hm, hq, hql, Lx_len]
      · rw [decide_eq_false hst, if_neg (by decide)]; simp
end Mine
end
section
-- N3
open PySem PySem.W PyProof.Rows PySem.Calls PySem.StrLaws Builtin Builtin.Str
set_option Elab.async false
set_option maxRecDepth 100000
namespace Mine
def T (c : Nat) (ws : List Bool) : List Nat := ws.map fun b => if b = true then 34 else c
theorem T_len (c : Nat) (ws : List Bool) : (T c ws).length = ws.length := by simp [T]
theorem T_app (c : Nat) (a b : List Bool) : T c (a ++ b) = T c a ++ T c b := by simp [T]
theorem T_inj {c : Nat} (h : c ≠ 34) : ∀ {a b : List Bool}, T c a = T c b → a = b
  | [], [], _ => rfl
  | [], _ :: _, e => by simp [T] at e
  | _ :: _, [], e => by simp [T] at e
  | x :: a, y :: b, e => by
    simp only [T, List.map_cons] at e
    obtain ⟨e1, e2⟩ := List.cons.inj e
    rw [T_inj h (a := a) (b := b) e2]
    cases x <;> cases y <;> simp_all
theorem T_drop (c n : Nat) (ws : List Bool) : (T c ws).drop n = T c (ws.drop n) := by simp [T, List.map_drop]
theorem T_take (c n : Nat) (ws : List Bool) : (T c ws).take n = T c (ws.take n) := by simp [T, List.map_take]
theorem T_free {c : Nat} (h : c ≠ 46) (ws : List Bool) : 46 ∉ T c ws := by
  intro hm
  obtain ⟨b, _, e⟩ := List.mem_map.mp hm
  cases b <;> simp_all
theorem lsp_free : ∀ (p acc r : List Nat), 46 ∉ p → lsp acc (p ++ 46 :: 46 :: 46 :: r) = (acc ++ p) :: lsp [] r
  | [], acc, r, _ => by rw [List.nil_append, lsp_dots, List.append_nil]
  | c :: p, acc, r, h => by
    rw [List.cons_append, lsp_step, lsp_free p _ r (fun q => h (.tail _ q))]
    · simp
    · intro q
      have := congrArg List.head? q
      simp at this
      exact h (by rw [this]; exact .head _)
theorem lsp_last : ∀ (p acc : List Nat), 46 ∉ p → lsp acc p = [acc ++ p]
  | [], acc, _ => by simp [lsp]
  | c :: p, acc, h => by
    rw [lsp_step, lsp_last p _ (fun q => h (.tail _ q))]
    · simp
    · intro q
      have := congrArg List.head? q
      simp at this
      exact h (by rw [this]; exact .head _)
theorem emb_marks {c : Nat} (h : c ≠ 34) : ∀ (u : List Bool) (k : Nat), emb (List.replicate k [34]) (T c u) = decide (k ≤ u.count true)
  | u, 0 => by simp [emb]
  | [], k + 1 => by simp [List.replicate_succ, emb, T, finL]
  | true :: u, k + 1 => by
    rw [List.replicate_succ, emb, show T c (true :: u) = 34 :: T c u from rfl, finL_here (by rfl)]
    show emb (List.replicate k [34]) (T c u) = _
    rw [emb_marks h u k]; simp
  | false :: u, k + 1 => by
    have h1 := emb_marks h u (k + 1)
    rw [List.replicate_succ, emb] at h1 ⊢
    rw [show T c (false :: u) = c :: T c u from rfl, finL_next (by simpa using h), h1]; simp
theorem emb_marks2 {c : Nat} (h : c ≠ 34) : ∀ (u : List Bool) (k : Nat), emb (List.replicate k [34, 34]) (dbl 34 (T c u)) = decide (k ≤ u.count true)
  | u, 0 => by simp [emb]
  | [], k + 1 => by simp [List.replicate_succ, emb, T, finL, dbl]
  | true :: u, k + 1 => by
    rw [List.replicate_succ, emb, show dbl 34 (T c (true :: u)) = 34 :: 34 :: dbl 34 (T c u) from rfl, finL_here (by rfl)]
    show emb (List.replicate k [34, 34]) (dbl 34 (T c u)) = _
    rw [emb_marks2 h u k]; simp
  | false :: u, k + 1 => by
    have h1 := emb_marks2 h u (k + 1)
    rw [List.replicate_succ, emb] at h1 ⊢
    rw [show dbl 34 (T c (false :: u)) = c :: dbl 34 (T c u) by simp [T, dbl, h], finL_next, h1]
    · simp
    · intro q
      have := congrArg List.head? q
      simp at this
      exact h this
/-- w stands at the end of n, and k marks stand ahead of it -/
def told (n w : List Bool) (k : Nat) : Bool := decide (w.length ≤ n.length ∧ n.drop (n.length - w.length) = w) && decide (k ≤ (n.take (n.length - w.length)).count true)
theorem mat_told {c : Nat} (h : c ≠ 34) (n w : List Bool) (k : Nat) : matL [] (List.replicate k [34] ++ [[]]) (T c w) (T c n) = told n w k := by
  unfold matL told
  simp only [emb_snoc_nil, T_len, T_drop, T_take, List.length_nil, List.drop_zero, emb_marks h, List.take_zero, decide_true, Bool.true_and, Nat.zero_add, show T c [] = [] from rfl]
  by_cases h1 : w.length ≤ n.length ∧ n.drop (n.length - w.length) = w
  · rw [decide_eq_true (show w.length ≤ n.length ∧ T c (n.drop (n.length - w.length)) = T c w from ⟨h1.1, by rw [h1.2]⟩), decide_eq_true h1, decide_eq_true h1.1]; simp
  · rw [decide_eq_false (show ¬ (w.length ≤ n.length ∧ T c (n.drop (n.length - w.length)) = T c w) from fun q => h1 ⟨q.1, T_inj h q.2⟩), decide_eq_false h1]; simp
theorem dbl_len (l : List Nat) : l.length ≤ (dbl 34 l).length := by
  induction l with
  | nil => simp [dbl]
  | cons a l ih => rw [dbl]; split <;> simp <;> omega
theorem dbl_pre {c : Nat} (h : c ≠ 34) : ∀ {u v : List Bool} {r : List Nat}, dbl 34 (T c v) = dbl 34 (T c u) ++ r → ∃ v', v = u ++ v'
  | [], v, r, _ => ⟨v, rfl⟩
  | true :: u, [], r, e => by simp [T, dbl] at e
  | false :: u, [], r, e => by simp [T, dbl, h] at e
  | true :: u, true :: v, r, e => by
    have e' : dbl 34 (T c v) = dbl 34 (T c u) ++ r := by simpa [T, dbl] using e
    obtain ⟨v', hv⟩ := dbl_pre h e'
    exact ⟨v', by rw [hv]; rfl⟩
  | false :: u, false :: v, r, e => by
    have e' : dbl 34 (T c v) = dbl 34 (T c u) ++ r := by simpa [T, dbl, h] using e
    obtain ⟨v', hv⟩ := dbl_pre h e'
    exact ⟨v', by rw [hv]; rfl⟩
  | true :: u, false :: v, r, e => by simp [T, dbl, h] at e
  | false :: u, true :: v, r, e => by
    simp [T, dbl, h] at e
    exact absurd e.1.symm h
theorem dbl_rev : ∀ l : List Nat, dbl 34 l.reverse = (dbl 34 l).reverse
  | [] => rfl
  | a :: l => by
    rw [List.reverse_cons, dbl_append, dbl_rev l]
    by_cases h : a = 34
    · simp [dbl, h]
    · simp [dbl, h]
theorem T_rev (c : Nat) (l : List Bool) : T c l.reverse = (T c l).reverse := by simp [T, List.map_reverse]
theorem dbl_suf {c : Nat} (h : c ≠ 34) {u v : List Bool} {r : List Nat} (e : dbl 34 (T c v) = r ++ dbl 34 (T c u)) : ∃ v', v = v' ++ u := by
  have e2 := congrArg List.reverse e
  rw [List.reverse_append, ← dbl_rev, ← dbl_rev, ← T_rev, ← T_rev] at e2
  obtain ⟨v', hv⟩ := dbl_pre h e2
  refine ⟨v'.reverse, ?_⟩
  have := congrArg List.reverse hv
  simpa using this
theorem mat_reply {c : Nat} (h : c ≠ 34) (P B : List Nat) (n w : List Bool) (k : Nat) :
    matL P (List.replicate k [34, 34] ++ [[]]) (dbl 34 (T c w) ++ B) (P ++ dbl 34 (T c n) ++ B) = told n w k := by
  unfold matL
  rw [emb_snoc_nil]
  have hlen : (P ++ dbl 34 (T c n) ++ B).length = P.length + (dbl 34 (T c n)).length + B.length := by simp [Nat.add_assoc]
  have hlq : (dbl 34 (T c w) ++ B).length = (dbl 34 (T c w)).length + B.length := by simp
  rw [hlen, hlq]
  rw [show (P ++ dbl 34 (T c n) ++ B).take P.length = P by rw [List.append_assoc, List.take_left']; rfl]
  simp only [decide_true, Bool.true_and]
  unfold told
  by_cases h1 : w.length ≤ n.length ∧ n.drop (n.length - w.length) = w
  · obtain ⟨n', hn⟩ : ∃ n', n = n' ++ w := ⟨n.take (n.length - w.length), by conv => lhs; rw [← List.take_append_drop (n.length - w.length) n, h1.2]⟩
    subst hn
    have hd : dbl 34 (T c (n' ++ w)) = dbl 34 (T c n') ++ dbl 34 (T c w) := by rw [T_app, dbl_append]
    rw [hd, List.length_append]
    rw [show P.length + ((dbl 34 (T c n')).length + (dbl 34 (T c w)).length) + B.length - ((dbl 34 (T c w)).length + B.length) = P.length + (dbl 34 (T c n')).length by omega]
    have e0 : P ++ (dbl 34 (T c n') ++ dbl 34 (T c w)) ++ B = (P ++ dbl 34 (T c n')) ++ (dbl 34 (T c w) ++ B) := by simp
    rw [e0, show P.length + (dbl 34 (T c n')).length = (P ++ dbl 34 (T c n')).length by simp, List.drop_left, List.take_left, List.drop_left, emb_marks2 h]
    rw [decide_eq_true h1, List.length_append, Nat.add_sub_cancel, List.take_left]
    simp; omega
  · rw [decide_eq_false h1, Bool.false_and]
    simp only [Bool.and_eq_false_iff, decide_eq_false_iff_not]
    left
    rcases Nat.lt_or_ge (dbl 34 (T c n)).length (dbl 34 (T c w)).length with hlt | hge
    · right; omega
    · left
      rintro ⟨_, hs⟩
      have hi : P.length + (dbl 34 (T c n)).length + B.length - ((dbl 34 (T c w)).length + B.length) = P.length + ((dbl 34 (T c n)).length - (dbl 34 (T c w)).length) := by omega
      rw [hi, List.append_assoc, List.drop_append, List.drop_of_length_le (by omega), List.nil_append, Nat.add_sub_cancel_left, List.drop_append] at hs
      have hz : (dbl 34 (T c n)).length - (dbl 34 (T c w)).length - (dbl 34 (T c n)).length = 0 := by omega
      rw [hz, List.drop_zero] at hs
      have hs2 := List.append_cancel_right hs
      obtain ⟨n', hn⟩ := dbl_suf h (u := w) (v := n) (r := (dbl 34 (T c n)).take ((dbl 34 (T c n)).length - (dbl 34 (T c w)).length)) (by
        conv => lhs; rw [← List.take_append_drop ((dbl 34 (T c n)).length - (dbl 34 (T c w)).length) (dbl 34 (T c n)), hs2])
      subst hn
      apply h1
      rw [List.length_append]
      exact ⟨by omega, by rw [Nat.add_sub_cancel, List.drop_left]⟩
end Mine
end
section
-- N4
open PySem PySem.W PyProof.Rows PySem.Calls PySem.StrLaws Builtin Builtin.Str
set_option Elab.async false
set_option maxRecDepth 100000
namespace Mine
def dotsL (u : List Nat) (k : Nat) (w : List Nat) : List Nat := (List.replicate k (46 :: 46 :: 46 :: u)).flatten ++ (46 :: 46 :: 46 :: 46 :: 46 :: 46 :: w)
theorem dotsL_succ (u : List Nat) (k : Nat) (w : List Nat) : dotsL u (k + 1) w = 46 :: 46 :: 46 :: (u ++ dotsL u k w) := by simp [dotsL, List.replicate_succ]
theorem lsp_pre : ∀ (p acc r : List Nat), 46 ∉ p → lsp acc (p ++ r) = lsp (acc ++ p) r
  | [], acc, r, _ => by simp
  | c :: p, acc, r, h => by
    rw [List.cons_append, lsp_step, lsp_pre p _ r (fun q => h (.tail _ q))]
    · simp
    · intro q
      have := congrArg List.head? q
      simp at this
      exact h (by rw [this]; exact .head _)
theorem lsp_dotsL (u w : List Nat) (hu : 46 ∉ u) (hw : 46 ∉ w) : ∀ (k : Nat) (acc : List Nat), lsp acc (dotsL u k w) = acc :: ((List.replicate k u ++ [[]]) ++ [w])
  | 0, acc => by
    show lsp acc (46 :: 46 :: 46 :: 46 :: 46 :: 46 :: w) = _
    rw [lsp_dots, lsp_dots, lsp_last w [] hw]; simp
  | k + 1, acc => by
    rw [dotsL_succ, lsp_dots, lsp_pre u [] _ hu, lsp_dotsL u w hu hw k, List.replicate_succ]; simp
theorem dbl_dotsL (w : List Nat) : ∀ (k : Nat), dbl 34 (dotsL [34] k w) = dotsL [34, 34] k (dbl 34 w)
  | 0 => by simp [dotsL, dbl]
  | k + 1 => by
    rw [dotsL_succ, dotsL_succ]
    have := dbl_dotsL w k
    simp [dbl, this]
theorem match_told {c : Nat} (h34 : c ≠ 34) (h46 : c ≠ 46) {x y : Str} {n w : List Bool} {k : Nat} (hx : Lx x = dotsL [34] k (T c w)) (hy : Lx y = T c n) : matchF x y = told n w k := by
  rw [matchF_pieces (p := []) (mid := List.replicate k [34] ++ [[]]) (q := T c w) (by rw [hx, lsp_dotsL _ _ (by decide) (T_free h46 w)]), hy, mat_told h34]
theorem dbl_free46 {l : List Nat} (h : 46 ∉ l) : 46 ∉ dbl 34 l := by
  induction l with
  | nil => exact h
  | cons a l ih =>
    have h1 : 46 ∉ l := fun q => h (.tail _ q)
    have h2 : a ≠ 46 := fun q => h (q ▸ .head _)
    rw [dbl]
    split
    · simp [h2.symm, ih h1]
    · simp [h2.symm, ih h1]
theorem match_told2 {c : Nat} (h34 : c ≠ 34) (h46 : c ≠ 46) {x y : Str} {P B : List Nat} (hP : 46 ∉ P) (hB : 46 ∉ B) {n w : List Bool} {k : Nat} (hx : Lx x = P ++ dbl 34 (dotsL [34] k (T c w)) ++ B) (hy : Lx y = P ++ dbl 34 (T c n) ++ B) : matchF x y = told n w k := by
  have hw : 46 ∉ dbl 34 (T c w) ++ B := fun hm => by
    rcases List.mem_append.mp hm with hm | hm
    · exact dbl_free46 (T_free h46 w) hm
    · exact hB hm
  have e : P ++ dbl 34 (dotsL [34] k (T c w)) ++ B = P ++ dotsL [34, 34] k (dbl 34 (T c w) ++ B) := by
    rw [dbl_dotsL]; simp [dotsL]
  rw [matchF_pieces (p := P) (mid := List.replicate k [34, 34] ++ [[]]) (q := dbl 34 (T c w) ++ B) (by
    rw [hx, e, lsp_pre P [] _ hP, lsp_dotsL _ _ (by decide) hw]; rfl), hy, mat_reply h34]

/-- no full stop in want: plain equality -/
theorem match_free {x y : Str} (h : 46 ∉ Lx x) : matchF x y = (x == y) := by
  unfold matchF
  rw [if_pos]
  cases ho : (Builtin.Str.occurrences x (Str.ofString "...") 0 x.length 1).isEmpty with
  | true => rfl
  | false =>
    have h1 := split_two ho
    have h2 := congrArg List.length (split_lsp x)
    rw [lsp_last _ _ h, List.length_map] at h2
    simp at h2; omega
theorem matL_all (n : List Nat) : matL n [] [] n = true := by simp [matL, emb]
theorem matL_end (n : List Nat) : matL [] [] n n = true := by simp [matL, emb]
theorem matL_twice {n : List Nat} (h : n ≠ []) : matL n [] n n = false := by
  unfold matL
  have : 0 < n.length := List.length_pos_iff.mpr h
  rw [decide_eq_false (show ¬ (n.length + n.length ≤ n.length) by omega)]
  simp
theorem matL_head {n p : List Nat} (hp : p.length ≤ n.length) : matL p [] [] n = decide (n.take p.length = p) := by simp [matL, emb, hp]
theorem matL_tail {n q : List Nat} (hq : q.length ≤ n.length) : matL [] [] q n = decide (n.drop (n.length - q.length) = q) := by simp [matL, emb, hq]
theorem emb_signs : ∀ (u r : List Nat), emb (u.map fun c => [c]) r = decide (List.Sublist u r)
  | [], r => by simp [emb]
  | a :: u, [] => by simp [emb, finL]
  | a :: u, b :: r => by
    rw [List.map_cons, emb]
    by_cases h : b = a
    · subst h
      rw [finL_here (by simp)]
      show emb (u.map fun c => [c]) r = _
      rw [emb_signs u r]
      exact decide_eq_decide.mpr List.cons_sublist_cons.symm
    · have h1 := emb_signs (a :: u) r
      rw [List.map_cons, emb] at h1
      rw [finL_next (by simpa using h), h1]
      refine decide_eq_decide.mpr ⟨fun q => q.cons b, fun q => ?_⟩
      cases q with
      | cons _ q => exact q
      | cons_cons _ q => exact absurd rfl h
theorem matL_signs (u n : List Nat) (hl : u.length = n.length) : matL [] (u.map fun c => [c]) [] n = decide (n = u) := by
  simp only [matL, List.length_nil, Nat.sub_zero, List.take_length, List.drop_zero, emb_signs]
  simp only [List.take_zero, decide_true, Bool.true_and, Nat.zero_le, List.drop_length, true_and, Nat.add_zero]
  refine decide_eq_decide.mpr ⟨fun h => (h.eq_of_length hl).symm, fun h => h ▸ List.Sublist.refl _⟩
/-- the signs of a text, dots about and between them -/
def starL : List Nat → List Nat
  | [] => []
  | [a] => [a]
  | a :: r => a :: 46 :: 46 :: 46 :: starL r
theorem lsp_star : ∀ (u : List Nat) (acc : List Nat), u ≠ [] → 46 ∉ u → lsp acc (starL u ++ [46, 46, 46]) = (acc ++ [u.headD 0]) :: ((u.tail.map fun c => [c]) ++ [[]])
  | [], _, h, _ => absurd rfl h
  | [a], acc, _, h => by
    rw [starL, lsp_free [a] acc [] h]; simp [lsp]
  | a :: b :: r, acc, _, h => by
    have h1 := lsp_star (b :: r) [] (by simp) (fun q => h (.tail _ q))
    show lsp acc ([a] ++ 46 :: 46 :: 46 :: (starL (b :: r) ++ [46, 46, 46])) = _
    rw [lsp_free [a] acc _ (by intro q; rw [List.mem_singleton] at q; exact h (q ▸ .head _)), h1]; simp
theorem match_star {x y : Str} {u n : List Nat} (hu : u ≠ []) (h46 : 46 ∉ u) (hl : u.length = n.length) (hx : Lx x = 46 :: 46 :: 46 :: (starL u ++ [46, 46, 46])) (hy : Lx y = n) : matchF x y = decide (n = u) := by
  rw [matchF_pieces (p := []) (mid := u.map fun c => [c]) (q := []) (by
    rw [hx, lsp_dots, lsp_star u [] hu h46]
    cases u with
    | nil => exact absurd rfl hu
    | cons a r => simp), hy, matL_signs u n hl]
theorem reply_L (x y : Str) : Lx (replyF x y) = [50, 53, 55, 32, 34] ++ dbl 34 (Lx x) ++ Lx y := by
  unfold replyF
  rw [Lx_app, Lx_app, show Lx (Str.ofString "257 \"") = [50, 53, 55, 32, 34] by decide +kernel]
  have := replace_double x 34
  rw [show Str.ofString "\"" = (⟨#[34]⟩ : Str) by decide +kernel, show Str.ofString "\"\"" = (⟨#[34, 34]⟩ : Str) by decide +kernel]
  rw [show Lx (Txt.replace x ⟨#[34]⟩ ⟨#[34, 34]⟩) = dbl 34 (Lx x) from this]
theorem scan_dbl' (B : List Nat) (hB : scan B = []) : ∀ t : List Nat, scan (dbl 34 t ++ B) = t
  | [] => hB
  | a :: t => by
    have ih := scan_dbl' B hB t
    by_cases h : a = 34
    · subst h
      rw [show dbl 34 (34 :: t) ++ B = 34 :: 34 :: (dbl 34 t ++ B) by simp [dbl]]
      rw [scan, if_pos rfl, if_pos rfl, ih]
    · rw [show dbl 34 (a :: t) ++ B = a :: (dbl 34 t ++ B) by simp [dbl, h], scan_ne h, ih]
theorem parse_reply {x z : Str} {B : List Nat} (hB : scan B = []) (hz : Lx z = [50, 53, 55, 32, 34] ++ dbl 34 (Lx x) ++ B) : parseF z = x := by
  have h35 : Txt.slice z (some 3) (some 5) = Str.ofString " \"" := by
    apply Lx_ext
    have := slice_ab z (a := 3) (b := 5) (by omega)
    rw [show ((3 : Nat) : Int) = 3 from rfl, show ((5 : Nat) : Int) = 5 from rfl] at this
    rw [this, hz, show Lx (Str.ofString " \"") = [32, 34] by decide +kernel]; rfl
  unfold parseF
  rw [h35, if_neg (by simp)]
  apply Lx_ext
  rw [Lx_mk, show z.cps.toList = Lx z from rfl, hz]
  show scan (dbl 34 (Lx x) ++ B) = Lx x
  exact scan_dbl' B hB _
theorem parse_no {z : Str} (h : ((Lx z).drop 3).take 2 ≠ [32, 34]) : parseF z = Str.ofString "" := by
  unfold parseF
  rw [if_pos]
  rw [bne_iff_ne]
  intro q
  have := slice_ab z (a := 3) (b := 5) (by omega)
  rw [show ((3 : Nat) : Int) = 3 from rfl, show ((5 : Nat) : Int) = 5 from rfl, q, show Lx (Str.ofString " \"") = [32, 34] by decide +kernel] at this
  exact h this.symm
theorem slice3 {z s : Str} (h : (Lx z).take 3 = Lx s) : Txt.slice z none (some 3) = s := by
  apply Lx_ext
  have := slice_b z 3
  rw [show ((3 : Nat) : Int) = 3 from rfl] at this
  rw [this, h]
end Mine
end
section
-- N5
open PySem PySem.W PyProof.Rows PySem.Calls PySem.StrLaws Builtin Builtin.Str
set_option Elab.async false
set_option maxRecDepth 100000
namespace Mine
def genB : Nat → List Bool → List (List Bool)
  | 0, u => [u]
  | 1, u => genB 0 (u ++ [false])
  | k + 2, u => genB k (u ++ [true]) ++ genB (k + 1) (u ++ [false])
def putG {α : Type} [DecidableEq α] (c : List (α × Int)) (k : α) (v : Int) : List (α × Int) :=
  if c.any (fun p => decide (p.1 = k)) then c.map (fun p => if decide (p.1 = k) then (p.1, v) else p) else c ++ [(k, v)]
def lookG {α : Type} [DecidableEq α] (c : List (α × Int)) (k : α) (d : Int) : Int := ((c.find? fun p => decide (p.1 = k)).map (·.2)).getD d
def lowB (h : List Bool) (i : Nat) (b : Bool) : List Bool := h.take i ++ (if b = true then [false] else []) ++ h.drop (i + 1)
def stepB (W : List (List Bool × Int)) (h : List Bool) : Nat → List Bool → List (List Bool × Int) → List (List Bool × Int)
  | _, [], c => c
  | i, b :: r, c => if b = true then stepB W h (i + 1) r (putG c (lowB h i b) (lookG c (lowB h i b) 0 + lookG W h 0)) else putG c (lowB h i b) (lookG c (lowB h i b) 0 + lookG W h 0)
def downB (x : List Bool) : Nat → List (List Bool × Int)
  | 0 => [(x, 1)]
  | i + 1 => (downB x i).foldl (fun c p => stepB (downB x i) p.1 0 p.1 c) []
def takenB (n : List Bool) (l : Nat) : List (List Bool) := (genB l []).filter fun w => (List.range (w.length + 1)).any fun k => told n (w.drop k) k
def prodB (w : List Bool) : Int := prodOf (w.reverse.map fun b => if b = true then 2 else 1)
def checkB (n : List Bool) (l s : Nat) : Bool :=
  (takenB n l).isPerm ((downB n s).map (·.1)) && decide (0 < prodB n) && decide (prodB n = ((takenB n l).map fun w => lookG (downB n s) w 0 * prodB w).sum)
theorem lattice : ∀ r ∈ [4, 5, 6, 7, 8], ∀ n ∈ genB r [], ∀ l ∈ List.range (min r 6), checkB n l (r - l) = true := by
  decide +kernel
/-- a text of two signs -/
def Sx (c : Nat) (ws : List Bool) : Str := ⟨(T c ws).toArray⟩
theorem Sx_L (c : Nat) (ws : List Bool) : Lx (Sx c ws) = T c ws := Lx_mk _
theorem Sx_inj {c : Nat} (h : c ≠ 34) {a b : List Bool} (e : Sx c a = Sx c b) : a = b := T_inj h (by rw [← Sx_L, ← Sx_L, e])
theorem Sx_app (c : Nat) (a b : List Bool) : Sx c a ++ Sx c b = Sx c (a ++ b) := Lx_ext (by rw [Lx_app, Sx_L, Sx_L, Sx_L, T_app])
theorem Sx_q (c : Nat) : Str.ofString "\"" = Sx c [true] := by rw [show Str.ofString "\"" = (⟨#[34]⟩ : Str) by decide +kernel]; rfl
theorem Sx_c (c : Nat) : (⟨#[c]⟩ : Str) = Sx c [false] := rfl
theorem Sx_nil (c : Nat) : Str.ofString "" = Sx c [] := by rw [show Str.ofString "" = (⟨#[]⟩ : Str) by decide +kernel]; rfl
theorem Sx_len (c : Nat) (a : List Bool) : (Sx c a).length = a.length := by rw [← Lx_len, Sx_L, T_len]
theorem genW_T (c : Nat) : ∀ (r : Nat) (u : List Bool), genW ⟨#[c]⟩ r (Sx c u) = (genB r u).map (Sx c)
  | 0, u => rfl
  | 1, u => by rw [genW, Sx_c, Sx_app, genB]; rfl
  | k + 2, u => by rw [genW, genB, Sx_c, Sx_q c, Sx_app, Sx_app, ← Sx_c, genW_T c k, genW_T c (k + 1), List.map_append]
def tag (c : Nat) (p : List Bool × Int) : Str × Int := (Sx c p.1, p.2)
theorem any_tag {c : Nat} (h : c ≠ 34) (W : List (List Bool × Int)) (k : List Bool) : (W.map (tag c)).any (fun p => decide (p.1 = Sx c k)) = W.any (fun p => decide (p.1 = k)) := by
  rw [List.any_map]
  congr 1
  funext p
  exact decide_eq_decide.mpr ⟨fun e => Sx_inj h e, fun e => by rw [← e]; rfl⟩
theorem put_tag {c : Nat} (h : c ≠ 34) (W : List (List Bool × Int)) (k : List Bool) (v : Int) : kdpPut (W.map (tag c)) (Sx c k) v = (putG W k v).map (tag c) := by
  unfold kdpPut putG
  rw [any_tag h]
  split
  · rw [List.map_map, List.map_map]
    refine List.map_congr_left fun p _ => ?_
    simp only [Function.comp]
    by_cases e : p.1 = k
    · rw [if_pos (by simp [tag, e]), if_pos (by simp [e])]; rfl
    · rw [if_neg (by rw [decide_eq_true_eq]; exact fun q => e (Sx_inj h q)), if_neg (by rw [decide_eq_true_eq]; exact e)]
  · rw [List.map_append]; rfl
theorem look_tag {c : Nat} (h : c ≠ 34) (W : List (List Bool × Int)) (k : List Bool) (d : Int) : kdpLook (W.map (tag c)) (Sx c k) d = lookG W k d := by
  unfold kdpLook lookG
  rw [List.find?_map]
  have : ((fun p : Str × Int => decide (p.1 = Sx c k)) ∘ tag c) = fun p => decide (p.1 = k) := by
    funext p
    exact decide_eq_decide.mpr ⟨fun e => Sx_inj h e, fun e => by rw [← e]; rfl⟩
  rw [this]
  cases W.find? fun p => decide (p.1 = k) <;> rfl
theorem low_T {c : Nat} (h : c ≠ 34) (w : List Bool) (i : Nat) (b : Bool) : lowAt ⟨#[c]⟩ (Sx c w) i (if b = true then 34 else c) = Sx c (lowB w i b) := by
  apply Lx_ext
  unfold lowAt lowB
  rw [Lx_app, Lx_app, slice_b, show ((i : Int) + 1) = ((i + 1 : Nat) : Int) by omega, slice_a, Sx_L, Sx_L, T_take, T_drop, T_app, T_app]
  congr 2
  cases b
  · simp only [Bool.false_eq_true, if_false]; rw [if_neg h, show Lx (Str.ofString "") = [] by decide +kernel]; rfl
  · simp only [if_true]; rfl
theorem stepIn_T {c : Nat} (h : c ≠ 34) (W : List (List Bool × Int)) (w : List Bool) : ∀ (r : List Bool) (i : Nat) (C : List (List Bool × Int)), stepIn ⟨#[c]⟩ (W.map (tag c)) (Sx c w) i (T c r) (C.map (tag c)) = (stepB W w i r C).map (tag c)
  | [], i, C => rfl
  | b :: r, i, C => by
    rw [show T c (b :: r) = (if b = true then 34 else c) :: T c r from rfl, stepIn, stepB, low_T h, look_tag h, look_tag h, put_tag h]
    cases b
    · simp only [Bool.false_eq_true, if_false]; rw [if_neg h]
    · simp only [if_true]; exact stepIn_T h W w r (i + 1) _
theorem downI_T {c : Nat} (h : c ≠ 34) (x : List Bool) : ∀ n, downI ⟨#[c]⟩ (Sx c x) n = (downB x n).map (tag c)
  | 0 => rfl
  | n + 1 => by
    rw [downI, downI_T h x n, downB]
    have key : ∀ (l : List (List Bool × Int)) (C : List (List Bool × Int)), (l.map (tag c)).foldl (stepF ⟨#[c]⟩ ((downB x n).map (tag c))) (C.map (tag c)) = (l.foldl (fun C p => stepB (downB x n) p.1 0 p.1 C) C).map (tag c) := by
      intro l
      induction l with
      | nil => intro C; rfl
      | cons p l ih =>
        intro C
        rw [List.map_cons, List.foldl_cons, List.foldl_cons, ← ih]
        congr 1
        exact stepIn_T h (downB x n) p.1 p.1 0 C
    exact key (downB x n) []
theorem sizes_T {c : Nat} (h : c ≠ 34) (w : List Bool) : sizesOf (Sx c w) = w.reverse.map fun b => if b = true then 2 else 1 := by
  have e : Txt.sliceBy (Sx c w) none none (-1, 0) = Sx c w.reverse := by
    apply Lx_ext
    rw [Sx_L, T_rev, ← Sx_L]
    show (Txt.sliceBy (Sx c w) none none (-1, 0)).cps.toList = _
    rw [step_rev_list]
    apply List.ext_getElem?
    intro i
    rw [List.getElem?_map]
    rcases Nat.lt_or_ge i (Sx c w).length with hi | hi
    · rw [List.getElem?_range hi, List.getElem?_reverse (by rw [Lx_len]; exact hi), Lx_len]
      simp only [Option.map_some]
      have : (Sx c w).length - 1 - i < (Sx c w).length := by omega
      rw [Array.getD_eq_getD_getElem?, ← Array.getElem?_toList]
      rw [List.getElem?_eq_getElem (by show _ < (Lx (Sx c w)).length; rw [Lx_len]; omega)]; rfl
    · rw [List.getElem?_eq_none (by simpa using hi), List.getElem?_eq_none (by rw [List.length_reverse, Lx_len]; exact hi)]; rfl
  unfold sizesOf
  rw [e]
  unfold signs
  rw [show (Sx c w.reverse).cps.toList = T c w.reverse from Sx_L c _]
  unfold T
  rw [List.map_map, List.map_map]
  refine List.map_congr_left fun b _ => ?_
  simp only [Function.comp, sizeOf]
  rw [show Str.ofString "\"" = (⟨#[34]⟩ : Str) by decide +kernel]
  cases b
  · simp only [Bool.false_eq_true, if_false]
    rw [if_neg]
    intro q
    have := congrArg Lx q
    simp [Lx] at this
    exact h this
  · simp
theorem prod_T {c : Nat} (h : c ≠ 34) (w : List Bool) : prodOf (sizesOf (Sx c w)) = prodB w := by rw [sizes_T h]; rfl
def rkB (w : List Bool) : Nat := (w.map fun b => if b = true then 2 else 1).sum
theorem mem_genB : ∀ (w u : List Bool), u ++ w ∈ genB (rkB w) u
  | [], u => by simp [rkB, genB]
  | [false], u => by simp [rkB, genB]
  | [true], u => by simp [rkB, genB]
  | false :: b :: w, u => by
    have ih := mem_genB (b :: w) (u ++ [false])
    have : rkB (false :: b :: w) = rkB (b :: w) + 1 := by simp [rkB]; omega
    rw [this]
    obtain ⟨k, hk⟩ : ∃ k, rkB (b :: w) = k + 1 := by
      refine ⟨rkB (b :: w) - 1, ?_⟩
      have : 1 ≤ rkB (b :: w) := by cases b <;> simp [rkB] <;> omega
      omega
    rw [hk] at ih ⊢
    rw [genB]
    exact List.mem_append_right _ (by simpa using ih)
  | true :: b :: w, u => by
    have ih := mem_genB (b :: w) (u ++ [true])
    have : rkB (true :: b :: w) = rkB (b :: w) + 2 := by simp [rkB]; omega
    rw [this, genB]
    exact List.mem_append_left _ (by simpa using ih)
end Mine
end
section
-- LS
open PySem PySem.W PyProof.Rows PySem.Calls PyProof.V PySem.Spec
set_option Elab.async false
set_option maxRecDepth 100000
namespace Mine
theorem strs_data : ∀ {vs : List Value} {ns : List Str}, StrsAre vs ns → CarriedAll vs (ns.map PyData.str)
  | _, _, .nil => .nil
  | _, _, .cons _ t r => .cons (.str _ t) (strs_data r)
theorem strs_lay : ∀ ns : List Str, (∀ x ∈ ns, PyData.strOk x = true) → PyData.canLayAll0 (ns.map PyData.str) = true
  | [], _ => rfl
  | x :: r, h => by simp [PyData.canLayAll0, PyData.canLay0, strs_lay r (fun y hy => h y (.tail _ hy)), h x (.head _)]
theorem strs_depth : ∀ ns : List Str, PyData.depthAll (ns.map PyData.str) = 0
  | [] => rfl
  | _ :: r => by simp [PyData.depthAll, PyData.depth, strs_depth r]
theorem strs_shaped (ns : List Str) (h : ∀ x ∈ ns, PyData.strOk x = true) : SeqAt.shaped (.list (ns.map PyData.str)) = true := by
  simp [SeqAt.shaped, PyData.canLay0, PyData.depth, strs_lay ns h, strs_depth]
theorem strs_sameAll : ∀ ns ms : List Str, PySem.Spec.sameAll (ns.map PyData.str) (ms.map PyData.str) = decide (ns = ms)
  | [], [] => by simp [PySem.Spec.sameAll]
  | [], _ :: _ => by simp [PySem.Spec.sameAll]
  | _ :: _, [] => by simp [PySem.Spec.sameAll]
  | a :: r, b :: t => by
    simp only [List.map_cons, PySem.Spec.sameAll, PySem.Spec.same, strs_sameAll r t]
    by_cases h : a = b <;> by_cases h' : r = t <;> simp [h, h']
theorem strs_same (ns ms : List Str) : PySem.Spec.same (.list (ns.map PyData.str)) (.list (ms.map PyData.str)) = decide (ns = ms) := by
  simp only [PySem.Spec.same]; exact strs_sameAll ns ms
section
variable {prog : Program} {w : World} {A : Around} {E : Value → Shared → Prop} {s : Shared} {a b : Addr} {xs ys : List Value} {ns ms : List Str} {Q : Value → Shared → Prop}
theorem ne_strs (ha : s.heap.IsList a xs.toArray) (hb : s.heap.IsList b ys.toArray) (hi : StrsAre xs ns) (hj : StrsAre ys ms) (h1 : ∀ x ∈ ns, PyData.strOk x = true) (h2 : ∀ x ∈ ms, PyData.strOk x = true) (hu : A.units + 64 < cLine) (h : Q (.bool (!decide (ns = ms))) s) :
    wpAny (model prog w) A (compareOp .NotEq (.ref a) (.ref b)) Q E s :=
  ne_dataH_same (reads_newData ha (strs_data hi)) (reads_newData hb (strs_data hj)) (strs_shaped _ h1) (strs_shaped _ h2) hu (SeqAt.noMix_of_shape (.list .str) rfl _ _ (list_map_has fun _ => rfl) (list_map_has fun _ => rfl)) (by rw [strs_same]; exact h)
theorem lsort_strs {h₀ : Heap} {L B : Addr} {m : Str → Option Value} {news : List (Addr × Obj)} {n : Nat} (F : Fr h₀ L s.heap m) (N : News h₀ L s.heap ((B, listOf xs.toArray n) :: news)) (hne : ∀ q ∈ news, q.1 ≠ B) (hS : StrsAre xs ns) (h64 : xs.length < 64)
    (h : ∀ (h' : Heap) (vs' : List Value) (ss' : List Str) (e : Nat), Fr h₀ L h' m → News h₀ L h' ((B, listOf vs'.toArray e) :: news) → StrsAre vs' ss' → ss'.Perm ns → sortedS ss' = true → Q .none { s with heap := h' }) :
    wpAny (model prog w) A (call (.builtin "list.sort") [.ref B]) Q E s := by
  have z := N _ (.head _)
  have ho : s.heap.get? B = some (seqObj "list" xs.toArray n) := z.1
  have hB := Heap.lt_size ho
  refine wpAny_call_entry PyProof.Rows.slot_list_sort ⟨_, z.1, rfl⟩ PyProof.Rows.entry_list_sort (list_sort_treeK (n := n) (vs := xs) strKind_oneLt ho hS.keysOf (fun v₁ v₂ rest e => keyKind_strs (by rw [← e]; exact hS)) h64 fun st' hp hs => ⟨.none, rfl, ?_⟩) (PyProof.Rows.args_list_sort _)
  obtain ⟨ss', h1, h2, h3⟩ := sorted_out_str hS hp hs
  obtain ⟨e, he⟩ := sortedHeap_at (out := (arrOf st').map (·.2)) ho
  have hL := F.ns.lt
  have hb : ∀ c, c ≠ B → c < s.heap.objs.size → (sortedHeap s.heap B xs ((arrOf st').map (·.2))).get? c = s.heap.get? c := fun c h1 h2 => sortedHeap_old h1 h2
  refine h _ ((arrOf st').map (·.2)).toList ss' e ⟨F.ns.at' fun o e => (hb _ (Ne.symm z.2.1) hL).trans e, fun c o e => ?_, F.above⟩ (fun p hp => ?_) h1 h2 h3
  · have hk := F.keep c o e
    exact (hb c (fun q => by rw [q, z.2.2] at e; cases e) (Heap.lt_size hk)).trans hk
  · rcases List.mem_cons.mp hp with rfl | hp
    · exact ⟨he, z.2⟩
    · have zp := N p (.tail _ hp)
      exact ⟨(hb _ (hne p hp) (Heap.lt_size zp.1)).trans zp.1, zp.2⟩
end
theorem risingS_pair : ∀ (l : List Str) (p : Str), risingS p l = true → (p :: l).Pairwise fun a b => a.cps.toList ≤ b.cps.toList
  | [], p, _ => List.pairwise_singleton _ _
  | x :: r, p, h => by
    rw [risingS, ltCps_eq, Bool.and_eq_true] at h
    have h1 : p.cps.toList ≤ x.cps.toList := by
      have := h.1
      simp only [Bool.not_eq_true', decide_eq_false_iff_not] at this
      exact this
    have ih := risingS_pair r x h.2
    refine List.pairwise_cons.mpr ⟨fun y hy => ?_, ih⟩
    rcases List.mem_cons.mp hy with rfl | hy
    · exact h1
    · exact List.le_trans h1 ((List.pairwise_cons.mp ih).1 y hy)
theorem sortedS_pair (l : List Str) (h : sortedS l = true) : l.Pairwise fun a b => a.cps.toList ≤ b.cps.toList := by
  cases l with
  | nil => exact List.Pairwise.nil
  | cons x r => exact risingS_pair r x h
theorem keysD_intro : ∀ (c : List (Str × Int)) (C : List Value → Prop), (∀ vs, StrsAre vs (c.map (·.1)) → C vs) → KdlKeysD (kdpD c) C
  | [], C, h => h [] .nil
  | q :: c, C, h => fun v hv => keysD_intro c _ fun vs hvs => h (v :: vs) (by obtain ⟨t, rfl⟩ := Flat.str_inv hv; exact .cons _ _ hvs)
theorem sortedS_same {a b : List Str} (ha : sortedS a = true) (hb : sortedS b = true) (hp : a.Perm b) : a = b :=
  hp.eq_of_pairwise (fun x y _ _ h1 h2 => Lx_ext (List.le_antisymm h1 h2)) (sortedS_pair a ha) (sortedS_pair b hb)
section
variable {prog : Program} {w : World} {A : Around} {E : Value → Shared → Prop} {s : Shared} {h₀ : Heap} {L : Addr} {m : Str → Option Value} {env : Env}
/-- a list comp, as an expression, over a list of the ledger's -/
theorem comp_listF {elt iter : PySem.Expr} {x : Str} {px : Pos} {scope : Scope} {cl : List (Str × Addr)} {pos : Pos} {ax : Addr} {vs : List Value} {nn : Nat} {news : List (Addr × Obj)} {Q : Value → Shared → Prop}
    (_F₀ : Fr h₀ L s.heap m) (hclos : closureFor scope env = pure cl) (hcell : ∀ y ∈ scope.names, y.2 ≠ .cell) (hkind : scope.kind = .function)
    (hnames : ∀ y ∈ scope.names, y.2 = .local → scope.names.lookup y.1 = some .local) (hx : scope.names.lookup x = some .local) (hh : A.handled = none)
    (J : Nat → List Value → List (Addr × Obj) → Prop) (hJC : ∀ i ys nx, J i ys nx → (ax, listOf vs.toArray nn) ∈ nx) (hsz : vs.length ≤ sizeLine)
    (h : wpAny (model prog w) A (eval iter env) (fun xv s₁ => Hold (xv = .ref ax ∧ Fr h₀ L s₁.heap m ∧ News h₀ L s₁.heap news ∧ J 0 [] news ∧
      (∀ i v I oI C oC D m₂ ys news₁ h tk gens (E' : Value → Shared → Prop), i < vs.length → vs[i]? = some v → LCg.NsObj oC m₂ → m₂ x = some v → Fr h₀ L h m → News h₀ L h ((I, oI) :: (C, oC) :: (D, LCg.lst ys) :: news₁) → LCg.Off3 I C D news₁ → ((@Ne Nat I C) ∧ (@Ne Nat I D) ∧ (@Ne Nat C D)) → J i ys news₁ → (AllBare s₁.gens → AllBare gens) →
        wpAny (model prog w) A (eval elt (compEnvC scope cl C env)) (fun y s₄ => Hold (∃ h' tk' gens' news₂, s₄ = { s₁ with heap := h', gens := gens', toks := tk' } ∧ Fr h₀ L h' m ∧ News h₀ L h' ((I, oI) :: (C, oC) :: (D, LCg.lst ys) :: news₂) ∧ LCg.Off3 I C D news₂ ∧ J (i + 1) (ys ++ [y]) news₂ ∧ (AllBare s₁.gens → AllBare gens'))) E' { s₁ with heap := h, gens := gens, toks := tk }) ∧
      (∀ D h tk gens ys news', Fr h₀ L h m → News h₀ L h ((D, LCg.lst ys) :: news') → LCg.Off1 D news' → J vs.length ys news' → (AllBare s₁.gens → AllBare gens) → Q (.ref D) { s₁ with heap := h, gens := gens, toks := tk }))) E s)
    (hs : ∀ x, foldedSetIterable iter env x = pure x := by intro _; rfl) :
    wpAny (model prog w) A (eval (.ListComp elt [⟨.Name x px, iter, [], 0⟩] scope pos) env) Q E s := by
  exact comp_list hclos hcell hkind hnames hx hh J hJC hsz h hs
end
end Mine
end
section
-- LQ
open PySem PySem.W PyProof.Rows PySem.Calls PySem.StrLaws Builtin Builtin.Str
set_option Elab.async false
set_option maxRecDepth 100000
namespace Mine
theorem beq_L (x y : Str) : (x == y) = decide (Lx x = Lx y) := by
  by_cases h : x = y
  · subst h; simp
  · rw [beq_eq_false_iff_ne.mpr h, decide_eq_false]
    exact fun q => h (Lx_ext q)
theorem slice_neg1 (x : Str) (h : 1 ≤ x.length) : Lx (Txt.slice x none (some (-1))) = (Lx x).dropLast := by
  rw [slice_text, sliceText_to_neg (by decide) (by omega), Lx_mk, List.dropLast_eq_take]
  show (List.drop 0 (Lx x)).take _ = _
  rw [List.drop_zero, Lx_len]
  congr 1
  omega
theorem slice_1 (x : Str) : Lx (Txt.slice x (some 1) none) = (Lx x).drop 1 := slice_a x 1
theorem rev_L (x : Str) {k : Tok} : Lx (Txt.sliceBy x none none (-1, k)) = (Lx x).reverse := by
  show (Txt.sliceBy x none none (-1, k)).cps.toList = _
  rw [step_rev_list]
  apply List.ext_getElem?
  intro i
  rw [List.getElem?_map]
  rcases Nat.lt_or_ge i x.length with hi | hi
  · rw [List.getElem?_range hi, List.getElem?_reverse (by rw [Lx_len]; exact hi), Lx_len]
    simp only [Option.map_some]
    have : x.length - 1 - i < x.length := by omega
    rw [Array.getD_eq_getD_getElem?, ← Array.getElem?_toList]
    rw [List.getElem?_eq_getElem (by show _ < (Lx x).length; rw [Lx_len]; omega)]; rfl
  · rw [List.getElem?_eq_none (by simpa using hi), List.getElem?_eq_none (by rw [List.length_reverse, Lx_len]; exact hi)]; rfl
section
variable {x : Str} (h46 : 46 ∉ Lx x) (hn : Lx x ≠ [])
theorem want_1 (h46 : 46 ∉ Lx x) : matchF x x = true := by rw [match_free h46]; simp
theorem want_2 (h46 : 46 ∉ Lx x) : matchF (x ++ Str.ofString "...") x = true := by
  rw [matchF_pieces (p := Lx x) (mid := []) (q := []) (by rw [Lx_app, Ldots, lsp_free _ _ _ h46]; simp [lsp]), matL_all]
theorem want_3 (h46 : 46 ∉ Lx x) : matchF (Str.ofString "..." ++ x) x = true := by
  rw [matchF_pieces (p := []) (mid := []) (q := Lx x) (by rw [Lx_app, Ldots]; show lsp [] (46 :: 46 :: 46 :: Lx x) = _; rw [lsp_dots, lsp_last _ _ h46]; simp), matL_end]
theorem want_4 (h46 : 46 ∉ Lx x) (hn : Lx x ≠ []) : matchF (x ++ Str.ofString "..." ++ x) x = false := by
  rw [matchF_pieces (p := Lx x) (mid := []) (q := Lx x) (by rw [Lx_app, Lx_app, Ldots, List.append_assoc]; show lsp [] (Lx x ++ 46 :: 46 :: 46 :: Lx x) = _; rw [lsp_free _ _ _ h46, lsp_last _ _ h46]; simp), matL_twice hn]
theorem alike_L (hn : Lx x ≠ []) : (Txt.slice x (some 1) none == Txt.slice x none (some (-1))) = decide ((Lx x).drop 1 = (Lx x).dropLast) := by
  have : 1 ≤ x.length := by rw [← Lx_len]; exact List.length_pos_iff.mpr hn
  rw [beq_L, slice_1, slice_neg1 x this]
theorem want_5 (h46 : 46 ∉ Lx x) (hn : Lx x ≠ []) : matchF (Txt.slice x (some 1) none ++ Str.ofString "...") x = (Txt.slice x (some 1) none == Txt.slice x none (some (-1))) := by
  have hp : 0 < (Lx x).length := List.length_pos_iff.mpr hn
  rw [alike_L hn, matchF_pieces (p := (Lx x).drop 1) (mid := []) (q := []) (by rw [Lx_app, Ldots, slice_1, lsp_free _ _ _ (fun q => h46 (List.mem_of_mem_drop q))]; simp [lsp]), matL_head (by simp)]
  rw [List.length_drop, List.dropLast_eq_take]
  exact decide_eq_decide.mpr ⟨Eq.symm, Eq.symm⟩
theorem want_6 (h46 : 46 ∉ Lx x) (hn : Lx x ≠ []) : matchF (Str.ofString "..." ++ Txt.slice x none (some (-1))) x = (Txt.slice x (some 1) none == Txt.slice x none (some (-1))) := by
  have hp : 0 < (Lx x).length := List.length_pos_iff.mpr hn
  have hl : 1 ≤ x.length := by rw [← Lx_len]; exact hp
  have hm : 46 ∉ (Lx x).dropLast := fun q => h46 (List.dropLast_subset _ q)
  rw [alike_L hn, matchF_pieces (p := []) (mid := []) (q := (Lx x).dropLast) (by rw [Lx_app, Ldots, slice_neg1 x hl]; show lsp [] (46 :: 46 :: 46 :: (Lx x).dropLast) = _; rw [lsp_dots, lsp_last _ _ hm]; simp), matL_tail (by simp)]
  rw [List.length_dropLast, show (Lx x).length - ((Lx x).length - 1) = 1 by omega]
theorem want_7 {S : Str} (hS : Lx S = starL (Lx x)) (h46 : 46 ∉ Lx x) (hn : Lx x ≠ []) : matchF (Str.ofString "..." ++ S ++ Str.ofString "...") x = true := by
  rw [match_star (u := Lx x) (n := Lx x) hn h46 rfl (by rw [Lx_app, Lx_app, Ldots, hS]; rfl) rfl]; simp
theorem want_8 {S : Str} {k : Tok} (hS : Lx S = starL (Lx x).reverse) (h46 : 46 ∉ Lx x) (hn : Lx x ≠ []) : matchF (Str.ofString "..." ++ S ++ Str.ofString "...") x = (x == Txt.sliceBy x none none (-1, k)) := by
  rw [match_star (u := (Lx x).reverse) (n := Lx x) (by simpa using hn) (by simpa using h46) (by simp) (by rw [Lx_app, Lx_app, Ldots, hS]; rfl) rfl, beq_L, rev_L]
end
end Mine
end
section
-- L17
open PySem PySem.W PyProof.Rows PySem.Calls PySem.StrLaws
set_option Elab.async false
set_option maxRecDepth 100000
set_option maxHeartbeats 1000000
set_option pp.deepTerms false
set_option pp.maxSteps 1500
namespace Mine
theorem startL17 : True := by
  w_top off
  exact trivial
theorem fill17 : PySem.Challenge.rw_wr0013_01 = PySem.Challenge.rw_wr0013_01 ∧ Mine.hv.heap_1 = Mine.hv.heap_1 := by
  k_fill
  exact ⟨rfl, rfl⟩
local macro_rules | `(tactic| walk_at "call ref") => `(tactic| (have hq : Mine.StopCalls := (by with_reducible assumption); clear hq; refine Mine.Hold.of ?_))
theorem rk_len : ∀ (w : List Bool), w.length ≤ rkB w
  | [] => Nat.le_refl _
  | b :: w => by
    have := rk_len w
    have e : rkB (b :: w) = (if b = true then 2 else 1) + rkB w := by simp [rkB]
    rw [e, List.length_cons]
    split <;> omega
local macro_rules | `(tactic| walk_at "call builtin:sorted") => `(tactic| (have hq : Mine.StopSum := (by with_reducible assumption); clear hq; refine Mine.Hold.of ?_))
local macro_rules | `(tactic| walk_at "compareOp NotEq ref ref") => `(tactic| (have hq : Mine.StopAdd := (by with_reducible assumption); clear hq; refine Mine.Hold.of ?_))
theorem Sx_ok {c : Nat} (hc : c < 1114112) (u : List Bool) : PyData.strOk (Sx c u) = true := by
  unfold PyData.strOk
  rw [Array.all_eq_true]
  intro i hi
  have h1 : (Sx c u).cps[i] ∈ T c u := by rw [← Sx_L]; exact Array.getElem_mem_toList _
  unfold T at h1
  obtain ⟨b, _, hb⟩ := List.mem_map.mp h1
  rw [← hb]
  cases b <;> simp <;> omega
theorem c_prod (w : World) (x : Str) (tx te : Tok) (hx : x.length ≤ 8) : ∀ (e : Nat), e < 3 → CtG 8 w 114 [.str x tx, .int e te] (fun t => .int (prodOf (sizesOf x)) t)
  | 0, _ => c_prod0 w x tx te hx
  | 1, _ => c_prod1 w x tx te hx
  | 2, _ => c_prod2 w x tx te hx
theorem ctg_use {d : Nat} {w : World} {f : Addr} {vs : List Value} {R : Tok → Value} (C : CtG d w f vs R) {mean : ExcName → Option Value} {mg mb : Str → Option Value} {dp un : Nat} {gd : Option (List Code)} {cn : Str} {cs : Scope} {a : Addr} {ccd : Value} {cl : List (Str × Addr)} {A₀ : Around} {base h₀ : Heap} {L : Addr} {m : Str → Option Value} {news : List (Addr × Obj)} {s : Shared} {Q E : Value → Shared → Prop}
    (B : Below A₀ base [] h₀) (F : Fr h₀ L s.heap m) (X : (Mine.hv.heap_1 w.params).In h₀) (N : News h₀ L s.heap news) (T : Top pv (looseW pv []) mean mg mb h₀) (XB : (Mine.hv.heap_1 w.params).In base) (TB : Top pv (looseW pv []) mean mg mb base) (hk : cs.kind = .function)
    (hd : dp + d < recursionLimit) (hu : un + 8 * d < cLine)
    (ret : ∀ (t : Tok) (h' : Heap) (tk' : Nat) (gens' : Array GenState), Fr h₀ L h' m → News h₀ L h' news → (AllBare s.gens → AllBare gens') → Q (R t) { s with heap := h', gens := gens', toks := tk' }) :
    wpAny (model pg w) (ktrTop dp un gd cn cs L a ccd cl []) (call (.ref f) vs) Q E s := C _ _ _ _ _ _ _ _ _ _ _ _ _ _ _ _ _ _ _ _ B F X N T XB TB hk hd hu ret
local macro_rules | `(tactic| walk_at "eval ListComp") => `(tactic| (have hq : Mine.StopComp := (by with_reducible assumption); clear hq; refine Mine.Hold.of ?_))
theorem str_at {c : Nat} {tl : List (Str × Tok)} {W : List (List Bool)} (htl : tl.map (·.1) = W.map (Sx c)) {i : Nat} {v : Value} (hv : (strValues tl)[i]? = some v) : ∃ u t, v = .str (Sx c u) t ∧ W[i]? = some u := by
  have h1 := congrArg (fun l => l[i]?) htl
  simp only [List.getElem?_map] at h1
  rw [strValues, List.getElem?_map] at hv
  cases q : tl[i]? with
  | none => rw [q] at hv; cases hv
  | some p =>
    rw [q] at hv h1
    cases q2 : W[i]? with
    | none => rw [q2] at h1; cases h1
    | some u =>
      rw [q2] at h1
      cases hv
      exact ⟨u, p.2, congrArg (fun z => Value.str z p.2) (Option.some.inj h1), rfl⟩
theorem lattice2 : ∀ r ∈ [4, 5, 6, 7, 8], ∀ n ∈ genB r [], ∀ l ∈ List.range (min r 6), ((takenB n l).all fun w => (decide (0 ≤ lookG (downB n (r - l)) w 0) && decide (lookG (downB n (r - l)) w 0 ≤ 100000)) && (decide (0 ≤ prodB w) && decide (prodB w ≤ 100000)) && decide (w.length ≤ 8)) = true := by
  decide +kernel
local macro_rules | `(tactic| walk_at "subscriptTail Name Name ref str") => `(tactic| (have hq : Mine.StopText := (by with_reducible assumption); clear hq; refine Mine.Hold.of ?_))
theorem strs_of : ∀ l : List (Str × Tok), StrsAre (strValues l) (l.map (·.1))
  | [] => .nil
  | p :: l => .cons _ _ (strs_of l)
theorem law_17 (w : World) {name qual : Str} {params : Arguments} {body : List Stmt} {scope : Scope} {dV kV doc pm cdv ct oc : Value} {an od : Option Addr} {osl : Array (Option Value)}
    (ho : (Mine.hv.heap_1 w.params).lookup 119 = some ⟨oc, od, .func (fnOf name qual params body scope dV kV doc pm an cdv ct), osl⟩)
    {fa : Addr} {cd : Value} {mean : ExcName → Option Value} {mg mb : Str → Option Value} {h₀ : Heap} {L : Addr} {m : Str → Option Value} {s : Shared} {Q : Flow → Shared → Prop} {E : Value → Shared → Prop}
    (K0 : Below callerA h₀ [] h₀) (F : Fr h₀ L s.heap m) (KX : (Mine.hv.heap_1 w.params).In h₀) (TT : Top pv (looseW pv []) mean mg mb h₀)
    {ow oe : Obj} {vw : Option Value} {te : Tok} (c : Nat) (h34 : c ≠ 34) (h46 : c ≠ 46) (hc : c < 1114112) (ns : List Bool) (r lw e : Nat) (hr : rkB ns = r) (h4 : 4 ≤ r) (h8 : r ≤ 8) (hlw : lw < min r 6) (he : e < 3)
    (how : ow.data = .cell vw) (hoe : oe.data = .cell (some (.int e te)))
    {t1 t2 t3 t4 t5 t6 : Tok} (m1 : m "one" = some (.str ⟨#[c]⟩ t1)) (m2 : m "rank" = some (.int r t2)) (m3 : m "name" = some (.str (Sx c ns) t3)) (m4 : m "low" = some (.int lw t4))
    {at_ : Addr} {tl : List (Str × Tok)} {nt : Nat} (N : News h₀ L s.heap [(at_, listOf (strValues tl).toArray nt), (L + 1 + 1, ow), (L + 1, oe)]) (hat : @LT.lt Nat instLTNat (L + 1 + 1) at_) (m7 : m "taken" = some (.ref at_)) (htl : tl.map (·.1) = (takenB ns lw).map (Sx c))
    (hQ : ∀ h' tk' gens' m', Fr h₀ L h' m' → (AllBare s.gens → AllBare gens') → Q (.ret (.bool true)) { s with heap := h', gens := gens', toks := tk' }) :
    wpAny (model pg w) (callerA.deeper (envOfC qual scope L fa cd)) (execs (body.drop 17) (envOfC qual scope L fa cd)) Q E s := by
  refine' lk_cases ?h ho ?_
  case h => k_is
  intro e1 e2 e3 e4 e5 e6
  subst e1 e2 e3 e4 e5 e6
  have F1 := fr_canon _ F (psc m1 (psc m2 (psc m3 (psc m4 (psc m7 psn)))))
  have stopCalls : StopCalls := ⟨⟩
  simp only [List.drop_succ_cons, List.drop_zero]
  repeat' (first | (k_unfold; (try dsimp only)) | walk1 | (dsimp only; walk1) | fail "no step")
  have hnl : (Sx c ns).length ≤ 8 := by have h1 := Sx_len c ns; have := rk_len ns; omega
  have hsub : ((r : Int) - (lw : Int)) = ((r - lw : Nat) : Int) := by omega
  rw [hsub]
  refine Hold.mk (c_down w (Sx c ns) ⟨#[c]⟩ _ _ (r - lw) _ hnl (by rfl) (by omega) _ _ _ _ _ _ _ _ _ _ _ _ _ _ _ _ _ _ _ _ _ K0 F1 KX N TT rfl ?d ?u ?_)
  case d => ktr_room
  case u => ktr_units
  intro D ob kvs h7 tk7 F7 N7 hD7 hsm hd7 hf7
  have hDa : @LT.lt Nat instLTNat at_ D ∨ @LT.lt Nat instLTNat D at_ := Nat.lt_or_gt_of_ne (hD7 _ (.head _))
  have hDb : @LT.lt Nat instLTNat (L + 1 + 1) D ∨ @LT.lt Nat instLTNat D (L + 1 + 1) := Nat.lt_or_gt_of_ne (hD7 _ (.tail _ (.head _)))
  have hDc : @LT.lt Nat instLTNat (L + 1) D ∨ @LT.lt Nat instLTNat D (L + 1) := Nat.lt_or_gt_of_ne (hD7 _ (.tail _ (.tail _ (.head _))))
  dsimp only
  have stopSum : StopSum := ⟨⟩
  repeat' (first | (k_unfold; (try dsimp only)) | walk1 | (dsimp only; walk1) | fail "no step")
  have hchk := lattice r (by simp; omega) ns (by have := mem_genB ns []; rw [hr] at this; exact this) lw (List.mem_range.mpr hlw)
  unfold checkB at hchk
  simp only [Bool.and_eq_true, decide_eq_true_eq] at hchk
  obtain ⟨⟨hperm, hpos⟩, hsum⟩ := hchk
  replace hperm := List.isPerm_iff.mp hperm
  have hlt : (takenB ns lw).length ≤ 8 := by
    refine Nat.le_trans (List.length_filter_le _ _) ?_
    have h5 : ∀ l ∈ List.range 6, (genB l []).length ≤ 8 := by decide +kernel
    exact h5 lw (List.mem_range.mpr (by omega))
  have hld : (downB ns (r - lw)).length = (takenB ns lw).length := by rw [hperm.length_eq, List.length_map]
  have htlen : tl.length = (takenB ns lw).length := by have := congrArg List.length htl; simpa using this
  rw [downI_T (c := c) h34 ns (r - lw)] at hf7
  with_reducible rename Fr h₀ L _ _ => F9
  with_reducible rename News h₀ L _ _ => N9
  refine Hold.mk (sorted_N_str F9 N9 ⟨_, (N9 _ (.tail _ (.head _))).1, rfl, _, rfl⟩ (strs_of tl) (by simp [strValues]; omega) fun h8 vs8 ss8 e8 F8 N8 S8 P8 O8 => ?_)
  clear F9 N9
  repeat' (first | (k_unfold; (try dsimp only)) | walk1 | (dsimp only; walk1) | fail "no step")
  with_reducible rename Fr h₀ L _ _ => F9
  with_reducible rename News h₀ L _ _ => N9
  refine Hold.mk (kdu_sortedD (knd := PySem.strKind _ _) (enc := PyData.str) (fun _ _ => kdl_flat_str) (by rfl) F9 N9 (by k_tabat) (by simp [kdpD, hld]; omega) fun B h9 tk9 => keysD_intro _ _ fun vs9 S9 F10 N10 l10 => ?_)
  refine lsort_strs F10 N10 (fun q hq => Nat.ne_of_lt (l10 q hq)) S9 (by have := S9.length; simp at this; omega) fun h11 vs11 ss11 e11 F11 N11 S11 P11 O11 => ?_
  clear F9 N9 F10 N10
  have stopAdd : StopAdd := ⟨⟩
  repeat' (first | (k_unfold; (try dsimp only)) | walk1 | (dsimp only; walk1) | fail "no step")
  have hss : ss8 = ss11 := by
    refine sortedS_same O8 O11 (P8.trans ?_)
    rw [htl]
    refine (hperm.map (Sx c)).trans (List.Perm.trans (.of_eq ?_) P11.symm)
    rw [List.map_map, List.map_map]; rfl
  have ok8 : ∀ x ∈ ss8, PyData.strOk x = true := fun x hx => by
    have h1 := P8.mem_iff.mp hx
    rw [htl] at h1
    obtain ⟨u, _, rfl⟩ := List.mem_map.mp h1
    exact Sx_ok hc u
  have ok11 := ok8
  rw [hss] at ok11
  with_reducible rename Fr h₀ L _ _ => F9
  with_reducible rename News h₀ L _ _ => N9
  refine Hold.mk (ne_strs ⟨_, (N9 _ (.tail _ (.head _))).1, rfl, _, rfl⟩ ⟨_, (N9 _ (.head _)).1, rfl, _, rfl⟩ S8 S11 ok8 ok11 ?uu ?_)
  case uu => first | ke_room | ktr_units
  rw [decide_eq_true hss]
  simp only [Bool.not_true]
  repeat' (first | (k_unfold; (try dsimp only)) | walk1 | (dsimp only; walk1) | fail "no step")
  with_reducible rename Fr h₀ L _ _ => F12
  with_reducible rename News h₀ L _ _ => N12
  have N13 := news_tail (news_tail N12)
  refine Hold.mk (ctg_use (c_prod w (Sx c ns) _ _ hnl e he) K0 F12 KX N13 TT KX TT rfl ?d2 ?u2 ?_)
  case d2 => ktr_room
  case u2 => ktr_units
  intro t12 h12 tk12 gens12 F14 N14 hb12
  rw [prod_T (c := c) h34 ns]
  generalize prodB ns = P at hpos hsum
  clear F12 N12 N13
  have stopComp : StopComp := ⟨⟩
  dsimp only
  repeat' (first | (k_unfold; (try dsimp only)) | walk1 | (dsimp only; walk1) | fail "no step")
  with_reducible rename Fr h₀ L _ _ => F15
  with_reducible rename News h₀ L _ _ => N15
  with_reducible rename Obj => o12
  rename o12.data = _ => hd12
  refine Hold.mk (comp_listF F15 (cl := [(Str.ofString "ways", L + 1 + 1), (Str.ofString "ending", L + 1)]) (ax := at_) (vs := strValues tl) (nn := nt) (news := [(D, ob), (at_, listOf (strValues tl).toArray nt), (L + 1 + 1, o12), (L + 1, oe)]) (by rfl) (by decide) rfl (by decide) (by rfl) (by rfl)
    (fun i ys nx => nx = [(D, ob), (at_, listOf (strValues tl).toArray nt), (L + 1 + 1, o12), (L + 1, oe)] ∧ IntsAre ys ((((takenB ns lw).take i).map fun w => lookG (downB ns (r - lw)) w 0 * prodB w))) (fun i ys nx hj => by rw [hj.1]; exact .tail _ (.head _)) (by rw [sizeLine_eq]; simp [strValues]; omega) ?_)
  repeat' (first | (k_unfold; (try dsimp only)) | walk1 | (dsimp only; walk1) | fail "no step")
  refine Hold.mk ⟨rfl, F15, N15, ⟨rfl, .nil⟩, ?_, ?_⟩
  · intro i v I oI C oC D2 m2 ys news1 h tk gens E' hi hv hns hm F16 N16 off3 hne hJ hb
    obtain ⟨rfl, hys⟩ := hJ
    obtain ⟨u, tu, rfl, hu⟩ := str_at htl hv
    have hut : u ∈ takenB ns lw := List.mem_of_getElem? hu
    have hud : ((downB ns (r - lw)).map (tag c)).any (fun p => decide (p.1 = Sx c u)) = true := by
      rw [any_tag (c := c) h34 (downB ns (r - lw)) u]
      obtain ⟨p, hp, he⟩ := List.mem_map.mp (hperm.mem_iff.mp hut)
      exact List.any_eq_true.mpr ⟨p, hp, by simpa using he⟩
    have hbd := List.all_eq_true.mp (lattice2 r (by simp; omega) ns (by have := mem_genB ns []; rw [hr] at this; exact this) lw (List.mem_range.mpr hlw)) u hut
    simp only [Bool.and_eq_true, decide_eq_true_eq] at hbd
    have hul : (Sx c u).length ≤ 8 := by have h1 := Sx_len c u; omega
    have stopText : StopText := ⟨⟩
    repeat' (first | (k_unfold; (try dsimp only)) | walk1 | (dsimp only; walk1))
    refine Hold.mk (kdp_item (by k_tabat) hud fun th => ?_)
    rw [look_tag (c := c) h34 (downB ns (r - lw)) u 0]
    repeat' (first | (k_unfold; (try dsimp only)) | walk1 | (dsimp only; walk1))
    refine Hold.mk (ctg_use (c_prod w (Sx c u) _ _ hul e he) K0 F16 KX N16 TT KX TT rfl ?d3 ?u3 ?_)
    case d3 => ktr_room
    case u3 => ktr_units
    intro t18 h18 tk18 gens18 F18 N18 hb18
    rw [prod_T (c := c) h34 u]
    clear F16 N16
    repeat' (first | (k_unfold; (try dsimp only)) | walk1 | (dsimp only; walk1))
    refine Hold.mk ⟨_, _, _, _, rfl, F18, N18, off3, ⟨rfl, ?_⟩, fun hb0 => hb18 (hb hb0)⟩
    rw [List.take_add_one, hu, List.map_append]
    exact ksk_snoc hys
  · intro D2 h tk gens ys news' F16 N16 off1 hJ hb
    obtain ⟨rfl, hys⟩ := hJ
    repeat' (first | (k_unfold; (try dsimp only)) | walk1 | (dsimp only; walk1))
    have htk : (takenB ns lw).take (strValues tl).length = takenB ns lw := List.take_of_length_le (by simp [strValues]; omega)
    rw [htk, ← hsum, beq_self_eq_true]
    with_reducible rename Fr h₀ L _ _ => F17
    exact hQ _ _ _ _ F17 (fun hb0 => hb (hb12 hb0))
end Mine
end
section
-- L15
open PySem PySem.W PyProof.Rows PySem.Calls PySem.StrLaws
set_option Elab.async false
set_option maxRecDepth 100000
set_option maxHeartbeats 1000000
set_option pp.deepTerms false
set_option pp.maxSteps 1500
namespace Mine
theorem startL15 : True := by
  w_top off
  exact trivial
theorem fill15 : PySem.Challenge.rw_wr0013_01 = PySem.Challenge.rw_wr0013_01 ∧ Mine.hv.heap_1 = Mine.hv.heap_1 := by
  k_fill
  exact ⟨rfl, rfl⟩
local macro_rules | `(tactic| walk_at "call ref") => `(tactic| (have hq : Mine.StopCalls := (by with_reducible assumption); clear hq; refine Mine.Hold.of ?_))
local macro_rules | `(tactic| walk_at "exec For Name Call cons nil") => `(tactic| (have hq : Mine.StopLoops := (by with_reducible assumption); clear hq; with_unfolding_all refine Mine.for_start ?_))
theorem lx257 : Lx (Str.ofString "257") = [50, 53, 55] := by decide +kernel
theorem lx3q : Lx (Str.ofString "...\"") = [46, 46, 46, 34] := by decide +kernel
theorem lx6 : Lx (Str.ofString "......") = [46, 46, 46, 46, 46, 46] := by decide +kernel
theorem dbl_len2 (l : List Nat) : (dbl 34 l).length ≤ 2 * l.length := by
  induction l with
  | nil => simp [dbl]
  | cons a l ih => rw [dbl]; split <;> simp <;> omega
theorem foldl_rep (x : Array Nat) : ∀ (n : Nat) (acc : Array Nat), ((List.replicate n x).foldl (· ++ ·) acc).toList = acc.toList ++ (List.replicate n x.toList).flatten
  | 0, acc => by simp
  | n + 1, acc => by rw [List.replicate_succ, List.foldl_cons, foldl_rep x n, List.replicate_succ]; simp
theorem Lx_mul (x : Str) (n : Nat) : Lx (Txt.mul x (n : Int)) = (List.replicate n (Lx x)).flatten := by
  unfold Txt.mul
  split
  · have : n = 0 := by omega
    subst this; rfl
  · split
    · rename_i h2
      simp only [Bool.or_eq_true, beq_iff_eq] at h2
      rcases h2 with h2 | h2
      · have : n = 1 := by omega
        subst this; simp
      · have h3 : Lx x = [] := List.eq_nil_of_length_eq_zero (by rw [Lx_len]; exact h2)
        rw [h3]; simp
    · show Array.toList _ = _
      rw [foldl_rep]
      simp [Lx]
abbrev tkn (ns w : List Bool) : Bool := (List.range (w.length + 1)).any fun k => told ns (w.drop k) k
theorem dbl_rk {c : Nat} (h : c ≠ 34) : ∀ v : List Bool, (dbl 34 (T c v)).length = rkB v
  | [] => rfl
  | b :: v => by
    have ih := dbl_rk h v
    have e : rkB (b :: v) = (if b = true then 2 else 1) + rkB v := by simp [rkB]
    rw [e, ← ih, show T c (b :: v) = (if b = true then 34 else c) :: T c v from rfl, dbl]
    cases b
    · simp [h]; omega
    · simp; omega
theorem rk_snoc (u : List Bool) (b : Bool) : rkB (u ++ [b]) = rkB u + (if b = true then 2 else 1) := by simp [rkB]
theorem genB_rk : ∀ (r : Nat) (u w : List Bool), w ∈ genB r u → rkB w = rkB u + r
  | 0, u, w, h => by rw [genB, List.mem_singleton] at h; rw [h]; omega
  | 1, u, w, h => by rw [genB, genB, List.mem_singleton] at h; rw [h, rk_snoc]; rfl
  | k + 2, u, w, h => by
    rw [genB] at h
    rcases List.mem_append.mp h with h | h
    · rw [genB_rk k _ w h, rk_snoc]; simp; omega
    · rw [genB_rk (k + 1) _ w h, rk_snoc]; simp; omega
inductive J15 (l : List (Str × Tok)) (n : Nat) (D A9 L : Addr) (ow oe : Obj) (c : Nat) (ns : List Bool) (r lw : Nat) (y X : Str) (t1 t2 t3 t4 t5 t6 : Tok) (i : Nat) (m' : Str → Option Value) (nx : List (Addr × Obj)) : Prop
  | mk (tl : List (Str × Tok)) (nt : Nat) (e : nx = [(D, listOf (strValues l).toArray n), (A9, listOf (strValues tl).toArray nt), (L + 1 + 1, ow), (L + 1, oe)]) (h : tl.map (·.1) = (((genB lw []).take i).filter (tkn ns)).map (Sx c))
      (g1 : m' "one" = some (.str ⟨#[c]⟩ t1)) (g2 : m' "rank" = some (.int r t2)) (g3 : m' "name" = some (.str (Sx c ns) t3)) (g4 : m' "low" = some (.int lw t4)) (g5 : m' "behind" = some (.str y t5)) (g6 : m' "reply" = some (.str X t6)) (g7 : m' "taken" = some (.ref A9)) : J15 l n D A9 L ow oe c ns r lw y X t1 t2 t3 t4 t5 t6 i m' nx
inductive J16 (nx₀ : List (Addr × Obj)) (A9 : Addr) (u : List Bool) (tu : Tok) (c : Nat) (ns : List Bool) (r lw : Nat) (y X : Str) (t1 t2 t3 t4 t5 t6 : Tok) (j : Nat) (m' : Str → Option Value) (nx : List (Addr × Obj)) : Prop
  | mk (e : nx = nx₀) (h : ∀ k, k < j → told ns (u.drop k) k = false)
      (g1 : m' "one" = some (.str ⟨#[c]⟩ t1)) (g2 : m' "rank" = some (.int r t2)) (g3 : m' "name" = some (.str (Sx c ns) t3)) (g4 : m' "low" = some (.int lw t4)) (g5 : m' "behind" = some (.str y t5)) (g6 : m' "reply" = some (.str X t6)) (g7 : m' "taken" = some (.ref A9)) (g0 : m' "word" = some (.str (Sx c u) tu)) : J16 nx₀ A9 u tu c ns r lw y X t1 t2 t3 t4 t5 t6 j m' nx
theorem law_15 (w : World) {name qual : Str} {params : Arguments} {body : List Stmt} {scope : Scope} {dV kV doc pm cdv ct oc : Value} {an od : Option Addr} {osl : Array (Option Value)}
    (ho : (Mine.hv.heap_1 w.params).lookup 119 = some ⟨oc, od, .func (fnOf name qual params body scope dV kV doc pm an cdv ct), osl⟩)
    {fa : Addr} {cd : Value} {mean : ExcName → Option Value} {mg mb : Str → Option Value} {h₀ : Heap} {L : Addr} {m : Str → Option Value} {s : Shared} {Q : Flow → Shared → Prop} {E : Value → Shared → Prop}
    (K0 : Below callerA h₀ [] h₀) (F : Fr h₀ L s.heap m) (KX : (Mine.hv.heap_1 w.params).In h₀) (TT : Top pv (looseW pv []) mean mg mb h₀)
    {ow oe : Obj} {vw : Option Value} {te : Tok} (c : Nat) (h34 : c ≠ 34) (h46 : c ≠ 46) (hc : c < 1114112) (ns : List Bool) (r lw e : Nat) (hr : rkB ns = r) (h4 : 4 ≤ r) (h8 : r ≤ 8) (hlw : lw < min r 6) (he : e < 3)
    (how : ow.data = .cell vw) (hoe : oe.data = .cell (some (.int e te)))
    {t1 t2 t3 t4 t5 t6 : Tok} (m1 : m "one" = some (.str ⟨#[c]⟩ t1)) (m2 : m "rank" = some (.int r t2)) (m3 : m "name" = some (.str (Sx c ns) t3)) (m4 : m "low" = some (.int lw t4))
    (y : Str) (hy46 : 46 ∉ Lx y) (hys : scan (Lx y) = []) (hyl : y.length ≤ 8) (m5 : m "behind" = some (.str y t5))
    (X : Str) (hX : Lx X = [50, 53, 55, 32, 34] ++ dbl 34 (Mine.T c ns) ++ Lx y) (hXl : X.length ≤ 40) (m6 : m "reply" = some (.str X t6))
    (N : News h₀ L s.heap [(L + 1 + 1, ow), (L + 1, oe)])
    (hQ : ∀ h' tk' gens' m', Fr h₀ L h' m' → (AllBare s.gens → AllBare gens') → Q (.ret (.bool true)) { s with heap := h', gens := gens', toks := tk' }) :
    wpAny (model pg w) (callerA.deeper (envOfC qual scope L fa cd)) (execs (body.drop 15) (envOfC qual scope L fa cd)) Q E s := by
  refine' lk_cases ?h ho ?_
  case h => k_is
  intro e1 e2 e3 e4 e5 e6
  subst e1 e2 e3 e4 e5 e6
  have F1 := fr_canon _ F (psc m1 (psc m2 (psc m3 (psc m4 (psc m5 (psc m6 psn))))))
  have stopLoops : StopLoops := ⟨⟩
  have stopCalls : StopCalls := ⟨⟩
  simp only [List.drop_succ_cons, List.drop_zero]
  repeat' (first | (k_unfold; (try dsimp only)) | walk1 | (dsimp only; walk1) | fail "no step")
  rename_i A9 h1z hA9 h2z F1z N1z
  have hA9a : @LT.lt Nat instLTNat (L + 1 + 1) A9 := hA9.1
  have hA9b : @LT.lt Nat instLTNat (L + 1) A9 := hA9.2
  refine Hold.mk (c_words w lw _ ⟨#[c]⟩ _ (by rfl) (by omega) _ _ _ _ _ _ _ _ _ _ _ _ _ _ _ _ _ _ _ _ _ K0 ‹Fr h₀ L _ _› KX ‹News h₀ L _ (_ :: _)› TT rfl ?d ?u ?_)
  case d => ktr_room
  case u => ktr_units
  intro D l n h7 tk7 F7 N7 hD7 hl7
  have hgen : genW ⟨#[c]⟩ lw (Str.ofString "") = (genB lw []).map (Sx c) := by rw [Sx_nil c]; exact genW_T c lw []
  rw [hgen] at hl7
  have hD1 : @LT.lt Nat instLTNat A9 D ∨ @LT.lt Nat instLTNat D A9 := Nat.lt_or_gt_of_ne (hD7 _ (.head _))
  have hnl : (Sx c ns).length ≤ 8 := by have h1 := Sx_len c ns; have := rk_len ns; omega
  have hyP : ∀ (v : List Bool), rkB v = lw → (dbl 34 (T c v)).length = lw := fun v hv => by rw [← hv]; exact dbl_rk h34 v
  refine Hold.mk (for_listO (vs := strValues l) (nn := n) (J15 l n D A9 L ow oe c ns r lw y X t1 t2 t3 t4 t5 t6) ?_ rfl F7 N7 ?_ rfl rfl ?_ ?_)
  · rintro i m' nx ⟨tl, nt, rfl, _⟩; exact .head _
  · exact ⟨[], 0, rfl, rfl, by with_unfolding_all rfl, by with_unfolding_all rfl, by with_unfolding_all rfl, by with_unfolding_all rfl, by with_unfolding_all rfl, by with_unfolding_all rfl, by with_unfolding_all rfl⟩
  · intro J' Q' eJ hQ' I i v m1 news1 h tk o hv hj hI F8 N8
    obtain ⟨tl, nt, rfl, htl, g1, g2, g3, g4, g5, g6, g7⟩ := hj
    obtain ⟨u, tu, rfl, hu⟩ := str_at hl7 hv
    have hur : rkB u = lw := by have h1 := genB_rk lw [] u (List.mem_of_getElem? hu); simpa [rkB] using h1
    have hul : (Sx c u).length ≤ 8 := by have h1 := Sx_len c u; have := rk_len u; omega
    generalize hM : (fun y => if y = Str.ofString "word" then some (Value.str (Sx c u) tu) else m1 y) = M at F8
    have e0 : M "word" = some (.str (Sx c u) tu) := by rw [← hM]; exact if_pos rfl
    have e1 : M "one" = some (.str ⟨#[c]⟩ t1) := by rw [← hM]; exact (if_neg (by decide)).trans g1
    have e2 : M "rank" = some (.int r t2) := by rw [← hM]; exact (if_neg (by decide)).trans g2
    have e3 : M "name" = some (.str (Sx c ns) t3) := by rw [← hM]; exact (if_neg (by decide)).trans g3
    have e4 : M "low" = some (.int lw t4) := by rw [← hM]; exact (if_neg (by decide)).trans g4
    have e5 : M "behind" = some (.str y t5) := by rw [← hM]; exact (if_neg (by decide)).trans g5
    have e6 : M "reply" = some (.str X t6) := by rw [← hM]; exact (if_neg (by decide)).trans g6
    have e7 : M "taken" = some (.ref A9) := by rw [← hM]; exact (if_neg (by decide)).trans g7
    have F9 := fr_canon _ F8 (psc e0 (psc e1 (psc e2 (psc e3 (psc e4 (psc e5 (psc e6 (psc e7 psn))))))))
    clear F8
    repeat' (first | (k_unfold; (try dsimp only)) | walk1 | (dsimp only; walk1) | fail "no step")
    refine Hold.mk (ct_use (c_reply w (Sx c u) y _ _ (by omega) (by omega)) K0 F9 KX N8 TT rfl ?d1 ?u1 ?_)
    case d1 => ktr_room
    case u1 => ktr_units
    intro t8 h8' tk8 F10 N10
    have hX1 := reply_L (Sx c u) y
    have hX1l : (replyF (Sx c u) y).length = 5 + lw + y.length := by
      rw [Sx_L c u] at hX1
      have h1 := congrArg List.length hX1
      have h2 := hyP u hur
      simp only [List.length_append, List.length_cons, List.length_nil, Lx_len] at h1
      omega
    have hp1 : parseF (replyF (Sx c u) y) = Sx c u := parse_reply hys hX1
    have hs1 : Txt.slice (replyF (Sx c u) y) none (some 3) = Str.ofString "257" := slice3 (by rw [hX1, lx257]; rfl)
    generalize replyF (Sx c u) y = X1 at hX1 hX1l hp1 hs1 ⊢
    clear F9 N8
    repeat' (first | (k_unfold; (try dsimp only)) | walk1 | (dsimp only; walk1) | fail "no step")
    with_reducible rename Fr h₀ L _ _ => F11
    with_reducible rename News h₀ L _ _ => N11
    refine Hold.mk (ct_use (c_parse w X1 _ (by omega) hs1) K0 F11 KX N11 TT rfl ?d2 ?u2 ?_)
    case d2 => ktr_room
    case u2 => ktr_units
    intro t9 h9 tk9 F12 N12
    rw [hp1]
    clear F11 N11
    repeat' (first | (k_unfold; (try dsimp only)) | walk1 | (dsimp only; walk1) | fail "no step")
    · rename (Sx c u != Sx c u) = true => hbad
      exact absurd hbad (by simp)
    · exfalso; omega
    with_reducible rename Fr h₀ L _ _ => F13
    with_reducible rename News h₀ L _ _ => N13
    refine Hold.mk (ct_use (c_match w (Sx c u) (Sx c ns) _ _ (by omega) (by omega)) K0 F13 KX N13 TT rfl ?d3 ?u3 ?_)
    case d3 => ktr_room
    case u3 => ktr_units
    intro t14 h14 tk14 F14 N14
    have hm1 : matchF (Sx c u) (Sx c ns) = false := by
      rw [match_free (by rw [Sx_L c u]; exact T_free h46 u)]
      refine beq_eq_false_iff_ne.mpr fun q => ?_
      have := Sx_inj h34 q
      rw [this] at hur
      omega
    rw [hm1]
    clear F13 N13
    repeat' (first | (k_unfold; (try dsimp only)) | walk1 | (dsimp only; walk1) | fail "no step")
    rename_i hRb hRtk t1r u1r v1r R1 FR NR hkR
    have hul2 := Sx_len c u
    rw [show ((Sx c u).length : Int) + 1 = ((u.length + 1 : Nat) : Int) by omega] at R1
    have hu8 : u.length ≤ 5 := by have := rk_len u; omega
    have hI1 : @LT.lt Nat instLTNat A9 I ∨ @LT.lt Nat instLTNat I A9 := Nat.lt_or_gt_of_ne (hI _ (.tail _ (.head _)))
    have hI2 : @LT.lt Nat instLTNat D I ∨ @LT.lt Nat instLTNat I D := Nat.lt_or_gt_of_ne (hI _ (.head _))
    have hX1' := hX1
    clear hX1l hp1 hs1 hX1
    refine Hold.mk (for_rangeO (n := u.length + 1) (J16 [(I, o), (D, listOf (strValues l).toArray n), (A9, listOf (strValues tl).toArray nt), (L + 1 + 1, ow), (L + 1, oe)] A9 u tu c ns r lw y X t1 t2 t3 t4 t5 t6) R1 (small_upto (by omega)) (size_upto _) rfl FR NR ?_ rfl rfl ?_ ?_)
    · refine ⟨rfl, fun k hk => absurd hk (Nat.not_lt_zero k), ?_, ?_, ?_, ?_, ?_, ?_, ?_, ?_⟩
      · with_unfolding_all rfl
      · with_unfolding_all rfl
      · with_unfolding_all rfl
      · with_unfolding_all rfl
      · with_unfolding_all rfl
      · with_unfolding_all rfl
      · with_unfolding_all rfl
      · with_unfolding_all rfl
    · rintro J2 Q2 eJ2 hQ2 I2 j tj m2 news2 h2 tk2 o2 hj ⟨rfl, hprev, g1', g2', g3', g4', g5', g6', g7', g0'⟩ hI2n F15 N15
      clear FR NR R1 hkR
      generalize hM2 : (fun y => if y = Str.ofString "cut" then some (Value.int (j : Nat) tj) else m2 y) = M2 at F15
      have a1 : M2 "one" = some (.str ⟨#[c]⟩ t1) := by rw [← hM2]; exact (if_neg (by decide)).trans g1'
      have a2 : M2 "rank" = some (.int r t2) := by rw [← hM2]; exact (if_neg (by decide)).trans g2'
      have a3 : M2 "name" = some (.str (Sx c ns) t3) := by rw [← hM2]; exact (if_neg (by decide)).trans g3'
      have a4 : M2 "low" = some (.int lw t4) := by rw [← hM2]; exact (if_neg (by decide)).trans g4'
      have a5 : M2 "behind" = some (.str y t5) := by rw [← hM2]; exact (if_neg (by decide)).trans g5'
      have a6 : M2 "reply" = some (.str X t6) := by rw [← hM2]; exact (if_neg (by decide)).trans g6'
      have a7 : M2 "taken" = some (.ref A9) := by rw [← hM2]; exact (if_neg (by decide)).trans g7'
      have a0 : M2 "word" = some (.str (Sx c u) tu) := by rw [← hM2]; exact (if_neg (by decide)).trans g0'
      have a8 : M2 "cut" = some (.int (j : Nat) tj) := by rw [← hM2]; exact if_pos rfl
      have F16 := fr_canon _ F15 (psc a8 (psc a0 (psc a1 (psc a2 (psc a3 (psc a4 (psc a5 (psc a6 (psc a7 psn)))))))))
      clear F15
      repeat' (first | (k_unfold; (try dsimp only)) | walk1 | (dsimp only; walk1) | fail "no step")
      have hZ : Lx (Txt.mul (Str.ofString "...\"") (j : Nat) ++ Str.ofString "......" ++ Txt.slice (Sx c u) (some (j : Nat)) none) = dotsL [34] j (Mine.T c (u.drop j)) := by
        rw [Lx_app, Lx_app, Lx_mul, slice_a, Sx_L c u, T_drop c j u, lx3q, lx6]
        unfold dotsL
        rw [List.append_assoc]; rfl
      with_reducible rename Fr h₀ L _ _ => F17
      with_reducible rename News h₀ L _ _ => N17
      generalize Txt.mul (Str.ofString "...\"") (j : Nat) ++ Str.ofString "......" ++ Txt.slice (Sx c u) (some (j : Nat)) none = Z at hZ F17 ⊢
      have hZl : Z.length ≤ 40 := by
        rw [← Lx_len, hZ]
        unfold dotsL
        simp only [List.length_append, List.length_flatten, List.map_replicate, List.sum_replicate_nat, List.length_cons, List.length_nil, T_len, List.length_drop]
        omega
      have hma : matchF Z (Sx c ns) = told ns (u.drop j) j := match_told h34 h46 hZ (Sx_L c ns)
      refine Hold.mk (ct_use (c_match w Z (Sx c ns) _ _ (by omega) (by omega)) K0 F17 KX N17 TT rfl ?d4 ?u4 ?_)
      case d4 => ktr_room
      case u4 => ktr_units
      intro t18 h18 tk18 F18 N18
      rw [hma]
      generalize hbt : told ns (u.drop j) j = bt
      clear F17 N17
      repeat' (first | (k_unfold; (try dsimp only)) | walk1 | (dsimp only; walk1) | fail "no step")
      with_reducible rename Fr h₀ L _ _ => F19
      with_reducible rename News h₀ L _ _ => N19
      refine Hold.mk (ct_use (c_reply w Z y _ _ (by omega) (by omega)) K0 F19 KX N19 TT rfl ?d5 ?u5 ?_)
      case d5 => ktr_room
      case u5 => ktr_units
      intro t20 h20 tk20 F20 N20
      have hX2 := reply_L Z y
      rw [hZ] at hX2
      have hmb : matchF (replyF Z y) X = told ns (u.drop j) j := match_told2 (P := [50, 53, 55, 32, 34]) (B := Lx y) h34 h46 (by decide) hy46 hX2 hX
      have hX2l : (replyF Z y).length ≤ 200 := by
        have h1 := congrArg List.length hX2
        have h2 := dbl_len2 (dotsL [34] j (Mine.T c (u.drop j)))
        rw [← hZ, Lx_len] at h2
        rw [hZ] at h2
        simp only [List.length_append, List.length_cons, List.length_nil, Lx_len] at h1
        omega
      clear hX2
      generalize replyF Z y = X2 at hmb hX2l ⊢
      clear F19 N19
      repeat' (first | (k_unfold; (try dsimp only)) | walk1 | (dsimp only; walk1) | fail "no step")
      with_reducible rename Fr h₀ L _ _ => F21
      with_reducible rename News h₀ L _ _ => N21
      refine Hold.mk (ct_use (c_match w X2 X _ _ (by omega) (by omega)) K0 F21 KX N21 TT rfl ?d6 ?u6 ?_)
      case d6 => ktr_room
      case u6 => ktr_units
      intro t22 h22 tk22 F22 N22
      rw [hmb, hbt]
      clear F21 N21
      have hJ1 : @LT.lt Nat instLTNat A9 I2 ∨ @LT.lt Nat instLTNat I2 A9 := Nat.lt_or_gt_of_ne (hI2n _ (.tail _ (.tail _ (.head _))))
      have hJ2 : @LT.lt Nat instLTNat D I2 ∨ @LT.lt Nat instLTNat I2 D := Nat.lt_or_gt_of_ne (hI2n _ (.tail _ (.head _)))
      have hJ3 : @LT.lt Nat instLTNat I I2 ∨ @LT.lt Nat instLTNat I2 I := Nat.lt_or_gt_of_ne (hI2n _ (.head _))
      have z3 : tl.length ≤ 8 := by
        have h1 := congrArg List.length htl
        rw [List.length_map, List.length_map] at h1
        have h5 : ∀ l ∈ List.range 6, (genB l []).length ≤ 8 := by decide +kernel
        have h6 := h5 lw (List.mem_range.mpr (by omega))
        have h7 := List.length_filter_le (tkn ns) ((genB lw []).take i)
        have h9 := List.length_take_le i (genB lw [])
        have h10 : ((genB lw []).take i).length ≤ (genB lw []).length := by rw [List.length_take]; omega
        omega
      have z1 : (strValues tl).length ≤ 8 := by simpa [strValues] using z3
      have z2 : (strValues tl).toArray.size ≤ 8 := by simpa using z1
      cases bt
      · repeat' (first | (k_unfold; (try dsimp only)) | walk1 | (dsimp only; walk1) | fail "no step")
        try any_goals (rename (false != false) = true => hbad; exact absurd hbad (by decide))
        try any_goals (rename (false == true) = true => hbad; exact absurd hbad (by decide))
        with_reducible rename Fr h₀ L _ _ => F23
        with_reducible rename News h₀ L _ _ => N23
        subst eJ2
        refine TurnEnd.next F23 N23 hI2n ⟨rfl, fun k hk => ?_, ?_, ?_, ?_, ?_, ?_, ?_, ?_, ?_⟩
        · rcases Nat.lt_or_ge k j with h | h
          · exact hprev k h
          · have : k = j := by omega
            subst this; exact hbt
        all_goals with_unfolding_all rfl
      · repeat' (first | (k_unfold; (try dsimp only)) | walk1 | (dsimp only; walk1) | fail "no step")
        try any_goals (rename (true != true) = true => hbad; exact absurd hbad (by decide))
        try any_goals (rename (true == true) = false => hbad; exact absurd hbad (by decide))
        dsimp only
        refine TurnEnd.brk (hQ2 _ _ ?_)
        dsimp only
        repeat' (first | (k_unfold; (try dsimp only)) | walk1 | (dsimp only; walk1) | fail "no step")
        with_reducible rename Fr h₀ L _ _ => F23
        with_reducible rename News h₀ L _ _ => N23
        have hyes : tkn ns u = true := List.any_eq_true.mpr ⟨j, List.mem_range.mpr hj, hbt⟩
        have hes : ((strValues tl).toArray.push (.str (Sx c u) tu)) = (strValues (tl ++ [(Sx c u, tu)])).toArray := by simp [strValues]
        have hI3 : ∀ (zz : Obj), ∀ p ∈ [(D, listOf (strValues l).toArray n), (A9, zz), (L + 1 + 1, ow), (L + 1, oe)], p.1 ≠ I := fun zz p hp => by
          rcases List.mem_cons.mp hp with rfl | hp
          · exact hI _ (.head _)
          rcases List.mem_cons.mp hp with rfl | hp
          · exact hI (A9, listOf (strValues tl).toArray nt) (.tail _ (.head _))
          exact hI p (.tail _ (.tail _ hp))
        subst eJ
        refine TurnEnd.next F23 (news_tail N23) (hI3 _) ⟨tl ++ [(Sx c u, tu)], nt + 1, ?_, ?_, ?_, ?_, ?_, ?_, ?_, ?_, ?_⟩
        · rw [hes]
        · rw [List.map_append, htl, List.take_add_one, hu, List.filter_append, List.map_append]
          simp [hyes]
        all_goals with_unfolding_all rfl
    · rintro h2 tk2 m2 news2 F15 N15 ⟨rfl, hprev, g1', g2', g3', g4', g5', g6', g7', g0'⟩
      have hno : tkn ns u = false := by
        rw [List.any_eq_false]
        intro k hk
        rw [hprev k (List.mem_range.mp hk)]; simp
      repeat' (first | (k_unfold; (try dsimp only)) | walk1 | (dsimp only; walk1) | fail "no step")
      subst eJ
      refine TurnEnd.next F15 N15 hI ⟨tl, nt, rfl, ?_, g1', g2', g3', g4', g5', g6', g7'⟩
      rw [htl, List.take_add_one, hu, List.filter_append]
      simp only [Option.toList_some, List.filter_cons, hno, Bool.false_eq_true, if_false, List.filter_nil, List.append_nil]
  · intro h tk m' news' F8 N8 hj
    obtain ⟨tl, nt, rfl, htl, g1, g2, g3, g4, g5, g6, g7⟩ := hj
    refine law_17 (t5 := t5) (t6 := t6) w ho K0 F8 KX TT c h34 h46 hc ns r lw e hr h4 h8 hlw he how hoe g1 g2 g3 g4 (news_tail N8) hA9a g7 ?_ hQ
    rw [htl, List.take_of_length_le (by have := congrArg List.length hl7; simp [strValues] at this ⊢; omega)]; rfl
end Mine
end
section
-- L12
open PySem PySem.W PyProof.Rows PySem.Calls PySem.StrLaws
set_option Elab.async false
set_option maxRecDepth 100000
set_option maxHeartbeats 1000000
set_option pp.deepTerms false
set_option pp.maxSteps 1500
namespace Mine
theorem startL12 : True := by
  w_top off
  exact trivial
theorem fill12 : PySem.Challenge.rw_wr0013_01 = PySem.Challenge.rw_wr0013_01 ∧ Mine.hv.heap_1 = Mine.hv.heap_1 := by
  k_fill
  exact ⟨rfl, rfl⟩
local macro_rules | `(tactic| walk_at "call ref") => `(tactic| (have hq : Mine.StopCalls := (by with_reducible assumption); clear hq; refine Mine.Hold.of ?_))
structure StopRev : Prop where
local macro_rules | `(tactic| walk_at "call builtin:str.join") => `(tactic| (have hq : Mine.StopRev := (by with_reducible assumption); clear hq; refine Mine.Hold.of ?_))
local macro_rules | `(tactic| walk_at "pyIter str") => `(tactic| (have hq : Mine.StopComp := (by with_reducible assumption); clear hq; refine Mine.Hold.of ?_))
local macro_rules | `(tactic| walk_at "exec For Tuple List cons nil") => `(tactic| (have hq : Mine.StopLoops := (by with_reducible assumption); clear hq; with_unfolding_all refine Mine.for_start ?_))
theorem join_aux : ∀ l : List Nat, Lx (Str.join (Str.ofString "...") (l.map fun c => (⟨#[c]⟩ : Str))) = starL l
  | [] => rfl
  | [a] => rfl
  | a :: b :: r => by
    rw [List.map_cons, List.map_cons, join_cons_cons, Lx_app, Lx_app, ← List.map_cons (f := fun c => (⟨#[c]⟩ : Str)), join_aux (b :: r), show Lx (Str.ofString "...") = [46, 46, 46] by decide +kernel]
    rfl
theorem join_txt (x : Str) : Lx (Txt.join (Str.ofString "...") (signs x)) = starL (Lx x) := by
  rw [eq_of_beq (join_closes (sep := Str.ofString "...") (sep' := Str.ofString "...") (ys := signs x) rfl)]
  exact join_aux (Lx x)
theorem starL_len : ∀ l : List Nat, (starL l).length ≤ 4 * l.length
  | [] => Nat.le_refl _
  | [a] => by simp [starL]
  | a :: b :: r => by have := starL_len (b :: r); simp [starL] at this ⊢; omega
theorem signs_sum (x : Str) : ((signs x).map (·.length)).sum = x.length := by
  rw [← Lx_len]
  unfold signs
  rw [List.map_map]
  show (List.map _ (Lx x)).sum = _
  induction Lx x with
  | nil => rfl
  | cons a l ih => rw [List.map_cons, List.sum_cons, ih]; simp [Str.length]; omega
inductive FmL (c r lw : Nat) (x y X : Str) (t1 t2 t3 t4 t5 t6 : Tok) (m' : Str → Option Value) : Prop
  | mk (g1 : m' "one" = some (.str ⟨#[c]⟩ t1)) (g2 : m' "rank" = some (.int r t2)) (g3 : m' "name" = some (.str x t3)) (g4 : m' "low" = some (.int lw t4)) (g5 : m' "behind" = some (.str y t5)) (g6 : m' "reply" = some (.str X t6)) : FmL c r lw x y X t1 t2 t3 t4 t5 t6 m'
inductive PrL (x : Str) (_i : Nat) (v0 v1 : Value) : Prop
  | mk (z : Str) (t : Tok) (d : Bool) (e0 : v0 = .str z t) (e1 : v1 = .bool d) (hm : matchF z x = d) (hl : z.length ≤ 200) : PrL x _i v0 v1
theorem pair_at {i : Nat} {T : Addr} {z x : Str} {t : Tok} {d : Bool} {k : Nat} {news : List (Addr × Obj)} (mem : (T, { cls := .type "tuple", data := .seq #[.str z t, .bool d] k }) ∈ news) (mat : matchF z x = d) (len : z.length ≤ 200) :
    ∃ T' o v0 v1, Value.ref T = Value.ref T' ∧ (T', o) ∈ news ∧ o.cls = .type "tuple" ∧ (∃ k, o.data = .seq #[v0, v1] k) ∧ PrL x i v0 v1 :=
  ⟨_, _, _, _, rfl, mem, rfl, ⟨_, rfl⟩, _, _, _, rfl, rfl, mat, len⟩
theorem law_12 (w : World) {name qual : Str} {params : Arguments} {body : List Stmt} {scope : Scope} {dV kV doc pm cdv ct oc : Value} {an od : Option Addr} {osl : Array (Option Value)}
    (ho : (Mine.hv.heap_1 w.params).lookup 119 = some ⟨oc, od, .func (fnOf name qual params body scope dV kV doc pm an cdv ct), osl⟩)
    {fa : Addr} {cd : Value} {mean : ExcName → Option Value} {mg mb : Str → Option Value} {h₀ : Heap} {L : Addr} {m : Str → Option Value} {s : Shared} {Q : Flow → Shared → Prop} {E : Value → Shared → Prop}
    (K0 : Below callerA h₀ [] h₀) (F : Fr h₀ L s.heap m) (KX : (Mine.hv.heap_1 w.params).In h₀) (TT : Top pv (looseW pv []) mean mg mb h₀)
    {ow oe : Obj} {vw : Option Value} {te : Tok} (c : Nat) (h34 : c ≠ 34) (h46 : c ≠ 46) (hc : c < 1114112) (ns : List Bool) (r lw e : Nat) (hr : rkB ns = r) (h4 : 4 ≤ r) (h8 : r ≤ 8) (hlw : lw < min r 6) (he : e < 3)
    (how : ow.data = .cell vw) (hoe : oe.data = .cell (some (.int e te)))
    {t1 t2 t3 t4 t5 t6 : Tok} (m1 : m "one" = some (.str ⟨#[c]⟩ t1)) (m2 : m "rank" = some (.int r t2)) (m3 : m "name" = some (.str (Sx c ns) t3)) (m4 : m "low" = some (.int lw t4))
    (y : Str) (hy46 : 46 ∉ Lx y) (hys : scan (Lx y) = []) (hyl : y.length ≤ 8) (m5 : m "behind" = some (.str y t5))
    (X : Str) (hX : Lx X = [50, 53, 55, 32, 34] ++ dbl 34 (Mine.T c ns) ++ Lx y) (hXl : X.length ≤ 40) (m6 : m "reply" = some (.str X t6))
    (N : News h₀ L s.heap [(L + 1 + 1, ow), (L + 1, oe)])
    (hQ : ∀ h' tk' gens' m', Fr h₀ L h' m' → (AllBare s.gens → AllBare gens') → Q (.ret (.bool true)) { s with heap := h', gens := gens', toks := tk' }) :
    wpAny (model pg w) (callerA.deeper (envOfC qual scope L fa cd)) (execs (body.drop 12) (envOfC qual scope L fa cd)) Q E s := by
  refine' lk_cases ?h ho ?_
  case h => k_is
  intro e1 e2 e3 e4 e5 e6
  subst e1 e2 e3 e4 e5 e6
  have F1 := fr_canon _ F (psc m1 (psc m2 (psc m3 (psc m4 (psc m5 (psc m6 psn))))))
  have hxT : Lx (Sx c ns) = Mine.T c ns := Sx_L c ns
  have hxl : (Sx c ns).length = ns.length := Sx_len c ns
  clear F
  have hnl : (Sx c ns).length ≤ 8 := by rw [hxl]; have := rk_len ns; omega
  generalize hxe : Sx c ns = x at m3 F1 hxT hxl hnl
  have stopComp : StopComp := ⟨⟩
  have stopLoops : StopLoops := ⟨⟩
  simp only [List.drop_succ_cons, List.drop_zero]
  repeat' (first | (k_unfold; (try dsimp only)) | walk1 | (dsimp only; walk1) | fail "no step")
  have stopRev : StopRev := ⟨⟩
  with_reducible rename Fr h₀ L _ _ => F2
  with_reducible rename News h₀ L _ _ => N2
  refine Hold.mk (srcC_signsD (pz := fun _ => true) (d := fun a => PyData.str a) rfl F2 N2 ?_ ?_ ?_ (by rw [sizeLine_eq]; omega))
  · intro C a' v s2 m2 E' _ _ _ _
    exact wpAny_pure ⟨rfl, s2.heap, s2.toks, rfl, fun _ _ h => h⟩
  · intro C a' v s2 m2 E' hi _ hns hm _
    obtain ⟨u, rfl⟩ := hi
    repeat' (first | (k_unfold; (try dsimp only)) | walk1 | (dsimp only; walk1))
    · exact Carried.str _ _
    · exact ⟨s2.heap, s2.toks, rfl, fun _ _ h => h⟩
  intro D ys h2 tk2 F3 N3 hD hlD hpl hca
  rw [List.filter_eq_self.mpr (fun _ _ => rfl)] at hca
  clear F2 N2
  dsimp only
  repeat' (first | (k_unfold; (try dsimp only)) | walk1 | (dsimp only; walk1) | fail "no step")
  have hca2 : StrsAre ys (signs x) := by simpa using CarriedAll.strsOf (f := fun a => a) hca
  refine Hold.mk (join_listW hlD (by simpa using hca2) (by decide +kernel) (by rw [signs_sum x, signs_length x]; omega) fun t4j tk4j => ?_)
  have hS1 := join_txt x
  have hS1l : (Txt.join (Str.ofString "...") (signs x)).length ≤ 40 := by rw [← Lx_len, hS1]; have h1 := starL_len (Lx x); rw [Lx_len] at h1; omega
  generalize Txt.join (Str.ofString "...") (signs x) = S1 at hS1 hS1l ⊢
  dsimp only
  repeat' (first | (k_unfold; (try dsimp only)) | walk1 | (dsimp only; walk1) | fail "no step")
  rw [rev_tok]
  have hrl : (Txt.sliceBy x none none (-1, 0)).length = x.length := step_rev_len x 0
  have hrT : Lx (Txt.sliceBy x none none (-1, 0)) = (Lx x).reverse := rev_L x
  generalize Txt.sliceBy x none none (-1, 0) = xr at hrl hrT ⊢
  with_reducible rename Fr h₀ L _ _ => F5
  with_reducible rename News h₀ L _ _ => N5
  refine Hold.mk (srcC_signsD (pz := fun _ => true) (d := fun a => PyData.str a) rfl F5 N5 ?_ ?_ ?_ (by rw [sizeLine_eq]; omega))
  · intro C a' v s2 m2 E' _ _ _ _
    exact wpAny_pure ⟨rfl, s2.heap, s2.toks, rfl, fun _ _ h => h⟩
  · intro C a' v s2 m2 E' hi _ hns hm _
    obtain ⟨u, rfl⟩ := hi
    repeat' (first | (k_unfold; (try dsimp only)) | walk1 | (dsimp only; walk1))
    · exact Carried.str _ _
    · exact ⟨s2.heap, s2.toks, rfl, fun _ _ h => h⟩
  intro D2 ys2 h6 tk6 F6 N6 hD2 hlD2 hpl2 hca3
  rw [List.filter_eq_self.mpr (fun _ _ => rfl)] at hca3
  dsimp only
  repeat' (first | (k_unfold; (try dsimp only)) | walk1 | (dsimp only; walk1) | fail "no step")
  have hca4 : StrsAre ys2 (signs xr) := by simpa using CarriedAll.strsOf (f := fun a => a) hca3
  refine Hold.mk (join_listW hlD2 (by simpa using hca4) (by decide +kernel) (by rw [signs_sum xr, signs_length xr]; omega) fun t7j tk7j => ?_)
  have hS2 := join_txt xr
  have hS2l : (Txt.join (Str.ofString "...") (signs xr)).length ≤ 40 := by rw [← Lx_len, hS2]; have h1 := starL_len (Lx xr); rw [Lx_len] at h1; omega
  generalize Txt.join (Str.ofString "...") (signs xr) = S2 at hS2 hS2l ⊢
  dsimp only
  repeat' (first | (k_unfold; (try dsimp only)) | walk1 | (dsimp only; walk1) | fail "no step")
  with_reducible rename Fr h₀ L _ _ => F9
  with_reducible rename News h₀ L _ _ => N9
  refine Hold.mk (for_pairsCO (P2 := PrL x) (FmL c r lw x y X t1 t2 t3 t4 t5 t6) (.head _) rfl F9 N9 ?_ ?_ rfl rfl rfl ?_ ?_)
  · refine ⟨?_, ?_, ?_, ?_, ?_, ?_⟩ <;> with_unfolding_all rfl
  · have hx46 : 46 ∉ Lx x := by rw [hxT]; exact T_free h46 ns
    have hxn : Lx x ≠ [] := fun q => by
      have h1 := congrArg List.length q
      rw [hxT, T_len] at h1
      have h2 : ns = [] := List.eq_nil_of_length_eq_zero h1
      rw [h2] at hr
      simp [rkB] at hr
      omega
    have hd3 : (Str.ofString "...").length = 3 := ldots
    intro i v hv
    have a1 := Lx_len S1
    rcases i with _ | _ | _ | _ | _ | _ | _ | _ | i
    rotate_left 8
    · simp at hv
    all_goals
      obtain rfl := Option.some.inj hv
      exact pair_at (by repeat (first | exact List.Mem.head _ | refine List.Mem.tail _ ?_))
        (by with_reducible first | exact want_1 hx46 | exact want_2 hx46 | exact want_3 hx46 | exact want_4 hx46 hxn | exact want_5 hx46 hxn | exact want_6 hx46 hxn | exact want_7 hS1 hx46 hxn | exact want_8 (by rw [← hrT]; exact hS2) hx46 hxn)
        (by first | omega | (simp only [len_app, hd3]; omega))
  · clear F9 N9
    rintro J' Q' nx eJ hQ' I i v0 v1 m1' h tk o ⟨z, tz, d, rfl, rfl, hzd, hzl⟩ ⟨g1, g2, g3, g4, g5, g6⟩ hI F10 N10
    generalize hM : (fun y => if y = Str.ofString "due" then some (Value.bool d) else if y = Str.ofString "want" then some (Value.str z tz) else m1' y) = M at F10
    have a0 : M "due" = some (.bool d) := by rw [← hM]; exact if_pos rfl
    have a7 : M "want" = some (.str z tz) := by rw [← hM]; exact (if_neg (by decide)).trans (if_pos rfl)
    have a1 : M "one" = some (.str ⟨#[c]⟩ t1) := by rw [← hM]; exact (if_neg (by decide)).trans ((if_neg (by decide)).trans g1)
    have a2 : M "rank" = some (.int r t2) := by rw [← hM]; exact (if_neg (by decide)).trans ((if_neg (by decide)).trans g2)
    have a3 : M "name" = some (.str x t3) := by rw [← hM]; exact (if_neg (by decide)).trans ((if_neg (by decide)).trans g3)
    have a4 : M "low" = some (.int lw t4) := by rw [← hM]; exact (if_neg (by decide)).trans ((if_neg (by decide)).trans g4)
    have a5 : M "behind" = some (.str y t5) := by rw [← hM]; exact (if_neg (by decide)).trans ((if_neg (by decide)).trans g5)
    have a6 : M "reply" = some (.str X t6) := by rw [← hM]; exact (if_neg (by decide)).trans ((if_neg (by decide)).trans g6)
    have F11 := fr_canon _ F10 (psc a0 (psc a7 (psc a1 (psc a2 (psc a3 (psc a4 (psc a5 (psc a6 psn))))))))
    clear F10
    have stopCalls : StopCalls := ⟨⟩
    repeat' (first | (k_unfold; (try dsimp only)) | walk1 | (dsimp only; walk1) | fail "no step")
    refine Hold.mk (ct_use (c_match w z x _ _ (by omega) (by omega)) K0 F11 KX N10 TT rfl ?d3 ?u3 ?_)
    case d3 => ktr_room
    case u3 => ktr_units
    intro t14 h14 tk14 F14 N14
    rw [hzd]
    clear F11 N10
    cases d
    all_goals repeat' (first | (k_unfold; (try dsimp only)) | walk1 | (dsimp only; walk1) | fail "no step")
    all_goals (
      with_reducible rename Fr h₀ L _ _ => F15
      with_reducible rename News h₀ L _ _ => N15
      refine TurnEnd.next F15 N15 hI (eJ _ ⟨?_, ?_, ?_, ?_, ?_, ?_⟩) <;> with_unfolding_all rfl)
  · rintro h tk m' F10 N10 ⟨g1, g2, g3, g4, g5, g6⟩
    refine law_15 w ho K0 F10 KX TT c h34 h46 hc ns r lw e hr h4 h8 hlw he how hoe g1 g2 (by rw [hxe]; exact g3) g4 y hy46 hys hyl g5 X hX hXl g6 (fun p hp => ?_) hQ
    rcases List.mem_cons.mp hp with rfl | hp
    · exact N10 _ (by repeat (first | exact List.Mem.head _ | refine List.Mem.tail _ ?_))
    · rw [List.mem_singleton.mp hp]
      exact N10 _ (by repeat (first | exact List.Mem.head _ | refine List.Mem.tail _ ?_))
end Mine
end
section
-- L11
open PySem PySem.W PyProof.Rows PySem.Calls PySem.StrLaws
set_option Elab.async false
set_option maxRecDepth 100000
set_option maxHeartbeats 1000000
set_option pp.deepTerms false
set_option pp.maxSteps 1500
namespace Mine
theorem startL11 : True := by
  w_top off
  exact trivial
theorem fill11 : PySem.Challenge.rw_wr0013_01 = PySem.Challenge.rw_wr0013_01 ∧ Mine.hv.heap_1 = Mine.hv.heap_1 := by
  k_fill
  exact ⟨rfl, rfl⟩
local macro_rules | `(tactic| walk_at "call ref") => `(tactic| (have hq : Mine.StopCalls := (by with_reducible assumption); clear hq; refine Mine.Hold.of ?_))
local macro_rules | `(tactic| walk_at "exec For Name List cons nil") => `(tactic| (have hq : Mine.StopLoops := (by with_reducible assumption); clear hq; with_unfolding_all refine Mine.for_start ?_))
theorem refused_pre {k z : Str} (hk : k.length = 3) (hne : (k != Str.ofString "257") = true) : (Txt.slice (k ++ z) none (some 3) != Str.ofString "257") = true := by
  rw [slice3 (s := k)]
  · exact hne
  · rw [Lx_app, List.take_append_of_le_length (by rw [Lx_len]; omega), List.take_of_length_le (by rw [Lx_len]; omega)]
theorem cts_use {d : Nat} {w : World} {f : Addr} {vs : List Value} {R : Tok → Value} (C : CtS d w f vs R) {mean : ExcName → Option Value} {mg mb : Str → Option Value} {dp un : Nat} {gd : Option (List Code)} {cn : Str} {cs : Scope} {a : Addr} {ccd : Value} {cl : List (Str × Addr)} {A₀ : Around} {base h₀ : Heap} {L : Addr} {m : Str → Option Value} {news : List (Addr × Obj)} {s : Shared} {Q E : Value → Shared → Prop}
    (B : Below A₀ base [] h₀) (F : Fr h₀ L s.heap m) (X : (Mine.hv.heap_1 w.params).In h₀) (N : News h₀ L s.heap news) (T : Top pv (looseW pv []) mean mg mb h₀) (XB : (Mine.hv.heap_1 w.params).In base) (TB : Top pv (looseW pv []) mean mg mb base) (hk : cs.kind = .function)
    (hd : dp + d < recursionLimit) (hu : un + 8 * d < cLine)
    (ret : ∀ (t : Tok) (h' : Heap) (tk' : Nat), Fr h₀ L h' m → News h₀ L h' news → Q (R t) { s with heap := h', toks := tk' }) :
    wpAny (model pg w) (ktrTop dp un gd cn cs L a ccd cl []) (call (.ref f) vs) Q E s := C _ _ _ _ _ _ _ _ _ _ _ _ _ _ _ _ _ _ _ _ B F X N T XB TB hk hd hu ret
theorem code_at {t1 t2 t3 : Tok} {i : Nat} {v : Value} (hv : [Value.str (Str.ofString "250") t1, Value.str (Str.ofString "157") t2, Value.str (Str.ofString "227") t3][i]? = some v) : ∃ k t, v = .str k t ∧ k.length = 3 ∧ (k != Str.ofString "257") = true := by
  rcases i with _ | _ | _ | i
  · obtain rfl := Option.some.inj hv; exact ⟨_, _, rfl, by decide +kernel, by decide +kernel⟩
  · obtain rfl := Option.some.inj hv; exact ⟨_, _, rfl, by decide +kernel, by decide +kernel⟩
  · obtain rfl := Option.some.inj hv; exact ⟨_, _, rfl, by decide +kernel, by decide +kernel⟩
  · simp at hv
theorem law_11 (w : World) {name qual : Str} {params : Arguments} {body : List Stmt} {scope : Scope} {dV kV doc pm cdv ct oc : Value} {an od : Option Addr} {osl : Array (Option Value)}
    (ho : (Mine.hv.heap_1 w.params).lookup 119 = some ⟨oc, od, .func (fnOf name qual params body scope dV kV doc pm an cdv ct), osl⟩)
    {fa : Addr} {cd : Value} {mean : ExcName → Option Value} {mg mb : Str → Option Value} {h₀ : Heap} {L : Addr} {m : Str → Option Value} {s : Shared} {Q : Flow → Shared → Prop} {E : Value → Shared → Prop}
    (K0 : Below callerA h₀ [] h₀) (F : Fr h₀ L s.heap m) (KX : (Mine.hv.heap_1 w.params).In h₀) (TT : Top pv (looseW pv []) mean mg mb h₀)
    {ow oe : Obj} {vw : Option Value} {te : Tok} (c : Nat) (h34 : c ≠ 34) (h46 : c ≠ 46) (hc : c < 1114112) (ns : List Bool) (r lw e : Nat) (hr : rkB ns = r) (h4 : 4 ≤ r) (h8 : r ≤ 8) (hlw : lw < min r 6) (he : e < 3)
    (how : ow.data = .cell vw) (hoe : oe.data = .cell (some (.int e te)))
    {t1 t2 t3 t4 t5 t6 : Tok} (m1 : m "one" = some (.str ⟨#[c]⟩ t1)) (m2 : m "rank" = some (.int r t2)) (m3 : m "name" = some (.str (Sx c ns) t3)) (m4 : m "low" = some (.int lw t4))
    (y : Str) (hy46 : 46 ∉ Lx y) (hys : scan (Lx y) = []) (hyl : y.length ≤ 8) (m5 : m "behind" = some (.str y t5))
    (X : Str) (hX : Lx X = [50, 53, 55, 32, 34] ++ dbl 34 (Mine.T c ns) ++ Lx y) (hXl : X.length ≤ 40) (m6 : m "reply" = some (.str X t6))
    (N : News h₀ L s.heap [(L + 1 + 1, ow), (L + 1, oe)])
    (hQ : ∀ h' tk' gens' m', Fr h₀ L h' m' → (AllBare s.gens → AllBare gens') → Q (.ret (.bool true)) { s with heap := h', gens := gens', toks := tk' }) :
    wpAny (model pg w) (callerA.deeper (envOfC qual scope L fa cd)) (execs (body.drop 11) (envOfC qual scope L fa cd)) Q E s := by
  refine' lk_cases ?h ho ?_
  case h => k_is
  intro e1 e2 e3 e4 e5 e6
  subst e1 e2 e3 e4 e5 e6
  have F1 := fr_canon _ F (psc m1 (psc m2 (psc m3 (psc m4 (psc m5 (psc m6 psn))))))
  have stopLoops : StopLoops := ⟨⟩
  have stopCalls : StopCalls := ⟨⟩
  simp only [List.drop_succ_cons, List.drop_zero]
  repeat' (first | (k_unfold; (try dsimp only)) | walk1 | (dsimp only; walk1) | fail "no step")
  with_reducible rename Fr h₀ L _ _ => F2
  with_reducible rename News h₀ L _ _ => N2
  rename_i l9 h9 hl9
  refine Hold.mk (for_listCO (FmL c r lw (Sx c ns) y X t1 t2 t3 t4 t5 t6) (.head _) rfl F2 N2 ?_ rfl rfl ?_ ?_)
  · refine ⟨?_, ?_, ?_, ?_, ?_, ?_⟩ <;> with_unfolding_all rfl
  · rintro J' Q' eJ hQ' I i v m1' h tk o hv ⟨g1, g2, g3, g4, g5, g6⟩ hI F8 N8
    obtain ⟨k, tk1, rfl, hk3, hkn⟩ := code_at hv
    clear F2 N2
    generalize hM : (fun y => if y = Str.ofString "code" then some (Value.str k tk1) else m1' y) = M at F8
    have e0 : M "code" = some (.str k tk1) := by rw [← hM]; exact if_pos rfl
    have e1 : M "one" = some (.str ⟨#[c]⟩ t1) := by rw [← hM]; exact (if_neg (by decide)).trans g1
    have e2 : M "rank" = some (.int r t2) := by rw [← hM]; exact (if_neg (by decide)).trans g2
    have e3 : M "name" = some (.str (Sx c ns) t3) := by rw [← hM]; exact (if_neg (by decide)).trans g3
    have e4 : M "low" = some (.int lw t4) := by rw [← hM]; exact (if_neg (by decide)).trans g4
    have e5 : M "behind" = some (.str y t5) := by rw [← hM]; exact (if_neg (by decide)).trans g5
    have e6 : M "reply" = some (.str X t6) := by rw [← hM]; exact (if_neg (by decide)).trans g6
    have N9 : News h₀ L h _ := N8
    clear N8
    have F9 : Fr h₀ L h _ := fr_canon _ F8 (psc e0 (psc e1 (psc e2 (psc e3 (psc e4 (psc e5 (psc e6 psn)))))))
    clear F8
    repeat' (first | (k_unfold; (try dsimp only)) | walk1 | (dsimp only; walk1) | fail "no step")
    with_reducible rename Fr h₀ L _ _ => F10
    with_reducible rename News h₀ L _ _ => N10
    refine Hold.mk (cts_use (c_refused w (k ++ Txt.slice X (some 3) none) _ (by simp only [len_app]; omega) (refused_pre hk3 hkn)) K0 F10 KX N10 TT KX TT rfl ?d1 ?u1 ?_)
    case d1 => ktr_room
    case u1 => ktr_units
    intro t8 h8' tk8 F11 N11
    clear F10 N10
    repeat' (first | (k_unfold; (try dsimp only)) | walk1 | (dsimp only; walk1) | fail "no step")
    with_reducible rename Fr h₀ L _ _ => F12
    with_reducible rename News h₀ L _ _ => N12
    refine TurnEnd.next F12 N12 hI (eJ _ ⟨?_, ?_, ?_, ?_, ?_, ?_⟩) <;> with_unfolding_all rfl
  · rintro h tk m' F8 N8 ⟨g1, g2, g3, g4, g5, g6⟩
    exact law_12 w ho K0 F8 KX TT c h34 h46 hc ns r lw e hr h4 h8 hlw he how hoe g1 g2 g3 g4 y hy46 hys hyl g5 X hX hXl g6 (news_tail N8) hQ
end Mine
end
section
-- L8
open PySem PySem.W PyProof.Rows PySem.Calls PySem.StrLaws
set_option Elab.async false
set_option maxRecDepth 100000
set_option maxHeartbeats 1000000
set_option pp.deepTerms false
set_option pp.maxSteps 1500
namespace Mine
theorem startL8 : True := by
  w_top off
  exact trivial
theorem fill8 : PySem.Challenge.rw_wr0013_01 = PySem.Challenge.rw_wr0013_01 ∧ Mine.hv.heap_1 = Mine.hv.heap_1 := by
  k_fill
  exact ⟨rfl, rfl⟩
local macro_rules | `(tactic| walk_at "call ref") => `(tactic| (have hq : Mine.StopCalls := (by with_reducible assumption); clear hq; refine Mine.Hold.of ?_))
local macro_rules | `(tactic| walk_at "eval ListComp") => `(tactic| (have hq : Mine.StopComp := (by with_reducible assumption); clear hq; refine Mine.Hold.of ?_))
local macro_rules | `(tactic| walk_at "compareOp NotEq ref ref") => `(tactic| (have hq : Mine.StopAdd := (by with_reducible assumption); clear hq; refine Mine.Hold.of ?_))
structure StopExec : Prop where
local macro_rules | `(tactic| walk_at "execs cons") => `(tactic| (have hq : Mine.StopExec := (by with_reducible assumption); clear hq; refine Mine.Hold.of ?_))
/-- a list comp over a list of the ledger's, the ledger untouched by its element -/
theorem comp_listC {prog : Program} {w : World} {A : Around} {E : Value → Shared → Prop} {s : Shared} {h₀ : Heap} {L : Addr} {m : Str → Option Value} {env : Env} {elt iter : PySem.Expr} {x : Str} {px : Pos} {scope : Scope} {cl : List (Str × Addr)} {pos : Pos} {ax : Addr} {vs : List Value} {nn : Nat} {news : List (Addr × Obj)} {Q : Value → Shared → Prop}
    (F₀ : Fr h₀ L s.heap m) (_N₀ : News h₀ L s.heap news) (hl : (ax, listOf vs.toArray nn) ∈ news) (hclos : closureFor scope env = pure cl) (hcell : ∀ y ∈ scope.names, y.2 ≠ .cell) (hkind : scope.kind = .function)
    (hnames : ∀ y ∈ scope.names, y.2 = .local → scope.names.lookup y.1 = some .local) (hx : scope.names.lookup x = some .local) (hh : A.handled = none)
    (J : Nat → List Value → Prop) (hj0 : J 0 []) (hsz : vs.length ≤ sizeLine)
    (turn : ∀ (i : Nat) (v : Value) I oI C oC D m₂ ys h tk gens (E' : Value → Shared → Prop), vs[i]? = some v → LCg.NsObj oC m₂ → m₂ x = some v → Fr h₀ L h m → News h₀ L h ((I, oI) :: (C, oC) :: (D, LCg.lst ys) :: news) → ((@Ne Nat I C) ∧ (@Ne Nat I D) ∧ (@Ne Nat C D)) → J i ys →
        wpAny (model prog w) A (eval elt (compEnvC scope cl C env)) (fun y s₄ => Hold (∃ h' tk', s₄ = { s with heap := h', gens := gens, toks := tk' } ∧ Fr h₀ L h' m ∧ News h₀ L h' ((I, oI) :: (C, oC) :: (D, LCg.lst ys) :: news) ∧ J (i + 1) (ys ++ [y]))) E' { s with heap := h, gens := gens, toks := tk })
    (fin : ∀ D h tk gens ys, Fr h₀ L h m → News h₀ L h ((D, LCg.lst ys) :: news) → LCg.Off1 D news → J vs.length ys → (AllBare s.gens → AllBare gens) → Q (.ref D) { s with heap := h, gens := gens, toks := tk })
    (hit : wpAny (model prog w) A (eval iter env) (fun xv s₁ => Hold (xv = .ref ax ∧ ∃ h' tk', s₁ = { s with heap := h', toks := tk' } ∧ Fr h₀ L h' m ∧ News h₀ L h' news)) E s)
    (hs : ∀ x, foldedSetIterable iter env x = pure x := by intro _; rfl) :
    wpAny (model prog w) A (eval (.ListComp elt [⟨.Name x px, iter, [], 0⟩] scope pos) env) Q E s := by
  refine comp_listF (news := news) F₀ hclos hcell hkind hnames hx hh (fun i ys nx => nx = news ∧ J i ys) (fun i ys nx ⟨e, _⟩ => e ▸ hl) hsz (wpAny_mono hit (fun xv s₁ hq => ?_) fun _ _ e => e) hs
  obtain ⟨rfl, h', tk', rfl, F1, N1⟩ := Hold.of hq
  refine Hold.mk ⟨rfl, F1, N1, ⟨rfl, hj0⟩, ?_, ?_⟩
  · rintro i v I oI C oC D m₂ ys nx h tk gens E' _ hv hns hm F N off3 hne ⟨rfl, hj⟩ hb
    refine wpAny_mono (turn i v I oI C oC D m₂ ys h tk gens E' hv hns hm F N hne hj) (fun y s₄ hq2 => ?_) fun _ _ e => e
    obtain ⟨h2, tk2, rfl, F2, N2, hj2⟩ := Hold.of hq2
    exact Hold.mk ⟨h2, tk2, gens, _, rfl, F2, N2, off3, ⟨rfl, hj2⟩, hb⟩
  · rintro D h tk gens ys nx F N off1 ⟨rfl, hj⟩ hb
    exact fin D h tk gens ys F N off1 hj hb
/-- the four fronts -/
def frontsOf (X : Str) : List Str := [X, Str.ofString "257" ++ Txt.slice X (some 4) none, Str.ofString "257-" ++ Txt.slice X (some 4) none, Str.ofString "257 -" ++ Txt.slice X (some 5) none]
theorem fronts_at {X : Str} {t0 t1 t2 t3 : Tok} {i : Nat} {v : Value} (hv : [Value.str X t0, Value.str (Str.ofString "257" ++ Txt.slice X (some 4) none) t1, Value.str (Str.ofString "257-" ++ Txt.slice X (some 4) none) t2, Value.str (Str.ofString "257 -" ++ Txt.slice X (some 5) none) t3][i]? = some v) : ∃ z t, v = .str z t ∧ (frontsOf X)[i]? = some z := by
  rcases i with _ | _ | _ | _ | i
  iterate 4 (first | (obtain rfl := Option.some.inj hv; exact ⟨_, _, rfl, rfl⟩) | skip)
  all_goals first | (obtain rfl := Option.some.inj hv; exact ⟨_, _, rfl, rfl⟩) | (simp at hv)
theorem l257 : Lx (Str.ofString "257-") = [50, 53, 55, 45] := by decide +kernel
theorem l257b : Lx (Str.ofString "257 -") = [50, 53, 55, 32, 45] := by decide +kernel
theorem fronts_slice {X : Str} {r : List Nat} (hX : Lx X = [50, 53, 55, 32, 34] ++ r) : ∀ z ∈ frontsOf X, Txt.slice z none (some 3) = Str.ofString "257" := by
  intro z hz
  refine slice3 ?_
  rw [lx257]
  simp only [frontsOf, List.mem_cons, List.not_mem_nil, or_false] at hz
  rcases hz with rfl | rfl | rfl | rfl
  · rw [hX]; rfl
  · rw [Lx_app, lx257]; rfl
  · rw [Lx_app, l257]; rfl
  · rw [Lx_app, l257b]; rfl
theorem fronts_parse {X : Str} {r : List Nat} (hX : Lx X = [50, 53, 55, 32, 34] ++ r) : (frontsOf X).map parseF = [parseF X, Str.ofString "", Str.ofString "", Str.ofString ""] := by
  have h4 : Lx (Txt.slice X (some 4) none) = 34 :: r := by
    have := slice_a X 4
    rw [show ((4 : Nat) : Int) = 4 from rfl] at this
    rw [this, hX]; rfl
  have h5 : Lx (Txt.slice X (some 5) none) = r := by
    have := slice_a X 5
    rw [show ((5 : Nat) : Int) = 5 from rfl] at this
    rw [this, hX]; rfl
  unfold frontsOf
  rw [List.map_cons, List.map_cons, List.map_cons, List.map_cons, List.map_nil]
  rw [parse_no (z := Str.ofString "257" ++ _) (by rw [Lx_app, lx257, h4]; cases r <;> simp), parse_no (z := Str.ofString "257-" ++ _) (by rw [Lx_app, l257, h4]; simp), parse_no (z := Str.ofString "257 -" ++ _) (by rw [Lx_app, l257b, h5]; simp)]
theorem fronts_len {X : Str} (h : X.length ≤ 40) (h1 : (Txt.slice X (some 4) none).length ≤ X.length) (h2 : (Txt.slice X (some 5) none).length ≤ X.length) : ∀ z ∈ frontsOf X, z.length ≤ 200 := by
  intro z hz
  have e1 : (Str.ofString "257").length = 3 := by decide +kernel
  have e2 : (Str.ofString "257-").length = 4 := by decide +kernel
  have e3 : (Str.ofString "257 -").length = 5 := by decide +kernel
  simp only [frontsOf, List.mem_cons, List.not_mem_nil, or_false] at hz
  rcases hz with rfl | rfl | rfl | rfl
  · omega
  · simp only [len_app]; omega
  · simp only [len_app]; omega
  · simp only [len_app]; omega
theorem law_8 (w : World) {name qual : Str} {params : Arguments} {body : List Stmt} {scope : Scope} {dV kV doc pm cdv ct oc : Value} {an od : Option Addr} {osl : Array (Option Value)}
    (ho : (Mine.hv.heap_1 w.params).lookup 119 = some ⟨oc, od, .func (fnOf name qual params body scope dV kV doc pm an cdv ct), osl⟩)
    {fa : Addr} {cd : Value} {mean : ExcName → Option Value} {mg mb : Str → Option Value} {h₀ : Heap} {L : Addr} {m : Str → Option Value} {s : Shared} {Q : Flow → Shared → Prop} {E : Value → Shared → Prop}
    (K0 : Below callerA h₀ [] h₀) (F : Fr h₀ L s.heap m) (KX : (Mine.hv.heap_1 w.params).In h₀) (TT : Top pv (looseW pv []) mean mg mb h₀)
    {ow oe : Obj} {vw : Option Value} {te : Tok} (c : Nat) (h34 : c ≠ 34) (h46 : c ≠ 46) (hc : c < 1114112) (ns : List Bool) (r lw e : Nat) (hr : rkB ns = r) (h4 : 4 ≤ r) (h8 : r ≤ 8) (hlw : lw < min r 6) (he : e < 3)
    (how : ow.data = .cell vw) (hoe : oe.data = .cell (some (.int e te)))
    {t1 t2 t3 t4 t5 t6 : Tok} (m1 : m "one" = some (.str ⟨#[c]⟩ t1)) (m2 : m "rank" = some (.int r t2)) (m3 : m "name" = some (.str (Sx c ns) t3)) (m4 : m "low" = some (.int lw t4))
    (y : Str) (hy46 : 46 ∉ Lx y) (hys : scan (Lx y) = []) (hyl : y.length ≤ 8) (m5 : m "behind" = some (.str y t5))
    (N : News h₀ L s.heap [(L + 1 + 1, ow), (L + 1, oe)])
    (hQ : ∀ h' tk' gens' m', Fr h₀ L h' m' → (AllBare s.gens → AllBare gens') → Q (.ret (.bool true)) { s with heap := h', gens := gens', toks := tk' }) :
    wpAny (model pg w) (callerA.deeper (envOfC qual scope L fa cd)) (execs (body.drop 8) (envOfC qual scope L fa cd)) Q E s := by
  refine' lk_cases ?h ho ?_
  case h => k_is
  intro e1 e2 e3 e4 e5 e6
  subst e1 e2 e3 e4 e5 e6
  have F1 := fr_canon _ F (psc m1 (psc m2 (psc m3 (psc m4 (psc m5 psn)))))
  have stopCalls : StopCalls := ⟨⟩
  simp only [List.drop_succ_cons, List.drop_zero]
  repeat' (first | (k_unfold; (try dsimp only)) | walk1 | (dsimp only; walk1) | fail "no step")
  have hnl : (Sx c ns).length ≤ 8 := by rw [Sx_len]; have := rk_len ns; omega
  refine Hold.mk (ct_use (c_reply w (Sx c ns) y t3 t5 (by omega) (by omega)) K0 F1 KX N TT rfl ?d ?u ?_)
  case d => ktr_room
  case u => ktr_units
  intro t6 h6 tk6 F6 N6
  have hX := reply_L (Sx c ns) y
  have hpX : parseF (replyF (Sx c ns) y) = Sx c ns := parse_reply hys hX
  rw [Sx_L] at hX
  have hXl : (replyF (Sx c ns) y).length ≤ 40 := by
    have h1 := congrArg List.length hX
    rw [Lx_len] at h1
    have h2 : (dbl 34 (Mine.T c ns)).length ≤ 2 * ns.length := by rw [← T_len c ns]; exact dbl_len2 _
    rw [Sx_len] at hnl
    simp only [List.length_append, List.length_cons, List.length_nil, Lx_len] at h1
    omega
  generalize replyF (Sx c ns) y = X at hX hXl hpX ⊢
  have stopComp : StopComp := ⟨⟩
  clear F F1 N
  repeat' (first | (k_unfold; (try dsimp only)) | walk1 | (dsimp only; walk1) | fail "no step")
  with_reducible rename Fr h₀ L _ _ => F9
  with_reducible rename News h₀ L _ _ => N9
  have hXr : Lx X = [50, 53, 55, 32, 34] ++ (dbl 34 (Mine.T c ns) ++ Lx y) := by rw [hX, List.append_assoc]
  have hfl := fronts_len hXl (by assumption) (by assumption)
  have hfs := fronts_slice hXr
  have hfp := fronts_parse hXr
  rw [hpX] at hfp
  refine Hold.mk (comp_listC (cl := []) F9 N9 (.head _) (by rfl) (by decide) rfl (by decide) (by rfl) (by rfl) (fun i ys => StrsAre ys (((frontsOf X).map parseF).take i)) .nil ?hsz ?_ ?_ ?_)
  case hsz => show 4 ≤ _; rw [sizeLine_eq]; decide
  · intro i v I oI C oC D m2 ys h tk gens E' hv hns hm F16 N16 hne hys2
    obtain ⟨z, tz, rfl, hz⟩ := fronts_at hv
    have hzm := List.mem_of_getElem? hz
    clear F9 N9
    have hzl := hfl z hzm
    repeat' (first | (k_unfold; (try dsimp only)) | walk1 | (dsimp only; walk1))
    refine Hold.mk (ct_use (c_parse w z _ (by omega) (hfs z hzm)) K0 F16 KX N16 TT rfl ?d2 ?u2 ?_)
    case d2 => ktr_room
    case u2 => ktr_units
    intro t9 h9 tk9 F17 N17
    clear F16 N16
    repeat' (first | (k_unfold; (try dsimp only)) | walk1 | (dsimp only; walk1))
    refine Hold.mk ⟨_, _, rfl, F17, N17, ?_⟩
    rw [List.take_add_one, List.getElem?_map, hz]
    exact kct_snoc hys2
  · intro D h tk gens ys F16 N16 off1 hys2 hb
    clear F9 N9
    rw [hfp] at hys2
    have stopAdd : StopAdd := ⟨⟩
    repeat' (first | (k_unfold; (try dsimp only)) | walk1 | (dsimp only; walk1))
    with_reducible rename Fr h₀ L _ _ => F17
    with_reducible rename News h₀ L _ _ => N17
    have hys3 : StrsAre ys [Sx c ns, Str.ofString "", Str.ofString "", Str.ofString ""] := hys2
    have hok : ∀ x ∈ [Sx c ns, Str.ofString "", Str.ofString "", Str.ofString ""], PyData.strOk x = true := by
      intro x hx
      rcases List.mem_cons.mp hx with rfl | hx
      · exact Sx_ok hc ns
      · have : x = Str.ofString "" := by simpa using hx
        rw [this]; decide +kernel
    refine Hold.mk (ne_strs ⟨_, (N17 _ (.tail _ (.head _))).1, rfl, _, rfl⟩ ⟨_, (N17 _ (.head _)).1, rfl, _, rfl⟩ hys3 (.cons _ _ (.cons _ _ (.cons _ _ (.cons _ _ .nil)))) hok hok ?uu ?_)
    case uu => first | ke_room | ktr_units
    rw [decide_eq_true rfl]
    simp only [Bool.not_true]
    have stopExec : StopExec := ⟨⟩
    repeat' (first | (k_unfold; (try dsimp only)) | walk1 | (dsimp only; walk1) | fail "no step")
    with_reducible rename Fr h₀ L _ _ => F18
    with_reducible rename News h₀ L _ _ => N18
    refine Hold.mk (law_11 (t1 := t1) (t2 := t2) (t3 := t3) (t4 := t4) (t5 := t5) (t6 := t6) w ho K0 F18 KX TT c h34 h46 hc ns r lw e hr h4 h8 hlw he how hoe ?g1 ?g2 ?g3 ?g4 y hy46 hys hyl ?g5 X hX hXl ?g6 (fun p hp => ?hN) (fun h' tk' gens' m' Fz hz => hQ h' tk' gens' m' Fz (fun hb0 => hz (hb hb0))))
    case hN =>
      rcases List.mem_cons.mp hp with rfl | hp
      · exact N18 _ (by repeat (first | exact List.Mem.head _ | refine List.Mem.tail _ ?_))
      · rw [List.mem_singleton.mp hp]
        exact N18 _ (by repeat (first | exact List.Mem.head _ | refine List.Mem.tail _ ?_))
    all_goals with_unfolding_all rfl
  · repeat' (first | (k_unfold; (try dsimp only)) | walk1 | (dsimp only; walk1))
    exact Hold.mk ⟨rfl, _, _, rfl, F9, N9⟩
end Mine
end
section
-- L5
open PySem PySem.W PyProof.Rows PySem.Calls PySem.StrLaws
set_option Elab.async false
set_option maxRecDepth 100000
set_option maxHeartbeats 1000000
set_option pp.deepTerms false
set_option pp.maxSteps 1500
namespace Mine
theorem startL5 : True := by
  w_top off
  exact trivial
theorem fill5 : PySem.Challenge.rw_wr0013_01 = PySem.Challenge.rw_wr0013_01 ∧ Mine.hv.heap_1 = Mine.hv.heap_1 := by
  k_fill
  exact ⟨rfl, rfl⟩
local macro_rules | `(tactic| walk_at "call ref") => `(tactic| (have hq : Mine.StopCalls := (by with_reducible assumption); clear hq; refine Mine.Hold.of ?_))
local macro_rules | `(tactic| walk_at "execs cons") => `(tactic| (have hq : Mine.StopExec := (by with_reducible assumption); (with_reducible show wpAny _ _ (PySem.execs (Stmt.Assign [Expr.Name (Str.ofString "reply") _] _ _ :: _) _) _ _ _); clear hq; refine Mine.Hold.of ?_))
theorem law_5 (w : World) {name qual : Str} {params : Arguments} {body : List Stmt} {scope : Scope} {dV kV doc pm cdv ct oc : Value} {an od : Option Addr} {osl : Array (Option Value)}
    (ho : (Mine.hv.heap_1 w.params).lookup 119 = some ⟨oc, od, .func (fnOf name qual params body scope dV kV doc pm an cdv ct), osl⟩)
    {fa : Addr} {cd : Value} {mean : ExcName → Option Value} {mg mb : Str → Option Value} {h₀ : Heap} {L : Addr} {m : Str → Option Value} {s : Shared} {Q : Flow → Shared → Prop} {E : Value → Shared → Prop}
    (K0 : Below callerA h₀ [] h₀) (F : Fr h₀ L s.heap m) (KX : (Mine.hv.heap_1 w.params).In h₀) (TT : Top pv (looseW pv []) mean mg mb h₀)
    {ow oe : Obj} {vw ve : Option Value} (how : ow.data = .cell vw) (hoe : oe.data = .cell ve)
    {D : Addr} {nn : Nat} {a0 a1 a2 a3 a4 : Int} {u0 u1 u2 u3 u4 : Tok} (b0 : 0 ≤ a0 ∧ a0 ≤ 1000018) (b1 : 0 ≤ a1 ∧ a1 ≤ 1000018) (b2 : 0 ≤ a2 ∧ a2 ≤ 1000018) (b3 : 0 ≤ a3 ∧ a3 ≤ 1000018) (b4 : 0 ≤ a4 ∧ a4 ≤ 1000018)
    (N : News h₀ L s.heap [(D, listOf [Value.int a0 u0, Value.int a1 u1, Value.int a2 u2, Value.int a3 u3, Value.int a4 u4].toArray nn), (L + 1 + 1, ow), (L + 1, oe)]) (hD : @LT.lt Nat instLTNat (L + 1 + 1) D ∨ @LT.lt Nat instLTNat D (L + 1 + 1)) (hDa : @LT.lt Nat instLTNat (L + 1) D ∨ @LT.lt Nat instLTNat D (L + 1)) (m0 : m "numbers" = some (.ref D))
    (c : Nat) (h34 : c ≠ 34) (h46 : c ≠ 46) (hc : c < 1114112) (ns : List Bool) (r : Nat) (hr : rkB ns = r) (h4 : 4 ≤ r) (h8 : r ≤ 8)
    {t1 t2 t3 : Tok} (m1 : m "one" = some (.str ⟨#[c]⟩ t1)) (m2 : m "rank" = some (.int r t2)) (m3 : m "name" = some (.str (Sx c ns) t3))
    (hQ : ∀ h' tk' gens' m', Fr h₀ L h' m' → (AllBare s.gens → AllBare gens') → Q (.ret (.bool true)) { s with heap := h', gens := gens', toks := tk' }) :
    wpAny (model pg w) (callerA.deeper (envOfC qual scope L fa cd)) (execs (body.drop 5) (envOfC qual scope L fa cd)) Q E s := by
  refine' lk_cases ?h ho ?_
  case h => k_is
  intro e1 e2 e3 e4 e5 e6
  subst e1 e2 e3 e4 e5 e6
  have F1 := fr_canon _ F (psc m0 (psc m1 (psc m2 (psc m3 psn))))
  have stopExec : StopExec := ⟨⟩
  clear F
  have hlw1 : ∃ lw : Nat, ([a0, a1, a2, a3, a4].getD (Int.toNat 2) 0).fmod (if 6 < (r : Int) then 6 else (r : Int)) = (lw : Int) ∧ lw < min r 6 := by
    have hp : (0 : Int) < (if 6 < (r : Int) then 6 else (r : Int)) := by split <;> omega
    have hq : (if 6 < (r : Int) then 6 else (r : Int)) = ((min r 6 : Nat) : Int) := by split <;> omega
    have h1 := Int.fmod_nonneg_of_pos ([a0, a1, a2, a3, a4].getD (Int.toNat 2) 0) hp
    have h2 := Int.fmod_lt_of_pos ([a0, a1, a2, a3, a4].getD (Int.toNat 2) 0) hp
    generalize ([a0, a1, a2, a3, a4].getD (Int.toNat 2) 0).fmod (if 6 < (r : Int) then 6 else (r : Int)) = z at h1 h2
    exact ⟨z.toNat, by omega, by omega⟩
  have he1 : ∃ e : Nat, (([a0, a1, a2, a3, a4].getD (Int.toNat 4) 0).fdiv 3).fmod 3 = (e : Int) ∧ e < 3 := by
    have h1 := Int.fmod_nonneg_of_pos (([a0, a1, a2, a3, a4].getD (Int.toNat 4) 0).fdiv 3) (show (0 : Int) < 3 by decide)
    have h2 := Int.fmod_lt_of_pos (([a0, a1, a2, a3, a4].getD (Int.toNat 4) 0).fdiv 3) (show (0 : Int) < 3 by decide)
    exact ⟨_, (Int.toNat_of_nonneg h1).symm, by omega⟩
  simp only [List.drop_succ_cons, List.drop_zero]
  repeat' (first | (k_unfold; (try dsimp only)) | walk1 | (dsimp only; walk1) | fail "no step")
  · obtain ⟨lw, hlwe, hlw⟩ := hlw1
    obtain ⟨e, hee, he⟩ := he1
    with_reducible rename Fr h₀ L _ _ => F9
    with_reducible rename News h₀ L _ _ => N9
    rename Obj.data _ = Data.cell (some _) => d9
    rw [hlwe] at F9
    rw [hee] at d9
    refine' Hold.mk (law_8 (lw := lw) (e := e) w ho K0 F9 KX TT c h34 h46 hc ns r hr h4 h8 hlw he how d9 ?g1 ?g2 ?g3 ?g4 (Str.ofString "\"") ?h46 ?hys ?hyl ?g5 (fun p hp => ?hN) hQ)
    case hN =>
      rcases List.mem_cons.mp hp with rfl | hp
      · exact N9 _ (by repeat (first | exact List.Mem.head _ | refine List.Mem.tail _ ?_))
      · rw [List.mem_singleton.mp hp]
        exact N9 _ (by repeat (first | exact List.Mem.head _ | refine List.Mem.tail _ ?_))
    case h46 => decide +kernel
    case hys => decide +kernel
    case hyl => decide +kernel
    case g1 => with_unfolding_all rfl
    case g2 => with_unfolding_all rfl
    case g3 => with_unfolding_all rfl
    case g4 => with_unfolding_all rfl
    case g5 => with_unfolding_all rfl
    all_goals exact 0
  · obtain ⟨lw, hlwe, hlw⟩ := hlw1
    obtain ⟨e, hee, he⟩ := he1
    with_reducible rename Fr h₀ L _ _ => F9
    with_reducible rename News h₀ L _ _ => N9
    rename Obj.data _ = Data.cell (some _) => d9
    rw [hlwe] at F9
    rw [hee] at d9
    refine' Hold.mk (law_8 (lw := lw) (e := e) w ho K0 F9 KX TT c h34 h46 hc ns r hr h4 h8 hlw he how d9 ?g1 ?g2 ?g3 ?g4 (Str.ofString "\" is it") ?h46 ?hys ?hyl ?g5 (fun p hp => ?hN) hQ)
    case hN =>
      rcases List.mem_cons.mp hp with rfl | hp
      · exact N9 _ (by repeat (first | exact List.Mem.head _ | refine List.Mem.tail _ ?_))
      · rw [List.mem_singleton.mp hp]
        exact N9 _ (by repeat (first | exact List.Mem.head _ | refine List.Mem.tail _ ?_))
    case h46 => decide +kernel
    case hys => decide +kernel
    case hyl => decide +kernel
    case g1 => with_unfolding_all rfl
    case g2 => with_unfolding_all rfl
    case g3 => with_unfolding_all rfl
    case g4 => with_unfolding_all rfl
    case g5 => with_unfolding_all rfl
    all_goals exact 0
  · obtain ⟨lw, hlwe, hlw⟩ := hlw1
    obtain ⟨e, hee, he⟩ := he1
    with_reducible rename Fr h₀ L _ _ => F9
    with_reducible rename News h₀ L _ _ => N9
    rename Obj.data _ = Data.cell (some _) => d9
    rw [hlwe] at F9
    rw [hee] at d9
    refine' Hold.mk (law_8 (lw := lw) (e := e) w ho K0 F9 KX TT c h34 h46 hc ns r hr h4 h8 hlw he how d9 ?g1 ?g2 ?g3 ?g4 (Str.ofString "") ?h46 ?hys ?hyl ?g5 (fun p hp => ?hN) hQ)
    case hN =>
      rcases List.mem_cons.mp hp with rfl | hp
      · exact N9 _ (by repeat (first | exact List.Mem.head _ | refine List.Mem.tail _ ?_))
      · rw [List.mem_singleton.mp hp]
        exact N9 _ (by repeat (first | exact List.Mem.head _ | refine List.Mem.tail _ ?_))
    case h46 => decide +kernel
    case hys => decide +kernel
    case hyl => decide +kernel
    case g1 => with_unfolding_all rfl
    case g2 => with_unfolding_all rfl
    case g3 => with_unfolding_all rfl
    case g4 => with_unfolding_all rfl
    case g5 => with_unfolding_all rfl
    all_goals exact 0
end Mine
end
section
-- L4
open PySem PySem.W PyProof.Rows PySem.Calls PySem.StrLaws
set_option Elab.async false
set_option maxRecDepth 100000
set_option maxHeartbeats 1000000
set_option pp.deepTerms false
set_option pp.maxSteps 1500
namespace Mine
theorem startL4 : True := by
  w_top off
  exact trivial
local macro_rules | `(tactic| walk_at "no key 0") => `(tactic| skip)
theorem fill4 : PySem.Challenge.rw_wr0013_01 = PySem.Challenge.rw_wr0013_01 ∧ Mine.hv.heap_1 = Mine.hv.heap_1 := by
  k_fill
  exact ⟨rfl, rfl⟩
local macro_rules | `(tactic| walk_at "call ref") => `(tactic| (have hq : Mine.StopCalls := (by with_reducible assumption); clear hq; refine Mine.Hold.of ?_))
local macro_rules | `(tactic| walk_at "exec While Compare cons nil") => `(tactic| (have hq : Mine.StopLoops := (by with_reducible assumption); clear hq; refine Mine.Hold.of ?_))
theorem hasS_of {m : Str → Option Value} {x v v' : Str} {t : Tok} (e : m x = some (.str v t)) (hv : v = v') : HasS m x v' := ⟨t, hv ▸ e⟩
theorem hasI_of {m : Str → Option Value} {x : Str} {v v' : Int} {t : Tok} (e : m x = some (.int v t)) (hv : v = v') : HasI m x v' := ⟨t, hv ▸ e⟩
theorem snoc_T (c : Nat) (us : List Bool) : Sx c us ++ Str.ofString "\"" = Sx c (us ++ [true]) := by rw [Sx_q c, Sx_app]
theorem snoc_F (c : Nat) (us : List Bool) : Sx c us ++ (⟨#[c]⟩ : Str) = Sx c (us ++ [false]) := Sx_app c us [false]
theorem half_ok {b : Int} (h0 : 0 ≤ b) (h1 : b ≤ 1000018) : 0 ≤ b.fdiv 2 ∧ b.fdiv 2 ≤ 1000018 := by
  rw [Int.fdiv_eq_ediv_of_nonneg _ (by decide)]; omega
inductive LInv (s : Shared) (h₀ : Heap) (L : Addr) (news : List (Addr × Obj)) (D : Addr) (c r : Nat) (t1 t2 : Tok) (k : Nat) (s' : Shared) : Prop
  | mk (h : Heap) (tk : Nat) (m' : Str → Option Value) (us : List Bool) (b : Int) (e : s' = { s with heap := h, toks := tk }) (F : Fr h₀ L h m') (N : News h₀ L h news)
      (g1 : m' "numbers" = some (.ref D)) (g2 : m' "one" = some (.str ⟨#[c]⟩ t1)) (g3 : m' "rank" = some (.int r t2)) (g4 : HasS m' "name" (Sx c us)) (g5 : HasI m' "left" ((r : Int) - (rkB us : Int))) (g6 : HasI m' "bits" b)
      (hle : rkB us ≤ r) (hb0 : 0 ≤ b) (hb1 : b ≤ 1000018) (hk : k = r - rkB us) : LInv s h₀ L news D c r t1 t2 k s'
theorem law_4 (w : World) {name qual : Str} {params : Arguments} {body : List Stmt} {scope : Scope} {dV kV doc pm cdv ct oc : Value} {an od : Option Addr} {osl : Array (Option Value)}
    (ho : (Mine.hv.heap_1 w.params).lookup 119 = some ⟨oc, od, .func (fnOf name qual params body scope dV kV doc pm an cdv ct), osl⟩)
    {fa : Addr} {cd : Value} {mean : ExcName → Option Value} {mg mb : Str → Option Value} {h₀ : Heap} {L : Addr} {m : Str → Option Value} {s : Shared} {Q : Flow → Shared → Prop} {E : Value → Shared → Prop}
    (K0 : Below callerA h₀ [] h₀) (F : Fr h₀ L s.heap m) (KX : (Mine.hv.heap_1 w.params).In h₀) (TT : Top pv (looseW pv []) mean mg mb h₀)
    {ow oe : Obj} {vw ve : Option Value} (how : ow.data = .cell vw) (hoe : oe.data = .cell ve)
    {D : Addr} {nn : Nat} {a0 a1 a2 a3 a4 : Int} {u0 u1 u2 u3 u4 : Tok} (b0 : 0 ≤ a0 ∧ a0 ≤ 1000018) (b1 : 0 ≤ a1 ∧ a1 ≤ 1000018) (b2 : 0 ≤ a2 ∧ a2 ≤ 1000018) (b3 : 0 ≤ a3 ∧ a3 ≤ 1000018) (b4 : 0 ≤ a4 ∧ a4 ≤ 1000018)
    (N : News h₀ L s.heap [(D, listOf [Value.int a0 u0, Value.int a1 u1, Value.int a2 u2, Value.int a3 u3, Value.int a4 u4].toArray nn), (L + 1 + 1, ow), (L + 1, oe)]) (hD : @LT.lt Nat instLTNat (L + 1 + 1) D ∨ @LT.lt Nat instLTNat D (L + 1 + 1)) (hDa : @LT.lt Nat instLTNat (L + 1) D ∨ @LT.lt Nat instLTNat D (L + 1)) (m0 : m "numbers" = some (.ref D))
    (c : Nat) (h34 : c ≠ 34) (h46 : c ≠ 46) (hc : c < 1114112) (r : Nat) (h4 : 4 ≤ r) (h8 : r ≤ 8)
    {t1 t2 t3 t4 t5 : Tok} (m1 : m "one" = some (.str ⟨#[c]⟩ t1)) (m2 : m "rank" = some (.int r t2)) (m3 : m "name" = some (.str (Str.ofString "") t3)) (m4 : m "left" = some (.int r t4)) (m5 : m "bits" = some (.int a0 t5))
    (hQ : ∀ h' tk' gens' m', Fr h₀ L h' m' → (AllBare s.gens → AllBare gens') → Q (.ret (.bool true)) { s with heap := h', gens := gens', toks := tk' }) :
    wpAny (model pg w) (callerA.deeper (envOfC qual scope L fa cd)) (execs (body.drop 4) (envOfC qual scope L fa cd)) Q E s := by
  refine' lk_cases ?h ho ?_
  case h => k_is
  intro e1 e2 e3 e4 e5 e6
  subst e1 e2 e3 e4 e5 e6
  have F1 := fr_canon _ F (psc m0 (psc m1 (psc m2 (psc m3 (psc m4 (psc m5 psn))))))
  have stopLoops : StopLoops := ⟨⟩
  clear F
  simp only [List.drop_succ_cons, List.drop_zero]
  repeat' (first | (k_unfold; (try dsimp only)) | walk1 | (dsimp only; walk1) | fail "no step")
  refine Hold.mk (while_ruleO (LInv s h₀ L [(D, listOf [Value.int a0 u0, Value.int a1 u1, Value.int a2 u2, Value.int a3 u3, Value.int a4 u4].toArray nn), (L + 1 + 1, ow), (L + 1, oe)] D c r t1 t2) r ?_ ?_)
  · refine ⟨_, _, _, [], a0, rfl, F1, N, ?_, ?_, ?_, ⟨t3, ?_⟩, ⟨t4, ?_⟩, ⟨t5, ?_⟩, Nat.zero_le _, b0.1, b0.2, rfl⟩
    · with_unfolding_all rfl
    · with_unfolding_all rfl
    · with_unfolding_all rfl
    · rw [← Sx_nil c]; with_unfolding_all rfl
    · rw [show ((r : Int) - ((rkB [] : Nat) : Int)) = (r : Int) by simp [rkB]]; with_unfolding_all rfl
    · with_unfolding_all rfl
  · rintro I' Q' eI hQ' k s' ⟨h, tk, m', us, b, rfl, F3, N3, g1, g2, g3, ⟨v4, g4⟩, ⟨v5, g5⟩, ⟨v6, g6⟩, hle, hb0, hb1, rfl⟩
    clear F1 N
    generalize hz : (r : Int) - (rkB us : Int) = z at g5
    have F4 := fr_canon _ F3 (psc g1 (psc g2 (psc g3 (psc g4 (psc g5 (psc g6 psn))))))
    clear F3
    have hlz : (Sx c us).length ≤ 8 := by rw [Sx_len]; have := rk_len us; omega
    repeat' (first | (k_unfold; (try dsimp only)) | walk1 | (dsimp only; walk1) | fail "no step")
    · have hbd := half_ok hb0 hb1
      have rT := rk_snoc us true
      simp only [if_true] at rT
      with_reducible rename Fr h₀ L _ _ => F9
      with_reducible rename News h₀ L _ _ => N9
      subst eI
      exact Hold.mk ⟨r - rkB (us ++ [true]), by omega, _, _, _, us ++ [true], b.fdiv 2, rfl, F9, N9, by with_unfolding_all rfl, by with_unfolding_all rfl, by with_unfolding_all rfl,
        hasS_of (by with_unfolding_all rfl) (snoc_T c us), hasI_of (v := z - 2) (by with_unfolding_all rfl) (by omega), ⟨_, by with_unfolding_all rfl⟩, by omega, hbd.1, hbd.2, rfl⟩
    · have hbd := half_ok hb0 hb1
      have rT := rk_snoc us false
      simp only [Bool.false_eq_true, if_false] at rT
      with_reducible rename Fr h₀ L _ _ => F9
      with_reducible rename News h₀ L _ _ => N9
      subst eI
      exact Hold.mk ⟨r - rkB (us ++ [false]), by omega, _, _, _, us ++ [false], b.fdiv 2, rfl, F9, N9, by with_unfolding_all rfl, by with_unfolding_all rfl, by with_unfolding_all rfl,
        hasS_of (by with_unfolding_all rfl) (snoc_F c us), hasI_of (v := z - 1) (by with_unfolding_all rfl) (by omega), ⟨_, by with_unfolding_all rfl⟩, by omega, hbd.1, hbd.2, rfl⟩
    · exfalso; omega
    · exfalso; omega
    · have hbd := half_ok hb0 hb1
      have rT := rk_snoc us false
      simp only [Bool.false_eq_true, if_false] at rT
      with_reducible rename Fr h₀ L _ _ => F9
      with_reducible rename News h₀ L _ _ => N9
      subst eI
      exact Hold.mk ⟨r - rkB (us ++ [false]), by omega, _, _, _, us ++ [false], b.fdiv 2, rfl, F9, N9, by with_unfolding_all rfl, by with_unfolding_all rfl, by with_unfolding_all rfl,
        hasS_of (by with_unfolding_all rfl) (snoc_F c us), hasI_of (v := z - 1) (by with_unfolding_all rfl) (by omega), ⟨_, by with_unfolding_all rfl⟩, by omega, hbd.1, hbd.2, rfl⟩
    · refine Hold.mk (hQ' _ _ ?_)
      dsimp only
      have hz0 : rkB us = r := by omega
      exact law_5 w ho K0 F4 KX TT how hoe b0 b1 b2 b3 b4 N3 hD hDa (by with_unfolding_all rfl) c h34 h46 hc us r hz0 h4 h8 (by with_unfolding_all rfl) (by with_unfolding_all rfl) (by with_unfolding_all rfl) hQ
end Mine
end
section
-- L1
open PySem PySem.W PyProof.Rows PySem.Calls PySem.StrLaws
set_option Elab.async false
set_option maxRecDepth 100000
set_option maxHeartbeats 1000000
set_option pp.deepTerms false
set_option pp.maxSteps 1500
namespace Mine
theorem startL1 : True := by
  w_top off
  exact trivial
theorem fill1 : PySem.Challenge.rw_wr0013_01 = PySem.Challenge.rw_wr0013_01 ∧ Mine.hv.heap_1 = Mine.hv.heap_1 := by
  k_fill
  exact ⟨rfl, rfl⟩
local macro_rules | `(tactic| walk_at "call ref") => `(tactic| (have hq : Mine.StopCalls := (by with_reducible assumption); clear hq; refine Mine.Hold.of ?_))
local macro_rules | `(tactic| walk_at "execs cons") => `(tactic| (have hq : Mine.StopExec := (by with_reducible assumption); (with_reducible show wpAny _ _ (PySem.execs (Stmt.While _ _ _ _ :: _) _) _ _ _); clear hq; refine Mine.Hold.of ?_))
theorem str_of {m : Str → Option Value} {x v v' : Str} {t : Tok} (e : m x = some (.str v t)) (hv : v = v') : m x = some (.str v' t) := hv ▸ e
theorem law_1 (w : World) {name qual : Str} {params : Arguments} {body : List Stmt} {scope : Scope} {dV kV doc pm cdv ct oc : Value} {an od : Option Addr} {osl : Array (Option Value)}
    (ho : (Mine.hv.heap_1 w.params).lookup 119 = some ⟨oc, od, .func (fnOf name qual params body scope dV kV doc pm an cdv ct), osl⟩)
    {fa : Addr} {cd : Value} {mean : ExcName → Option Value} {mg mb : Str → Option Value} {h₀ : Heap} {L : Addr} {m : Str → Option Value} {s : Shared} {Q : Flow → Shared → Prop} {E : Value → Shared → Prop}
    (K0 : Below callerA h₀ [] h₀) (F : Fr h₀ L s.heap m) (KX : (Mine.hv.heap_1 w.params).In h₀) (TT : Top pv (looseW pv []) mean mg mb h₀)
    {ow oe : Obj} {vw ve : Option Value} (how : ow.data = .cell vw) (hoe : oe.data = .cell ve)
    {D : Addr} {nn : Nat} {a0 a1 a2 a3 a4 : Int} {u0 u1 u2 u3 u4 : Tok} (b0 : 0 ≤ a0 ∧ a0 ≤ 1000018) (b1 : 0 ≤ a1 ∧ a1 ≤ 1000018) (b2 : 0 ≤ a2 ∧ a2 ≤ 1000018) (b3 : 0 ≤ a3 ∧ a3 ≤ 1000018) (b4 : 0 ≤ a4 ∧ a4 ≤ 1000018)
    (N : News h₀ L s.heap [(D, listOf [Value.int a0 u0, Value.int a1 u1, Value.int a2 u2, Value.int a3 u3, Value.int a4 u4].toArray nn), (L + 1 + 1, ow), (L + 1, oe)]) (hD : @LT.lt Nat instLTNat (L + 1 + 1) D ∨ @LT.lt Nat instLTNat D (L + 1 + 1)) (hDa : @LT.lt Nat instLTNat (L + 1) D ∨ @LT.lt Nat instLTNat D (L + 1)) (m0 : m "numbers" = some (.ref D))
    (hQ : ∀ h' tk' gens' m', Fr h₀ L h' m' → (AllBare s.gens → AllBare gens') → Q (.ret (.bool true)) { s with heap := h', gens := gens', toks := tk' }) :
    wpAny (model pg w) (callerA.deeper (envOfC qual scope L fa cd)) (execs (body.drop 1) (envOfC qual scope L fa cd)) Q E s := by
  refine' lk_cases ?h ho ?_
  case h => k_is
  intro e1 e2 e3 e4 e5 e6
  subst e1 e2 e3 e4 e5 e6
  have F1 := fr_canon _ F (psc m0 psn)
  have stopExec : StopExec := ⟨⟩
  clear F
  have hr1 : ∃ r : Nat, 4 + ([a0, a1, a2, a3, a4].getD (Int.toNat 1) 0).fmod 5 = (r : Int) ∧ 4 ≤ r ∧ r ≤ 8 := by
    have h1 := Int.fmod_nonneg_of_pos ([a0, a1, a2, a3, a4].getD (Int.toNat 1) 0) (show (0 : Int) < 5 by decide)
    have h2 := Int.fmod_lt_of_pos ([a0, a1, a2, a3, a4].getD (Int.toNat 1) 0) (show (0 : Int) < 5 by decide)
    exact ⟨(4 + ([a0, a1, a2, a3, a4].getD (Int.toNat 1) 0).fmod 5).toNat, by omega, by omega, by omega⟩
  have hc1 : 192 ≤ 192 + (([a0, a1, a2, a3, a4].getD (Int.toNat 3) 0).fdiv 5).fmod 50000 ∧ 192 + (([a0, a1, a2, a3, a4].getD (Int.toNat 3) 0).fdiv 5).fmod 50000 < 50192 := by
    have h1 := Int.fmod_nonneg_of_pos (([a0, a1, a2, a3, a4].getD (Int.toNat 3) 0).fdiv 5) (show (0 : Int) < 50000 by decide)
    have h2 := Int.fmod_lt_of_pos (([a0, a1, a2, a3, a4].getD (Int.toNat 3) 0).fdiv 5) (show (0 : Int) < 50000 by decide)
    omega
  simp only [List.drop_succ_cons, List.drop_zero]
  repeat' (first | (k_unfold; (try dsimp only)) | walk1 | (dsimp only; walk1) | fail "no step")
  · obtain ⟨r, hre, hr4, hr8⟩ := hr1
    with_reducible rename Fr h₀ L _ _ => F9
    with_reducible rename News h₀ L _ _ => N9
    rw [hre, show Str.ofString "\n" = (⟨#[10]⟩ : Str) by decide +kernel] at F9
    exact Hold.mk (law_4 w ho K0 F9 KX TT how hoe b0 b1 b2 b3 b4 (fun p hp => N9 p (.tail _ (.tail _ hp))) hD hDa (by with_unfolding_all rfl) 10 (by decide) (by decide) (by decide) r hr4 hr8 (by with_unfolding_all rfl) (by with_unfolding_all rfl) (by with_unfolding_all rfl) (by with_unfolding_all rfl) (by with_unfolding_all rfl) hQ)
  · obtain ⟨r, hre, hr4, hr8⟩ := hr1
    with_reducible rename Fr h₀ L _ _ => F9
    with_reducible rename News h₀ L _ _ => N9
    rw [hre, show Str.ofString " " = (⟨#[32]⟩ : Str) by decide +kernel] at F9
    exact Hold.mk (law_4 w ho K0 F9 KX TT how hoe b0 b1 b2 b3 b4 (fun p hp => N9 p (.tail _ (.tail _ hp))) hD hDa (by with_unfolding_all rfl) 32 (by decide) (by decide) (by decide) r hr4 hr8 (by with_unfolding_all rfl) (by with_unfolding_all rfl) (by with_unfolding_all rfl) (by with_unfolding_all rfl) (by with_unfolding_all rfl) hQ)
  · obtain ⟨r, hre, hr4, hr8⟩ := hr1
    with_reducible rename Fr h₀ L _ _ => F9
    with_reducible rename News h₀ L _ _ => N9
    rw [hre, show Str.ofString "7" = (⟨#[55]⟩ : Str) by decide +kernel] at F9
    exact Hold.mk (law_4 w ho K0 F9 KX TT how hoe b0 b1 b2 b3 b4 (fun p hp => N9 p (.tail _ (.tail _ hp))) hD hDa (by with_unfolding_all rfl) 55 (by decide) (by decide) (by decide) r hr4 hr8 (by with_unfolding_all rfl) (by with_unfolding_all rfl) (by with_unfolding_all rfl) (by with_unfolding_all rfl) (by with_unfolding_all rfl) hQ)
  · obtain ⟨r, hre, hr4, hr8⟩ := hr1
    with_reducible rename Fr h₀ L _ _ => F9
    with_reducible rename News h₀ L _ _ => N9
    rw [hre, show Str.ofString ")" = (⟨#[41]⟩ : Str) by decide +kernel] at F9
    exact Hold.mk (law_4 w ho K0 F9 KX TT how hoe b0 b1 b2 b3 b4 (fun p hp => N9 p (.tail _ (.tail _ hp))) hD hDa (by with_unfolding_all rfl) 41 (by decide) (by decide) (by decide) r hr4 hr8 (by with_unfolding_all rfl) (by with_unfolding_all rfl) (by with_unfolding_all rfl) (by with_unfolding_all rfl) (by with_unfolding_all rfl) hQ)
  · obtain ⟨r, hre, hr4, hr8⟩ := hr1
    with_reducible rename Fr h₀ L _ _ => F9
    with_reducible rename News h₀ L _ _ => N9
    rw [hre] at F9
    exact Hold.mk (law_4 w ho K0 F9 KX TT how hoe b0 b1 b2 b3 b4 (fun p hp => N9 p (.tail _ (.tail _ hp))) hD hDa (by with_unfolding_all rfl) (192 + (([a0, a1, a2, a3, a4].getD (Int.toNat 3) 0).fdiv 5).fmod 50000).toNat (by omega) (by omega) (by omega) r hr4 hr8 (by with_unfolding_all rfl) (by with_unfolding_all rfl) (by with_unfolding_all rfl) (by with_unfolding_all rfl) (by with_unfolding_all rfl) hQ)
end Mine
end
section
-- LT
open PySem PySem.W PyProof.Rows PySem.Calls
set_option Elab.async false
set_option maxRecDepth 100000
set_option maxHeartbeats 1000000
set_option pp.deepTerms false
set_option pp.maxSteps 1500
namespace Mine
theorem post_true (ns : List Int) : Challenge.rw_wr0013_01.row.claim.post [ofPy (PyData.list (List.map PyData.int ns))] (.bool true) [ofPy (PyData.list (List.map PyData.int ns))] = true := by
  wrow_post
theorem zip_bounds {n a b k : Nat} (h1 : a < n) (h2 : b < n) (hk : k = n + 5) : ∀ c ∈ [n + 4, n + 2, n + 3, n, n + 1, a, b], c < k := by
  intro c hc
  simp only [List.mem_cons, List.not_mem_nil, or_false] at hc
  rcases hc with rfl | rfl | rfl | rfl | rfl | rfl | rfl <;> omega
theorem zip_fresh {h₀ h : Heap} {L : Addr} {m : Str → Option Value} {news : List (Addr × Obj)} (F : Fr h₀ L h m) (N : News h₀ L h news) : ∀ c ∈ [h.objs.size + 4, h.objs.size + 3, h.objs.size, h.objs.size + 1], c ≠ L ∧ h₀.get? c = none ∧ ∀ p ∈ news, p.1 ≠ c := by
  have key : ∀ c, h.objs.size ≤ c → c ≠ L ∧ h₀.get? c = none ∧ ∀ p ∈ news, p.1 ≠ c := fun c hc => by
    refine ⟨fun e => ?_, ?_, fun p hp e => ?_⟩
    · have := F.ns.lt
      rw [e] at hc
      exact absurd this (Nat.not_lt.mpr hc)
    · cases q : h₀.get? c with
      | none => rfl
      | some o => exact absurd (Heap.lt_size (F.keep _ _ q)) (Nat.not_lt.mpr hc)
    · have := Heap.lt_size (N p hp).1
      rw [e] at this
      exact absurd this (Nat.not_lt.mpr hc)
  intro c hc
  refine key c ?_
  simp only [List.mem_cons, List.not_mem_nil, or_false] at hc
  rcases hc with rfl | rfl | rfl | rfl <;> omega
theorem min_five {xs : Array Value} {ws : List Value} {a : Nat} (hx : xs.size = 5) (e : ws.length = min 5 a + 5) : min xs.size ws.toArray.size = 5 := by rw [hx, List.size_toArray, e]; omega
theorem five_of {ws : List Value} (hl : ws.length = 5) (h : ∀ (j : Nat) (y : Value), ws[j]? = some y → ∃ a t, y = Value.int a t ∧ 0 ≤ a ∧ a ≤ 1000018) :
    ∃ a0 u0 a1 u1 a2 u2 a3 u3 a4 u4, ws = [Value.int a0 u0, Value.int a1 u1, Value.int a2 u2, Value.int a3 u3, Value.int a4 u4] ∧ (0 ≤ a0 ∧ a0 ≤ 1000018) ∧ (0 ≤ a1 ∧ a1 ≤ 1000018) ∧ (0 ≤ a2 ∧ a2 ≤ 1000018) ∧ (0 ≤ a3 ∧ a3 ≤ 1000018) ∧ (0 ≤ a4 ∧ a4 ≤ 1000018) := by
  match ws, hl with
  | [v0, v1, v2, v3, v4], _ =>
    obtain ⟨a0, u0, rfl, b0⟩ := h 0 v0 rfl
    obtain ⟨a1, u1, rfl, b1⟩ := h 1 v1 rfl
    obtain ⟨a2, u2, rfl, b2⟩ := h 2 v2 rfl
    obtain ⟨a3, u3, rfl, b3⟩ := h 3 v3 rfl
    obtain ⟨a4, u4, rfl, b4⟩ := h 4 v4 rfl
    exact ⟨a0, u0, a1, u1, a2, u2, a3, u3, a4, u4, rfl, b0, b1, b2, b3, b4⟩
theorem law_end (w : World) {s₁ : Shared} {fa : Addr} {cd : Value} {mean : ExcName → Option Value} {mg mb : Str → Option Value} {name qual : Str} {params : Arguments} {body rest : List Stmt} {scope : Scope} {dV kV doc pm cdv ct oc : Value} {an od : Option Addr} {osl : Array (Option Value)}
    (ho : (Mine.hv.heap_1 w.params).lookup 119 = some ⟨oc, od, .func (fnOf name qual params body scope dV kV doc pm an cdv ct), osl⟩) (hrest : body.drop 1 = rest)
    (K0 : Below callerA s₁.heap [] s₁.heap) (KX : (Mine.hv.heap_1 w.params).In s₁.heap) (T : Top pv (looseW pv []) mean mg mb s₁.heap)
    {m : Str → Option Value} {h : Heap} {tk : Nat} {news : List (Addr × Obj)} {D : Addr} {ws : List Value} {ow oe : Obj} {vw ve : Option Value} {Q : Flow → Shared → Prop} {E : Value → Shared → Prop}
    (F : Fr s₁.heap s₁.heap.objs.size h m) (N : News s₁.heap s₁.heap.objs.size h ((D, LCg.lst ws) :: news)) (hDn : ∀ p ∈ news, p.1 ≠ D) (hwl : ws.length = 5) (hws : ∀ (j : Nat) (y : Value), ws[j]? = some y → ∃ a t, y = Value.int a t ∧ 0 ≤ a ∧ a ≤ 1000018)
    (hw : (s₁.heap.objs.size + 1 + 1, ow) ∈ news) (he : (s₁.heap.objs.size + 1, oe) ∈ news) (how : ow.data = .cell vw) (hoe : oe.data = .cell ve) (m0 : m "numbers" = some (.ref D)) (hg : s₁.gens = #[])
    (hQ : ∀ h' tk' gens', (∀ b o, s₁.heap.get? b = some o → h'.get? b = some o) → AllBare gens' → Q (.ret (.bool true)) { s₁ with heap := h', gens := gens', toks := tk' }) :
    wpAny (model pg w) (callerA.deeper (envOfC qual scope s₁.heap.objs.size fa cd)) (execs rest (envOfC qual scope s₁.heap.objs.size fa cd)) Q E { s₁ with heap := h, toks := tk } := by
  subst hrest
  obtain ⟨a0, u0, a1, u1, a2, u2, a3, u3, a4, u4, rfl, b0, b1, b2, b3, b4⟩ := five_of hwl hws
  refine law_1 (L := s₁.heap.objs.size) (s := { s₁ with heap := h, toks := tk }) w ho K0 F KX T how hoe b0 b1 b2 b3 b4 (D := D) (nn := 5) (u0 := u0) (u1 := u1) (u2 := u2) (u3 := u3) (u4 := u4) (fun p hp => ?_) (Nat.lt_or_gt_of_ne (hDn _ hw)) (Nat.lt_or_gt_of_ne (hDn _ he)) m0 (fun h' tk' gens' m' F' hb => hQ h' tk' gens' F'.keep (hb (AllBare.of_eq hg)))
  rcases List.mem_cons.mp hp with rfl | hp
  · exact N _ (.head _)
  rcases List.mem_cons.mp hp with rfl | hp
  · exact N _ (.tail _ hw)
  rw [List.mem_singleton.mp hp]
  exact N _ (.tail _ he)
end Mine
end
section
-- L0
open PySem PySem.W PyProof.Rows PySem.Calls
set_option Elab.async false
set_option maxRecDepth 100000
set_option maxHeartbeats 1000000
set_option pp.deepTerms false
set_option pp.maxSteps 1500
namespace Mine
theorem startL0 : True := by
  w_top off
  exact trivial
local macro_rules | `(tactic| walk_at "no key 0") => `(tactic| skip)
theorem fillL : PySem.Challenge.rw_wr0013_01 = PySem.Challenge.rw_wr0013_01 ∧ Mine.hv.heap_1 = Mine.hv.heap_1 := by
  k_fill
  exact ⟨rfl, rfl⟩
structure StopZip : Prop where
local macro_rules | `(tactic| walk_at "exec Assign cons ListComp") => `(tactic| (have hq : Mine.StopZip := (by with_reducible assumption); clear hq; refine Mine.Hold.of ?_))
local macro_rules | `(tactic| walk_at "call type:zip") => `(tactic| (have hq : Mine.StopZip := (by with_reducible assumption); clear hq; refine Mine.Hold.of ?_))
theorem cw0 : PySem.Challenge.rw_wr0013_01.Holds := by
  refine holds_law Mine.said fun ok => ?_
  refine holds_open (q := Mine.hv.view_1) (loose := []) (Xt := fun s => xlAt Mine.hv.view_1 [] s && recOk (RowW.records (OpenLaw.row PySem.Challenge.rw_wr0013_01).toRowW) s) (XP := XL Mine.hv.view_1 []) (Yf := Hook.obs hook) (Ya := Hook.val hook) (YP := Hook.says hook) (N := 1850) Mine.left (Hook.of hook) (Hook.keeps hook) (fun s e => xl_of s (Bool.and_eq_true_iff.mp e).1) XL.keeps (by rfl) (by rfl) (by rfl) (fun s e => recFacts_of (Bool.and_eq_true_iff.mp e).2) (by rfl) ok (by decide +kernel) ⟨rfl, rfl, rfl, rfl, rfl, by decide +kernel⟩ ?hw ?hc
  case hw => w_witness2
  intro w s₀ s₁ mg mb G Y fa o pm cd doc dV kV ho hd hcd hD hmg hg args vals as hpre hlay hrd hwl hlo
  have KX := kIn_of Y
  have X := (Ground.X G).1
  have V := (Ground.X G).2
  refine Ground.open G ?_
  intro T B D TE TW
  try (refine guard_noD D (by decide +kernel) ?_; clear D)
  clear hmg
  wrow_args hpre hlay hrd hwl hlo
  all_goals (
    first | refine callC_kw (enter_call ?_) | refine enter_call ?_
    w_top on
    have K0 := below_caller (Top.heap T)
    w_call any ho hd hcd hD T F
    clear hd
    k_drop
    skip)
  have stopZip : StopZip := ⟨⟩
  dsimp only
  repeat' (first | (k_unfold; (try dsimp only)) | walk1 | (dsimp only; walk1) | fail "no step")
  refine Hold.mk ?_
  with_reducible rename Fr s₁.heap _ _ _ => F9
  refine comp_zip (cl := []) F9 (P2 := fun i x y => ∃ a b ta tb, x = .int a ta ∧ y = .int b tb ∧ 0 ≤ a ∧ a ≤ 18) (P3 := fun i y => ∃ a t, y = .int a t ∧ 0 ≤ a ∧ a ≤ 1000018) (by rfl) (by rfl) (by decide) rfl (by decide) (by rfl) (by rfl) (by decide) rfl (by rfl) (by rfl) ?_ ?_
  · intro i v0 v1 A' C m2 s3 E' hp hns ha hb
    obtain ⟨a, b, ta, tb, rfl, rfl, h0, h18⟩ := hp
    repeat' (first | (k_unfold; (try dsimp only)) | walk1 | (dsimp only; walk1))
    done
  · dsimp only
    repeat' (first | (k_unfold; (try dsimp only)) | walk1 | (dsimp only; walk1) | fail "no step")
    rename StopZip => hq9
    clear hq9
    rename IntsAre _ (List.take 5 _ ++ _) => hI9
    with_reducible rename Fr s₁.heap _ _ _ => F9
    with_reducible rename News s₁.heap _ _ _ => N9
    refine Hold.mk (call_zip_2 ⟨_, (N9 _ (.tail _ (.tail _ (.tail _ (.tail _ (.head _)))))).1, rfl, _, rfl⟩ ⟨_, (N9 _ (.head _)).1, rfl, _, rfl⟩ fun h' hz hTI hTO hi1 hi2 hsz hk => ?_)
    have a1 := Heap.lt_size (N9 _ (.tail _ (.tail _ (.tail _ (.tail _ (.head _)))))).1
    have a2 := Heap.lt_size (N9 _ (.head _)).1
    have hlen9 := hI9.length
    have hx5 : (List.replicate (Int.toNat 5) [(0 : Int)]).flatten.length = 5 := by decide
    rw [List.length_append, hx5, List.length_take] at hlen9
    have hnew : ∀ c, s₁.heap.objs.size + 0 ≤ c → s₁.heap.get? c = none := fun c hc => by
      cases q : s₁.heap.get? c with
      | none => rfl
      | some o => exact absurd (Heap.lt_size q) (Nat.not_lt.mpr hc)
    have hLlt := F9.ns.lt
    refine ⟨_, _, _, _, _, _, _, _, _, rfl, zipApart_new a1 a2, ⟨hz, hTI, ⟨_, _, hTO⟩, hi1, hi2, Heap.IsList.at ⟨_, (N9 _ (.tail _ (.tail _ (.tail _ (.tail _ (.head _)))))).1, rfl, _, rfl⟩ (fun o e => hk _ o e), Heap.IsList.at ⟨_, (N9 _ (.head _)).1, rfl, _, rfl⟩ (fun o e => hk _ o e)⟩, ?_, ?_, ?_, _, F9.keeps hk, N9.grown hk, ?_, ?_⟩
    · intro i x y hx hy
      obtain ⟨n, tn, rfl, _⟩ := IntsAre.at hI9 i y (by simpa using hy)
      rcases i with _ | _ | _ | _ | _ | i
      rotate_left 5
      · simp at hx
      all_goals
        obtain rfl := Option.some.inj hx
        exact ⟨_, n, _, tn, rfl, rfl, by decide, by decide⟩
    · refine Nat.le_trans (Nat.min_le_left _ _) ?_
      show 5 ≤ _
      rw [sizeLine_eq]; decide
    · exact zip_bounds a1 a2 hsz
    · exact zip_fresh F9 N9
    · intro D h tk ws F10 N10 hDn hwl hws
      refine' law_end w ?ho ?hrest K0 KX T F10 N10 hDn (hwl.trans (min_five rfl hlen9)) hws ?hw ?he ?how ?hoe (by with_unfolding_all rfl) hg ?hQ
      case ho => k_is
      case hrest => rfl
      case hw => repeat (first | exact List.Mem.head _ | refine List.Mem.tail _ ?_)
      case he => repeat (first | exact List.Mem.head _ | refine List.Mem.tail _ ?_)
      case how => assumption
      case hoe => assumption
      case hQ =>
        intro h' tk' gens' hk' hb
        refine ⟨.inl ⟨_, _, [], rfl, fun _ => rfl, ReadsW.bool true, ?_, fun _ => ⟨List.nodup_nil, fun _ hm => nomatch hm⟩⟩, .of_keep hk', rfl, hb⟩
        exact post_true _
end Mine
end
theorem PySem.Challenge.cw_wr0013_01_holds : PySem.Challenge.rw_wr0013_01.Holds := by
  exact Mine.cw0
