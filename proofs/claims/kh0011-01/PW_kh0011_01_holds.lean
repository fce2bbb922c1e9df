import PyProof.Rows.All
import Wide.All
import OpenK.AllK
import Wide.FinOn
import Lean
import PySem.Challenge.RW_kh0011_01
set_option rowWalk.seconds 0
open PySem PySem.Spec PySem.Calls PyProof.Rows PySem.W
set_option Elab.async false
set_option maxRecDepth 100000
set_option maxHeartbeats 8000000
namespace Mine
/-- one witness and what holds of it, opened in one step -/
inductive Y1 {α : Type} (p1 : α → Prop) : Prop
  | mk (a : α) (h1 : p1 a) : Y1 p1
inductive Y2 {α : Type} (p1 p2 : α → Prop) : Prop
  | mk (a : α) (h1 : p1 a) (h2 : p2 a) : Y2 p1 p2
inductive Y3 {α : Type} (p1 p2 p3 : α → Prop) : Prop
  | mk (a : α) (h1 : p1 a) (h2 : p2 a) (h3 : p3 a) : Y3 p1 p2 p3
inductive Y4 {α : Type} (p1 p2 p3 p4 : α → Prop) : Prop
  | mk (a : α) (h1 : p1 a) (h2 : p2 a) (h3 : p3 a) (h4 : p4 a) : Y4 p1 p2 p3 p4
inductive Y5 {α : Type} (p1 p2 p3 p4 p5 : α → Prop) : Prop
  | mk (a : α) (h1 : p1 a) (h2 : p2 a) (h3 : p3 a) (h4 : p4 a) (h5 : p5 a) : Y5 p1 p2 p3 p4 p5
inductive Y6 {α : Type} (p1 p2 p3 p4 p5 p6 : α → Prop) : Prop
  | mk (a : α) (h1 : p1 a) (h2 : p2 a) (h3 : p3 a) (h4 : p4 a) (h5 : p5 a) (h6 : p6 a) : Y6 p1 p2 p3 p4 p5 p6
inductive Y7 {α : Type} (p1 p2 p3 p4 p5 p6 p7 : α → Prop) : Prop
  | mk (a : α) (h1 : p1 a) (h2 : p2 a) (h3 : p3 a) (h4 : p4 a) (h5 : p5 a) (h6 : p6 a) (h7 : p7 a) : Y7 p1 p2 p3 p4 p5 p6 p7
inductive Y8 {α : Type} (p1 p2 p3 p4 p5 p6 p7 p8 : α → Prop) : Prop
  | mk (a : α) (h1 : p1 a) (h2 : p2 a) (h3 : p3 a) (h4 : p4 a) (h5 : p5 a) (h6 : p6 a) (h7 : p7 a) (h8 : p8 a) : Y8 p1 p2 p3 p4 p5 p6 p7 p8
inductive Yb1 {α β : Type} (p1 : α → β → Prop) : Prop
  | mk (a : α) (b : β) (h1 : p1 a b) : Yb1 p1
inductive Yb2 {α β : Type} (p1 p2 : α → β → Prop) : Prop
  | mk (a : α) (b : β) (h1 : p1 a b) (h2 : p2 a b) : Yb2 p1 p2
inductive Yb3 {α β : Type} (p1 p2 p3 : α → β → Prop) : Prop
  | mk (a : α) (b : β) (h1 : p1 a b) (h2 : p2 a b) (h3 : p3 a b) : Yb3 p1 p2 p3
inductive Yb4 {α β : Type} (p1 p2 p3 p4 : α → β → Prop) : Prop
  | mk (a : α) (b : β) (h1 : p1 a b) (h2 : p2 a b) (h3 : p3 a b) (h4 : p4 a b) : Yb4 p1 p2 p3 p4
inductive Yb5 {α β : Type} (p1 p2 p3 p4 p5 : α → β → Prop) : Prop
  | mk (a : α) (b : β) (h1 : p1 a b) (h2 : p2 a b) (h3 : p3 a b) (h4 : p4 a b) (h5 : p5 a b) : Yb5 p1 p2 p3 p4 p5
inductive Yb6 {α β : Type} (p1 p2 p3 p4 p5 p6 : α → β → Prop) : Prop
  | mk (a : α) (b : β) (h1 : p1 a b) (h2 : p2 a b) (h3 : p3 a b) (h4 : p4 a b) (h5 : p5 a b) (h6 : p6 a b) : Yb6 p1 p2 p3 p4 p5 p6
inductive Yb7 {α β : Type} (p1 p2 p3 p4 p5 p6 p7 : α → β → Prop) : Prop
  | mk (a : α) (b : β) (h1 : p1 a b) (h2 : p2 a b) (h3 : p3 a b) (h4 : p4 a b) (h5 : p5 a b) (h6 : p6 a b) (h7 : p7 a b) : Yb7 p1 p2 p3 p4 p5 p6 p7
inductive Yc1 {α β γ : Type} (p1 : α → β → γ → Prop) : Prop
  | mk (a : α) (b : β) (c : γ) (h1 : p1 a b c) : Yc1 p1
inductive Yc2 {α β γ : Type} (p1 p2 : α → β → γ → Prop) : Prop
  | mk (a : α) (b : β) (c : γ) (h1 : p1 a b c) (h2 : p2 a b c) : Yc2 p1 p2
inductive Yc3 {α β γ : Type} (p1 p2 p3 : α → β → γ → Prop) : Prop
  | mk (a : α) (b : β) (c : γ) (h1 : p1 a b c) (h2 : p2 a b c) (h3 : p3 a b c) : Yc3 p1 p2 p3
inductive Yc4 {α β γ : Type} (p1 p2 p3 p4 : α → β → γ → Prop) : Prop
  | mk (a : α) (b : β) (c : γ) (h1 : p1 a b c) (h2 : p2 a b c) (h3 : p3 a b c) (h4 : p4 a b c) : Yc4 p1 p2 p3 p4
theorem allNe_of {d : Addr} : ∀ {l : List (Addr × Obj)}, AllLt d l → ∀ p ∈ l, p.1 ≠ d
  | [], _, _, h => nomatch h
  | _ :: _, x, p, h => by
    rcases List.mem_cons.mp h with rfl | h
    · exact Nat.ne_of_lt x.1
    · exact allNe_of x.2 p h
theorem allLt_mem {d : Addr} : ∀ {l : List (Addr × Obj)}, AllLt d l → ∀ p ∈ l, p.1 < d
  | [], _, _, h => nomatch h
  | _ :: _, x, p, h => by
    rcases List.mem_cons.mp h with rfl | h
    · exact x.1
    · exact allLt_mem x.2 p h
theorem allLt_app {d : Addr} {l r : List (Addr × Obj)} (h : AllLt d (l ++ r)) : AllLt d l ∧ AllLt d r :=
  ⟨allLt_of fun p hp => allLt_mem h p (List.mem_append_left _ hp), allLt_of fun p hp => allLt_mem h p (List.mem_append_right _ hp)⟩

/-- a table of ints by its places -/
def tab (n : Nat) (f : Nat → Int) : List Int := (List.range n).map f
theorem tab_length (n : Nat) (f : Nat → Int) : (tab n f).length = n := by simp [tab]
theorem tab_succ (n : Nat) (f : Nat → Int) : tab (n + 1) f = tab n f ++ [f n] := by simp [tab, List.range_succ]
theorem tab_get (n : Nat) (f : Nat → Int) (i : Nat) (h : i < n) : (tab n f)[i]? = some (f i) := by simp [tab, h]
theorem tab_getD (n : Nat) (f : Nat → Int) (i : Nat) (h : i < n) : (tab n f).getD i 0 = f i := by simp [tab, h]
theorem ints_snoc {ys : List Value} {n : Nat} {f : Nat → Int} {x : Int} {t : Tok} (h : IntsAre ys (tab n f)) (e : x = f n) : IntsAre (ys ++ [.int x t]) (tab (n + 1) f) := by
  rw [tab_succ, e]
  exact IntsAre.append h (IntsAre.cons _ _ IntsAre.nil)

/-- the new part stands apart from the old -/
def Above (tl news : List (Addr × Obj)) : Prop := ∀ p ∈ tl, ∀ q ∈ news, p.1 ≠ q.1
theorem Above.nil {news : List (Addr × Obj)} : Above [] news := fun _ h => nomatch h
theorem Above.cons {a : Addr} {o : Obj} {tl news : List (Addr × Obj)} (h : ∀ q ∈ news, q.1 ≠ a) (k : Above tl news) : Above ((a, o) :: tl) news := fun p hp q hq => by
  rcases List.mem_cons.mp hp with rfl | hp
  · exact (h q hq).symm
  · exact k p hp q hq
theorem Above.left {tl a b : List (Addr × Obj)} (h : Above tl (a ++ b)) : Above tl b := fun p hp q hq => h p hp q (List.mem_append_right _ hq)
theorem Above.tail {tl b : List (Addr × Obj)} {x : Addr × Obj} (h : Above tl (x :: b)) : Above tl b := fun p hp q hq => h p hp q (List.mem_cons_of_mem _ hq)
theorem off1_mem {D : Addr} : ∀ {l : List (Addr × Obj)}, LCg.Off1 D l → ∀ p ∈ l, p.1 ≠ D
  | [], _, _, h => nomatch h
  | _ :: _, x, p, h => by
    rcases List.mem_cons.mp h with rfl | h
    · exact x.1
    · exact off1_mem x.2 p h

abbrev tupO (x : Int) (t : Tok) (y : Int) (u : Tok) : Obj := { cls := .type "tuple", data := .seq #[.int x t, .int y u] }
def Prs (nw : List (Addr × Obj)) (ys : List Value) (n : Nat) (a b : Nat → Int) : Prop :=
  ys.length = n ∧ ∀ j, j < n → Yc2 (fun (t : Addr) (_u _u' : Tok) => ys[j]? = some (.ref t)) (fun t u u' => (t, tupO (a j) u (b j) u') ∈ nw)
inductive LstP (v : Value) (tl : List (Addr × Obj)) (a b : Nat → Int) : Prop
  | mk (r : Addr) (ys : List Value) (k : Nat) (h1 : v = .ref r) (h2 : (r, W.listOf ys.toArray k) ∈ tl) (h3 : Prs tl ys 6 a b) : LstP v tl a b
inductive LstI (v : Value) (tl : List (Addr × Obj)) (ns : List Int) : Prop
  | mk (r : Addr) (vs : List Value) (k : Nat) (h1 : v = .ref r) (h2 : (r, W.listOf vs.toArray k) ∈ tl) (h3 : IntsAre vs ns) : LstI v tl ns
inductive TlP (NN nw : List (Addr × Obj)) (zs : List Value) (i : Nat) (f g : Nat → Int) : Prop
  | mk (tl : List (Addr × Obj)) (h1 : nw = tl ++ NN) (h2 : Above tl NN) (h3 : Prs tl zs i f g) : TlP NN nw zs i f g
inductive BsJ (D : Addr) (R : List (Addr × Obj)) (n : Nat) (f : Nat → Int) (nw : List (Addr × Obj)) : Prop
  | mk (bs : List Value) (k : Nat) (h1 : nw = (D, W.listOf bs.toArray k) :: R) (h2 : IntsAre bs (tab n f)) : BsJ D R n f nw
theorem Prs.mono {nw nw' : List (Addr × Obj)} {ys : List Value} {n : Nat} {a b : Nat → Int} (h : Prs nw ys n a b) (s : ∀ p ∈ nw, p ∈ nw') : Prs nw' ys n a b :=
  ⟨h.1, fun j hj => let ⟨t, u, u', e, m⟩ := h.2 j hj; ⟨t, u, u', e, s _ m⟩⟩
theorem Prs.snoc {nw nw' : List (Addr × Obj)} {ys : List Value} {n : Nat} {a b : Nat → Int} (h : Prs nw ys n a b) (s : ∀ p ∈ nw, p ∈ nw') {t : Addr} {x y : Int} {u u' : Tok} (m : (t, tupO x u y u') ∈ nw') (ex : x = a n) (ey : y = b n) :
    Prs nw' (ys ++ [.ref t]) (n + 1) a b := by
  subst ex ey
  refine ⟨by rw [List.length_append, List.length_singleton, h.1], fun j hj => ?_⟩
  by_cases hjn : j < n
  · obtain ⟨t', v, v', e, m'⟩ := h.2 j hjn
    exact ⟨t', v, v', by rw [List.getElem?_append_left (by rw [h.1]; exact hjn)]; exact e, s _ m'⟩
  · have : j = n := by omega
    subst this
    exact ⟨t, u, u', by rw [← h.1]; simp, m⟩

section
variable {prog : Program} {w : World} {A : Around} {h₀ : Heap} {L : Addr} {m : Str → Option Value} {env : Env}
theorem compEnd_mono {s₁ : Shared} {I C D : Addr} {oI oC oD : Obj} {S : List (Addr × Obj) → Prop} {rest rest' : Value → List (Addr × Obj) → Prop} {y : Value} {s₂ : Shared} (h : LCg.CompEnd h₀ L m s₁ I oI C oC D oD S rest y s₂)
    (k : ∀ nw, S nw → rest y nw → rest' y nw) : LCg.CompEnd h₀ L m s₁ I oI C oC D oD S rest' y s₂ := by
  obtain ⟨h', tk, nw, e, F, N, o, hs, r⟩ := h
  exact ⟨h', tk, nw, e, F, N, o, hs, k nw hs r⟩
theorem compRest_inv {elt : Expr} {x : Str} {scope : Scope} {cl : List (Str × Addr)} {s : Shared} {S : List (Addr × Obj) → Prop} {P : Nat → Value → Prop} {Fin : List Value → List (Addr × Obj) → Prop} {n : Nat} {news : List (Addr × Obj)}
    (J : Nat → List Value → List (Addr × Obj) → Prop) (h0 : J 0 [] news)
    (turn : ∀ i ys nw, i < n → J i ys nw → ∀ v I oI C oC D m₂ h tk (E' : Value → Shared → Prop), P i v → LCg.NsObj oC m₂ → m₂ x = some v → Fr h₀ L h m → News h₀ L h ((I, oI) :: (C, oC) :: (D, LCg.lst ys) :: nw) → LCg.Off3 I C D nw →
      ((@Ne Nat I C) ∧ (@Ne Nat I D) ∧ (@Ne Nat C D)) →
      wpAny (model prog w) A (eval elt (compEnvC scope cl C env)) (LCg.CompEnd h₀ L m { s with heap := h, toks := tk } I oI C oC D (LCg.lst ys) S (fun y nw' => J (i + 1) (ys ++ [y]) nw')) E' { s with heap := h, toks := tk })
    (fin : ∀ ys nw, J n ys nw → Fin ys nw) : LCg.CompRest prog w A h₀ L m env elt x scope cl s S P Fin n 0 [] news := by
  have all : ∀ k i ys nw, i + k = n → J i ys nw → LCg.CompRest prog w A h₀ L m env elt x scope cl s S P Fin k i ys nw := by
    intro k
    induction k with
    | zero => intro i ys nw e hj; have : i = n := by omega
              subst this; exact LCg.CompRest.zero (fin ys nw hj)
    | succ k ih =>
      intro i ys nw e hj
      refine LCg.CompRest.succ fun v I oI C oC D m₂ h tk E' hP hC hx F N off ne => ?_
      exact wpAny_mono (turn i ys nw (by omega) hj v I oI C oC D m₂ h tk E' hP hC hx F N off ne) (fun y s₂ hy => compEnd_mono hy fun nw' _ hr => ih _ _ _ (by omega) hr) fun _ _ e => e
  exact all n 0 [] news (by omega) h0
/-- an element that is a number: the ledger stands -/
theorem compEnd_same {s₁ : Shared} {I C D : Addr} {oI oC oD : Obj} {S : List (Addr × Obj) → Prop} {rest : Value → List (Addr × Obj) → Prop} {y : Value} {h' : Heap} {tk : Nat} {nw : List (Addr × Obj)}
    (F : Fr h₀ L h' m) (N : News h₀ L h' ((I, oI) :: (C, oC) :: (D, oD) :: nw)) (off : LCg.Off3 I C D nw) (hS : S nw) (r : rest y nw) :
    LCg.CompEnd h₀ L m s₁ I oI C oC D oD S rest y { s₁ with heap := h', toks := tk } := ⟨h', tk, nw, rfl, F, N, off, hS, r⟩
/-- an element that is a new object -/
theorem compEnd_new {s₁ : Shared} {I C D a : Addr} {oI oC oD o : Obj} {S : List (Addr × Obj) → Prop} {rest : Value → List (Addr × Obj) → Prop} {y : Value} {h' : Heap} {tk : Nat} {nw : List (Addr × Obj)}
    (F : Fr h₀ L h' m) (N : News h₀ L h' ((a, o) :: (I, oI) :: (C, oC) :: (D, oD) :: nw)) (off : LCg.Off3 I C D nw) (lt : AllLt a ((I, oI) :: (C, oC) :: (D, oD) :: nw)) (hS : S ((a, o) :: nw)) (r : rest y ((a, o) :: nw)) :
    LCg.CompEnd h₀ L m s₁ I oI C oC D oD S rest y { s₁ with heap := h', toks := tk } :=
  ⟨h', tk, (a, o) :: nw, rfl, F, fun p hp => N p (by
    simp only [List.mem_cons] at hp ⊢
    rcases hp with h | h | h | h | h
    · exact .inr (.inl h)
    · exact .inr (.inr (.inl h))
    · exact .inr (.inr (.inr (.inl h)))
    · exact .inl h
    · exact .inr (.inr (.inr (.inr h)))), ⟨⟨Ne.symm (Nat.ne_of_lt lt.1), Ne.symm (Nat.ne_of_lt lt.2.1), Ne.symm (Nat.ne_of_lt lt.2.2.1)⟩, off⟩, hS, r⟩
theorem srcAt_mem {ax : Addr} {its : Array Value} {k : Nat} {nw : List (Addr × Obj)} (h : (ax, W.listOf its k) ∈ nw) : LCg.SrcAt h₀ ax its nw := .inr ⟨_, h, rfl, _, rfl⟩
end
theorem news_pick {h₀ h : Heap} {L : Addr} {l tl news : List (Addr × Obj)} (N : News h₀ L h l) (a : ∀ p ∈ tl, p ∈ l) (b : ∀ p ∈ news, p ∈ l) : News h₀ L h (tl ++ news) := fun p hp => by
  rcases List.mem_append.mp hp with hp | hp
  · exact N p (a p hp)
  · exact N p (b p hp)
theorem allNe1 {d : Addr} {l : List (Addr × Obj)} (h : AllLt d l) : ∀ p ∈ l, p.1 ≠ d + 1 := fun p hp => Nat.ne_of_lt (Nat.lt_succ_of_lt (allLt_mem h p hp))
theorem allNe2 {d : Addr} {l : List (Addr × Obj)} (h : AllLt d l) : ∀ p ∈ l, p.1 ≠ d + 1 + 1 := fun p hp => Nat.ne_of_lt (Nat.lt_succ_of_lt (Nat.lt_succ_of_lt (allLt_mem h p hp)))
theorem sub_cons {a : Addr × Obj} {tl l : List (Addr × Obj)} (h : a ∈ l) (k : ∀ p ∈ tl, p ∈ l) : ∀ p ∈ a :: tl, p ∈ l := List.forall_mem_cons.mpr ⟨h, k⟩
theorem sub_nil {l : List (Addr × Obj)} : ∀ p ∈ ([] : List (Addr × Obj)), p ∈ l := fun _ h => nomatch h
theorem sub_app {a b l : List (Addr × Obj)} (h : ∀ p ∈ a, p ∈ l) (k : ∀ p ∈ b, p ∈ l) : ∀ p ∈ a ++ b, p ∈ l := fun p hp => (List.mem_append.mp hp).elim (h p) (k p)
theorem subT {a : Addr × Obj} {X R : List (Addr × Obj)} (h : ∀ p ∈ X, p ∈ R) : ∀ p ∈ X, p ∈ a :: R := fun p hp => List.mem_cons_of_mem _ (h p hp)
theorem subR {tl X R : List (Addr × Obj)} (h : ∀ p ∈ X, p ∈ R) : ∀ p ∈ X, p ∈ tl ++ R := fun p hp => List.mem_append_right _ (h p hp)
theorem subL {tl R : List (Addr × Obj)} : ∀ p ∈ tl, p ∈ tl ++ R := fun _ h => List.mem_append_left _ h
theorem news_of {h₀ h : Heap} {L : Addr} {a b : List (Addr × Obj)} (N : News h₀ L h a) (s : ∀ q ∈ b, q ∈ a) : News h₀ L h b := fun p hp => N p (s p hp)

/-- names that a loop may turn -/
def over (xs : List Str) (u m : Str → Option Value) : Str → Option Value := fun z => if xs.contains z then u z else m z
def Over (xs : List Str) (m m' : Str → Option Value) : Prop := ∀ z, xs.contains z = false → m' z = m z
theorem Over.refl {xs : List Str} {m : Str → Option Value} : Over xs m m := fun _ _ => rfl
theorem Over.eq {xs : List Str} {m m' : Str → Option Value} (h : Over xs m m') : m' = over xs m' m := by
  funext z
  unfold over
  cases e : xs.contains z with
  | true => simp
  | false => simp [h z e]
theorem Over.over {xs : List Str} {m u : Str → Option Value} : Over xs m (Mine.over xs u m) := fun z h => by unfold Mine.over; rw [h]; rfl
theorem Over.set {xs : List Str} {m m' : Str → Option Value} {a : Str} {v : Option Value} (h : Over xs m m') (ha : xs.contains a = true) : Over xs m (fun y => if y = a then v else m' y) := fun z hz => by
  have : z ≠ a := fun e => by subst e; rw [ha] at hz; cases hz
  simp only [if_neg this]; exact h z hz
section
variable {prog : Program} {w : World} {A : Around} {E : Value → Shared → Prop} {s : Shared} {env : Env} {h₀ : Heap} {x : Str} {body : List Stmt} {Q : Flow → Shared → Prop}
theorem unrEnd_mono {L : Addr} {s₁ s₂ : Shared} {I : Addr} {it : Obj} {rest rest' : (Str → Option Value) → List (Addr × Obj) → Prop} (h : UnrEnd h₀ L s₁ I it rest s₂)
    (k : ∀ m' nw, (∀ p ∈ nw, p.1 ≠ I) → rest m' nw → rest' m' nw) : UnrEnd h₀ L s₁ I it rest' s₂ := by
  obtain ⟨h', tk, m', nw, e, F, N, o, r⟩ := h
  exact ⟨h', tk, m', nw, e, F, N, o, k m' nw o r⟩
theorem unrPost_mono {L : Addr} {s₁ s₂ : Shared} {I : Addr} {it : Obj} {rest rest' : (Str → Option Value) → List (Addr × Obj) → Prop} {f : Flow} (h : UnrPost h₀ L s₁ I it rest Q f s₂)
    (k : ∀ m' nw, (∀ p ∈ nw, p.1 ≠ I) → rest m' nw → rest' m' nw) : UnrPost h₀ L s₁ I it rest' Q f s₂ := by
  cases f with
  | ret v => exact h
  | brk => exact h
  | next => exact unrEnd_mono h k
  | cont => exact unrEnd_mono h k
theorem range_inv {I : Addr} {a : Int} {n : Nat} {m₀ : Str → Option Value} {news : List (Addr × Obj)} (xs : List Str) (J : Nat → List (Addr × Obj) → Prop) (h0 : J 0 news) (off0 : ∀ p ∈ news, p.1 ≠ I)
    (turn : ∀ i u nw t h tk, i < n → J i nw → (∀ p ∈ nw, p.1 ≠ I) → Fr h₀ env.locals h (fun y => if y = x then some (.int (a + (i : Int)) t) else over xs u m₀ y) →
      News h₀ env.locals h ((I, itR (a + ((i + 1 : Nat) : Int)) ((n : Int) - ((i + 1 : Nat) : Int))) :: nw) →
      wpAny (model prog w) A (execs body env) (UnrPost h₀ env.locals { s with heap := h, toks := tk } I (itR (a + ((i + 1 : Nat) : Int)) ((n : Int) - ((i + 1 : Nat) : Int))) (fun m' nw' => Over xs m₀ m' ∧ J (i + 1) nw') Q) E { s with heap := h, toks := tk })
    (done : ∀ u nw h tk, J n nw → Fr h₀ env.locals h (over xs u m₀) → News h₀ env.locals h nw → Q .next { s with heap := h, toks := tk }) :
    RangeRest prog w A E h₀ env x body Q s I a n n 0 m₀ news := by
  have all : ∀ k i m' nw, i + k = n → Over xs m₀ m' → J i nw → (∀ p ∈ nw, p.1 ≠ I) → RangeRest prog w A E h₀ env x body Q s I a n k i m' nw := by
    intro k
    induction k with
    | zero => intro i m' nw e hm hj off
              have : i = n := by omega
              subst this
              rw [hm.eq]
              exact RangeRest.zero fun h tk F N => done _ _ h tk hj F N
    | succ k ih =>
      intro i m' nw e hm hj off
      refine RangeRest.succ fun t h tk F N => ?_
      rw [hm.eq] at F
      exact wpAny_mono (turn i _ nw t h tk (by omega) hj off F N) (fun f s₂ hf => unrPost_mono hf fun m'' nw' off' hr => ih (i + 1) m'' nw' (by omega) hr.1 hr.2 off') fun _ _ e => e
  exact all n 0 m₀ news (by omega) Over.refl h0 off0
/-- a turn's end -/
theorem unr_end {L : Addr} {s₁ : Shared} {I : Addr} {it : Obj} {J : (Str → Option Value) → List (Addr × Obj) → Prop} {m' : Str → Option Value} {l : List (Addr × Obj)} {h' : Heap} {tk : Nat} (nw : List (Addr × Obj))
    (F : Fr h₀ L h' m') (N : News h₀ L h' l) (hI : (I, it) ∈ l) (sub : ∀ p ∈ nw, p ∈ l) (off : ∀ p ∈ nw, p.1 ≠ I) (r : J m' nw) : UnrEnd h₀ L s₁ I it J { s₁ with heap := h', toks := tk } :=
  ⟨h', tk, m', nw, rfl, F, fun p hp => N p (sub_cons hI sub p hp), off, r⟩
theorem all_cons {P : Addr × Obj → Prop} {a : Addr × Obj} {l : List (Addr × Obj)} (h : P a) (k : ∀ p ∈ l, P p) : ∀ p ∈ a :: l, P p := List.forall_mem_cons.mpr ⟨h, k⟩
end
def Halt (P : Prop) : Prop := P
theorem Halt.of {P : Prop} (h : Halt P) : P := h
theorem Halt.mk {P : Prop} (h : P) : Halt P := h
end Mine
open PySem PySem.Spec PySem.Calls PyProof.Rows PySem.W
set_option Elab.async false
set_option autoImplicit false
set_option maxRecDepth 100000
set_option maxHeartbeats 8000000
namespace Mine
/-- a def's own parts, out of the given text -/
def fnOf : Stmt → Option (Arguments × List Stmt × Scope)
  | .FunctionDef _ p b _ _ _ s _ _ _ => some (p, b, s)
  | _ => none
def firstFn : List Stmt → Option (Arguments × List Stmt × Scope)
  | st :: _ => fnOf st
  | [] => none
def topFn (i : Nat) : Option (Arguments × List Stmt × Scope) := firstFn (PySem.Challenge.pw_kh0011_01.main.body.drop i)
def clsBody : List Stmt → List Stmt
  | .ClassDef _ _ _ b _ _ _ _ _ _ _ :: _ => b
  | _ => []
def clsFn (i : Nat) : Option (Arguments × List Stmt × Scope) := firstFn ((clsBody (PySem.Challenge.pw_kh0011_01.main.body.drop 5)).drop i)
/-- the written part of the heap behind the top -/
noncomputable def kfrag (P : Params) : Frag := (fun (p47 : Arguments) (b47 : List Stmt) (s47 : Scope) (_h47 : clsFn 0 = some (p47, b47, s47)) (p54 : Arguments) (b54 : List Stmt) (s54 : Scope) (_h54 : clsFn 1 = some (p54, b54, s54)) (p59 : Arguments) (b59 : List Stmt) (s59 : Scope) (_h59 : clsFn 2 = some (p59, b59, s59)) (p64 : Arguments) (b64 : List Stmt) (s64 : Scope) (_h64 : clsFn 3 = some (p64, b64, s64)) (p76 : Arguments) (b76 : List Stmt) (s76 : Scope) (_h76 : clsFn 5 = some (p76, b76, s76)) (p95 : Arguments) (b95 : List Stmt) (s95 : Scope) (_h95 : clsFn 8 = some (p95, b95, s95)) (p131 : Arguments) (b131 : List Stmt) (s131 : Scope) (_h131 : clsFn 14 = some (p131, b131, s131)) (p174 : Arguments) (b174 : List Stmt) (s174 : Scope) (_h174 : topFn 8 = some (p174, b174, s174)) (p181 : Arguments) (b181 : List Stmt) (s181 : Scope) (_h181 : topFn 9 = some (p181, b181, s181)) (p186 : Arguments) (b186 : List Stmt) (s186 : Scope) (_h186 : topFn 10 = some (p186, b186, s186)) (p191 : Arguments) (b191 : List Stmt) (s191 : Scope) (_h191 : topFn 11 = some (p191, b191, s191)) (p196 : Arguments) (b196 : List Stmt) (s196 : Scope) (_h196 : topFn 12 = some (p196, b196, s196)) (p201 : Arguments) (b201 : List Stmt) (s201 : Scope) (_h201 : topFn 13 = some (p201, b201, s201)) =>
  (nat_lit 2, { cls := PySem.Value.none, data := PySem.Data.dict #[] }) ::
  (nat_lit 3, { cls := PySem.Value.type "dict", data := PySem.Data.dict #[{ hash := PySem.PyData.keyHash P (PySem.Str.ofString "__name__"), key := PySem.Value.str (PySem.Str.ofString "__name__") 165, val := PySem.Value.str (PySem.Str.ofString "law_kh0011_01") 425 }, { hash := PySem.PyData.keyHash P (PySem.Str.ofString "__doc__"), key := PySem.Value.str (PySem.Str.ofString "__doc__") 166, val := PySem.Value.none }, { hash := PySem.PyData.keyHash P (PySem.Str.ofString "__package__"), key := PySem.Value.str (PySem.Str.ofString "__package__") 167, val := PySem.Value.none }, { hash := PySem.PyData.keyHash P (PySem.Str.ofString "__loader__"), key := PySem.Value.str (PySem.Str.ofString "__loader__") 168, val := PySem.Value.builtin "__main__.__loader__#opaque" }, { hash := PySem.PyData.keyHash P (PySem.Str.ofString "__spec__"), key := PySem.Value.str (PySem.Str.ofString "__spec__") 169, val := PySem.Value.none }, { hash := PySem.PyData.keyHash P (PySem.Str.ofString "__annotations__"), key := PySem.Value.str (PySem.Str.ofString "__annotations__") 170, val := PySem.Value.ref 6 }, { hash := PySem.PyData.keyHash P (PySem.Str.ofString "__builtins__"), key := PySem.Value.str (PySem.Str.ofString "__builtins__") 171, val := PySem.Value.ref 4 }, { hash := PySem.PyData.keyHash P (PySem.Str.ofString "__file__"), key := PySem.Value.str (PySem.Str.ofString "__file__") 173, val := PySem.Value.str (PySem.Str.ofString "/claim/cut.py") 172 }, { hash := PySem.PyData.keyHash P (PySem.Str.ofString "__cached__"), key := PySem.Value.str (PySem.Str.ofString "__cached__") 174, val := PySem.Value.none }, { hash := PySem.PyData.keyHash P (PySem.Str.ofString "_wall"), key := PySem.Value.str (PySem.Str.ofString "_wall") 193, val := PySem.Value.ref 21 }, { hash := PySem.PyData.keyHash P (PySem.Str.ofString "prime_field_inv"), key := PySem.Value.str (PySem.Str.ofString "prime_field_inv") 210, val := PySem.Value.ref 28 }, { hash := PySem.PyData.keyHash P (PySem.Str.ofString "deg"), key := PySem.Value.str (PySem.Str.ofString "deg") 218, val := PySem.Value.ref 35 }, { hash := PySem.PyData.keyHash P (PySem.Str.ofString "FQP"), key := PySem.Value.str (PySem.Str.ofString "FQP") 375, val := PySem.Value.ref 156 }, { hash := PySem.PyData.keyHash P (PySem.Str.ofString "field_properties"), key := PySem.Value.str (PySem.Str.ofString "field_properties") 424, val := PySem.Value.ref 161 }, { hash := PySem.PyData.keyHash P (PySem.Str.ofString "_law_primes"), key := PySem.Value.str (PySem.Str.ofString "_law_primes") 432, val := PySem.Value.ref 174 }, { hash := PySem.PyData.keyHash P (PySem.Str.ofString "_law_pairs"), key := PySem.Value.str (PySem.Str.ofString "_law_pairs") 443, val := PySem.Value.ref 181 }, { hash := PySem.PyData.keyHash P (PySem.Str.ofString "_law_flat"), key := PySem.Value.str (PySem.Str.ofString "_law_flat") 449, val := PySem.Value.ref 186 }, { hash := PySem.PyData.keyHash P (PySem.Str.ofString "_law_times"), key := PySem.Value.str (PySem.Str.ofString "_law_times") 455, val := PySem.Value.ref 191 }, { hash := PySem.PyData.keyHash P (PySem.Str.ofString "_law_deed"), key := PySem.Value.str (PySem.Str.ofString "_law_deed") 461, val := PySem.Value.ref 196 }, { hash := PySem.PyData.keyHash P (PySem.Str.ofString "law"), key := PySem.Value.str (PySem.Str.ofString "law") 467, val := PySem.Value.ref 201 }] 20 }) ::
  (nat_lit 15, { cls := PySem.Value.type "tuple", data := PySem.Data.seq #[] }) ::
  (nat_lit 17, { cls := PySem.Value.type "tuple", data := PySem.Data.seq #[PySem.Value.str (PySem.Str.ofString "k") 190] }) ::
  (nat_lit 18, { cls := PySem.Value.type "tuple", data := PySem.Data.seq #[] }) ::
  (nat_lit 20, { cls := PySem.Value.type "code", data := PySem.Data.fields #[PySem.Value.str (PySem.Str.ofString "_wall") 187, PySem.Value.str (PySem.Str.ofString "_wall") 188, PySem.Value.str (PySem.Str.ofString "/claim/cut.py") 189, PySem.Value.int 1 0, PySem.Value.int 1 0, PySem.Value.int 0 0, PySem.Value.int 0 0, PySem.Value.int 3 0, PySem.Value.ref 15, PySem.Value.bool true, PySem.Value.int 181 0, PySem.Value.ref 16, PySem.Value.none, PySem.Value.ref 17, PySem.Value.ref 18, PySem.Value.ref 19, PySem.Value.int 191 0, PySem.Value.int 1 0, PySem.Value.str (PySem.Str.ofString "/claim/cut.py") 192] }) ::
  (nat_lit 22, { cls := PySem.Value.type "tuple", data := PySem.Data.seq #[] }) ::
  (nat_lit 24, { cls := PySem.Value.type "tuple", data := PySem.Data.seq #[PySem.Value.str (PySem.Str.ofString "a") 199, PySem.Value.str (PySem.Str.ofString "n") 200, PySem.Value.str (PySem.Str.ofString "lm") 201, PySem.Value.str (PySem.Str.ofString "hm") 202, PySem.Value.str (PySem.Str.ofString "low") 203, PySem.Value.str (PySem.Str.ofString "high") 204, PySem.Value.str (PySem.Str.ofString "r") 205, PySem.Value.str (PySem.Str.ofString "nm") 206, PySem.Value.str (PySem.Str.ofString "new") 207] }) ::
  (nat_lit 25, { cls := PySem.Value.type "tuple", data := PySem.Data.seq #[] }) ::
  (nat_lit 27, { cls := PySem.Value.type "code", data := PySem.Data.fields #[PySem.Value.str (PySem.Str.ofString "prime_field_inv") 196, PySem.Value.str (PySem.Str.ofString "prime_field_inv") 197, PySem.Value.str (PySem.Str.ofString "/claim/cut.py") 198, PySem.Value.int 5 0, PySem.Value.int 2 0, PySem.Value.int 0 0, PySem.Value.int 0 0, PySem.Value.int 3 0, PySem.Value.ref 22, PySem.Value.bool true, PySem.Value.int 181 0, PySem.Value.ref 23, PySem.Value.none, PySem.Value.ref 24, PySem.Value.ref 25, PySem.Value.ref 26, PySem.Value.int 208 0, PySem.Value.int 5 0, PySem.Value.str (PySem.Str.ofString "/claim/cut.py") 209] }) ::
  (nat_lit 29, { cls := PySem.Value.type "tuple", data := PySem.Data.seq #[] }) ::
  (nat_lit 31, { cls := PySem.Value.type "tuple", data := PySem.Data.seq #[PySem.Value.str (PySem.Str.ofString "p") 214, PySem.Value.str (PySem.Str.ofString "d") 215] }) ::
  (nat_lit 32, { cls := PySem.Value.type "tuple", data := PySem.Data.seq #[] }) ::
  (nat_lit 34, { cls := PySem.Value.type "code", data := PySem.Data.fields #[PySem.Value.str (PySem.Str.ofString "deg") 211, PySem.Value.str (PySem.Str.ofString "deg") 212, PySem.Value.str (PySem.Str.ofString "/claim/cut.py") 213, PySem.Value.int 16 0, PySem.Value.int 1 0, PySem.Value.int 0 0, PySem.Value.int 0 0, PySem.Value.int 3 0, PySem.Value.ref 29, PySem.Value.bool true, PySem.Value.int 181 0, PySem.Value.ref 30, PySem.Value.none, PySem.Value.ref 31, PySem.Value.ref 32, PySem.Value.ref 33, PySem.Value.int 216 0, PySem.Value.int 16 0, PySem.Value.str (PySem.Str.ofString "/claim/cut.py") 217] }) ::
  (nat_lit 43, { cls := PySem.Value.type "tuple", data := PySem.Data.seq #[] }) ::
  (nat_lit 46, { cls := PySem.Value.type "code", data := PySem.Data.fields #[PySem.Value.str (PySem.Str.ofString "__init__") 233, PySem.Value.str (PySem.Str.ofString "FQP.__init__") 234, PySem.Value.str (PySem.Str.ofString "/claim/cut.py") 235, PySem.Value.int 24 0, PySem.Value.int 4 0, PySem.Value.int 0 0, PySem.Value.int 0 0, PySem.Value.int 3 0, PySem.Value.ref 43, PySem.Value.bool true, PySem.Value.int 181 0, PySem.Value.ref 44, PySem.Value.none, PySem.Value.none, PySem.Value.none, PySem.Value.ref 45, PySem.Value.int 236 0, PySem.Value.int 24 0, PySem.Value.str (PySem.Str.ofString "/claim/cut.py") 237] }) ::
  (nat_lit 47, { cls := PySem.Value.type "function", data := PySem.Data.func { name := PySem.Str.ofString "__init__", qualname := PySem.Str.ofString "FQP.__init__", params := p47, body := PySem.FuncBody.stmts b47, scope := s47, globals := 3, closure := [], defaults := PySem.Value.none, kwdefaults := PySem.Value.none, pyModule := PySem.Value.str (PySem.Str.ofString "py_ecc.fields.optimized_field_elements") 219, code := PySem.Value.ref 46 } }) ::
  (nat_lit 48, { cls := PySem.Value.type "tuple", data := PySem.Data.seq #[] }) ::
  (nat_lit 50, { cls := PySem.Value.type "tuple", data := PySem.Data.seq #[PySem.Value.str (PySem.Str.ofString "self") 242, PySem.Value.str (PySem.Str.ofString "coeffs") 243] }) ::
  (nat_lit 51, { cls := PySem.Value.type "tuple", data := PySem.Data.seq #[] }) ::
  (nat_lit 53, { cls := PySem.Value.type "code", data := PySem.Data.fields #[PySem.Value.str (PySem.Str.ofString "made") 239, PySem.Value.str (PySem.Str.ofString "FQP.made") 240, PySem.Value.str (PySem.Str.ofString "/claim/cut.py") 241, PySem.Value.int 36 0, PySem.Value.int 2 0, PySem.Value.int 0 0, PySem.Value.int 0 0, PySem.Value.int 3 0, PySem.Value.ref 48, PySem.Value.bool true, PySem.Value.int 181 0, PySem.Value.ref 49, PySem.Value.none, PySem.Value.ref 50, PySem.Value.ref 51, PySem.Value.ref 52, PySem.Value.int 244 0, PySem.Value.int 36 0, PySem.Value.str (PySem.Str.ofString "/claim/cut.py") 245] }) ::
  (nat_lit 54, { cls := PySem.Value.type "function", data := PySem.Data.func { name := PySem.Str.ofString "made", qualname := PySem.Str.ofString "FQP.made", params := p54, body := PySem.FuncBody.stmts b54, scope := s54, globals := 3, closure := [], defaults := PySem.Value.none, kwdefaults := PySem.Value.none, pyModule := PySem.Value.str (PySem.Str.ofString "py_ecc.fields.optimized_field_elements") 219, code := PySem.Value.ref 53 } }) ::
  (nat_lit 55, { cls := PySem.Value.type "tuple", data := PySem.Data.seq #[] }) ::
  (nat_lit 58, { cls := PySem.Value.type "code", data := PySem.Data.fields #[PySem.Value.str (PySem.Str.ofString "__add__") 247, PySem.Value.str (PySem.Str.ofString "FQP.__add__") 248, PySem.Value.str (PySem.Str.ofString "/claim/cut.py") 249, PySem.Value.int 39 0, PySem.Value.int 2 0, PySem.Value.int 0 0, PySem.Value.int 0 0, PySem.Value.int 3 0, PySem.Value.ref 55, PySem.Value.bool true, PySem.Value.int 181 0, PySem.Value.ref 56, PySem.Value.none, PySem.Value.none, PySem.Value.none, PySem.Value.ref 57, PySem.Value.int 250 0, PySem.Value.int 39 0, PySem.Value.str (PySem.Str.ofString "/claim/cut.py") 251] }) ::
  (nat_lit 59, { cls := PySem.Value.type "function", data := PySem.Data.func { name := PySem.Str.ofString "__add__", qualname := PySem.Str.ofString "FQP.__add__", params := p59, body := PySem.FuncBody.stmts b59, scope := s59, globals := 3, closure := [], defaults := PySem.Value.none, kwdefaults := PySem.Value.none, pyModule := PySem.Value.str (PySem.Str.ofString "py_ecc.fields.optimized_field_elements") 219, code := PySem.Value.ref 58 } }) ::
  (nat_lit 60, { cls := PySem.Value.type "tuple", data := PySem.Data.seq #[] }) ::
  (nat_lit 63, { cls := PySem.Value.type "code", data := PySem.Data.fields #[PySem.Value.str (PySem.Str.ofString "__sub__") 253, PySem.Value.str (PySem.Str.ofString "FQP.__sub__") 254, PySem.Value.str (PySem.Str.ofString "/claim/cut.py") 255, PySem.Value.int 44 0, PySem.Value.int 2 0, PySem.Value.int 0 0, PySem.Value.int 0 0, PySem.Value.int 3 0, PySem.Value.ref 60, PySem.Value.bool true, PySem.Value.int 181 0, PySem.Value.ref 61, PySem.Value.none, PySem.Value.none, PySem.Value.none, PySem.Value.ref 62, PySem.Value.int 256 0, PySem.Value.int 44 0, PySem.Value.str (PySem.Str.ofString "/claim/cut.py") 257] }) ::
  (nat_lit 64, { cls := PySem.Value.type "function", data := PySem.Data.func { name := PySem.Str.ofString "__sub__", qualname := PySem.Str.ofString "FQP.__sub__", params := p64, body := PySem.FuncBody.stmts b64, scope := s64, globals := 3, closure := [], defaults := PySem.Value.none, kwdefaults := PySem.Value.none, pyModule := PySem.Value.str (PySem.Str.ofString "py_ecc.fields.optimized_field_elements") 219, code := PySem.Value.ref 63 } }) ::
  (nat_lit 65, { cls := PySem.Value.type "tuple", data := PySem.Data.seq #[] }) ::
  (nat_lit 67, { cls := PySem.Value.type "tuple", data := PySem.Data.seq #[PySem.Value.str (PySem.Str.ofString "self") 262, PySem.Value.str (PySem.Str.ofString "other") 263] }) ::
  (nat_lit 68, { cls := PySem.Value.type "tuple", data := PySem.Data.seq #[] }) ::
  (nat_lit 70, { cls := PySem.Value.type "code", data := PySem.Data.fields #[PySem.Value.str (PySem.Str.ofString "__mod__") 259, PySem.Value.str (PySem.Str.ofString "FQP.__mod__") 260, PySem.Value.str (PySem.Str.ofString "/claim/cut.py") 261, PySem.Value.int 49 0, PySem.Value.int 2 0, PySem.Value.int 0 0, PySem.Value.int 0 0, PySem.Value.int 3 0, PySem.Value.ref 65, PySem.Value.bool true, PySem.Value.int 181 0, PySem.Value.ref 66, PySem.Value.none, PySem.Value.ref 67, PySem.Value.ref 68, PySem.Value.ref 69, PySem.Value.int 264 0, PySem.Value.int 49 0, PySem.Value.str (PySem.Str.ofString "/claim/cut.py") 265] }) ::
  (nat_lit 72, { cls := PySem.Value.type "tuple", data := PySem.Data.seq #[] }) ::
  (nat_lit 75, { cls := PySem.Value.type "code", data := PySem.Data.fields #[PySem.Value.str (PySem.Str.ofString "__mul__") 267, PySem.Value.str (PySem.Str.ofString "FQP.__mul__") 268, PySem.Value.str (PySem.Str.ofString "/claim/cut.py") 269, PySem.Value.int 52 0, PySem.Value.int 2 0, PySem.Value.int 0 0, PySem.Value.int 0 0, PySem.Value.int 3 0, PySem.Value.ref 72, PySem.Value.bool true, PySem.Value.int 181 0, PySem.Value.ref 73, PySem.Value.none, PySem.Value.none, PySem.Value.none, PySem.Value.ref 74, PySem.Value.int 270 0, PySem.Value.int 52 0, PySem.Value.str (PySem.Str.ofString "/claim/cut.py") 271] }) ::
  (nat_lit 76, { cls := PySem.Value.type "function", data := PySem.Data.func { name := PySem.Str.ofString "__mul__", qualname := PySem.Str.ofString "FQP.__mul__", params := p76, body := PySem.FuncBody.stmts b76, scope := s76, globals := 3, closure := [], defaults := PySem.Value.none, kwdefaults := PySem.Value.none, pyModule := PySem.Value.str (PySem.Str.ofString "py_ecc.fields.optimized_field_elements") 219, code := PySem.Value.ref 75 } }) ::
  (nat_lit 77, { cls := PySem.Value.type "tuple", data := PySem.Data.seq #[] }) ::
  (nat_lit 79, { cls := PySem.Value.type "tuple", data := PySem.Data.seq #[PySem.Value.str (PySem.Str.ofString "self") 276, PySem.Value.str (PySem.Str.ofString "other") 277] }) ::
  (nat_lit 80, { cls := PySem.Value.type "tuple", data := PySem.Data.seq #[] }) ::
  (nat_lit 82, { cls := PySem.Value.type "code", data := PySem.Data.fields #[PySem.Value.str (PySem.Str.ofString "__rmul__") 273, PySem.Value.str (PySem.Str.ofString "FQP.__rmul__") 274, PySem.Value.str (PySem.Str.ofString "/claim/cut.py") 275, PySem.Value.int 69 0, PySem.Value.int 2 0, PySem.Value.int 0 0, PySem.Value.int 0 0, PySem.Value.int 3 0, PySem.Value.ref 77, PySem.Value.bool true, PySem.Value.int 181 0, PySem.Value.ref 78, PySem.Value.none, PySem.Value.ref 79, PySem.Value.ref 80, PySem.Value.ref 81, PySem.Value.int 278 0, PySem.Value.int 69 0, PySem.Value.str (PySem.Str.ofString "/claim/cut.py") 279] }) ::
  (nat_lit 84, { cls := PySem.Value.type "tuple", data := PySem.Data.seq #[] }) ::
  (nat_lit 87, { cls := PySem.Value.type "code", data := PySem.Data.fields #[PySem.Value.str (PySem.Str.ofString "__truediv__") 281, PySem.Value.str (PySem.Str.ofString "FQP.__truediv__") 282, PySem.Value.str (PySem.Str.ofString "/claim/cut.py") 283, PySem.Value.int 72 0, PySem.Value.int 2 0, PySem.Value.int 0 0, PySem.Value.int 0 0, PySem.Value.int 3 0, PySem.Value.ref 84, PySem.Value.bool true, PySem.Value.int 181 0, PySem.Value.ref 85, PySem.Value.none, PySem.Value.none, PySem.Value.none, PySem.Value.ref 86, PySem.Value.int 284 0, PySem.Value.int 72 0, PySem.Value.str (PySem.Str.ofString "/claim/cut.py") 285] }) ::
  (nat_lit 89, { cls := PySem.Value.type "tuple", data := PySem.Data.seq #[] }) ::
  (nat_lit 91, { cls := PySem.Value.type "tuple", data := PySem.Data.seq #[PySem.Value.str (PySem.Str.ofString "self") 290, PySem.Value.str (PySem.Str.ofString "other") 291, PySem.Value.str (PySem.Str.ofString "o") 292, PySem.Value.str (PySem.Str.ofString "t") 293] }) ::
  (nat_lit 92, { cls := PySem.Value.type "tuple", data := PySem.Data.seq #[] }) ::
  (nat_lit 94, { cls := PySem.Value.type "code", data := PySem.Data.fields #[PySem.Value.str (PySem.Str.ofString "__pow__") 287, PySem.Value.str (PySem.Str.ofString "FQP.__pow__") 288, PySem.Value.str (PySem.Str.ofString "/claim/cut.py") 289, PySem.Value.int 80 0, PySem.Value.int 2 0, PySem.Value.int 0 0, PySem.Value.int 0 0, PySem.Value.int 3 0, PySem.Value.ref 89, PySem.Value.bool true, PySem.Value.int 181 0, PySem.Value.ref 90, PySem.Value.none, PySem.Value.ref 91, PySem.Value.ref 92, PySem.Value.ref 93, PySem.Value.int 294 0, PySem.Value.int 80 0, PySem.Value.str (PySem.Str.ofString "/claim/cut.py") 295] }) ::
  (nat_lit 95, { cls := PySem.Value.type "function", data := PySem.Data.func { name := PySem.Str.ofString "__pow__", qualname := PySem.Str.ofString "FQP.__pow__", params := p95, body := PySem.FuncBody.stmts b95, scope := s95, globals := 3, closure := [], defaults := PySem.Value.none, kwdefaults := PySem.Value.none, pyModule := PySem.Value.str (PySem.Str.ofString "py_ecc.fields.optimized_field_elements") 219, code := PySem.Value.ref 94 } }) ::
  (nat_lit 96, { cls := PySem.Value.type "tuple", data := PySem.Data.seq #[] }) ::
  (nat_lit 99, { cls := PySem.Value.type "code", data := PySem.Data.fields #[PySem.Value.str (PySem.Str.ofString "optimized_poly_rounded_div") 297, PySem.Value.str (PySem.Str.ofString "FQP.optimized_poly_rounded_div") 298, PySem.Value.str (PySem.Str.ofString "/claim/cut.py") 299, PySem.Value.int 90 0, PySem.Value.int 3 0, PySem.Value.int 0 0, PySem.Value.int 0 0, PySem.Value.int 3 0, PySem.Value.ref 96, PySem.Value.bool true, PySem.Value.int 181 0, PySem.Value.ref 97, PySem.Value.none, PySem.Value.none, PySem.Value.none, PySem.Value.ref 98, PySem.Value.int 300 0, PySem.Value.int 90 0, PySem.Value.str (PySem.Str.ofString "/claim/cut.py") 301] }) ::
  (nat_lit 101, { cls := PySem.Value.type "tuple", data := PySem.Data.seq #[] }) ::
  (nat_lit 104, { cls := PySem.Value.type "code", data := PySem.Data.fields #[PySem.Value.str (PySem.Str.ofString "inv") 303, PySem.Value.str (PySem.Str.ofString "FQP.inv") 304, PySem.Value.str (PySem.Str.ofString "/claim/cut.py") 305, PySem.Value.int 101 0, PySem.Value.int 1 0, PySem.Value.int 0 0, PySem.Value.int 0 0, PySem.Value.int 3 0, PySem.Value.ref 101, PySem.Value.bool true, PySem.Value.int 181 0, PySem.Value.ref 102, PySem.Value.none, PySem.Value.none, PySem.Value.none, PySem.Value.ref 103, PySem.Value.int 306 0, PySem.Value.int 101 0, PySem.Value.str (PySem.Str.ofString "/claim/cut.py") 307] }) ::
  (nat_lit 106, { cls := PySem.Value.type "tuple", data := PySem.Data.seq #[] }) ::
  (nat_lit 108, { cls := PySem.Value.type "tuple", data := PySem.Data.seq #[PySem.Value.str (PySem.Str.ofString "self") 312] }) ::
  (nat_lit 109, { cls := PySem.Value.type "tuple", data := PySem.Data.seq #[] }) ::
  (nat_lit 111, { cls := PySem.Value.type "code", data := PySem.Data.fields #[PySem.Value.str (PySem.Str.ofString "__repr__") 309, PySem.Value.str (PySem.Str.ofString "FQP.__repr__") 310, PySem.Value.str (PySem.Str.ofString "/claim/cut.py") 311, PySem.Value.int 118 0, PySem.Value.int 1 0, PySem.Value.int 0 0, PySem.Value.int 0 0, PySem.Value.int 3 0, PySem.Value.ref 106, PySem.Value.bool true, PySem.Value.int 181 0, PySem.Value.ref 107, PySem.Value.none, PySem.Value.ref 108, PySem.Value.ref 109, PySem.Value.ref 110, PySem.Value.int 313 0, PySem.Value.int 118 0, PySem.Value.str (PySem.Str.ofString "/claim/cut.py") 314] }) ::
  (nat_lit 113, { cls := PySem.Value.type "tuple", data := PySem.Data.seq #[] }) ::
  (nat_lit 115, { cls := PySem.Value.type "tuple", data := PySem.Data.seq #[PySem.Value.str (PySem.Str.ofString "self") 319, PySem.Value.str (PySem.Str.ofString "other") 320, PySem.Value.str (PySem.Str.ofString "c1") 321, PySem.Value.str (PySem.Str.ofString "c2") 322] }) ::
  (nat_lit 116, { cls := PySem.Value.type "tuple", data := PySem.Data.seq #[] }) ::
  (nat_lit 118, { cls := PySem.Value.type "code", data := PySem.Data.fields #[PySem.Value.str (PySem.Str.ofString "__eq__") 316, PySem.Value.str (PySem.Str.ofString "FQP.__eq__") 317, PySem.Value.str (PySem.Str.ofString "/claim/cut.py") 318, PySem.Value.int 121 0, PySem.Value.int 2 0, PySem.Value.int 0 0, PySem.Value.int 0 0, PySem.Value.int 3 0, PySem.Value.ref 113, PySem.Value.bool true, PySem.Value.int 181 0, PySem.Value.ref 114, PySem.Value.none, PySem.Value.ref 115, PySem.Value.ref 116, PySem.Value.ref 117, PySem.Value.int 323 0, PySem.Value.int 121 0, PySem.Value.str (PySem.Str.ofString "/claim/cut.py") 324] }) ::
  (nat_lit 120, { cls := PySem.Value.type "tuple", data := PySem.Data.seq #[] }) ::
  (nat_lit 122, { cls := PySem.Value.type "tuple", data := PySem.Data.seq #[PySem.Value.str (PySem.Str.ofString "self") 329, PySem.Value.str (PySem.Str.ofString "other") 330] }) ::
  (nat_lit 123, { cls := PySem.Value.type "tuple", data := PySem.Data.seq #[] }) ::
  (nat_lit 125, { cls := PySem.Value.type "code", data := PySem.Data.fields #[PySem.Value.str (PySem.Str.ofString "__ne__") 326, PySem.Value.str (PySem.Str.ofString "FQP.__ne__") 327, PySem.Value.str (PySem.Str.ofString "/claim/cut.py") 328, PySem.Value.int 129 0, PySem.Value.int 2 0, PySem.Value.int 0 0, PySem.Value.int 0 0, PySem.Value.int 3 0, PySem.Value.ref 120, PySem.Value.bool true, PySem.Value.int 181 0, PySem.Value.ref 121, PySem.Value.none, PySem.Value.ref 122, PySem.Value.ref 123, PySem.Value.ref 124, PySem.Value.int 331 0, PySem.Value.int 129 0, PySem.Value.str (PySem.Str.ofString "/claim/cut.py") 332] }) ::
  (nat_lit 127, { cls := PySem.Value.type "tuple", data := PySem.Data.seq #[] }) ::
  (nat_lit 130, { cls := PySem.Value.type "code", data := PySem.Data.fields #[PySem.Value.str (PySem.Str.ofString "__neg__") 334, PySem.Value.str (PySem.Str.ofString "FQP.__neg__") 335, PySem.Value.str (PySem.Str.ofString "/claim/cut.py") 336, PySem.Value.int 132 0, PySem.Value.int 1 0, PySem.Value.int 0 0, PySem.Value.int 0 0, PySem.Value.int 3 0, PySem.Value.ref 127, PySem.Value.bool true, PySem.Value.int 181 0, PySem.Value.ref 128, PySem.Value.none, PySem.Value.none, PySem.Value.none, PySem.Value.ref 129, PySem.Value.int 337 0, PySem.Value.int 132 0, PySem.Value.str (PySem.Str.ofString "/claim/cut.py") 338] }) ::
  (nat_lit 131, { cls := PySem.Value.type "function", data := PySem.Data.func { name := PySem.Str.ofString "__neg__", qualname := PySem.Str.ofString "FQP.__neg__", params := p131, body := PySem.FuncBody.stmts b131, scope := s131, globals := 3, closure := [], defaults := PySem.Value.none, kwdefaults := PySem.Value.none, pyModule := PySem.Value.str (PySem.Str.ofString "py_ecc.fields.optimized_field_elements") 219, code := PySem.Value.ref 130 } }) ::
  (nat_lit 132, { cls := PySem.Value.type "tuple", data := PySem.Data.seq #[] }) ::
  (nat_lit 134, { cls := PySem.Value.type "tuple", data := PySem.Data.seq #[PySem.Value.str (PySem.Str.ofString "self") 343] }) ::
  (nat_lit 135, { cls := PySem.Value.type "tuple", data := PySem.Data.seq #[] }) ::
  (nat_lit 137, { cls := PySem.Value.type "code", data := PySem.Data.fields #[PySem.Value.str (PySem.Str.ofString "sgn0") 340, PySem.Value.str (PySem.Str.ofString "FQP.sgn0") 341, PySem.Value.str (PySem.Str.ofString "/claim/cut.py") 342, PySem.Value.int 135 0, PySem.Value.int 1 0, PySem.Value.int 0 0, PySem.Value.int 0 0, PySem.Value.int 3 0, PySem.Value.ref 132, PySem.Value.bool true, PySem.Value.int 181 0, PySem.Value.ref 133, PySem.Value.none, PySem.Value.ref 134, PySem.Value.ref 135, PySem.Value.ref 136, PySem.Value.int 344 0, PySem.Value.int 135 0, PySem.Value.str (PySem.Str.ofString "/claim/cut.py") 345] }) ::
  (nat_lit 139, { cls := PySem.Value.type "property", data := PySem.Data.fields #[PySem.Value.ref 138, PySem.Value.none, PySem.Value.none, PySem.Value.none, PySem.Value.str (PySem.Str.ofString "sgn0") 347, PySem.Value.bool false] }) ::
  (nat_lit 140, { cls := PySem.Value.type "tuple", data := PySem.Data.seq #[] }) ::
  (nat_lit 142, { cls := PySem.Value.type "tuple", data := PySem.Data.seq #[PySem.Value.str (PySem.Str.ofString "self") 351] }) ::
  (nat_lit 143, { cls := PySem.Value.type "tuple", data := PySem.Data.seq #[] }) ::
  (nat_lit 145, { cls := PySem.Value.type "code", data := PySem.Data.fields #[PySem.Value.str (PySem.Str.ofString "one") 348, PySem.Value.str (PySem.Str.ofString "FQP.one") 349, PySem.Value.str (PySem.Str.ofString "/claim/cut.py") 350, PySem.Value.int 139 0, PySem.Value.int 1 0, PySem.Value.int 0 0, PySem.Value.int 0 0, PySem.Value.int 3 0, PySem.Value.ref 140, PySem.Value.bool true, PySem.Value.int 181 0, PySem.Value.ref 141, PySem.Value.none, PySem.Value.ref 142, PySem.Value.ref 143, PySem.Value.ref 144, PySem.Value.int 352 0, PySem.Value.int 139 0, PySem.Value.str (PySem.Str.ofString "/claim/cut.py") 353] }) ::
  (nat_lit 147, { cls := PySem.Value.type "tuple", data := PySem.Data.seq #[] }) ::
  (nat_lit 149, { cls := PySem.Value.type "tuple", data := PySem.Data.seq #[PySem.Value.str (PySem.Str.ofString "self") 358] }) ::
  (nat_lit 150, { cls := PySem.Value.type "tuple", data := PySem.Data.seq #[] }) ::
  (nat_lit 152, { cls := PySem.Value.type "code", data := PySem.Data.fields #[PySem.Value.str (PySem.Str.ofString "zero") 355, PySem.Value.str (PySem.Str.ofString "FQP.zero") 356, PySem.Value.str (PySem.Str.ofString "/claim/cut.py") 357, PySem.Value.int 142 0, PySem.Value.int 1 0, PySem.Value.int 0 0, PySem.Value.int 0 0, PySem.Value.int 3 0, PySem.Value.ref 147, PySem.Value.bool true, PySem.Value.int 181 0, PySem.Value.ref 148, PySem.Value.none, PySem.Value.ref 149, PySem.Value.ref 150, PySem.Value.ref 151, PySem.Value.int 359 0, PySem.Value.int 142 0, PySem.Value.str (PySem.Str.ofString "/claim/cut.py") 360] }) ::
  (nat_lit 154, { cls := PySem.Value.type "tuple", data := PySem.Data.seq #[PySem.Value.str (PySem.Str.ofString "coeffs") 362, PySem.Value.str (PySem.Str.ofString "degree") 363, PySem.Value.str (PySem.Str.ofString "field_modulus") 364, PySem.Value.str (PySem.Str.ofString "mc_tuples") 365, PySem.Value.str (PySem.Str.ofString "modulus_coeffs") 366] }) ::
  (nat_lit 155, { cls := PySem.Value.type "dict", data := PySem.Data.dict #[{ hash := PySem.PyData.keyHash P (PySem.Str.ofString "__module__"), key := PySem.Value.str (PySem.Str.ofString "__module__") 228, val := PySem.Value.str (PySem.Str.ofString "py_ecc.fields.optimized_field_elements") 219 }, { hash := PySem.PyData.keyHash P (PySem.Str.ofString "__firstlineno__"), key := PySem.Value.str (PySem.Str.ofString "__firstlineno__") 232, val := PySem.Value.int 22 231 }, { hash := PySem.PyData.keyHash P (PySem.Str.ofString "__init__"), key := PySem.Value.str (PySem.Str.ofString "__init__") 238, val := PySem.Value.ref 47 }, { hash := PySem.PyData.keyHash P (PySem.Str.ofString "made"), key := PySem.Value.str (PySem.Str.ofString "made") 246, val := PySem.Value.ref 54 }, { hash := PySem.PyData.keyHash P (PySem.Str.ofString "__add__"), key := PySem.Value.str (PySem.Str.ofString "__add__") 252, val := PySem.Value.ref 59 }, { hash := PySem.PyData.keyHash P (PySem.Str.ofString "__sub__"), key := PySem.Value.str (PySem.Str.ofString "__sub__") 258, val := PySem.Value.ref 64 }, { hash := PySem.PyData.keyHash P (PySem.Str.ofString "__mod__"), key := PySem.Value.str (PySem.Str.ofString "__mod__") 266, val := PySem.Value.ref 71 }, { hash := PySem.PyData.keyHash P (PySem.Str.ofString "__mul__"), key := PySem.Value.str (PySem.Str.ofString "__mul__") 272, val := PySem.Value.ref 76 }, { hash := PySem.PyData.keyHash P (PySem.Str.ofString "__rmul__"), key := PySem.Value.str (PySem.Str.ofString "__rmul__") 280, val := PySem.Value.ref 83 }, { hash := PySem.PyData.keyHash P (PySem.Str.ofString "__truediv__"), key := PySem.Value.str (PySem.Str.ofString "__truediv__") 286, val := PySem.Value.ref 88 }, { hash := PySem.PyData.keyHash P (PySem.Str.ofString "__pow__"), key := PySem.Value.str (PySem.Str.ofString "__pow__") 296, val := PySem.Value.ref 95 }, { hash := PySem.PyData.keyHash P (PySem.Str.ofString "optimized_poly_rounded_div"), key := PySem.Value.str (PySem.Str.ofString "optimized_poly_rounded_div") 302, val := PySem.Value.ref 100 }, { hash := PySem.PyData.keyHash P (PySem.Str.ofString "inv"), key := PySem.Value.str (PySem.Str.ofString "inv") 308, val := PySem.Value.ref 105 }, { hash := PySem.PyData.keyHash P (PySem.Str.ofString "__repr__"), key := PySem.Value.str (PySem.Str.ofString "__repr__") 315, val := PySem.Value.ref 112 }, { hash := PySem.PyData.keyHash P (PySem.Str.ofString "__eq__"), key := PySem.Value.str (PySem.Str.ofString "__eq__") 325, val := PySem.Value.ref 119 }, { hash := PySem.PyData.keyHash P (PySem.Str.ofString "__ne__"), key := PySem.Value.str (PySem.Str.ofString "__ne__") 333, val := PySem.Value.ref 126 }, { hash := PySem.PyData.keyHash P (PySem.Str.ofString "__neg__"), key := PySem.Value.str (PySem.Str.ofString "__neg__") 339, val := PySem.Value.ref 131 }, { hash := PySem.PyData.keyHash P (PySem.Str.ofString "sgn0"), key := PySem.Value.str (PySem.Str.ofString "sgn0") 347, val := PySem.Value.ref 139 }, { hash := PySem.PyData.keyHash P (PySem.Str.ofString "one"), key := PySem.Value.str (PySem.Str.ofString "one") 354, val := PySem.Value.ref 146 }, { hash := PySem.PyData.keyHash P (PySem.Str.ofString "zero"), key := PySem.Value.str (PySem.Str.ofString "zero") 361, val := PySem.Value.ref 153 }, { hash := PySem.PyData.keyHash P (PySem.Str.ofString "__static_attributes__"), key := PySem.Value.str (PySem.Str.ofString "__static_attributes__") 367, val := PySem.Value.ref 154 }, { hash := PySem.PyData.keyHash P (PySem.Str.ofString "__dict__"), key := PySem.Value.str (PySem.Str.ofString "__dict__") 369, val := PySem.Value.ref 157 }, { hash := PySem.PyData.keyHash P (PySem.Str.ofString "__weakref__"), key := PySem.Value.str (PySem.Str.ofString "__weakref__") 371, val := PySem.Value.ref 158 }, { hash := PySem.PyData.keyHash P (PySem.Str.ofString "__doc__"), key := PySem.Value.str (PySem.Str.ofString "__doc__") 372, val := PySem.Value.none }, { hash := PySem.PyData.keyHash P (PySem.Str.ofString "__hash__"), key := PySem.Value.str (PySem.Str.ofString "__hash__") 373, val := PySem.Value.none }] 5 }) ::
  (nat_lit 156, { cls := PySem.Value.type "type", data := PySem.Data.cls { name := PySem.Str.ofString "FQP", bases := [PySem.Value.type "object"], mro := [PySem.Value.ref 156, PySem.Value.type "object"], ns := 155, qualname := PySem.Str.ofString "FQP" }, slots := #[none, none, some (PySem.Value.str (PySem.Str.ofString "FQP") 221), some (PySem.Value.str (PySem.Str.ofString "FQP") 229), some (PySem.Value.builtin "object.__new__"), some (PySem.Value.bool true)] }) ::
  (nat_lit 157, { cls := PySem.Value.type "getset_descriptor", data := PySem.Data.fields #[PySem.Value.str (PySem.Str.ofString "__dict__") 368, PySem.Value.ref 156, PySem.Value.builtin "function.__dict__", PySem.Value.builtin "function.__dict__#set"] }) ::
  (nat_lit 158, { cls := PySem.Value.type "getset_descriptor", data := PySem.Data.fields #[PySem.Value.str (PySem.Str.ofString "__weakref__") 370, PySem.Value.ref 156, PySem.Value.builtin "ExceptionGroup.__weakref__", PySem.Value.none] }) ::
  (nat_lit 161, { cls := PySem.Value.type "dict", data := PySem.Data.dict #[{ hash := PySem.PyData.keyHash P (PySem.Str.ofString "bn128"), key := PySem.Value.str (PySem.Str.ofString "bn128") 376, val := PySem.Value.ref 162 }, { hash := PySem.PyData.keyHash P (PySem.Str.ofString "bls12_381"), key := PySem.Value.str (PySem.Str.ofString "bls12_381") 399, val := PySem.Value.ref 165 }] 2 }) ::
  (nat_lit 162, { cls := PySem.Value.type "dict", data := PySem.Data.dict #[{ hash := PySem.PyData.keyHash P (PySem.Str.ofString "field_modulus"), key := PySem.Value.str (PySem.Str.ofString "field_modulus") 377, val := PySem.Value.int 21888242871839275222246405745257275088696311157297823662689037894645226208583 378 }, { hash := PySem.PyData.keyHash P (PySem.Str.ofString "fq2_modulus_coeffs"), key := PySem.Value.str (PySem.Str.ofString "fq2_modulus_coeffs") 379, val := PySem.Value.ref 163 }, { hash := PySem.PyData.keyHash P (PySem.Str.ofString "fq12_modulus_coeffs"), key := PySem.Value.str (PySem.Str.ofString "fq12_modulus_coeffs") 382, val := PySem.Value.ref 164 }] 3 }) ::
  (nat_lit 163, { cls := PySem.Value.type "tuple", data := PySem.Data.seq #[PySem.Value.int 1 380, PySem.Value.int 0 381] }) ::
  (nat_lit 164, { cls := PySem.Value.type "tuple", data := PySem.Data.seq #[PySem.Value.int 82 383, PySem.Value.int 0 384, PySem.Value.int 0 385, PySem.Value.int 0 386, PySem.Value.int 0 387, PySem.Value.int 0 388, PySem.Value.int (-18) 390, PySem.Value.int 0 391, PySem.Value.int 0 392, PySem.Value.int 0 393, PySem.Value.int 0 394, PySem.Value.int 0 395] }) ::
  (nat_lit 165, { cls := PySem.Value.type "dict", data := PySem.Data.dict #[{ hash := PySem.PyData.keyHash P (PySem.Str.ofString "field_modulus"), key := PySem.Value.str (PySem.Str.ofString "field_modulus") 400, val := PySem.Value.int 4002409555221667393417789825735904156556882819939007885332058136124031650490837864442687629129015664037894272559787 401 }, { hash := PySem.PyData.keyHash P (PySem.Str.ofString "fq2_modulus_coeffs"), key := PySem.Value.str (PySem.Str.ofString "fq2_modulus_coeffs") 402, val := PySem.Value.ref 166 }, { hash := PySem.PyData.keyHash P (PySem.Str.ofString "fq12_modulus_coeffs"), key := PySem.Value.str (PySem.Str.ofString "fq12_modulus_coeffs") 405, val := PySem.Value.ref 167 }] 3 }) ::
  (nat_lit 166, { cls := PySem.Value.type "tuple", data := PySem.Data.seq #[PySem.Value.int 1 403, PySem.Value.int 0 404] }) ::
  (nat_lit 167, { cls := PySem.Value.type "tuple", data := PySem.Data.seq #[PySem.Value.int 2 406, PySem.Value.int 0 407, PySem.Value.int 0 408, PySem.Value.int 0 409, PySem.Value.int 0 410, PySem.Value.int 0 411, PySem.Value.int (-2) 413, PySem.Value.int 0 414, PySem.Value.int 0 415, PySem.Value.int 0 416, PySem.Value.int 0 417, PySem.Value.int 0 418] }) ::
  (nat_lit 168, { cls := PySem.Value.type "tuple", data := PySem.Data.seq #[] }) ::
  (nat_lit 170, { cls := PySem.Value.type "tuple", data := PySem.Data.seq #[] }) ::
  (nat_lit 171, { cls := PySem.Value.type "tuple", data := PySem.Data.seq #[] }) ::
  (nat_lit 173, { cls := PySem.Value.type "code", data := PySem.Data.fields #[PySem.Value.str (PySem.Str.ofString "_law_primes") 427, PySem.Value.str (PySem.Str.ofString "_law_primes") 428, PySem.Value.str (PySem.Str.ofString "/claim/cut.py") 429, PySem.Value.int 146 0, PySem.Value.int 0 0, PySem.Value.int 0 0, PySem.Value.int 0 0, PySem.Value.int 3 0, PySem.Value.ref 168, PySem.Value.bool true, PySem.Value.int 181 0, PySem.Value.ref 169, PySem.Value.none, PySem.Value.ref 170, PySem.Value.ref 171, PySem.Value.ref 172, PySem.Value.int 430 0, PySem.Value.int 146 0, PySem.Value.str (PySem.Str.ofString "/claim/cut.py") 431] }) ::
  (nat_lit 174, { cls := PySem.Value.type "function", data := PySem.Data.func { name := PySem.Str.ofString "_law_primes", qualname := PySem.Str.ofString "_law_primes", params := p174, body := PySem.FuncBody.stmts b174, scope := s174, globals := 3, closure := [], defaults := PySem.Value.none, kwdefaults := PySem.Value.none, pyModule := PySem.Value.str (PySem.Str.ofString "law_kh0011_01") 425, code := PySem.Value.ref 173 } }) ::
  (nat_lit 175, { cls := PySem.Value.type "tuple", data := PySem.Data.seq #[] }) ::
  (nat_lit 177, { cls := PySem.Value.type "tuple", data := PySem.Data.seq #[PySem.Value.str (PySem.Str.ofString "element") 436, PySem.Value.str (PySem.Str.ofString "shift") 437, PySem.Value.str (PySem.Str.ofString "prime") 438, PySem.Value.str (PySem.Str.ofString "found") 439, PySem.Value.str (PySem.Str.ofString "k") 440] }) ::
  (nat_lit 178, { cls := PySem.Value.type "tuple", data := PySem.Data.seq #[] }) ::
  (nat_lit 180, { cls := PySem.Value.type "code", data := PySem.Data.fields #[PySem.Value.str (PySem.Str.ofString "_law_pairs") 433, PySem.Value.str (PySem.Str.ofString "_law_pairs") 434, PySem.Value.str (PySem.Str.ofString "/claim/cut.py") 435, PySem.Value.int 148 0, PySem.Value.int 3 0, PySem.Value.int 0 0, PySem.Value.int 0 0, PySem.Value.int 3 0, PySem.Value.ref 175, PySem.Value.bool true, PySem.Value.int 181 0, PySem.Value.ref 176, PySem.Value.none, PySem.Value.ref 177, PySem.Value.ref 178, PySem.Value.ref 179, PySem.Value.int 441 0, PySem.Value.int 148 0, PySem.Value.str (PySem.Str.ofString "/claim/cut.py") 442] }) ::
  (nat_lit 181, { cls := PySem.Value.type "function", data := PySem.Data.func { name := PySem.Str.ofString "_law_pairs", qualname := PySem.Str.ofString "_law_pairs", params := p181, body := PySem.FuncBody.stmts b181, scope := s181, globals := 3, closure := [], defaults := PySem.Value.none, kwdefaults := PySem.Value.none, pyModule := PySem.Value.str (PySem.Str.ofString "law_kh0011_01") 425, code := PySem.Value.ref 180 } }) ::
  (nat_lit 182, { cls := PySem.Value.type "tuple", data := PySem.Data.seq #[] }) ::
  (nat_lit 185, { cls := PySem.Value.type "code", data := PySem.Data.fields #[PySem.Value.str (PySem.Str.ofString "_law_flat") 444, PySem.Value.str (PySem.Str.ofString "_law_flat") 445, PySem.Value.str (PySem.Str.ofString "/claim/cut.py") 446, PySem.Value.int 153 0, PySem.Value.int 3 0, PySem.Value.int 0 0, PySem.Value.int 0 0, PySem.Value.int 3 0, PySem.Value.ref 182, PySem.Value.bool true, PySem.Value.int 181 0, PySem.Value.ref 183, PySem.Value.none, PySem.Value.none, PySem.Value.none, PySem.Value.ref 184, PySem.Value.int 447 0, PySem.Value.int 153 0, PySem.Value.str (PySem.Str.ofString "/claim/cut.py") 448] }) ::
  (nat_lit 186, { cls := PySem.Value.type "function", data := PySem.Data.func { name := PySem.Str.ofString "_law_flat", qualname := PySem.Str.ofString "_law_flat", params := p186, body := PySem.FuncBody.stmts b186, scope := s186, globals := 3, closure := [], defaults := PySem.Value.none, kwdefaults := PySem.Value.none, pyModule := PySem.Value.str (PySem.Str.ofString "law_kh0011_01") 425, code := PySem.Value.ref 185 } }) ::
  (nat_lit 187, { cls := PySem.Value.type "tuple", data := PySem.Data.seq #[] }) ::
  (nat_lit 190, { cls := PySem.Value.type "code", data := PySem.Data.fields #[PySem.Value.str (PySem.Str.ofString "_law_times") 450, PySem.Value.str (PySem.Str.ofString "_law_times") 451, PySem.Value.str (PySem.Str.ofString "/claim/cut.py") 452, PySem.Value.int 155 0, PySem.Value.int 4 0, PySem.Value.int 0 0, PySem.Value.int 0 0, PySem.Value.int 3 0, PySem.Value.ref 187, PySem.Value.bool true, PySem.Value.int 181 0, PySem.Value.ref 188, PySem.Value.none, PySem.Value.none, PySem.Value.none, PySem.Value.ref 189, PySem.Value.int 453 0, PySem.Value.int 155 0, PySem.Value.str (PySem.Str.ofString "/claim/cut.py") 454] }) ::
  (nat_lit 191, { cls := PySem.Value.type "function", data := PySem.Data.func { name := PySem.Str.ofString "_law_times", qualname := PySem.Str.ofString "_law_times", params := p191, body := PySem.FuncBody.stmts b191, scope := s191, globals := 3, closure := [], defaults := PySem.Value.none, kwdefaults := PySem.Value.none, pyModule := PySem.Value.str (PySem.Str.ofString "law_kh0011_01") 425, code := PySem.Value.ref 190 } }) ::
  (nat_lit 192, { cls := PySem.Value.type "tuple", data := PySem.Data.seq #[] }) ::
  (nat_lit 195, { cls := PySem.Value.type "code", data := PySem.Data.fields #[PySem.Value.str (PySem.Str.ofString "_law_deed") 456, PySem.Value.str (PySem.Str.ofString "_law_deed") 457, PySem.Value.str (PySem.Str.ofString "/claim/cut.py") 458, PySem.Value.int 166 0, PySem.Value.int 4 0, PySem.Value.int 0 0, PySem.Value.int 0 0, PySem.Value.int 3 0, PySem.Value.ref 192, PySem.Value.bool true, PySem.Value.int 181 0, PySem.Value.ref 193, PySem.Value.none, PySem.Value.none, PySem.Value.none, PySem.Value.ref 194, PySem.Value.int 459 0, PySem.Value.int 166 0, PySem.Value.str (PySem.Str.ofString "/claim/cut.py") 460] }) ::
  (nat_lit 196, { cls := PySem.Value.type "function", data := PySem.Data.func { name := PySem.Str.ofString "_law_deed", qualname := PySem.Str.ofString "_law_deed", params := p196, body := PySem.FuncBody.stmts b196, scope := s196, globals := 3, closure := [], defaults := PySem.Value.none, kwdefaults := PySem.Value.none, pyModule := PySem.Value.str (PySem.Str.ofString "law_kh0011_01") 425, code := PySem.Value.ref 195 } }) ::
  (nat_lit 197, { cls := PySem.Value.type "tuple", data := PySem.Data.seq #[] }) ::
  (nat_lit 200, { cls := PySem.Value.type "code", data := PySem.Data.fields #[PySem.Value.str (PySem.Str.ofString "law") 462, PySem.Value.str (PySem.Str.ofString "law") 463, PySem.Value.str (PySem.Str.ofString "/claim/cut.py") 464, PySem.Value.int 181 0, PySem.Value.int 1 0, PySem.Value.int 0 0, PySem.Value.int 0 0, PySem.Value.int 3 0, PySem.Value.ref 197, PySem.Value.bool true, PySem.Value.int 181 0, PySem.Value.ref 198, PySem.Value.none, PySem.Value.none, PySem.Value.none, PySem.Value.ref 199, PySem.Value.int 465 0, PySem.Value.int 181 0, PySem.Value.str (PySem.Str.ofString "/claim/cut.py") 466] }) ::
  (nat_lit 201, { cls := PySem.Value.type "function", data := PySem.Data.func { name := PySem.Str.ofString "law", qualname := PySem.Str.ofString "law", params := p201, body := PySem.FuncBody.stmts b201, scope := s201, globals := 3, closure := [], defaults := PySem.Value.none, kwdefaults := PySem.Value.none, pyModule := PySem.Value.str (PySem.Str.ofString "law_kh0011_01") 425, code := PySem.Value.ref 200 } }) :: []) _ _ _ rfl _ _ _ rfl _ _ _ rfl _ _ _ rfl _ _ _ rfl _ _ _ rfl _ _ _ rfl _ _ _ rfl _ _ _ rfl _ _ _ rfl _ _ _ rfl _ _ _ rfl _ _ _ rfl
end Mine
open PySem PySem.Spec PySem.Calls PyProof.Rows PySem.W PySem.W.X
set_option Elab.async false
set_option autoImplicit false
set_option maxRecDepth 100000
set_option maxHeartbeats 80000000
namespace Mine
/-- the statements of the text that the law's view keeps -/
def pB : List Stmt := PySem.Challenge.pw_kh0011_01.main.body
def qv : Program := { PySem.Challenge.pw_kh0011_01 with main := { PySem.Challenge.pw_kh0011_01.main with body := pB.take 1 ++ (((pB.drop 2).take 2) ++ (((pB.drop 5).take 2) ++ pB.drop 8)) } }
def asL : List Nat := [nat_lit 2, nat_lit 3, nat_lit 15, nat_lit 17, nat_lit 18, nat_lit 20, nat_lit 22, nat_lit 24, nat_lit 25, nat_lit 27, nat_lit 29, nat_lit 31, nat_lit 32, nat_lit 34, nat_lit 43, nat_lit 46, nat_lit 47, nat_lit 48, nat_lit 50, nat_lit 51, nat_lit 53, nat_lit 54, nat_lit 55, nat_lit 58, nat_lit 59, nat_lit 60, nat_lit 63, nat_lit 64, nat_lit 65, nat_lit 67, nat_lit 68, nat_lit 70, nat_lit 72, nat_lit 75, nat_lit 76, nat_lit 77, nat_lit 79, nat_lit 80, nat_lit 82, nat_lit 84, nat_lit 87, nat_lit 89, nat_lit 91, nat_lit 92, nat_lit 94, nat_lit 95, nat_lit 96, nat_lit 99, nat_lit 101, nat_lit 104, nat_lit 106, nat_lit 108, nat_lit 109, nat_lit 111, nat_lit 113, nat_lit 115, nat_lit 116, nat_lit 118, nat_lit 120, nat_lit 122, nat_lit 123, nat_lit 125, nat_lit 127, nat_lit 130, nat_lit 131, nat_lit 132, nat_lit 134, nat_lit 135, nat_lit 137, nat_lit 139, nat_lit 140, nat_lit 142, nat_lit 143, nat_lit 145, nat_lit 147, nat_lit 149, nat_lit 150, nat_lit 152, nat_lit 154, nat_lit 155, nat_lit 156, nat_lit 157, nat_lit 158, nat_lit 161, nat_lit 162, nat_lit 163, nat_lit 164, nat_lit 165, nat_lit 166, nat_lit 167, nat_lit 168, nat_lit 170, nat_lit 171, nat_lit 173, nat_lit 174, nat_lit 175, nat_lit 177, nat_lit 178, nat_lit 180, nat_lit 181, nat_lit 182, nat_lit 185, nat_lit 186, nat_lit 187, nat_lit 190, nat_lit 191, nat_lit 192, nat_lit 195, nat_lit 196, nat_lit 197, nat_lit 200, nat_lit 201, nat_lit 44]
noncomputable def kall (P : Params) : Frag := kfrag P ++ [(nat_lit 44, tabObj #[])]
abbrev lsn : List Str := [Str.ofString "FQP", Str.ofString "field_properties"]
abbrev rwX : OpenRow := PySem.Challenge.rw_kh0011_01.row
abbrev xtX (s : Shared) : Bool := xlAt qv [] s && recOk (RowW.records rwX.toRowW) s
theorem lookup_app {l l' : Frag} {a : Addr} {o : Obj} (e : l.lookup a = some o) : (l ++ l').lookup a = some o := by
  induction l with
  | nil => cases e
  | cons p l ih =>
    rw [List.cons_append, List.lookup_cons]
    rw [List.lookup_cons] at e
    split <;> rename_i h <;> rw [h] at e
    · exact e
    · exact ih e
theorem kall_in {P : Params} {h : Heap} (K : (kall P).In h) : (kfrag P).In h := fun a o e => K a o (lookup_app e)
theorem left_boot {p q : Program} {loose : List Str} {Xt : Shared → Bool} {α : Type} {Yf : Shared → α} {Ya : World → α} {N : Nat} (row : String)
    (e : opening p = plainProg p.main.scope.names) (hN : Nat.ble 600 N = true) (f : ∀ s, fenceModules? p s = some s)
    (hf : ∀ (w : World) (os : OsState), (topFrom treeTable p (w.withFollow row false) N ⟨boot_heap (w.withFollow row false).params, Array.mk [], boot_drawn, boot_toks, os⟩).map (fun s => (openSeen q loose (importedModules p.main.body) Xt true s, Yf s)) = some (openGood q loose, Ya (w.withFollow row false)))
    (ht : ∀ (w : World) (os : OsState), (topFrom treeTable p (w.withFollow row true) N ⟨boot_heap (w.withFollow row true).params, Array.mk [], boot_drawn, boot_toks, os⟩).map (fun s => (openSeen q loose (importedModules p.main.body) Xt true s, Yf s)) = some (openGood q loose, Ya (w.withFollow row true))) :
    LeftO p q loose Xt Yf Ya N := fun w => by
  obtain ⟨⟨h, gs, d, k, os⟩, e, e'⟩ := Option.map_eq_some_iff.mp (boot_open e hN f w)
  obtain ⟨rfl, rfl, rfl, rfl⟩ : h = boot_heap w.params ∧ gs = Array.mk [] ∧ d = boot_drawn ∧ k = boot_toks := by simpa using e'
  show (openEnds treeTable p w N).map _ = _
  unfold openEnds
  rw [e]
  exact byRow2 row (P := fun w => (topFrom treeTable p w N ⟨boot_heap w.params, Array.mk [], boot_drawn, boot_toks, os⟩).map (fun s => (openSeen q loose (importedModules p.main.body) Xt true s, Yf s)) = some (openGood q loose, Ya w)) (fun w => hf w os) (fun w => ht w os) w
/-- topFrom with its runner and its table as letters -/
noncomputable def topFromG (tr : (String → Option Builtin) → Program → World → Nat → Option Value → Nat → Shared → Thread → Option Shared) (tb : String → Option Builtin) (p : Program) (w : World) (N : Nat) (s₀ : Shared) : Option Shared :=
  match s₀.heap.isNs mainGlobals && s₀.gens.size == 0 with
  | true => (tr tb p w s₀.heap.objs.size (s₀.heap.nsMap mainGlobals "__annotations__") N s₀ (topStub p)).bind fun s₁ => match staticsOk (importedModules p.main.body) s₀.heap s₁.heap && namesBound p s₁.heap && gensDone s₁ && laidKept s₀.heap s₁.heap with
      | true => some s₁
      | false => none
  | false => none
/-- topFrom by the library's quick twins -/
noncomputable abbrev topFromQ (p : Program) (w : World) (N : Nat) (s₀ : Shared) : Option Shared := topFromG PySem.W.Fast.tw14082659384304107361 PySem.W.Fast.tw14364793385576792824 p w N s₀
theorem topFrom_q (p : Program) (w : World) (N : Nat) (s₀ : Shared) : topFrom treeTable p w N s₀ = topFromQ p w N s₀ := by
  have e : topFrom treeTable p w N s₀ = topFromG topRun treeTable p w N s₀ := rfl
  rw [e, PySem.W.Fast.te14082659384304107361, PySem.W.Fast.te14364793385576792824]
theorem run_f (w : World) (os : OsState) : (topFromQ rwX.prog (w.withFollow "special-get-raises" false) 2654 ⟨boot_heap (w.withFollow "special-get-raises" false).params, Array.mk [], boot_drawn, boot_toks, os⟩).map (fun s => (PySem.W.Fast.tw4187177175401517315 qv lsn (importedModules rwX.prog.main.body) xtX true s, obsZ asL s)) = some (openGood qv lsn, valZ kall 202 468 (w.withFollow "special-get-raises" false)) := by kernel_rfl
theorem run_t (w : World) (os : OsState) : (topFromQ rwX.prog (w.withFollow "special-get-raises" true) 2654 ⟨boot_heap (w.withFollow "special-get-raises" true).params, Array.mk [], boot_drawn, boot_toks, os⟩).map (fun s => (PySem.W.Fast.tw4187177175401517315 qv lsn (importedModules rwX.prog.main.body) xtX true s, obsZ asL s)) = some (openGood qv lsn, valZ kall 202 468 (w.withFollow "special-get-raises" true)) := by kernel_rfl
theorem left_run : LeftO rwX.prog qv lsn xtX (obsZ asL) (valZ kall 202 468) 2654 := by
  refine left_boot "special-get-raises" (by kernel_rfl) (by kernel_rfl) (by intro s; kernel_rfl) ?_ ?_
  · intro w os; rw [topFrom_q, PySem.W.Fast.te4187177175401517315]; exact run_f w os
  · intro w os; rw [topFrom_q, PySem.W.Fast.te4187177175401517315]; exact run_t w os
theorem head_keys (P : Params) : asL = (kall P).map (·.1) := by kernel_rfl
end Mine
open PySem PySem.Spec PySem.Calls PyProof.Rows PySem.W
set_option Elab.async false
set_option maxRecDepth 100000
set_option maxHeartbeats 8000000
namespace Mine
section
variable {prog : Program} {w : World} {A : Around} {E : Value → Shared → Prop} {s : Shared}
/-- a tuple's iterator hands out an item -/
theorem nextOf_tup_item {it t : Addr} {i : Nat} {items : Array Value} {x : Value} {Q : Value → Shared → Prop} (hit : s.heap.IsTupleIter it t i) (ht : s.heap.IsTuple t items) (hx : items[i]? = some x)
    (hQ : ∀ h', h'.IsTupleIter it t (i + 1) → Heap.SameBut it s.heap h' → Q x { s with heap := h' }) : wpAny (model prog w) A (Builtin.SmallTypes.nextOf (.ref it)) Q E s := by
  obtain ⟨o, ho, hc, hd⟩ := id hit
  obtain ⟨ot, hot, _, nt, hdt⟩ := ht
  unfold Builtin.SmallTypes.nextOf
  refine wpAny_bind (wpAny_callSpecial?_slot (name := Str.ofString "__next__") hit.typeIs F.slot_tuple_iterator_next
    (wpAny_call_entry F.slot_tuple_iterator_next hit.typeIs F.entry_tuple_iterator_next ?_ (F.args_tuple_iterator_next_1 _)))
  show wpAny _ _ (field (.ref it) 0 >>= _) _ _ s
  refine wpAny_bind (wpAny_field ho hd (x := .ref t) rfl ?_)
  show wpAny _ _ (if (Value.ref t == Value.none) = true then _ else _) _ _ s
  rw [if_neg (show ¬ ((Value.ref t == Value.none) = true) from Bool.false_ne_true)]
  show wpAny _ _ (field (.ref it) 1 >>= _) _ _ s
  refine wpAny_bind (wpAny_field ho hd (x := .int i 0) rfl ?_)
  show wpAny _ _ (seqItems? (.ref t) >>= _) _ _ s
  refine wpAny_bind (wpAny_seqItems hot hdt ?_)
  simp only [Int.toNat_natCast, hx]
  refine wpAny_bind (wpAny_setField ho hd (by simp) (wpAny_pure ⟨x, rfl, wpAny_pure (hQ _ ?_ (Heap.SameBut.update ..))⟩))
  exact ⟨_, Heap.get?_update_self _ ho (Obj.isFreed_of_fields (Obj.data_mapFields hd _)), (Obj.cls_mapFields ..).trans hc, by
    rw [Obj.data_mapFields hd]; simp [rawInt]⟩
theorem nextOf_tup_end {it t : Addr} {i : Nat} {items : Array Value} {Q : Value → Shared → Prop} (hh : A.handled = none) (hit : s.heap.IsTupleIter it t i) (ht : s.heap.IsTuple t items) (hx : items[i]? = none)
    (hE : ∀ h' e, Heap.ExtBut it s.heap h' → (∃ o, h'.get? e = some o ∧ o.cls = .type "StopIteration") → E (.ref e) { s with heap := h' }) : wpAny (model prog w) A (Builtin.SmallTypes.nextOf (.ref it)) Q E s := by
  obtain ⟨o, ho, hc, hd⟩ := id hit
  obtain ⟨ot, hot, _, nt, hdt⟩ := ht
  unfold Builtin.SmallTypes.nextOf
  refine wpAny_bind (wpAny_callSpecial?_slot (name := Str.ofString "__next__") hit.typeIs F.slot_tuple_iterator_next
    (wpAny_call_entry F.slot_tuple_iterator_next hit.typeIs F.entry_tuple_iterator_next ?_ (F.args_tuple_iterator_next_1 _)))
  show wpAny _ _ (field (.ref it) 0 >>= _) _ _ s
  refine wpAny_bind (wpAny_field ho hd (x := .ref t) rfl ?_)
  show wpAny _ _ (if (Value.ref t == Value.none) = true then _ else _) _ _ s
  rw [if_neg (show ¬ ((Value.ref t == Value.none) = true) from Bool.false_ne_true)]
  show wpAny _ _ (field (.ref it) 1 >>= _) _ _ s
  refine wpAny_bind (wpAny_field ho hd (x := .int i 0) rfl ?_)
  show wpAny _ _ (seqItems? (.ref t) >>= _) _ _ s
  refine wpAny_bind (wpAny_seqItems hot hdt ?_)
  simp only [Int.toNat_natCast, hx]
  refine wpAny_bind (wpAny_rule (wpAny_bind (wpAny_setField ho hd (by simp) ?_)))
  show wpAny _ _ (newExc (.type "StopIteration") [] >>= _) _ _ _
  refine wpAny_bind ?_
  simp only [newExc, newTuple]
  refine wpAny_bind (wpAny_newObj_type ?_ (by size_fits))
  refine wpAny_bind (m := firstArgMember _ _) (wpAny_of_eq (a := Value.none) (by first | rfl | (simp only [firstArgMember]; rfl)) ?_)
  refine wpAny_newObj_type ?_ (by size_fits)
  simp only [raiseNew]
  refine wpAny_bind (wpAny_handled ?_)
  first | rw [show A.in1.handled = none from hh] | rw [hh]
  refine wpAny_bind (wpAny_pure (wpAny_throw ?_))
  exact hE _ _ (((Heap.SameBut.update ..).extBut.push _).push _) ⟨_, Heap.get?_push_size _ rfl, rfl⟩
end
theorem draws_tup {prog : Program} {w : World} {A : Around} (hh : A.handled = none) (it t : Addr) (hne : t ≠ it) (items : Array Value) :
    Draws prog w A it [it, t] items.size (fun i v => items[i]? = some v) (fun i h => h.IsTupleIter it t i ∧ h.IsTuple t items) where
  live := fun _ _ st => let ⟨o, ho, _⟩ := st.1; ⟨o, ho⟩
  frame := fun _ _ _ st hk => ⟨let ⟨o, ho, r⟩ := st.1; ⟨o, hk it (by simp) o ho, r⟩, let ⟨o, ho, r⟩ := st.2; ⟨o, hk t (by simp) o ho, r⟩⟩
  item := fun i s Q E hi st hQ => by
    refine nextOf_tup_item st.1 st.2 (x := items[i]) (by simp [hi]) fun h' hit' hs' => ?_
    exact hQ _ h' s.toks (by simp [hi]) ⟨hit', st.2.extBut hs'.extBut hne⟩ hs'
  done := fun s Q E st hE => nextOf_tup_end hh st.1 st.2 (by simp) hE

/-- enumerate over a tuple is made -/
theorem meets_enum_tup (l : Addr) (items : Array Value) (n : Nat) (dct : Option Addr) (sl : Array (Option Value)) :
    Meets (Builtin.«enumerate.__new__» ⟨[.type "enumerate", .ref l], []⟩) (fun _ R s => s.heap.get? l = some { cls := .type "tuple", dict := dct, data := .seq items n, slots := sl } ∧
      R (.ok (.ret (.ref (s.heap.push { cls := .type "tuple_iterator", data := .fields #[.ref l, .int 0 0] }).objs.size)))
        { s with heap := (s.heap.push { cls := .type "tuple_iterator", data := .fields #[.ref l, .int 0 0] }).push { cls := .type "enumerate", data := .fields #[.none, .bool false, .ref s.heap.objs.size, rawInt 0, .none, .none] } }) :=
  .of_wp fun prog w A R s h => by
    obtain ⟨hp, g, d, tk, os⟩ := s; obtain ⟨hl, h⟩ := h
    have hsub := sub_enumerate
    have hL : Heap.IsTuple (Shared.heap ⟨hp, g, d, tk, os⟩) l items := ⟨_, hl, rfl, n, rfl⟩
    wp_walk using AutoSeq1.wpAny_loadPart' hl
    refine wpAny_stack_any fun st => wpAny_pure ?_
    split
    · rename_i c _ _ _ _ _
      cases (c == Value.type "enumerate")
      · wp_walk using AutoSeq1.wpAny_loadPart' hl, wpAny_pyIter_tuple hL
        exact ⟨_, rfl, h⟩
      · wp_walk using AutoSeq1.wpAny_loadPart' hl, wpAny_pyIter_tuple hL
        exact ⟨_, rfl, h⟩
    · wp_walk using AutoSeq1.wpAny_loadPart' hl, wpAny_pyIter_tuple hL
      exact ⟨_, rfl, h⟩
section
variable {prog : Program} {w : World} {A : Around} {E : Value → Shared → Prop} {s : Shared}
theorem call_enum_tup {l : Addr} {items : Array Value} {Q : Value → Shared → Prop} (hL : s.heap.IsTuple l items)
    (h : ∀ h', IsEnum h' (s.heap.objs.size + 1) s.heap.objs.size 0 .none → h'.IsTupleIter s.heap.objs.size l 0 → h'.objs.size = s.heap.objs.size + 2 →
      (∀ b o, s.heap.get? b = some o → h'.get? b = some o) → Q (.ref (s.heap.objs.size + 1)) { s with heap := h' }) :
    wpAny (model prog w) A (call (.type "enumerate") [.ref l]) Q E s := by
  obtain ⟨⟨c, dct, dt, sl⟩, hl, hc, n, hd⟩ := hL
  replace hc : c = .type "tuple" := hc
  replace hd : dt = .seq items n := hd
  subst hc hd
  refine callType_new F.called_enumerate (by decide) (F.typeCall_enumerate_1 _) (F.newCall_enumerate_1 _) (fun obj => F.args_object_init_2 obj _) F.entry_enumerate_new
    (meets_enum_tup l items n dct sl) ⟨hl, ?_⟩
  have hz : (s.heap.push { cls := .type "tuple_iterator", data := .fields #[.ref l, .int 0 0] }).objs.size = s.heap.objs.size + 1 := Heap.size_push ..
  show _ ∧ _
  rw [hz]
  have he : IsEnum ((s.heap.push { cls := .type "tuple_iterator", data := .fields #[.ref l, .int 0 0] }).push
      { cls := .type "enumerate", data := .fields #[.none, .bool false, .ref s.heap.objs.size, rawInt 0, .none, .none] }) (s.heap.objs.size + 1) s.heap.objs.size 0 .none := by
    have := Heap.get?_push_size (s.heap.push { cls := .type "tuple_iterator", data := .fields #[.ref l, .int 0 0] })
      (o := { cls := .type "enumerate", data := .fields #[.none, .bool false, .ref s.heap.objs.size, rawInt 0, .none, .none] }) rfl
    rw [hz] at this; exact this
  refine ⟨⟨_, he, rfl⟩, h _ he ⟨_, Heap.get?_push_of_some _ (Heap.get?_push_size _ rfl), rfl, rfl⟩ (by rw [Heap.size_push, hz]) fun b o x => Heap.get?_push_of_some _ (Heap.get?_push_of_some _ x)⟩
end

/-- what must be apart for a zip over two sources of their own -/
structure ZApart (z TI TO i1 i2 : Addr) (f1 f2 : List Addr) : Prop where
  TIz : TI ≠ z
  TOz : TO ≠ z
  i1z : i1 ≠ z
  i2z : i2 ≠ z
  TITO : TI ≠ TO
  TIi1 : TI ≠ i1
  TIi2 : TI ≠ i2
  TOi1 : TO ≠ i1
  TOi2 : TO ≠ i2
  zf1 : z ∉ f1
  zf2 : z ∉ f2
  TOf1 : TO ∉ f1
  TOf2 : TO ∉ f2
  i1f2 : i1 ∉ f2
  i2f1 : i2 ∉ f1
section
variable {prog : Program} {w : World} {A : Around} {E : Value → Shared → Prop} {s : Shared}
theorem draws_same {A : Around} {it : Addr} {fp : List Addr} {n : Nat} {P : Nat → Value → Prop} {St : Nat → Heap → Prop} (D : Draws prog w A it fp n P St) {b : Addr} {h h' : Heap} (hb : b ∉ fp) (x : Heap.SameBut b h h') {i : Nat} (st : St i h) : St i h' :=
  D.frame _ _ _ st fun c hc o e => x.extBut c o (fun q => hb (q ▸ hc)) e
theorem zipD_item {z TI TO i1 i2 : Addr} {f1 f2 : List Addr} {n1 n2 k : Nat} {P1 P2 : Nat → Value → Prop} {S1 S2 : Nat → Heap → Prop} {a b : Value} {Q : Value → Shared → Prop} (D1 : Draws prog w A i1 f1 n1 P1 S1) (D2 : Draws prog w A i2 f2 n2 P2 S2) (D : ZApart z TI TO i1 i2 f1 f2)
    (hz : IsZip s.heap z TI TO .none) (hTI : IsPair s.heap TI (.ref i1) (.ref i2)) (hTO : IsPair s.heap TO a b) (st1 : S1 k s.heap) (st2 : S2 k s.heap) (h1 : k < n1) (h2 : k < n2)
    (hQ : ∀ x y h' tk, P1 k x → P2 k y → IsZip h' z TI TO (rawInt s.heap.objs.size) → IsPair h' TO x y → S1 (k + 1) h' → S2 (k + 1) h' → IsPair h' s.heap.objs.size x y →
      (∀ c o, c ≠ z → c ≠ TO → c ≠ i1 → c ≠ i2 → s.heap.get? c = some o → h'.get? c = some o) → Q (.ref s.heap.objs.size) { s with heap := h', toks := tk }) :
    wpAny (model prog w) A (Builtin.«zip.__next__» ⟨[.ref z], []⟩) (fun fin s' => ∃ v, fin = .done (.ret v) ∧ Q v s') E s := by
  obtain ⟨hp, g, d, tk₀, os⟩ := s
  show wpAny _ _ (field (.ref z) 2 >>= _) _ _ _
  refine wpAny_bind (wpAny_field hz rfl (x := .bool false) rfl ?_)
  show wpAny _ _ (field (.ref z) 3 >>= _) _ _ _
  refine wpAny_bind (wpAny_field hz rfl (x := .ref TI) rfl ?_)
  refine wpAny_bind (wpAny_seqItems hTI rfl ?_)
  show wpAny _ _ (Builtin.SmallTypes.ownedTupleIsFree (.ref z) >>= _) _ _ _
  refine wpAny_bind ?_
  unfold Builtin.SmallTypes.ownedTupleIsFree
  refine wpAny_bind (wpAny_field hz rfl (x := .none) rfl (wpAny_pure ?_))
  simp only [if_true]
  refine wpAny_bind (wpAny_rule ?_)
  refine wpAny_bind (wpAny_field hz rfl (x := .ref TO) rfl ?_)
  refine wpAny_bind (wpAny_setField_rec hz (by simp) fun g1 hz1 x1 => ?_)
  replace hz1 : IsZip g1 z TI TO .ellipsis := hz1
  replace x1 : Heap.SameBut z hp g1 := x1
  refine wpAny_bind ?_
  simp only [List.zipIdx_cons, List.zipIdx_nil, List.forIn_cons, List.forIn_nil]
  refine wpAny_bind (wpAny_bind (wpAny_onRaise ?_))
  show wpAny _ _ (Builtin.SmallTypes.nextOf (.ref i1) >>= _) _ _ ⟨g1, g, d, tk₀, os⟩
  refine wpAny_bind (D1.item k _ _ _ h1 (draws_same D1 D.zf1 x1 st1) fun x g2 tk2 hx st1' x2 => wpAny_pure ?_)
  replace x2 : Heap.SameBut i1 g1 g2 := x2
  have hTO2 : IsPair g2 TO a b := x2.extBut _ _ D.TOi1 (x1.extBut _ _ D.TOz hTO)
  refine wpAny_bind (wpAny_seqItems hTO2 rfl ?_)
  refine wpAny_bind (wpAny_updateSeq_pair hTO2 fun g3 hTO3 x3 => ?_)
  replace hTO3 : IsPair g3 TO x b := hTO3
  replace x3 : Heap.SameBut TO g2 g3 := x3
  refine wpAny_bind (wpAny_letGo (wpAny_pure ?_))
  refine wpAny_bind (wpAny_bind (wpAny_onRaise ?_))
  show wpAny _ _ (Builtin.SmallTypes.nextOf (.ref i2) >>= _) _ _ ⟨g3, g, d, tk2, os⟩
  refine wpAny_bind (D2.item k _ _ _ h2 (draws_same D2 D.TOf2 x3 (draws_same D2 D.i1f2 x2 (draws_same D2 D.zf2 x1 st2))) fun y g4 tk4 hy st2' x4 => wpAny_pure ?_)
  replace x4 : Heap.SameBut i2 g3 g4 := x4
  have hTO4 : IsPair g4 TO x b := x4.extBut _ _ D.TOi2 hTO3
  refine wpAny_bind (wpAny_seqItems hTO4 rfl ?_)
  refine wpAny_bind (wpAny_updateSeq_pair hTO4 fun g5 hTO5 x5 => ?_)
  replace hTO5 : IsPair g5 TO x y := hTO5
  replace x5 : Heap.SameBut TO g4 g5 := x5
  refine wpAny_bind (wpAny_letGo (wpAny_pure (wpAny_pure ?_)))
  refine wpAny_bind (wpAny_seqItems hTO5 rfl ?_)
  refine wpAny_bind (wpAny_newTuple ?_)
  have hsz : g5.objs.size = hp.objs.size := by rw [x5.1, x4.1, x3.1, x2.1, x1.1]
  have hz5 : IsZip g5 z TI TO .ellipsis := x5.extBut _ _ D.TOz.symm (x4.extBut _ _ D.i2z.symm (x3.extBut _ _ D.TOz.symm (x2.extBut _ _ D.i1z.symm hz1)))
  have hk5 : ∀ c o, c ≠ z → c ≠ TO → c ≠ i1 → c ≠ i2 → hp.get? c = some o → g5.get? c = some o := fun c o c1 c2 c3 c4 e =>
    x5.extBut _ _ c2 (x4.extBut _ _ c4 (x3.extBut _ _ c2 (x2.extBut _ _ c3 (x1.extBut _ _ c1 e))))
  have s1 : S1 (k + 1) g5 := draws_same D1 D.TOf1 x5 (draws_same D1 D.i2f1 x4 (draws_same D1 D.TOf1 x3 st1'))
  have s2 : S2 (k + 1) g5 := draws_same D2 D.TOf2 x5 st2'
  have hzlt : z < g5.objs.size := Heap.lt_size hz5
  show wpAny _ _ (Builtin.SmallTypes.ownedTupleHandOut (.ref z) (.ref g5.objs.size) >>= _) _ _ _
  refine wpAny_bind ?_
  unfold Builtin.SmallTypes.ownedTupleHandOut
  have hz6 : IsZip (g5.push { cls := .type "tuple", data := .seq #[x, y] }) z TI TO .ellipsis := Heap.get?_push_of_some _ hz5
  refine wpAny_bind (wpAny_setField_rec hz6 (by simp) fun g7 hz7 x7 => ?_)
  replace hz7 : IsZip g7 z TI TO (rawInt g5.objs.size) := hz7
  refine wpAny_setField_rec hz7 (by simp) fun g8 hz8 x8 => ?_
  replace hz8 : IsZip g8 z TI TO (rawInt g5.objs.size) := hz8
  have up : ∀ c o, c ≠ z → g5.get? c = some o → g8.get? c = some o := fun c o c1 e => x8.extBut _ _ c1 (x7.extBut _ _ c1 (Heap.get?_push_of_some _ e))
  have hT8 : IsPair g8 g5.objs.size x y := x8.extBut _ _ (Nat.ne_of_gt hzlt) (x7.extBut _ _ (Nat.ne_of_gt hzlt) (Heap.get?_push_size _ rfl))
  rw [hsz] at hz8 hT8
  refine wpAny_pure ⟨_, rfl, ?_⟩
  show Q (.ref g5.objs.size) _
  rw [hsz]
  exact hQ x y g8 tk4 hx hy hz8 (up _ _ D.TOz hTO5) (D1.frame _ _ _ s1 fun c hc o e => up _ o (fun q => D.zf1 (q ▸ hc)) e) (D2.frame _ _ _ s2 fun c hc o e => up _ o (fun q => D.zf2 (q ▸ hc)) e) hT8
    fun c o c1 c2 c3 c4 e => up c o c1 (hk5 c o c1 c2 c3 c4 e)
/-- both sources at their end -/
theorem zipD_end {z TI TO i1 i2 : Addr} {f1 f2 : List Addr} {n1 n2 : Nat} {P1 P2 : Nat → Value → Prop} {S1 S2 : Nat → Heap → Prop} {a b : Value} {Q : Fin → Shared → Prop} (D1 : Draws prog w A i1 f1 n1 P1 S1) (_D2 : Draws prog w A i2 f2 n2 P2 S2) (D : ZApart z TI TO i1 i2 f1 f2)
    (hz : IsZip s.heap z TI TO .none) (hTI : IsPair s.heap TI (.ref i1) (.ref i2)) (_hTO : IsPair s.heap TO a b) (st1 : S1 n1 s.heap)
    (hE : ∀ h' e, (∀ c o, c ≠ z → c ≠ TO → c ≠ i1 → c ≠ i2 → s.heap.get? c = some o → h'.get? c = some o) → (∃ o, h'.get? e = some o ∧ o.cls = .type "StopIteration") → E (.ref e) { s with heap := h' }) :
    wpAny (model prog w) A (Builtin.«zip.__next__» ⟨[.ref z], []⟩) Q E s := by
  obtain ⟨hp, g, d, tk₀, os⟩ := s
  show wpAny _ _ (field (.ref z) 2 >>= _) _ _ _
  refine wpAny_bind (wpAny_field hz rfl (x := .bool false) rfl ?_)
  show wpAny _ _ (field (.ref z) 3 >>= _) _ _ _
  refine wpAny_bind (wpAny_field hz rfl (x := .ref TI) rfl ?_)
  refine wpAny_bind (wpAny_seqItems hTI rfl ?_)
  show wpAny _ _ (Builtin.SmallTypes.ownedTupleIsFree (.ref z) >>= _) _ _ _
  refine wpAny_bind ?_
  unfold Builtin.SmallTypes.ownedTupleIsFree
  refine wpAny_bind (wpAny_field hz rfl (x := .none) rfl (wpAny_pure ?_))
  simp only [if_true]
  refine wpAny_bind (wpAny_rule ?_)
  refine wpAny_bind (wpAny_field hz rfl (x := .ref TO) rfl ?_)
  refine wpAny_bind (wpAny_setField_rec hz (by simp) fun g1 hz1 x1 => ?_)
  replace hz1 : IsZip g1 z TI TO .ellipsis := hz1
  replace x1 : Heap.SameBut z hp g1 := x1
  refine wpAny_bind ?_
  simp only [List.zipIdx_cons, List.zipIdx_nil, List.forIn_cons, List.forIn_nil]
  refine wpAny_bind (wpAny_bind (wpAny_onRaise ?_))
  show wpAny _ _ (Builtin.SmallTypes.nextOf (.ref i1) >>= _) _ _ ⟨g1, g, d, tk₀, os⟩
  refine wpAny_bind (D1.done _ _ _ (draws_same D1 D.zf1 x1 st1) fun g2 e x2 he => ?_)
  obtain ⟨oe, hoe, hce⟩ := he
  have hz2 : IsZip g2 z TI TO .ellipsis := x2 _ _ D.i1z.symm hz1
  have hez : e ≠ z := fun q => by subst q; rw [hz2] at hoe; cases hoe; simp at hce
  refine wpAny_setField_rec hz2 (by simp) fun g3 _ x3 => hE g3 e (fun c o c1 _ c3 _ q => x3.extBut _ _ c1 (x2 _ _ c3 (x1.extBut _ _ c1 q))) ⟨oe, x3.extBut _ _ hez hoe, hce⟩
end

section
variable {prog : Program} {w : World} {A : Around} {E : Value → Shared → Prop} {s : Shared}
theorem zturns {elts : List Expr} {kk : Nat} {pos : Pos} {z TI TO i1 i2 : Addr} {f1 f2 : List Addr} {n : Nat} {P1 P2 : Nat → Value → Prop} {S1 S2 : Nat → Heap → Prop} (D1 : Draws prog w A.in1 i1 f1 n P1 S1) (D2 : Draws prog w A.in1 i2 f2 n P2 S2) (D : ZApart z TI TO i1 i2 f1 f2)
    (q1 : i1 ∈ f1) (q2 : i2 ∈ f2) :
    KTurns prog w A (.Tuple elts kk pos) z (z :: TI :: TO :: (f1 ++ f2)) [z, TO, i1, i2] n
      (fun i v h => ∃ T x y, v = .ref T ∧ P1 i x ∧ P2 i y ∧ h.IsTuple T #[x, y])
      (fun i v h => ∃ T x y, v = .ref T ∧ P1 i x ∧ P2 i y ∧ IsZip h z TI TO (rawInt T) ∧ IsPair h TI (.ref i1) (.ref i2) ∧ (∃ a b, IsPair h TO a b) ∧ S1 (i + 1) h ∧ S2 (i + 1) h ∧ IsPair h T x y ∧ T ≠ z)
      (fun i h => IsZip h z TI TO .none ∧ IsPair h TI (.ref i1) (.ref i2) ∧ (∃ a b, IsPair h TO a b) ∧ S1 i h ∧ S2 i h) where
  sub := fun c hc => by
    simp only [List.mem_cons, List.mem_append, List.not_mem_nil, or_false] at hc ⊢
    rcases hc with rfl | rfl | rfl | rfl
    · exact .inl rfl
    · exact .inr (.inr (.inl rfl))
    · exact .inr (.inr (.inr (.inl q1)))
    · exact .inr (.inr (.inr (.inr q2)))
  frame := fun i h h' st hk => by
    obtain ⟨hz, hTI, ⟨a, b, hTO⟩, s1, s2⟩ := st
    exact ⟨hk z (by simp) _ hz, hk TI (by simp) _ hTI, ⟨a, b, hk TO (by simp) _ hTO⟩, D1.frame _ _ _ s1 fun c hc o e => hk c (by simp [hc]) o e, D2.frame _ _ _ s2 fun c hc o e => hk c (by simp [hc]) o e⟩
  item := fun i s Q E hi st hQ => by
    obtain ⟨hz, hTI, ⟨a, b, hTO⟩, s1, s2⟩ := st
    have hT : s.TypeIs (.ref z) "zip" := ⟨_, hz, rfl⟩
    have hzl : z < s.heap.objs.size := Heap.lt_size hz
    have hTIl : TI < s.heap.objs.size := Heap.lt_size hTI
    unfold pyNext
    refine wpAny_bind (wpAny_attempt (wpAny_callSpecial?_slot (name := Str.ofString "__next__") hT F.slot_zip_next
      (wpAny_call_entry F.slot_zip_next hT F.entry_zip_next
        (zipD_item D1 D2 D hz hTI hTO s1 s2 hi hi fun x y h' tk hx hy a1 a2 a3 a4 a5 a6 => wpAny_pure ?_) (F.args_zip_next_1 _))))
    exact hQ _ h' tk ⟨_, x, y, rfl, hx, hy, a1, a6 _ _ D.TIz D.TITO D.TIi1 D.TIi2 hTI, ⟨_, _, a2⟩, a3, a4, a5, Nat.ne_of_gt hzl⟩ fun c o hc e => a6 c o (fun q => hc (by simp [q])) (fun q => hc (by simp [q])) (fun q => hc (by simp [q])) (fun q => hc (by simp [q])) e
  go := fun i v s Q E hm hQ => by
    obtain ⟨T, x, y, rfl, hx, hy, hz, hTI, ⟨a, b, hTO⟩, s1, s2, hp, hne⟩ := hm
    refine wpAny_letOwnedTupleGo_zip hz fun h' hz' hs' => hQ h' ⟨T, x, y, rfl, hx, hy, ⟨_, hs'.extBut _ _ hne hp, rfl, 0, rfl⟩⟩
      ⟨hz', hs'.extBut _ _ D.TIz hTI, ⟨a, b, hs'.extBut _ _ D.TOz hTO⟩, draws_same D1 D.zf1 hs' s1, draws_same D2 D.zf2 hs' s2⟩ fun c o hc e => hs'.extBut _ _ (fun q => hc (by simp [q])) e
  done := fun s Q E st hQ => by
    obtain ⟨hz, hTI, ⟨a, b, hTO⟩, s1, s2⟩ := st
    have hT : s.TypeIs (.ref z) "zip" := ⟨_, hz, rfl⟩
    unfold pyNext
    refine wpAny_bind (wpAny_attempt (wpAny_callSpecial?_slot (name := Str.ofString "__next__") hT F.slot_zip_next
      (wpAny_call_entry F.slot_zip_next hT F.entry_zip_next (zipD_end D1 D2 D hz hTI hTO s1 fun h' e hk he => ?_) (F.args_zip_next_1 _))))
    obtain ⟨o, ho, hc⟩ := he
    refine wpAny_bind (wpAny_isInstance (T := "StopIteration") (b := true) ⟨o, ho, hc⟩ isSubtype_stop ?_)
    exact wpAny_pure (hQ h' s.toks fun c o hc e => hk c o (fun q => hc (by simp [q])) (fun q => hc (by simp [q])) (fun q => hc (by simp [q])) (fun q => hc (by simp [q])) e)
end
abbrev zH1 (h : Heap) (l1 : Addr) : Heap := h.push { cls := .type "tuple_iterator", data := .fields #[.ref l1, .int 0 0] }
abbrev zH2 (h : Heap) (l1 l2 : Addr) : Heap := (zH1 h l1).push { cls := .type "tuple_iterator", data := .fields #[.ref l2, .int 0 0] }
abbrev zH3 (h : Heap) (l1 l2 : Addr) : Heap := (zH2 h l1 l2).push { cls := .type "tuple", data := .seq #[.ref h.objs.size, .ref (zH1 h l1).objs.size] }
abbrev zH4 (h : Heap) (l1 l2 : Addr) : Heap := (zH3 h l1 l2).push { cls := .type "tuple", data := .seq #[.none, .none] }
abbrev zH5 (h : Heap) (l1 l2 : Addr) : Heap := (zH4 h l1 l2).push { cls := .type "zip", data := .fields #[.none, .bool false, .bool false, .ref (zH2 h l1 l2).objs.size, .ref (zH3 h l1 l2).objs.size] }
theorem meets_zip_tups (l1 l2 : Addr) (xs ys : Array Value) :
    Meets (Builtin.«zip.__new__» ⟨[.type "zip", .ref l1, .ref l2], []⟩) (fun _ R s => s.heap.IsTuple l1 xs ∧ s.heap.IsTuple l2 ys ∧
      R (.ok (.ret (.ref (zH4 s.heap l1 l2).objs.size))) { s with heap := zH5 s.heap l1 l2 }) :=
  .of_wp fun prog w A R s h => by
    obtain ⟨hp, g, d, tk, os⟩ := s; obtain ⟨hl1, hl2, h⟩ := h
    have hsub := sub_zip
    have hL1 : Heap.IsTuple (Shared.heap ⟨hp, g, d, tk, os⟩) l1 xs := hl1
    have hL2 : Heap.IsTuple (Shared.heap ⟨hp.push { cls := .type "tuple_iterator", data := .fields #[.ref l1, .int 0 0] }, g, d, tk, os⟩) l2 ys := Heap.IsTuple.push hl2 _
    wp_walk using wpAny_pyIter_tuple hL1, wpAny_pyIter_tuple hL2
    exact ⟨_, rfl, h⟩
section
variable {prog : Program} {w : World} {A : Around} {E : Value → Shared → Prop} {s : Shared}
theorem call_zip_tups {l1 l2 : Addr} {xs ys : Array Value} {Q : Value → Shared → Prop} (hl1 : s.heap.IsTuple l1 xs) (hl2 : s.heap.IsTuple l2 ys)
    (h : ∀ h', IsZip h' (s.heap.objs.size + 4) (s.heap.objs.size + 2) (s.heap.objs.size + 3) .none → IsPair h' (s.heap.objs.size + 2) (.ref s.heap.objs.size) (.ref (s.heap.objs.size + 1)) →
      IsPair h' (s.heap.objs.size + 3) .none .none → h'.IsTupleIter s.heap.objs.size l1 0 → h'.IsTupleIter (s.heap.objs.size + 1) l2 0 →
      (∀ c o, s.heap.get? c = some o → h'.get? c = some o) → Q (.ref (s.heap.objs.size + 4)) { s with heap := h' }) :
    wpAny (model prog w) A (call (.type "zip") [.ref l1, .ref l2]) Q E s := by
  refine callType_new F.called_zip (by decide) (F.typeCall_zip_2 _ _) (F.newCall_zip_2 _ _) (fun obj => F.args_object_init_3 obj _ _) F.entry_zip_new
    (meets_zip_tups l1 l2 xs ys) ⟨hl1, hl2, ?_⟩
  have z1 : (zH1 s.heap l1).objs.size = s.heap.objs.size + 1 := Heap.size_push ..
  have z2 : (zH2 s.heap l1 l2).objs.size = s.heap.objs.size + 2 := by rw [Heap.size_push, z1]
  have z3 : (zH3 s.heap l1 l2).objs.size = s.heap.objs.size + 3 := by rw [Heap.size_push, z2]
  have z4 : (zH4 s.heap l1 l2).objs.size = s.heap.objs.size + 4 := by rw [Heap.size_push, z3]
  have g5 : (zH5 s.heap l1 l2).get? (zH4 s.heap l1 l2).objs.size = some _ := Heap.get?_push_size _ rfl
  have g4 : (zH5 s.heap l1 l2).get? (zH3 s.heap l1 l2).objs.size = some _ := Heap.get?_push_of_some _ (Heap.get?_push_size _ rfl)
  have g3 : (zH5 s.heap l1 l2).get? (zH2 s.heap l1 l2).objs.size = some _ := Heap.get?_push_of_some _ (Heap.get?_push_of_some _ (Heap.get?_push_size _ rfl))
  have g2 : (zH5 s.heap l1 l2).get? (zH1 s.heap l1).objs.size = some _ := Heap.get?_push_of_some _ (Heap.get?_push_of_some _ (Heap.get?_push_of_some _ (Heap.get?_push_size _ rfl)))
  have g1 : (zH5 s.heap l1 l2).get? s.heap.objs.size = some _ := Heap.get?_push_of_some _ (Heap.get?_push_of_some _ (Heap.get?_push_of_some _ (Heap.get?_push_of_some _ (Heap.get?_push_size _ rfl))))
  show _ ∧ _
  rw [z2, z3, z4] at g5
  rw [z1, z2] at g3
  rw [z3] at g4
  rw [z1] at g2
  rw [z4]
  exact ⟨⟨_, g5, rfl⟩, h _ g5 g3 g4 ⟨_, g1, rfl, rfl⟩ ⟨_, g2, rfl, rfl⟩ fun c o x =>
    Heap.get?_push_of_some _ (Heap.get?_push_of_some _ (Heap.get?_push_of_some _ (Heap.get?_push_of_some _ (Heap.get?_push_of_some _ x))))⟩
end
end Mine
open PySem PySem.Spec PySem.Calls PyProof.Rows PySem.W
set_option Elab.async false
set_option maxRecDepth 100000
set_option maxHeartbeats 8000000
namespace Mine
section
variable {prog : Program} {w : World} {A : Around} {E : Value → Shared → Prop} {s : Shared} {h₀ : Heap} {L : Addr} {m : Str → Option Value} {env : Env}
abbrev testsOf (ifs : List Expr) (env : Env) : Sem Bool := forIn ifs true fun c r => if r = true then do let ok ← isTrue c env (eval c env); pure (ForInStep.yield ok) else pure (ForInStep.yield r)
theorem cp_loop {elt target iter : Expr} {ifs : List Expr} {scope : Scope} {pos : Pos} {it acc : Value} {env : Env} {R : Result → Shared → Prop} (I : Nat → Shared → Prop)
    (turn : ∀ n s, I n s → ∀ E', wpAny (model prog w) A (pyNext it) (fun r s₁ => match r with
      | none => R (.ok .next) s₁
      | some v => wpAny (model prog w) A (letOwnedTupleGo target it v) (fun _ s₀ => wpAny (model prog w) A (assign target env v) (fun _ s₂ =>
          wpAny (model prog w) A (testsOf ifs env) (fun ok s₃ => if ok = true then wpAny (model prog w) A (eval elt env) (fun x s₄ =>
            wpAny (model prog w) A (call (.builtin "list.append") [acc, x]) (fun _ s₅ => ∃ m, m < n ∧ I m s₅) E' s₄) E' s₃ else ∃ m, m < n ∧ I m s₃) E' s₂) E' s₀) E' s₁) E' s)
    (n : Nat) (h : I n s) : codeAny (model prog w) A (.compLoop (.ListComp elt [⟨target, iter, ifs, 0⟩] scope pos) 0 it acc env) R s := by
  refine codeAny_loop rfl I (fun n s hI => ?_) n h
  show wpAny _ A ((compTurn (.ListComp elt [⟨target, iter, ifs, 0⟩] scope pos) 0 it acc env).onRaise (fun x => do noteFrame x env; theTreesLotGoes x)) _ _ s
  refine wpAny_noted ?_
  rw [compTurn_list]
  refine wpAny_bind (wpAny_standAt (wpAny_bind (wpAny_mono (turn n s hI _) (fun r s₁ h₁ => ?_) fun _ _ h' => h')))
  cases r with
  | none => exact wpAny_pure h₁
  | some v =>
    refine wpAny_bind (wpAny_mono h₁ (fun _ s₀ h₀' => ?_) fun _ _ h' => h')
    refine wpAny_bind (wpAny_mono h₀' (fun _ s₂ h₂ => ?_) fun _ _ h' => h')
    refine wpAny_bind (wpAny_mono h₂ (fun ok s₃ h₃ => ?_) fun _ _ h' => h')
    cases ok with
    | false => exact wpAny_pure ⟨rfl, h₃⟩
    | true =>
      exact wpAny_bind (wpAny_bind (wpAny_mono h₃ (fun x s₄ h₄ => wpAny_bind (wpAny_mono h₄ (fun _ s₅ h₅ => wpAny_pure (wpAny_pure ⟨rfl, h₅⟩)) fun _ _ h' => h')) fun _ _ h' => h'))

inductive PairEnd (h₀ : Heap) (L : Addr) (m : Str → Option Value) (wr : List Addr) (s₁ : Shared) (own : List (Addr × Obj)) (C : Addr) (oC : Obj) (D : Addr) (oD : Obj) (rest : Value → List (Addr × Obj) → Prop) (y : Value) (s₂ : Shared) : Prop
  | mk (h' : _) (tk : _) (nw' : _) (h1 : s₂ = { s₁ with heap := h', toks := tk }) (h2 : Fr h₀ L h' m) (h3 : News h₀ L h' (own ++ ((C, oC) :: (D, oD) :: nw'))) (h4 : ∀ p ∈ nw', p.1 ∉ wr ∧ p.1 ≠ C ∧ p.1 ≠ D) (h5 : rest y nw') : PairEnd h₀ L m wr s₁ own C oC D oD rest y s₂
/-- a list comprehension's loop, between its turns -/
inductive CpI (s₂ : Shared) (h₀ : Heap) (L C D : Addr) (m : Str → Option Value) (wr : List Addr) (St : Nat → Heap → Prop) (J : Nat → List Value → List (Addr × Obj) → Prop) (n k : Nat) (s' : Shared) : Prop
  | mk (h' : Heap) (tk i : Nat) (ys : List Value) (m' : Str → Option Value) (nw : List (Addr × Obj)) (h1 : s' = { s₂ with heap := h', toks := tk }) (h2 : i ≤ n) (h3 : k = n + 1 - i) (h4 : St i h') (h5 : Fr h₀ L h' m) (h6 : h'.Ns C m') (h7 : News h₀ L h' ((D, LCg.lst ys) :: nw))
      (h8 : ∀ p ∈ nw, p.1 ∉ wr ∧ p.1 ≠ C ∧ p.1 ≠ D) (h9 : J i ys nw) : CpI s₂ h₀ L C D m wr St J n k s'
theorem cp_core {elt target iter : Expr} {ifs : List Expr} {scope : Scope} {cl : List (Str × Addr)} {pos : Pos} {s₂ : Shared} {I : Addr} {fp wr : List Addr} {n : Nat} {P Md : Nat → Value → Heap → Prop} {St : Nat → Heap → Prop} {news : List (Addr × Obj)}
    {MM : Nat → (Str → Option Value) → Prop} {pz : Nat → Bool} {RR : Value → Addr → Result → Shared → Prop}
    (W : KTurns prog w A target I fp wr n P Md St) (hsz : n ≤ sizeLine)
    (asg : ∀ i v C g tk m' (Q : Unit → Shared → Prop) (E' : Value → Shared → Prop), P i v g → g.Ns C m' → (∀ g₃ tk₃ m₃, g₃.Ns C m₃ → MM i m₃ → (∀ c o, c ≠ C → g.get? c = some o → g₃.get? c = some o) → Q () { s₂ with heap := g₃, toks := tk₃ }) →
      wpAny (model prog w) A (assign target (compEnvC scope cl C env) v) Q E' { s₂ with heap := g, toks := tk })
    (hself : ∀ (s : Shared) (Q : Value → Shared → Prop) (E : Value → Shared → Prop), St 0 s.heap → Q (.ref I) s → wpAny (model prog w) A (pyIter (.ref I)) Q E s)
    (hwr : ∀ c ∈ wr, h₀.get? c = none) (hfp : ∀ c ∈ fp, c < s₂.heap.objs.size) (hL : L ∉ fp) (hIo : ∀ i h, St i h → ∀ c ∈ wr, ∃ o, h.get? c = some o)
    (hcell : ∀ y ∈ scope.names, y.2 ≠ .cell) (hkind : scope.kind = .function)
    (hst : St 0 s₂.heap) (F : Fr h₀ L s₂.heap m) (N : News h₀ L s₂.heap news) (off : ∀ p ∈ news, p.1 ∉ wr) (J : Nat → List Value → List (Addr × Obj) → Prop) (h0 : J 0 [] news) (hlen : ∀ i ys nw, J i ys nw → ys.length ≤ i)
    (test : ∀ i C h tk m₂ (E' : Value → Shared → Prop), i < n → MM i m₂ → h.Ns C m₂ → wpAny (model prog w) A (testsOf ifs (compEnvC scope cl C env)) (fun ok s₃ => ok = pz i ∧ ∃ tk', s₃ = { s₂ with heap := h, toks := tk' }) E' { s₂ with heap := h, toks := tk })
    (skip : ∀ i ys nw, i < n → J i ys nw → pz i = false → J (i + 1) ys nw)
    (turn : ∀ i ys nw C oC D m₂ h tk own (E' : Value → Shared → Prop), i < n → J i ys nw → MM i m₂ → pz i = true → LCg.NsObj oC m₂ → Fr h₀ L h m → News h₀ L h (own ++ ((C, oC) :: (D, LCg.lst ys) :: nw)) →
      (∀ c ∈ wr, ∃ o, (c, o) ∈ own) → (∀ p ∈ nw, p.1 ∉ wr ∧ p.1 ≠ C ∧ p.1 ≠ D) → (@Ne Nat C D) →
      wpAny (model prog w) A (eval elt (compEnvC scope cl C env)) (PairEnd h₀ L m wr { s₂ with heap := h, toks := tk } own C oC D (LCg.lst ys) (fun z nw' => J (i + 1) (ys ++ [z]) nw')) E' { s₂ with heap := h, toks := tk })
    (hRR : ∀ D C h tk m' ys nw, Fr h₀ L h m → News h₀ L h ((D, LCg.lst ys) :: nw) → (∀ p ∈ nw, p.1 ≠ D) → h.Ns C m' → h₀.get? C = none → C ≠ L → C ≠ D → (∀ p ∈ nw, p.1 ≠ C) → J n ys nw → RR (.ref D) C (.ok .next) { s₂ with heap := h, toks := tk }) :
    wpAny (model prog w) A (newList []) (fun acc s₃ => wpAny (model prog w) A (newFunctionEnv scope env.globals cl [] env.qual none .none (some env)) (fun cenv s₄ =>
      codeAny (model prog w) A (.compStart (.ListComp elt [⟨target, iter, ifs, 0⟩] scope pos) 0 (.ref I) acc { cenv with scope := relabel scope env }) (RR acc cenv.locals) s₄) E s₃) E s₂ := by
  refine wpAny_newObj_type (wpAny_newFunctionEnv hcell (by intro y hy; simp at hy) (fun h₁ hns₁ hsb₁ => ?_) hkind)
  dsimp only at hns₁ hsb₁ ⊢
  generalize hH2 : s₂.heap.push { cls := .type "list", dict := none, data := .seq ([] : List Value).toArray } = H2 at hns₁ hsb₁ ⊢
  have hC : H2.objs.size = s₂.heap.objs.size + 1 := by rw [← hH2, Heap.size_push]
  have hDC : s₂.heap.objs.size ≠ H2.objs.size := by rw [hC]; exact Nat.ne_of_lt (Nat.lt_succ_self _)
  have below : ∀ c, c < s₂.heap.objs.size → c ≠ H2.objs.size ∧ c ≠ s₂.heap.objs.size := fun c hc => ⟨by rw [hC]; exact Nat.ne_of_lt (Nat.lt_succ_of_lt hc), Nat.ne_of_lt hc⟩
  have hDf : s₂.heap.objs.size ∉ fp := fun hm => Nat.lt_irrefl _ (hfp _ hm)
  have hCf : H2.objs.size ∉ fp := fun hm => by have := hfp _ hm; rw [hC] at this; exact Nat.lt_irrefl _ (Nat.lt_of_succ_lt this)
  have hDw : s₂.heap.objs.size ∉ wr := fun hm => hDf (W.sub _ hm)
  have hCw : H2.objs.size ∉ wr := fun hm => hCf (W.sub _ hm)
  have hLw : L ∉ wr := fun hm => hL (W.sub _ hm)
  have old : ∀ c o, s₂.heap.get? c = some o → h₁.get? c = some o := fun c o e => hsb₁.extBut c o (below c (Heap.lt_size e)).1 (Heap.get?_push_of_some _ (hH2 ▸ Heap.get?_push_of_some _ e))
  have hacc : h₁.get? s₂.heap.objs.size = some (LCg.lst []) := hsb₁.extBut _ _ hDC (Heap.get?_push_of_some _ (hH2 ▸ Heap.get?_push_size _ rfl))
  have hst₁ : St 0 h₁ := W.frame _ _ _ hst fun c _ o e => old c o e
  have fresh : ∀ c, s₂.heap.objs.size ≤ c → s₂.heap.get? c = none := fun c ha => by
    cases e : s₂.heap.get? c with
    | none => rfl
    | some o' => exact absurd (Heap.lt_size e) (Nat.not_lt.mpr ha)
  have fresh₀ : ∀ c, s₂.heap.objs.size ≤ c → h₀.get? c = none := fun c ha => by
    cases e : h₀.get? c with
    | none => rfl
    | some o' => have := F.keep c o' e; rw [fresh c ha] at this; cases this
  have hD₀ : h₀.get? s₂.heap.objs.size = none := fresh₀ _ (Nat.le_refl _)
  have hC₀ : h₀.get? H2.objs.size = none := fresh₀ _ (by rw [hC]; exact Nat.le_succ _)
  have hLlt : L < s₂.heap.objs.size := F.ns.lt
  have hDL : s₂.heap.objs.size ≠ L := Ne.symm (below L hLlt).2
  have hCL : H2.objs.size ≠ L := Ne.symm (below L hLlt).1
  have off₀ : ∀ p ∈ news, p.1 ∉ wr ∧ p.1 ≠ H2.objs.size ∧ p.1 ≠ s₂.heap.objs.size := fun p hp => ⟨off p hp, (below _ (Heap.lt_size (N p hp).1)).1, (below _ (Heap.lt_size (N p hp).1)).2⟩
  have old₀ : ∀ c o, h₀.get? c = some o → c ∉ wr := fun c o e hc => by rw [hwr c hc] at e; cases e
  have loop : ∀ s₃ : Shared, s₃ = { s₂ with heap := h₁, toks := s₂.toks + ([] : List (Str × Value)).length } →
      codeAny (model prog w) A (.compLoop (.ListComp elt [⟨target, iter, ifs, 0⟩] scope pos) 0 (.ref I) (.ref s₂.heap.objs.size) (compEnvC scope cl H2.objs.size env))
        (RR (.ref s₂.heap.objs.size) H2.objs.size) s₃ := by
    rintro s₃ rfl
    refine cp_loop (CpI s₂ h₀ L H2.objs.size s₂.heap.objs.size m wr St J n) ?_ (n + 1) ⟨h₁, _, 0, [], _, news, rfl, Nat.zero_le _, rfl, hst₁, F.keeps old, hns₁, fun p hp => ?_, off₀, h0⟩
    · rintro k s' ⟨h', tk, i, ys, m', nw, rfl, hi, rfl, hst', F', hn', N', off', hJ⟩ E'
      have up : ∀ (g : Heap), (∀ c o, c ∉ wr → h'.get? c = some o → g.get? c = some o) → Fr h₀ L g m ∧ News h₀ L g ((s₂.heap.objs.size, LCg.lst ys) :: nw) ∧ g.Ns H2.objs.size m' := fun g hk =>
        ⟨⟨F'.ns.at' fun o e => hk L o hLw e, fun c o e => hk c o (old₀ c o e) (F'.keep c o e), F'.above⟩, fun p hp => ⟨hk _ _ (by
          rcases List.mem_cons.mp hp with rfl | hp
          · exact hDw
          · exact (off' p hp).1) (N' p hp).1, (N' p hp).2⟩, hn'.at' fun o e => hk _ o hCw e⟩
      by_cases hlt : i < n
      · refine W.item i _ _ _ hlt hst' fun v g₁ tk₁ hMd hk₁ => ?_
        refine W.go i v _ _ _ hMd fun g₂ hPv st₂ hk₂ => ?_
        have up2 := up g₂ fun c o hc e => hk₂ c o hc (hk₁ c o hc e)
        have F₂ := up2.1
        have N₂ := up2.2.1
        refine asg i v _ g₂ _ m' _ E' hPv up2.2.2 fun g₃ tk₃ m₃ n₃ hM hk₃ => ?_
        clear up2
        have st₃ : St (i + 1) g₃ := W.frame _ _ _ st₂ fun c hc o e => hk₃ c o (fun q => hCf (q ▸ hc)) e
        have F₃ : Fr h₀ L g₃ m := ⟨F₂.ns.at' fun o e => hk₃ L o (Ne.symm hCL) e, fun c o e => hk₃ c o (fun q => by rw [q, hC₀] at e; cases e) (F₂.keep c o e), F₂.above⟩
        refine wpAny_mono (test i H2.objs.size g₃ tk₃ _ E' hlt hM n₃) (fun ok s₃ hok => ?_) fun _ _ e => e
        obtain ⟨rfl, tk₄, rfl⟩ := hok
        have N₃ : News h₀ L g₃ ((s₂.heap.objs.size, LCg.lst ys) :: nw) := fun p hp => ⟨hk₃ _ _ (by
          rcases List.mem_cons.mp hp with rfl | hp
          · exact hDC
          · exact (off' p hp).2.1) (N₂ p hp).1, (N₂ p hp).2⟩
        cases hz : pz i with
        | false =>
          simp only [Bool.false_eq_true, if_false]
          exact ⟨n + 1 - (i + 1), by omega, g₃, tk₄, i + 1, ys, _, nw, rfl, hlt, rfl, st₃, F₃, n₃, N₃, off', skip i ys nw hlt hJ hz⟩
        | true =>
          simp only [if_true]
          obtain ⟨oC, heC, hoC⟩ := LCg.ns_obj n₃
          have Nown : News h₀ L g₃ (PyProof.Rows.ownOf h₀ fp g₃) := news_ownOf hL
          have N₄ : News h₀ L g₃ (PyProof.Rows.ownOf h₀ fp g₃ ++ ((H2.objs.size, oC) :: (s₂.heap.objs.size, LCg.lst ys) :: nw)) := fun p hp => by
            rcases List.mem_append.mp hp with hp | hp
            · exact Nown p hp
            · rcases List.mem_cons.mp hp with rfl | hp
              · exact ⟨heC, hCL, hC₀⟩
              · exact N₃ p hp
          refine wpAny_mono (turn i ys nw H2.objs.size oC s₂.heap.objs.size _ g₃ tk₄ _ E' hlt hJ hM hz hoC F₃ N₄ (fun c hc => by
            obtain ⟨o, e⟩ := hIo _ _ st₃ c hc
            exact ⟨o, mem_ownOf (W.sub c hc) (hwr c hc) e⟩) off' (Ne.symm hDC)) (fun z s₄ h₄ => ?_) fun _ _ e => e
          obtain ⟨g₄, tk₅, nw₄, rfl, F₄, N₅, off₄, hJ₄⟩ := h₄
          have zC := (N₅ (H2.objs.size, oC) (List.mem_append_right _ List.mem_cons_self)).1
          have zD := (N₅ (s₂.heap.objs.size, LCg.lst ys) (List.mem_append_right _ (List.mem_cons_of_mem _ List.mem_cons_self))).1
          have st₄ : St (i + 1) g₄ := W.frame _ _ _ st₃ fun c hc o e => by
            cases hn : h₀.get? c with
            | some o₁ =>
              have : o₁ = o := by have q := F₃.keep c o₁ hn; rw [e] at q; exact (Option.some.inj q).symm
              exact this ▸ F₄.keep c o₁ hn
            | none => exact (N₅ _ (List.mem_append_left _ (mem_ownOf hc hn e))).1
          refine append_at (hsz := by show ys.toArray.size ≤ sizeLine; rw [List.size_toArray]; exact Nat.le_trans (hlen i ys nw hJ) (Nat.le_trans hi hsz)) zD fun g₅ hs₅ hD₅ => ?_
          refine ⟨n + 1 - (i + 1), by omega, g₅, tk₅, i + 1, ys ++ [z], _, nw₄, rfl, hlt, rfl, W.frame _ _ _ st₄ fun c hc o e => hs₅.extBut c o (fun q => hDf (q ▸ hc)) e, F₄.change hs₅ hDL hD₀,
            (hoC.ns zC).sameBut hs₅ (Ne.symm hDC), fun p hp => ?_, off₄, hJ₄⟩
          rcases List.mem_cons.mp hp with rfl | hp
          · exact ⟨hD₅.trans (congrArg some (LCg.lst_snoc ys z)), hDL, hD₀⟩
          · have q := N₅ p (List.mem_append_right _ (List.mem_cons_of_mem _ (List.mem_cons_of_mem _ hp)))
            exact ⟨hs₅.extBut _ _ (off₄ p hp).2.2 q.1, q.2⟩
      · obtain rfl : i = n := Nat.le_antisymm hi (Nat.not_lt.mp hlt)
        refine W.done _ _ _ hst' fun g₂ tk₂ hk₂ => ?_
        have up2 := up g₂ hk₂
        exact hRR _ _ g₂ tk₂ _ ys nw up2.1 up2.2.1 (fun p hp => (off' p hp).2.2) up2.2.2 hC₀ hCL (Ne.symm hDC) (fun p hp => (off' p hp).2.1) hJ
    · rcases List.mem_cons.mp hp with rfl | hp
      · exact ⟨hacc, hDL, hD₀⟩
      · exact ⟨old _ _ (N p hp).1, (N p hp).2⟩
  exact codeAny_compStart_list (loop _ rfl) (hself _ _ _ hst₁ (loop _ rfl))
theorem cp_block {elt iter : Expr} {ifs : List Expr} {a b : Str} {pa pb tp : Pos} {kk : Nat} {scope : Scope} {cl : List (Str × Addr)} {pos : Pos} {s₂ : Shared} {I : Addr} {fp wr : List Addr} {n : Nat} {P Md : Nat → Value → Heap → Prop} {St : Nat → Heap → Prop} {news : List (Addr × Obj)}
    {PP : Nat → Value → Value → Prop} {pz : Nat → Bool} {RR : Value → Addr → Result → Shared → Prop}
    (W : KTurns prog w A (.Tuple [.Name a pa, .Name b pb] kk tp) I fp wr n P Md St) (hsz : n ≤ sizeLine) (hP : ∀ i v h, P i v h → ∃ T x y, v = .ref T ∧ PP i x y ∧ h.IsTuple T #[x, y])
    (hself : ∀ (s : Shared) (Q : Value → Shared → Prop) (E : Value → Shared → Prop), St 0 s.heap → Q (.ref I) s → wpAny (model prog w) A (pyIter (.ref I)) Q E s)
    (hwr : ∀ c ∈ wr, h₀.get? c = none) (hfp : ∀ c ∈ fp, c < s₂.heap.objs.size) (hL : L ∉ fp) (hIo : ∀ i h, St i h → ∀ c ∈ wr, ∃ o, h.get? c = some o)
    (hcell : ∀ y ∈ scope.names, y.2 ≠ .cell) (hkind : scope.kind = .function) (hxa : scope.names.lookup a = some .local) (hxb : scope.names.lookup b = some .local) (hab : a ≠ b) (hh : A.handled = none)
    (hst : St 0 s₂.heap) (F : Fr h₀ L s₂.heap m) (N : News h₀ L s₂.heap news) (off : ∀ p ∈ news, p.1 ∉ wr) (J : Nat → List Value → List (Addr × Obj) → Prop) (h0 : J 0 [] news) (hlen : ∀ i ys nw, J i ys nw → ys.length ≤ i)
    (test : ∀ i x y C h tk m₂ (E' : Value → Shared → Prop), i < n → PP i x y → h.Ns C m₂ → m₂ a = some x → m₂ b = some y → wpAny (model prog w) A (testsOf ifs (compEnvC scope cl C env)) (fun ok s₃ => ok = pz i ∧ ∃ tk', s₃ = { s₂ with heap := h, toks := tk' }) E' { s₂ with heap := h, toks := tk })
    (skip : ∀ i ys nw, i < n → J i ys nw → pz i = false → J (i + 1) ys nw)
    (turn : ∀ i ys nw x y C oC D m₂ h tk own (E' : Value → Shared → Prop), i < n → J i ys nw → PP i x y → pz i = true → LCg.NsObj oC m₂ → m₂ a = some x → m₂ b = some y → Fr h₀ L h m → News h₀ L h (own ++ ((C, oC) :: (D, LCg.lst ys) :: nw)) →
      (∀ c ∈ wr, ∃ o, (c, o) ∈ own) → (∀ p ∈ nw, p.1 ∉ wr ∧ p.1 ≠ C ∧ p.1 ≠ D) → (@Ne Nat C D) →
      wpAny (model prog w) A (eval elt (compEnvC scope cl C env)) (PairEnd h₀ L m wr { s₂ with heap := h, toks := tk } own C oC D (LCg.lst ys) (fun z nw' => J (i + 1) (ys ++ [z]) nw')) E' { s₂ with heap := h, toks := tk })
    (hRR : ∀ D C h tk m' ys nw, Fr h₀ L h m → News h₀ L h ((D, LCg.lst ys) :: nw) → (∀ p ∈ nw, p.1 ≠ D) → h.Ns C m' → h₀.get? C = none → C ≠ L → C ≠ D → (∀ p ∈ nw, p.1 ≠ C) → J n ys nw → RR (.ref D) C (.ok .next) { s₂ with heap := h, toks := tk }) :
    wpAny (model prog w) A (newList []) (fun acc s₃ => wpAny (model prog w) A (newFunctionEnv scope env.globals cl [] env.qual none .none (some env)) (fun cenv s₄ =>
      codeAny (model prog w) A (.compStart (.ListComp elt [⟨.Tuple [.Name a pa, .Name b pb] kk tp, iter, ifs, 0⟩] scope pos) 0 (.ref I) acc { cenv with scope := relabel scope env }) (RR acc cenv.locals) s₄) E s₃) E s₂ := by
  exact cp_core (MM := fun i m => Yb3 (fun (x y : Value) => PP i x y) (fun x _ => m a = some x) (fun _ y => m b = some y)) W hsz (fun i v C g tk m' Q E' hp hn k => by
    obtain ⟨T, x, y, rfl, hPP, hT⟩ := hP i v g hp
    exact kcp_assign hh hT (lookup_relabel_local hxa) (lookup_relabel_local hxb) (by simp [compEnvC, relabel, hkind]) hn fun g₃ tk₃ n₃ hk₃ => k g₃ tk₃ _ n₃ ⟨x, y, hPP, by simp [hab], by simp⟩ hk₃) hself hwr hfp hL hIo hcell hkind hst F N off J h0 hlen
    (fun i C h tk m₂ E' hi ⟨x, y, hPP, ex, ey⟩ hn => test i x y C h tk m₂ E' hi hPP hn ex ey) skip (fun i ys nw C oC D m₂ h tk own E' hi hJ ⟨x, y, hPP, ex, ey⟩ => fun hz hC => turn i ys nw x y C oC D m₂ h tk own E' hi hJ hPP hz hC ex ey) hRR
end
end Mine
open PySem PySem.Spec PySem.Calls PyProof.Rows PySem.W
set_option Elab.async false
set_option maxRecDepth 100000
set_option maxHeartbeats 8000000
namespace Mine
section
variable {prog : Program} {w : World} {A : Around} {E : Value → Shared → Prop} {s : Shared} {h₀ : Heap} {L : Addr} {m : Str → Option Value} {env : Env}
abbrev compIt (M : Model) (A : Around) (E : Value → Shared → Prop) (e : Expr) (scope : Scope) (cl : List (Str × Addr)) (env : Env) (Q : Value → Shared → Prop) (it : Value) (s₂ : Shared) : Prop :=
  wpAny M A (newList []) (fun acc s₃ => wpAny M A (newFunctionEnv scope env.globals cl [] env.qual none .none (some env)) (fun cenv s₄ =>
    codeAny M A (.compStart e 0 it acc { cenv with scope := relabel scope env }) (compPost M A E none Q acc cenv.locals) s₄) E s₃) E s₂
theorem listComp_it {elt target iter : Expr} {ifs : List Expr} {scope : Scope} {cl : List (Str × Addr)} {pos : Pos} {Q : Value → Shared → Prop}
    (hclos : closureFor scope env = pure cl) (hkind : scope.kind = .function) (hnames : ∀ y ∈ scope.names, y.2 = .local → scope.names.lookup y.1 = some .local)
    (h : wpAny (model prog w) A (eval iter env) (fun xv s₁ => wpAny (model prog w) A (pyIter xv) (fun it s₂ => compIt (model prog w) A E (.ListComp elt [⟨target, iter, ifs, 0⟩] scope pos) scope cl env Q it s₂) E s₁) E s)
    (hs : ∀ x, foldedSetIterable iter env x = pure x := by intro _; rfl) :
    wpAny (model prog w) A (eval (.ListComp elt [⟨target, iter, ifs, 0⟩] scope pos) env) Q E s := by
  rw [eval_ListComp]
  exact wpAny_comprehension_free (use := none) rfl hs hclos hkind hnames h
theorem tup_of_news {l : Addr} {o : Obj} {xs : Array Value} {k : Nat} {news : List (Addr × Obj)} {h : Heap} (N : News h₀ L h news) (hm : (l, o) ∈ news) (hc : o.cls = .type "tuple") (hd : o.data = .seq xs k) : h.IsTuple l xs := ⟨o, (N _ hm).1, hc, k, hd⟩
theorem zip_src {elt iter : Expr} {a b : Str} {pa pb tp : Pos} {kk : Nat} {scope : Scope} {cl : List (Str × Addr)} {pos : Pos} {Q : Value → Shared → Prop} {l1 l2 : Addr} {o1 o2 : Obj} {xs ys : Array Value} {k1 k2 n : Nat} {news : List (Addr × Obj)}
    (hh : A.handled = none) (F : Fr h₀ L s.heap m) (N : News h₀ L s.heap news) (m1 : (l1, o1) ∈ news) (c1 : o1.cls = .type "tuple") (d1 : o1.data = .seq xs k1) (m2 : (l2, o2) ∈ news) (c2 : o2.cls = .type "tuple") (d2 : o2.data = .seq ys k2)
    (z1 : xs.size = n) (z2 : ys.size = n) (hsz : n ≤ sizeLine) (hcell : ∀ y ∈ scope.names, y.2 ≠ .cell) (hkind : scope.kind = .function) (hxa : scope.names.lookup a = some .local) (hxb : scope.names.lookup b = some .local) (hab : a ≠ b)
    (J : Nat → List Value → List (Addr × Obj) → Prop) (h0 : J 0 [] news) (hlen : ∀ i ys nw, J i ys nw → ys.length ≤ i)
    (turn : ∀ i zs nw x y C oC D m₂ h tk own wr (E' : Value → Shared → Prop), i < n → J i zs nw → xs[i]? = some x → ys[i]? = some y → LCg.NsObj oC m₂ → m₂ a = some x → m₂ b = some y → Fr h₀ L h m → News h₀ L h (own ++ ((C, oC) :: (D, LCg.lst zs) :: nw)) →
      (∀ c ∈ wr, ∃ o, (c, o) ∈ own) → (∀ p ∈ nw, p.1 ∉ wr ∧ p.1 ≠ C ∧ p.1 ≠ D) → (@Ne Nat C D) →
      wpAny (model prog w) A (eval elt (compEnvC scope cl C env)) (PairEnd h₀ L m wr { s with heap := h, toks := tk } own C oC D (LCg.lst zs) (fun z nw' => J (i + 1) (zs ++ [z]) nw')) E' { s with heap := h, toks := tk })
    (fin : ∀ D h tk zs nw, Fr h₀ L h m → News h₀ L h ((D, LCg.lst zs) :: nw) → (∀ p ∈ nw, p.1 ≠ D) → J n zs nw → Q (.ref D) { s with heap := h, toks := tk }) :
    wpAny (model prog w) A (call (.type "zip") [.ref l1, .ref l2]) (fun xv s₁ => wpAny (model prog w) A (pyIter xv) (fun it s₂ =>
      compIt (model prog w) A E (.ListComp elt [⟨.Tuple [.Name a pa, .Name b pb] kk tp, iter, [], 0⟩] scope pos) scope cl env Q it s₂) E s₁) E s := by
  have t1 := tup_of_news N m1 c1 d1
  have t2 := tup_of_news N m2 c2 d2
  have lt1 : l1 < s.heap.objs.size := Heap.lt_size (N _ m1).1
  have lt2 : l2 < s.heap.objs.size := Heap.lt_size (N _ m2).1
  have hLs : L < s.heap.objs.size := F.ns.lt
  have ne (q : Nat) {c : Addr} (hc : c < s.heap.objs.size) : c ≠ s.heap.objs.size + q := Nat.ne_of_lt (Nat.lt_of_lt_of_le hc (Nat.le_add_right _ _))
  have fresh : ∀ c, s.heap.objs.size ≤ c → h₀.get? c = none := fun c hc => by
    cases e : h₀.get? c with
    | none => rfl
    | some o => exact absurd (Heap.lt_size (F.keep _ _ e)) (Nat.not_lt.mpr hc)
  refine call_zip_tups t1 t2 fun h' hz hTI hTO hi1 hi2 hk => ?_
  refine wpAny_pyIter_zip hz ?_
  have ap : ZApart (s.heap.objs.size + 4) (s.heap.objs.size + 2) (s.heap.objs.size + 3) s.heap.objs.size (s.heap.objs.size + 1) [s.heap.objs.size, l1] [s.heap.objs.size + 1, l2] := by
    have nm {x c1 c2 : Addr} (h1 : x ≠ c1) (h2 : x ≠ c2) : x ∉ [c1, c2] := fun hc => by
      rcases List.mem_cons.mp hc with e | hc
      · exact h1 e
      · exact h2 (List.mem_singleton.mp hc)
    exact ⟨neN (by omega), neN (by omega), neN (by omega), neN (by omega), neN (by omega), neN (by omega), neN (by omega), neN (by omega), neN (by omega),
      nm (neN (by omega)) (ne 4 lt1).symm, nm (neN (by omega)) (ne 4 lt2).symm, nm (neN (by omega)) (ne 3 lt1).symm, nm (neN (by omega)) (ne 3 lt2).symm, nm (neN (by omega)) (ne 0 lt2).symm, nm (neN (by omega)) (ne 1 lt1).symm⟩
  have D1 := draws_tup (prog := prog) (w := w) (A := A.in1) hh s.heap.objs.size l1 (ne 0 lt1) xs
  have D2 := draws_tup (prog := prog) (w := w) (A := A.in1) hh (s.heap.objs.size + 1) l2 (ne 1 lt2) ys
  rw [z1] at D1
  rw [z2] at D2
  have W := zturns (elts := [.Name a pa, .Name b pb]) (kk := kk) (pos := tp) D1 D2 ap List.mem_cons_self List.mem_cons_self
  refine cp_block (pz := fun _ => true) (PP := fun i x y => xs[i]? = some x ∧ ys[i]? = some y) W hsz ?_ ?_ ?_ ?_ ?_ ?_ hcell hkind hxa hxb hab hh ?_ (F.keeps hk) (N.grown hk) ?_ J h0 hlen ?_ ?_ ?_ ?_
  · rintro i v h ⟨T, x, y, rfl, hx, hy, hT⟩
    exact ⟨T, x, y, rfl, ⟨hx, hy⟩, hT⟩
  · intro s' Q' E' st hq
    exact wpAny_pyIter_zip st.1 hq
  · intro c hc
    simp only [List.mem_cons, List.not_mem_nil, or_false] at hc
    refine fresh c ?_
    rcases hc with rfl | rfl | rfl | rfl <;> first | exact Nat.le_add_right _ _ | exact Nat.le_refl _
  · intro c hc
    simp only [List.mem_cons, List.mem_append, List.not_mem_nil, or_false] at hc
    have e4 : s.heap.objs.size + 4 < h'.objs.size := Heap.lt_size hz
    show c < h'.objs.size
    rcases hc with rfl | rfl | rfl | (rfl | rfl) | (rfl | rfl)
    · exact e4
    · exact Heap.lt_size hTI
    · exact Heap.lt_size hTO
    · obtain ⟨_, e, _⟩ := hi1; exact Heap.lt_size e
    · exact Heap.lt_size (hk _ _ (N _ m1).1)
    · obtain ⟨_, e, _⟩ := hi2; exact Heap.lt_size e
    · exact Heap.lt_size (hk _ _ (N _ m2).1)
  · intro hc
    simp only [List.mem_cons, List.mem_append, List.not_mem_nil, or_false] at hc
    rcases hc with e | e | e | (e | e) | (e | e)
    · exact ne 4 hLs e
    · exact ne 2 hLs e
    · exact ne 3 hLs e
    · exact ne 0 hLs e
    · exact (N _ m1).2.1 e.symm
    · exact ne 1 hLs e
    · exact (N _ m2).2.1 e.symm
  · rintro i h ⟨g1, g2, ⟨_, _, g3⟩, ⟨⟨o4, g4, _⟩, _⟩, ⟨⟨o5, g5, _⟩, _⟩⟩ c hc
    simp only [List.mem_cons, List.not_mem_nil, or_false] at hc
    rcases hc with rfl | rfl | rfl | rfl
    · exact ⟨_, g1⟩
    · exact ⟨_, g3⟩
    · exact ⟨_, g4⟩
    · exact ⟨_, g5⟩
  · exact ⟨hz, hTI, ⟨_, _, hTO⟩, ⟨hi1, by obtain ⟨o, e, r⟩ := t1; exact ⟨o, hk _ _ e, r⟩⟩, ⟨hi2, by obtain ⟨o, e, r⟩ := t2; exact ⟨o, hk _ _ e, r⟩⟩⟩
  · intro p hp hc
    have hpl : p.1 < s.heap.objs.size := Heap.lt_size (N p hp).1
    simp only [List.mem_cons, List.not_mem_nil, or_false] at hc
    rcases hc with e | e | e | e
    · exact ne 4 hpl e
    · exact ne 3 hpl e
    · exact ne 0 hpl e
    · exact ne 1 hpl e
  · intro i x y C h tk m₂ E' _ _ _ _ _
    exact wpAny_tests_nil ⟨rfl, tk, rfl⟩
  · intro i zs nw _ _ hz
    exact absurd hz (by simp)
  · intro i zs nw x y C oC D m₂ h tk own E' hi hJ hxy _ hC ha hb F' N' hw off hne
    exact turn i zs nw x y C oC D m₂ h tk own _ E' hi hJ hxy.1 hxy.2 hC ha hb F' N' hw off hne
  · intro D C h tk m' zs nw F' N' o1 hn hC₀ hCL hCD offC hJ
    refine ⟨m', hn, fun h'' hs'' => fin D h'' tk zs nw (F'.change hs'' hCL hC₀) (fun p hp => ?_) o1 hJ⟩
    refine ⟨hs''.extBut _ _ ?_ (N' p hp).1, (N' p hp).2⟩
    rcases List.mem_cons.mp hp with rfl | hp
    · exact Ne.symm hCD
    · exact offC p hp

theorem enum_src {elt iter : Expr} {a b : Str} {pa pb tp pc : Pos} {kk : Nat} {scope : Scope} {cl : List (Str × Addr)} {pos : Pos} {Q : Value → Shared → Prop} {l : Addr} {xs : Array Value} {n : Nat} {pz : Nat → Bool} {news : List (Addr × Obj)}
    (hh : A.handled = none) (F : Fr h₀ L s.heap m) (N : News h₀ L s.heap news) (t0 : h₀.IsTuple l xs)
    (z1 : xs.size = n) (hsz : n ≤ sizeLine) (hpz : ∀ i y, xs[i]? = some y → ∃ v t, y = .int v t ∧ pz i = (v != 0)) (hcell : ∀ y ∈ scope.names, y.2 ≠ .cell) (hkind : scope.kind = .function) (hxa : scope.names.lookup a = some .local) (hxb : scope.names.lookup b = some .local) (hab : a ≠ b)
    (hkb : ∀ C, (compEnvC scope cl C env).kindOf b = some .local) (hdb : (b == ("__debug__" : Str)) = false)
    (J : Nat → List Value → List (Addr × Obj) → Prop) (h0 : J 0 [] news) (hlen : ∀ i ys nw, J i ys nw → ys.length ≤ i) (skip : ∀ i ys nw, i < n → J i ys nw → pz i = false → J (i + 1) ys nw)
    (turn : ∀ i zs nw y u C oC D m₂ h tk own wr (E' : Value → Shared → Prop), i < n → J i zs nw → xs[i]? = some y → pz i = true → LCg.NsObj oC m₂ → m₂ a = some (.int (i : Nat) u) → m₂ b = some y → Fr h₀ L h m → News h₀ L h (own ++ ((C, oC) :: (D, LCg.lst zs) :: nw)) →
      (∀ c ∈ wr, ∃ o, (c, o) ∈ own) → (∀ p ∈ nw, p.1 ∉ wr ∧ p.1 ≠ C ∧ p.1 ≠ D) → (@Ne Nat C D) →
      wpAny (model prog w) A (eval elt (compEnvC scope cl C env)) (PairEnd h₀ L m wr { s with heap := h, toks := tk } own C oC D (LCg.lst zs) (fun z nw' => J (i + 1) (zs ++ [z]) nw')) E' { s with heap := h, toks := tk })
    (fin : ∀ D h tk zs nw, Fr h₀ L h m → News h₀ L h ((D, LCg.lst zs) :: nw) → (∀ p ∈ nw, p.1 ≠ D) → J n zs nw → Q (.ref D) { s with heap := h, toks := tk }) :
    wpAny (model prog w) A (call (.type "enumerate") [.ref l]) (fun xv s₁ => wpAny (model prog w) A (pyIter xv) (fun it s₂ =>
      compIt (model prog w) A E (.ListComp elt [⟨.Tuple [.Name a pa, .Name b pb] kk tp, iter, [.Name b pc], 0⟩] scope pos) scope cl env Q it s₂) E s₁) E s := by
  obtain ⟨ot, het, hct, nt, hdt⟩ := id t0
  have t1 : s.heap.IsTuple l xs := ⟨ot, F.keep _ _ het, hct, nt, hdt⟩
  have lt1 : l < s.heap.objs.size := Heap.lt_size (F.keep _ _ het)
  have hLs : L < s.heap.objs.size := F.ns.lt
  have ne (q : Nat) {c : Addr} (hc : c < s.heap.objs.size) : c ≠ s.heap.objs.size + q := Nat.ne_of_lt (Nat.lt_of_lt_of_le hc (Nat.le_add_right _ _))
  have fresh : ∀ c, s.heap.objs.size ≤ c → h₀.get? c = none := fun c hc => by
    cases e : h₀.get? c with
    | none => rfl
    | some o => exact absurd (Heap.lt_size (F.keep _ _ e)) (Nat.not_lt.mpr hc)
  have hLl : L ≠ l := fun e => absurd (Heap.lt_size het) (Nat.not_lt.mpr (e ▸ F.above))
  refine call_enum_tup t1 fun h' hE hI hz hk => ?_
  refine wpAny_pyIter_enum hE ?_
  have D1 := draws_tup (prog := prog) (w := w) (A := A.in1) hh s.heap.objs.size l (ne 0 lt1) xs
  rw [z1] at D1
  have W := KTurns.ofWalksU (elts := [.Name a pa, .Name b pb]) (k := kk) (pos := tp) (WalksT.enumerateD D1 (s.heap.objs.size + 1) (neN (by omega)) (fun hc => by
      rcases List.mem_cons.mp hc with e | hc
      · exact absurd e (neN (by omega))
      · exact (ne 1 lt1).symm (List.mem_singleton.mp hc)) List.mem_cons_self).toU
  refine cp_block (pz := pz) (PP := fun i x y => ∃ u, x = .int (i : Nat) u ∧ xs[i]? = some y) W hsz ?_ ?_ ?_ ?_ ?_ ?_ hcell hkind hxa hxb hab hh ?_ (F.keeps hk) (N.grown hk) ?_ J h0 hlen ?_ skip ?_ ?_
  · rintro i v h ⟨T, vals, rfl, ⟨u, x, hx, rfl⟩, hT⟩
    exact ⟨T, _, _, rfl, ⟨u, rfl, hx⟩, hT⟩
  · rintro s' Q' E' ⟨⟨old, st⟩, _⟩ hq
    exact wpAny_pyIter_enum st hq
  · intro c hc
    simp only [List.mem_cons, List.not_mem_nil, or_false] at hc
    refine fresh c ?_
    rcases hc with rfl | rfl <;> first | exact Nat.le_add_right _ _ | exact Nat.le_refl _
  · intro c hc
    simp only [List.mem_cons, List.not_mem_nil, or_false] at hc
    show c < h'.objs.size
    rcases hc with rfl | rfl | rfl
    · exact Heap.lt_size hE
    · obtain ⟨_, e, _⟩ := hI; exact Heap.lt_size e
    · exact Heap.lt_size (hk _ _ (F.keep _ _ het))
  · intro hc
    simp only [List.mem_cons, List.not_mem_nil, or_false] at hc
    rcases hc with e | e | e
    · exact ne 1 hLs e
    · exact ne 0 hLs e
    · exact hLl e
  · rintro i h ⟨⟨_, g1⟩, ⟨⟨o4, g4, _⟩, _⟩⟩ c hc
    simp only [List.mem_cons, List.not_mem_nil, or_false] at hc
    rcases hc with rfl | rfl
    · exact ⟨_, g1⟩
    · exact ⟨_, g4⟩
  · exact ⟨⟨.none, hE⟩, hI, ⟨ot, hk _ _ (F.keep _ _ het), hct, nt, hdt⟩⟩
  · intro p hp hc
    have hpl : p.1 < s.heap.objs.size := Heap.lt_size (N p hp).1
    simp only [List.mem_cons, List.not_mem_nil, or_false] at hc
    rcases hc with e | e
    · exact ne 1 hpl e
    · exact ne 0 hpl e
  · rintro i x y C h tk m₂ E' _ ⟨u, rfl, hy⟩ hns _ hb
    obtain ⟨v, t, rfl, e⟩ := hpz i y hy
    refine wpAny_tests_one ?_
    refine isTrue_plain (whole := eval (.Name b pc) (compEnvC scope cl C env)) ?_ (by rfl)
    exact wpAny_Name (wpAny_loadName_local (by simp [compEnvC, relabel, hkind]) (hkb C) hns hb (truthy_int ⟨e.symm, tk, rfl⟩)) hdb
  · rintro i zs nw x y C oC D m₂ h tk own E' hi hJ ⟨u, rfl, hy⟩ hz hC ha hb F' N' hw off hne
    exact turn i zs nw y u C oC D m₂ h tk own _ E' hi hJ hy hz hC ha hb F' N' hw off hne
  · intro D C h tk m' zs nw F' N' o1 hn hC₀ hCL hCD offC hJ
    refine ⟨m', hn, fun h'' hs'' => fin D h'' tk zs nw (F'.change hs'' hCL hC₀) (fun p hp => ?_) o1 hJ⟩
    refine ⟨hs''.extBut _ _ ?_ (N' p hp).1, (N' p hp).2⟩
    rcases List.mem_cons.mp hp with rfl | hp
    · exact Ne.symm hCD
    · exact offC p hp
end
end Mine
open PySem PySem.Spec PySem.Calls PyProof.Rows PySem.W
set_option Elab.async false
set_option maxRecDepth 100000
set_option maxHeartbeats 8000000
namespace Mine
abbrev tabO (ps : Array Value) : Obj := { cls := .none, data := .fields ps }
/-- what is known of a code object whose table stands on the ledger -/
inductive TabF (h : Heap) (c P : Addr) : Prop
  | mk (o : _) (vs : _) (file : _) (tf : _) (flags : _) (tg : _) (inF : _) (text : _) (tt : _) (h1 : h.get? c = some o) (h2 : o.cls = .type "code") (h3 : o.data = .fields vs) (h4 : vs[11]? = some (.ref P)) (h5 : vs.getD 11 .none = .ref P) (h6 : vs.getD 18 .none = .str file tf) (h7 : vs.getD 7 .none = .int flags tg) (h8 : vs.getD 9 .none = .bool inF) (h9 : vs.getD 10 .none = .int text tt) (h10 : c ≠ P) : TabF h c P
theorem TabF.keeps {h h' : Heap} {c P : Addr} (x : TabF h c P) (k : ∀ b o, h.get? b = some o → h'.get? b = some o) : TabF h' c P :=
  let ⟨o, vs, file, tf, flags, tg, inF, text, tt, e, r1, r2, r3, r4, r5, r6, r7, r8, r9⟩ := x; ⟨o, vs, file, tf, flags, tg, inF, text, tt, k _ _ e, r1, r2, r3, r4, r5, r6, r7, r8, r9⟩
theorem TabF.code {h : Heap} {c P : Addr} {ps : Array Value} (x : TabF h c P) (e : h.get? P = some (tabO ps)) (t : TriplesOk ps.toList) : h.IsCode c P ps :=
  let ⟨o, vs, file, tf, flags, tg, inF, text, tt, a, _, b, _, c1, c2, c3, c4, c5, c6⟩ := x; ⟨o, vs, file, tf, flags, tg, inF, text, tt, _, a, b, c1, c2, c3, c4, c5, e, rfl, t, c6⟩
theorem TabF.table {h : Heap} {c P : Addr} {ps : Array Value} (x : TabF h c P) (e : h.get? P = some (tabO ps)) : h.TableAt c P ps :=
  let ⟨o, vs, _, _, _, _, _, _, _, a, b, d, f, _, _, _, _, _, _⟩ := x; ⟨⟨o, vs, a, b, d, f⟩, e⟩
theorem code_triples {h : Heap} {c P : Addr} {ps : Array Value} (x : h.IsCode c P ps) : TriplesOk ps.toList :=
 by
  obtain ⟨_, _, _, _, _, _, _, _, _, _, _, _, _, _, _, _, _, _, _, t, _⟩ := x
  exact t
theorem passing_all (n : Nat) : passing (fun _ => true) n 0 = List.range n := by simp [passing]
section
variable {prog : Program} {w : World} {A : Around} {E : Value → Shared → Prop} {s : Shared} {h₀ : Heap} {L : Addr} {m mg : Str → Option Value} {env : Env} {bm : Addr} {ob : Obj}
theorem gen_make {elt iter : Expr} {x : Str} {px : Pos} {scope : Scope} {cl : List (Str × Addr)} {pos : Pos} {Q : Value → Shared → Prop} {c P l : Addr} {ol : Obj} {items : Array Value} {k : Nat} {ps : Array Value} {news : List (Addr × Obj)} {F' : Nat → Value → Prop}
    (F : Fr h₀ L s.heap m) (N : News h₀ L s.heap ((P, tabO ps) :: news)) (hP : ∀ p ∈ news, p.1 ≠ P) (G : AllBare s.gens) (hlim : h₀.NoLimit) (M : BMod h₀ env.globals mg bm ob) (TF : TabF h₀ c P) (htr : TriplesOk ps.toList) (hcode : env.code = .ref c)
    (hh : A.handled = none) (hco : scope.isCoroutine = false) (hclos : closureFor scope env = pure cl) (hcell : ∀ y ∈ scope.names, y.2 ≠ .cell) (h0 : scope.names.lookup (".0" : Str) = some NameKind.local)
    (hx : scope.names.lookup x = some .local) (hkind : scope.kind = .function) (hroom : A.depth < recursionLimit)
    (hl : (l, ol) ∈ news) (hlc : ol.cls = .type "list") (hld : ol.data = .seq items k) (hit : ∀ Q' : Value → Shared → Prop, Q' (.ref l) s → wpAny (model prog w) A (eval iter env) Q' E s)
    (elem : ∀ (code : Value) (C : Addr) (A' : Around) (E' : Value → Shared → Prop) i v (t : Shared) m₂, A'.handled = none → items[i]? = some v → t.heap.Ns C m₂ → m₂ x = some v → (∀ b o, b ≠ P → s.heap.get? b = some o → t.heap.get? b = some o) →
      wpAny (model prog w) A' (eval elt (genEnv scope cl C code builtinsNs env)) (fun y s₃ => F' i y ∧ Keeps t s₃) E' t)
    (hQ : ∀ a h₅ tk gs ps', TriplesOk ps'.toList → Fr h₀ L h₅ m → News h₀ L h₅ ((P, tabO ps') :: news) → AllBare (s.gens.push gs) → L ≤ s.heap.objs.size - 1 → (∀ p ∈ (P, tabO ps') :: news, p.1 ≤ s.heap.objs.size - 1) →
      Gen prog w A (s.heap.objs.size - 1) a items.size F' { s with gens := s.gens.push gs, toks := tk, heap := h₅ } → Q (.ref a) { s with gens := s.gens.push gs, toks := tk, heap := h₅ })
    (hs : ∀ x, genFold iter env x = pure x) :
    wpAny (model prog w) A (eval (.GeneratorExp elt [⟨.Name x px, iter, [], 0⟩] scope pos) env) Q E s := by
  have hPat : s.heap.get? P = some (tabO ps) := (N _ List.mem_cons_self).1
  have hPlt : P < s.heap.objs.size := Heap.lt_size hPat
  have hLP : L ≠ P := fun e => (N _ List.mem_cons_self).2.1 e.symm
  have hP₀ : h₀.get? P = none := (N _ List.mem_cons_self).2.2
  have hlist : s.heap.IsList l items := ⟨ol, (N _ (List.mem_cons_of_mem _ hl)).1, hlc, k, hld⟩
  have hlt : l < s.heap.objs.size := Heap.lt_size (N _ (List.mem_cons_of_mem _ hl)).1
  have hLlt : L < s.heap.objs.size := F.ns.lt
  have hlP : l ≠ P := hP _ hl
  refine wpAny_GeneratorExp_walksQ hh hco hclos hcell h0 hx hkind hroom (hit _ ?_) hs
  refine wpAny_pyIter_list hlist ⟨(hlim.keeps F.keep).push _, ?_⟩
  generalize hg1 : s.heap.push { cls := .type "list_iterator", data := .fields #[.ref l, .int 0 0] } = g1
  have up1 : ∀ b o, s.heap.get? b = some o → g1.get? b = some o := fun b o e => hg1 ▸ Heap.get?_push_of_some _ e
  have sz1 : g1.objs.size = s.heap.objs.size + 1 := by rw [← hg1, Heap.size_push]
  have it1 : g1.IsListIter s.heap.objs.size l 0 := ⟨_, hg1 ▸ Heap.get?_push_size _ rfl, rfl, rfl⟩
  have li1 : g1.IsList l items := ⟨ol, up1 _ _ (N _ (List.mem_cons_of_mem _ hl)).1, hlc, k, hld⟩
  have F1 : Fr h₀ L g1 m := F.keeps up1
  have TF1 : TabF g1 c P := TF.keeps F1.keep
  have code1 : g1.IsCode c P ps := TF1.code (up1 _ _ hPat) htr
  -- behind the code object: one continuation for both ways
  have rest : ∀ (code : Value) (g3 : Heap) (tk3 : Nat) (ps' : Array Value), TriplesOk ps'.toList → g3.get? P = some (tabO ps') → Heap.ExtBut P g1 g3 → g1.objs.size ≤ g3.objs.size →
      wpAny (model prog w) A (builtinsFor env.globals env.builtins) (fun bi s₄ =>
        ∃ I fp wr n₀ Pq St₀ pz Fq, (Value.ref s.heap.objs.size) = .ref I ∧ (∀ A' : Around, A'.handled = none → Walks prog w A' I fp wr n₀ Pq St₀) ∧ St₀ 0 s₄.heap ∧ (∀ b ∈ fp, b < s₄.heap.objs.size) ∧ s₄.heap.NoLimit ∧ cStatics ∉ wr ∧
          (∀ href : Heap, (∀ b o, s₄.heap.get? b = some o → href.get? b = some o) →
            QuietGen prog w (genEnv scope cl s₄.heap.objs.size code bi env) x [] elt (List.range s₄.heap.objs.size) wr Pq pz Fq href) ∧
          (∀ a h₅ tk gs, gs.bare = true → s₄.heap.objs.size < a → h₅.objs.size = a + 1 → (∀ b o, s₄.heap.get? b = some o → h₅.get? b = some o) →
            WalksS prog w A.in4 a (a :: s₄.heap.objs.size :: List.range s₄.heap.objs.size) (s₄.heap.objs.size :: wr) (GenOnlyQ s₄.gens.size) (passing pz n₀ 0).length
              (fun j y => ∃ i, (passing pz n₀ 0)[j]? = some i ∧ Fq i y) (GenAt prog w A.in4 a s₄.gens.size s₄.heap.objs.size (List.range s₄.heap.objs.size) wr pz n₀ Fq) →
            GenAt prog w A.in4 a s₄.gens.size s₄.heap.objs.size (List.range s₄.heap.objs.size) wr pz n₀ Fq 0 { s₄ with gens := s₄.gens.push gs, toks := tk, heap := h₅ } →
            Q (.ref a) { s₄ with gens := s₄.gens.push gs, toks := tk, heap := h₅ })) E { s with heap := g3, toks := tk3 } := by
    intro code g3 tk3 ps' htr' hP3 hx3 hsz3
    have k3 : ∀ b o, h₀.get? b = some o → g3.get? b = some o := fun b o e => hx3 b o (fun q => by rw [q, hP₀] at e; cases e) (F1.keep b o e)
    have F3 : Fr h₀ L g3 m := ⟨F1.ns.extBut hx3 hLP, k3, F.above⟩
    have M3 := M.keeps k3
    have sz3 : s.heap.objs.size < g3.objs.size := Nat.lt_of_lt_of_le (by rw [sz1]; exact Nat.lt_succ_self _) hsz3
    have hIP : s.heap.objs.size ≠ P := Nat.ne_of_gt hPlt
    refine wpAny_builtinsFor M3.ns M3.name M3.ne M3.obj M3.cls M3.dict M3.data ?_
    refine ⟨s.heap.objs.size, [s.heap.objs.size, l], [s.heap.objs.size], items.size, _, _, fun _ => true, F', rfl, fun A' hA => Walks.list hA _ _ (Nat.ne_of_lt hlt) items, ⟨?_, ?_⟩, ?_, hlim.keeps k3, ?_, ?_, ?_⟩
    · obtain ⟨o, e, r⟩ := it1; exact ⟨o, hx3 _ _ hIP e, r⟩
    · obtain ⟨o, e, r⟩ := li1; exact ⟨o, hx3 _ _ hlP e, r⟩
    · intro b hb
      show b < g3.objs.size
      rcases List.mem_cons.mp hb with rfl | hb
      · exact sz3
      · rw [List.mem_singleton.mp hb]; exact Nat.lt_trans hlt sz3
    · intro hm
      have hst : cStatics < h₀.objs.size := let ⟨_, hn, _⟩ := hlim; hn.lt
      exact absurd (List.mem_singleton.mp hm) (Nat.ne_of_lt (Nat.lt_of_lt_of_le hst (Nat.le_trans F.above (Nat.le_of_lt hLlt))))
    · intro href hhref
      refine ⟨fun A' E' i v s₂ m₂ hA hi hn hm hk => wpAny_tests_nil ⟨rfl, s₂.heap, s₂.toks, rfl, fun _ _ e => e⟩, fun A' E' i v s₂ m₂ hA hi _ hn hm hk => ?_⟩
      refine elem code g3.objs.size A' E' i v s₂ m₂ hA hi hn hm fun b o hb e => hk b (List.mem_range.mpr (Nat.lt_trans (Heap.lt_size e) sz3)) (fun q => ?_) o (hhref b o (hx3 b o hb (up1 b o e)))
      exact Nat.lt_irrefl _ (List.mem_singleton.mp q ▸ Heap.lt_size e)
    · intro a h₅ tk gs hgb hag hsz5 hk5 W hat
      rw [passing_all] at W
      have W' : WalksS prog w A.in4 a (a :: g3.objs.size :: List.range g3.objs.size) (g3.objs.size :: [s.heap.objs.size]) (GenOnlyQ s.gens.size) items.size F' (GenAt prog w A.in4 a s.gens.size g3.objs.size (List.range g3.objs.size) [s.heap.objs.size] (fun _ => true) items.size F') := by
        have hlen : (List.range items.size).length = items.size := List.length_range
        rw [hlen] at W
        exact { sub := W.sub, grefl := W.grefl, gtrans := W.gtrans, frame := W.frame, done := W.done, self := W.self, item := fun i s Q E hi st hq => W.item i s Q E hi st fun v s' hv => hq v s' (by
          obtain ⟨j, hj, hf⟩ := hv
          have : j = i := by simpa [hi] using hj.symm
          exact this ▸ hf) }
      have N5 : News h₀ L h₅ ((P, tabO ps') :: news) := fun p hp => by
        rcases List.mem_cons.mp hp with rfl | hp
        · exact ⟨hk5 _ _ hP3, hLP.symm, hP₀⟩
        · have q := N p (List.mem_cons_of_mem _ hp)
          exact ⟨hk5 _ _ (hx3 _ _ (hP p hp) (up1 _ _ q.1)), q.2⟩
      refine hQ a h₅ tk gs ps' htr' (F3.keeps hk5) N5 (G.push hgb) (Nat.le_sub_one_of_lt hLlt) (fun p hp => ?_) ⟨_, _, _, _, W', hat, fun i s' st => st.1.typeIs, List.mem_cons_self, ?_, ?_⟩
      · rcases List.mem_cons.mp hp with rfl | hp
        · exact Nat.le_sub_one_of_lt hPlt
        · exact Nat.le_sub_one_of_lt (Heap.lt_size (N p (List.mem_cons_of_mem _ hp)).1)
      · intro b hb
        show b < h₅.objs.size
        rw [hsz5]
        rcases List.mem_cons.mp hb with rfl | hb
        · exact Nat.lt_succ_self _
        · rcases List.mem_cons.mp hb with rfl | hb
          · exact Nat.lt_succ_of_lt hag
          · exact Nat.lt_succ_of_lt (Nat.lt_trans (List.mem_range.mp hb) hag)
      · intro b hb
        have hp1 : s.heap.objs.size - 1 < s.heap.objs.size := Nat.sub_lt (Nat.lt_of_le_of_lt (Nat.zero_le _) hPlt) Nat.one_pos
        rcases List.mem_cons.mp hb with rfl | hb
        · exact Nat.lt_trans hp1 sz3
        · rw [List.mem_singleton.mp hb]; exact hp1
  cases hf : codeAmong pos ps.toList with
  | some cv => exact wpAny_genexprCode_hit hcode code1 hf (rest cv g1 _ ps htr (up1 _ _ hPat) (Heap.ExtBut.refl _ _) (Nat.le_refl _))
  | none =>
    refine wpAny_genexprCodeX hcode code1 (TF1.table (up1 _ _ hPat)) hf fun c' g3 tk3 hx3 hge hlt3 hcode3 _ htab3 _ => ?_
    exact rest _ g3 tk3 _ (code_triples hcode3) htab3.2 hx3 (Nat.le_trans hge (Nat.le_of_lt hlt3))
theorem gen_tup {a Kb : Addr} {n : Nat} {F' : Nat → Value → Prop} {Q : Value → Shared → Prop} {news : List (Addr × Obj)} (F : Fr h₀ L s.heap m) (N : News h₀ L s.heap news) (G : AllBare s.gens) (X : Gen prog w A Kb a n F' s) (hLK : L ≤ Kb) (hNK : ∀ p ∈ news, p.1 ≤ Kb) (hsz : n ≤ sizeLine)
    (hQ : ∀ D h' tk gs (ys : List Value), Fr h₀ L h' m → News h₀ L h' ((D, { cls := .type "tuple", data := .seq ys.toArray }) :: news) → AllBare gs → (∀ p ∈ news, p.1 ≠ D) → ys.length = n → (∀ j v, ys[j]? = some v → F' j v) →
      Q (.ref D) { s with heap := h', toks := tk, gens := gs }) :
    wpAny (model prog w) A (call (.type "tuple") [.ref a]) Q E s := by
  obtain ⟨fp, wr, g, St, W, hst, hT, hI, hfp, hwr⟩ := X
  refine call_tuple_gen (hsz := hsz) W.in4_3 hT hst hfp hI fun s' acc hm hacc => ?_
  have F1 : Fr h₀ L s'.heap m := F.moved hm fun b hb => Nat.lt_of_le_of_lt hLK (hwr b hb)
  have G1 : AllBare s'.gens := G.movedS hm
  have N1 : News h₀ L s'.heap news := fun p hp => ⟨hm.heap _ _ (fun q => Nat.lt_irrefl _ (Nat.lt_of_lt_of_le (hwr _ q) (hNK p hp))) (N p hp).1, (N p hp).2⟩
  have e : s' = { s with heap := s'.heap, toks := s'.toks, gens := s'.gens } := by
    obtain ⟨h1, g1, d1, t1, o1⟩ := s'
    have e1 : d1 = s.drawn := hm.drawn
    have e2 : o1 = s.os := hm.os
    subst e1 e2
    rfl
  have hq := hQ s'.heap.objs.size (s'.heap.push { cls := .type "tuple", data := .seq acc.toList.toArray }) s'.toks s'.gens acc.toList (F1.push _) (N1.push F1 _) G1 (fun p hp => Nat.ne_of_lt (Heap.lt_size (N1 p hp).1)) (by simpa using hacc.1) (fun j v hv => hacc.2 j v (by simpa using hv))
  rw [e]
  simpa using hq
end
end Mine
open PySem PySem.Spec PySem.Calls PyProof.Rows PySem.W
set_option Elab.async false
set_option maxRecDepth 100000
set_option maxHeartbeats 8000000
namespace Mine
/-- one of the two moduli: its tuple's address and its entries at 0 and 6 -/
def Mod (M : Addr) (a b : Int) : Prop := (M = 164 ∧ a = 82 ∧ b = -18) ∨ (M = 167 ∧ a = 2 ∧ b = -2)
/-- the modulus tuple's entries -/
inductive ModTup (h : Heap) (M : Addr) (a b : Int) : Prop
  | mk (xs : Array Value) (h1 : h.IsTuple M xs) (h2 : xs.size = 12) (h3 : ∀ (i : Nat) (y : Value), xs[i]? = some y → ∃ t : Tok, y = Value.int (if i = 0 then a else if i = 6 then b else 0) t) : ModTup h M a b
theorem mod_items {a b : Int} {t0 t1 t2 t3 t4 t5 t6 t7 t8 t9 t10 t11 : Tok} (i : Nat) (y : Value) (h : (#[Value.int a t0, .int 0 t1, .int 0 t2, .int 0 t3, .int 0 t4, .int 0 t5, .int b t6, .int 0 t7, .int 0 t8, .int 0 t9, .int 0 t10, .int 0 t11] : Array Value)[i]? = some y) :
    ∃ t : Tok, y = Value.int (if i = 0 then a else if i = 6 then b else 0) t := by
  match i, h with
  | 0, h | 1, h | 2, h | 3, h | 4, h | 5, h | 6, h | 7, h | 8, h | 9, h | 10, h | 11, h => exact ⟨_, (Option.some.inj h).symm⟩
  | n + 12, h => exact nomatch h
theorem Mod.ne {M : Addr} {a b : Int} (m : Mod M a b) : a ≠ 0 ∧ b ≠ 0 := by rcases m with ⟨_, rfl, rfl⟩ | ⟨_, rfl, rfl⟩ <;> decide
/-- the kept pairs of a modulus behind i places -/
inductive Mct (a b : Int) : Nat → List Value → List (Addr × Obj) → Prop
  | zero (nw : List (Addr × Obj)) : Mct a b 0 [] nw
  | one (i : Nat) (nw : List (Addr × Obj)) (g : Addr) (u v : Tok) (hi : i < 6) (m : (g, tupO 0 u a v) ∈ nw) : Mct a b (i + 1) [.ref g] nw
  | two (i : Nat) (nw : List (Addr × Obj)) (g g' : Addr) (u v u' v' : Tok) (m : (g, tupO 0 u a v) ∈ nw) (m' : (g', tupO 6 u' b v') ∈ nw) : Mct a b (i + 7) [.ref g, .ref g'] nw
theorem Mct.nil {a b : Int} {nw : List (Addr × Obj)} : Mct a b 0 [] nw := .zero nw
theorem Mct.skip {a b : Int} {i : Nat} {ys : List Value} {nw : List (Addr × Obj)} (h : Mct a b i ys nw) (h0 : i ≠ 0) (h6 : i ≠ 6) : Mct a b (i + 1) ys nw := by
  cases h with
  | zero => exact absurd rfl h0
  | one i _ g u v hi m => exact .one (i + 1) nw g u v (Nat.lt_of_le_of_ne hi h6) m
  | two i _ g g' u v u' v' m m' => exact .two (i + 1) nw g g' u v u' v' m m'
theorem Mct.add {a b : Int} {i : Nat} {ys : List Value} {nw nw' : List (Addr × Obj)} (h : Mct a b i ys nw) (k : ∀ p ∈ nw, p ∈ nw') (hi : i = 0 ∨ i = 6) {g : Addr} {x y : Int} {u v : Tok} (hm : (g, tupO x u y v) ∈ nw') (hx : x = (i : Int))
    (hy : y = if i = 0 then a else if i = 6 then b else 0) : Mct a b (i + 1) (ys ++ [.ref g]) nw' := by
  cases h with
  | zero =>
    subst hx hy
    exact .one 0 nw' g u v (by decide) hm
  | one i _ g₀ u₀ v₀ h6 m =>
    rcases hi with hi | hi
    · cases hi
    · cases hi
      subst hx hy
      exact .two 0 nw' g₀ g u₀ v₀ u v (k _ m) hm
  | two i => rcases hi with hi | hi <;> exact absurd hi (by omega)
inductive MctFin (a b : Int) (ys : List Value) (nw : List (Addr × Obj)) : Prop
  | mk (g1 g2 : Addr) (u1 v1 u2 v2 : Tok) (h1 : ys = [.ref g1, .ref g2]) (h2 : (g1, tupO 0 u1 a v1) ∈ nw) (h3 : (g2, tupO 6 u2 b v2) ∈ nw) : MctFin a b ys nw
theorem Mct.fin {a b : Int} {ys : List Value} {nw : List (Addr × Obj)} (h : Mct a b 12 ys nw) : MctFin a b ys nw := by
  generalize e : 12 = n at h
  cases h with
  | zero => cases e
  | one i _ g u v hi => exact absurd hi (by omega)
  | two i _ g g' u v u' v' m m' => exact ⟨g, g', u, v, u', v', rfl, m, m'⟩
theorem Mct.len {a b : Int} {i : Nat} {ys : List Value} {nw : List (Addr × Obj)} (h : Mct a b i ys nw) : ys.length ≤ i := by
  cases h with
  | zero => exact Nat.le_refl _
  | one i => exact Nat.succ_le_succ (Nat.zero_le _)
  | two i => exact Nat.le_trans (show 2 ≤ 7 by decide) (Nat.le_add_left _ _)
section
variable {h₀ : Heap} {L : Addr} {m : Str → Option Value}
theorem pairEnd_same {wr : List Addr} {s₁ : Shared} {own nw : List (Addr × Obj)} {C D : Addr} {oC oD : Obj} {rest : Value → List (Addr × Obj) → Prop} {y : Value} {h' : Heap} {tk : Nat} (F : Fr h₀ L h' m) (N : News h₀ L h' ((C, oC) :: (D, oD) :: (own ++ nw)))
    (off : ∀ p ∈ nw, p.1 ∉ wr ∧ p.1 ≠ C ∧ p.1 ≠ D) (r : rest y nw) : PairEnd h₀ L m wr s₁ own C oC D oD rest y { s₁ with heap := h', toks := tk } :=
  ⟨h', tk, nw, rfl, F, fun p hp => N p (by
    rcases List.mem_append.mp hp with hp | hp
    · exact List.mem_cons_of_mem _ (List.mem_cons_of_mem _ (List.mem_append_left _ hp))
    · rcases List.mem_cons.mp hp with rfl | hp
      · exact List.mem_cons_self
      · rcases List.mem_cons.mp hp with rfl | hp
        · exact List.mem_cons_of_mem _ List.mem_cons_self
        · exact List.mem_cons_of_mem _ (List.mem_cons_of_mem _ (List.mem_append_right _ hp))), off, r⟩
theorem pairEnd_new {wr : List Addr} {s₁ : Shared} {own nw : List (Addr × Obj)} {C D a : Addr} {oC oD o : Obj} {rest : Value → List (Addr × Obj) → Prop} {y : Value} {h' : Heap} {tk : Nat} (F : Fr h₀ L h' m) (N : News h₀ L h' ((a, o) :: (C, oC) :: (D, oD) :: (own ++ nw)))
    (off : ∀ p ∈ nw, p.1 ∉ wr ∧ p.1 ≠ C ∧ p.1 ≠ D) (hw : ∀ c ∈ wr, ∃ o, (c, o) ∈ own) (lt : ∀ p ∈ (C, oC) :: (D, oD) :: (own ++ nw), p.1 ≠ a) (r : rest y ((a, o) :: nw)) : PairEnd h₀ L m wr s₁ own C oC D oD rest y { s₁ with heap := h', toks := tk } := by
  refine pairEnd_same (nw := (a, o) :: nw) F (fun p hp => N p ?_) (fun p hp => ?_) r
  · rcases List.mem_cons.mp hp with rfl | hp
    · exact List.mem_cons_of_mem _ List.mem_cons_self
    · rcases List.mem_cons.mp hp with rfl | hp
      · exact List.mem_cons_of_mem _ (List.mem_cons_of_mem _ List.mem_cons_self)
      · rcases List.mem_append.mp hp with hp | hp
        · exact List.mem_cons_of_mem _ (List.mem_cons_of_mem _ (List.mem_cons_of_mem _ (List.mem_append_left _ hp)))
        · rcases List.mem_cons.mp hp with rfl | hp
          · exact List.mem_cons_self
          · exact List.mem_cons_of_mem _ (List.mem_cons_of_mem _ (List.mem_cons_of_mem _ (List.mem_append_right _ hp)))
  · rcases List.mem_cons.mp hp with rfl | hp
    · refine ⟨fun hc => ?_, (lt _ List.mem_cons_self).symm, (lt _ (List.mem_cons_of_mem _ List.mem_cons_self)).symm⟩
      obtain ⟨o', ho⟩ := hw _ hc
      exact lt _ (List.mem_cons_of_mem _ (List.mem_cons_of_mem _ (List.mem_append_left _ ho))) rfl
    · exact off p hp
theorem news_mid {h : Heap} {own nw : List (Addr × Obj)} {C D : Addr} {oC oD : Obj} (N : News h₀ L h (own ++ ((C, oC) :: (D, oD) :: nw))) : News h₀ L h ((C, oC) :: (D, oD) :: (own ++ nw)) := fun p hp => N p (by
  rcases List.mem_cons.mp hp with rfl | hp
  · exact List.mem_append_right _ List.mem_cons_self
  · rcases List.mem_cons.mp hp with rfl | hp
    · exact List.mem_append_right _ (List.mem_cons_of_mem _ List.mem_cons_self)
    · rcases List.mem_append.mp hp with hp | hp
      · exact List.mem_append_left _ hp
      · exact List.mem_append_right _ (List.mem_cons_of_mem _ (List.mem_cons_of_mem _ hp)))
end
theorem ne_spread {a D : Addr} {o : Obj} {l : List (Addr × Obj)} (h : ∀ p ∈ (a, o) :: l, p.1 ≠ D) : (@Ne Nat a D) ∧ ∀ p ∈ l, p.1 ≠ D := ⟨h _ List.mem_cons_self, fun p hp => h p (List.mem_cons_of_mem _ hp)⟩
theorem above_at {g : Addr} {o : Obj} {tl news : List (Addr × Obj)} (h : Above tl news) (hm : (g, o) ∈ tl) : ∀ p ∈ news, p.1 ≠ g := fun p hp e => h _ hm p hp e.symm
section
variable {prog : Program} {w : World} {A : Around} {E : Value → Shared → Prop} {h₀ : Heap} {L : Addr} {m : Str → Option Value}
end
section
variable {prog : Program} {w : World} {A : Around} {E : Value → Shared → Prop} {s : Shared} {h₀ : Heap} {L : Addr} {m : Str → Option Value}
theorem len_base {t : Addr} {xs : Array Value} {Q : Value → Shared → Prop} (F : Fr h₀ L s.heap m) (t0 : h₀.IsTuple t xs) (hz : xs.size = 12) (h : ∀ u, Q (.int 12 u) { s with toks := s.toks + 2 }) : wpAny (model prog w) A (call (.builtin "len") [.ref t]) Q E s := by
  obtain ⟨o, e, c, n, d⟩ := t0
  have ht : IsTup s.heap t xs := ⟨o, F.keep _ _ e, c, n, d⟩
  refine len_tuple ht (by rw [hz]; decide) ?_
  rw [hz]
  exact h _
theorem tup_base {t : Addr} {xs : Array Value} {Q : Value → Shared → Prop} (F : Fr h₀ L s.heap m) (t0 : h₀.IsTuple t xs) (h : Q (.ref t) s) : wpAny (model prog w) A (call (.type "tuple") [.ref t]) Q E s := by
  obtain ⟨o, e, r⟩ := t0
  exact call_tuple_same ⟨o, F.keep _ _ e, r⟩ h
end
theorem news_rot6 {h₀ h : Heap} {L : Addr} {a b c d e f g : Addr × Obj} {news : List (Addr × Obj)} (N : News h₀ L h (a :: b :: c :: d :: e :: f :: g :: news)) : News h₀ L h (g :: a :: b :: c :: d :: e :: f :: news) := news_of N (by repeat' (first | exact sub_nil | exact fun _ h => h | exact subL | exact List.Mem.head _ | refine sub_cons ?_ ?_ | refine sub_app ?_ ?_ | refine subT ?_ | refine subR ?_ | refine List.Mem.tail _ ?_ | refine List.mem_append_right _ ?_))
theorem ints_at {vs : List Value} {ns : List Int} (h : IntsAre vs ns) : ∀ {i : Nat} {v : Value}, vs[i]? = some v → ∃ u : Tok, v = Value.int (ns.getD i 0) u := by
  induction h with
  | nil => intro i v e; exact nomatch e
  | cons n t _ ih =>
    intro i v e
    cases i with
    | zero => exact ⟨_, (Option.some.inj e).symm⟩
    | succ i => obtain ⟨u, rfl⟩ := ih (i := i) e; exact ⟨u, rfl⟩
theorem fr_off {h₀ h h' : Heap} {L P : Addr} {m : Str → Option Value} {o : Obj} {news : List (Addr × Obj)} (F : Fr h₀ L h m) (N : News h₀ L h ((P, o) :: news)) (hk : ∀ b o, b ≠ P → h.get? b = some o → h'.get? b = some o) : Fr h₀ L h' m :=
  ⟨F.ns.at' fun o' e => hk L o' (fun q => (N _ List.mem_cons_self).2.1 q.symm) e, fun b o' e => hk b o' (fun q => by have := (N _ List.mem_cons_self).2.2; rw [q, this] at e; cases e) (F.keep b o' e), F.above⟩
theorem news_off {h₀ h h' : Heap} {L P : Addr} {o : Obj} {news : List (Addr × Obj)} (N : News h₀ L h ((P, o) :: news)) (off : ∀ p ∈ news, p.1 ≠ P) (hk : ∀ b o, b ≠ P → h.get? b = some o → h'.get? b = some o) : News h₀ L h' news :=
  fun p hp => ⟨hk _ _ (off p hp) (N p (List.mem_cons_of_mem _ hp)).1, (N p (List.mem_cons_of_mem _ hp)).2⟩
theorem ints_of_all {ys : List Value} {f : Nat → Int} : ∀ {n : Nat}, ys.length = n → (∀ (j : Nat) (v : Value), ys[j]? = some v → ∃ u : Tok, v = Value.int (f j) u) → IntsAre ys (tab n f) := by
  intro n
  induction n generalizing ys with
  | zero => intro h _; cases ys with
    | nil => exact .nil
    | cons _ _ => cases h
  | succ n ih =>
    intro h k
    have hne : ys ≠ [] := fun e => by subst e; cases h
    obtain ⟨zs, z, hd⟩ : ∃ zs z, ys = zs ++ [z] := ⟨_, _, (List.dropLast_concat_getLast hne).symm⟩
    subst hd
    have hl : zs.length = n := by simpa using h
    obtain ⟨u, rfl⟩ := k n z (by simp [← hl])
    exact ints_snoc (ih hl fun j v hv => k j v (by
      rw [List.getElem?_append_left]
      · exact hv
      · exact (List.getElem?_eq_some_iff.mp hv).1)) rfl
abbrev fqEs (w : World) (k1 k2 k3 k4 k5 tp t12 : Tok) (p : Int) (D T M : Addr) : List DictEntry :=
  [{ hash := PyData.keyHash w.params (Str.ofString "field_modulus"), key := .str (Str.ofString "field_modulus") k1, val := .int p tp },
   { hash := PyData.keyHash w.params (Str.ofString "mc_tuples"), key := .str (Str.ofString "mc_tuples") k2, val := .ref D },
   { hash := PyData.keyHash w.params (Str.ofString "coeffs"), key := .str (Str.ofString "coeffs") k3, val := .ref T },
   { hash := PyData.keyHash w.params (Str.ofString "modulus_coeffs"), key := .str (Str.ofString "modulus_coeffs") k4, val := .ref M },
   { hash := PyData.keyHash w.params (Str.ofString "degree"), key := .str (Str.ofString "degree") k5, val := .int 12 t12 }]
abbrev tupV (ys : List Value) : Obj := { cls := .type "tuple", data := .seq ys.toArray }
/-- a new FQP object with the coefficients c -/
inductive Fq (w : World) (nw : List (Addr × Obj)) (M : Addr) (a b p : Int) (x : Addr) (c : Nat → Int) : Prop
  | mk (d D g1 g2 T : Addr) (u1 v1 u2 v2 k1 k2 k3 k4 k5 tp t12 : Tok) (ys : List Value) (h1 : (x, instObj 156 d) ∈ nw) (h2 : (d, dictOf (fqEs w k1 k2 k3 k4 k5 tp t12 p D T M) 5) ∈ nw) (h3 : (D, LCg.lst [.ref g1, .ref g2]) ∈ nw)
    (h4 : (g1, tupO 0 u1 a v1) ∈ nw) (h5 : (g2, tupO 6 u2 b v2) ∈ nw) (h6 : (T, tupV ys) ∈ nw) (h7 : IntsAre ys (tab 12 c)) : Fq w nw M a b p x c
theorem Fq.mono {w : World} {nw nw' : List (Addr × Obj)} {M : Addr} {a b p : Int} {x : Addr} {c : Nat → Int} (h : Fq w nw M a b p x c) (k : ∀ p ∈ nw, p ∈ nw') : Fq w nw' M a b p x c :=
  let ⟨d, D, g1, g2, T, u1, v1, u2, v2, k1, k2, k3, k4, k5, tp, t12, ys, a1, a2, a3, a4, a5, a6, a7⟩ := h
  ⟨d, D, g1, g2, T, u1, v1, u2, v2, k1, k2, k3, k4, k5, tp, t12, ys, k _ a1, k _ a2, k _ a3, k _ a4, k _ a5, k _ a6, a7⟩
section
variable {h₀ h : Heap} {L : Addr} {a b c d e f g : Addr × Obj} {news : List (Addr × Obj)}
theorem news_rot1 (N : News h₀ L h (a :: b :: news)) : News h₀ L h (b :: a :: news) := news_of N (by repeat' (first | exact sub_nil | exact fun _ h => h | exact subL | exact List.Mem.head _ | refine sub_cons ?_ ?_ | refine sub_app ?_ ?_ | refine subT ?_ | refine subR ?_ | refine List.Mem.tail _ ?_ | refine List.mem_append_right _ ?_))
theorem news_rot2 (N : News h₀ L h (a :: b :: c :: news)) : News h₀ L h (c :: a :: b :: news) := news_of N (by repeat' (first | exact sub_nil | exact fun _ h => h | exact subL | exact List.Mem.head _ | refine sub_cons ?_ ?_ | refine sub_app ?_ ?_ | refine subT ?_ | refine subR ?_ | refine List.Mem.tail _ ?_ | refine List.mem_append_right _ ?_))
theorem news_rot3 (N : News h₀ L h (a :: b :: c :: d :: news)) : News h₀ L h (d :: a :: b :: c :: news) := news_of N (by repeat' (first | exact sub_nil | exact fun _ h => h | exact subL | exact List.Mem.head _ | refine sub_cons ?_ ?_ | refine sub_app ?_ ?_ | refine subT ?_ | refine subR ?_ | refine List.Mem.tail _ ?_ | refine List.mem_append_right _ ?_))
end
theorem tab_congr {n : Nat} {f g : Nat → Int} (h : ∀ i, i < n → f i = g i) : tab n f = tab n g := List.map_congr_left fun i hi => h i (List.mem_range.mp hi)
theorem Fq.congr {w : World} {nw : List (Addr × Obj)} {M : Addr} {a b p : Int} {x : Addr} {c c' : Nat → Int} (h : Fq w nw M a b p x c) (k : ∀ i, i < 12 → c i = c' i) : Fq w nw M a b p x c' :=
  let ⟨d, D, g1, g2, T, u1, v1, u2, v2, k1, k2, k3, k4, k5, tp, t12, ys, a1, a2, a3, a4, a5, a6, a7⟩ := h
  ⟨d, D, g1, g2, T, u1, v1, u2, v2, k1, k2, k3, k4, k5, tp, t12, ys, a1, a2, a3, a4, a5, a6, (tab_congr k) ▸ a7⟩
theorem fmod_fmod_self (a p : Int) (hp : 0 < p) : (a.fmod p).fmod p = a.fmod p := by
  rw [Int.fmod_eq_emod_of_nonneg _ (Int.le_of_lt hp), Int.fmod_eq_emod_of_nonneg _ (Int.le_of_lt hp), Int.emod_emod_of_dvd _ (Int.dvd_refl p)]
theorem Fq.tab {w : World} {nw : List (Addr × Obj)} {M : Addr} {a b p : Int} {x : Addr} {f : Nat → Int} (h : Fq w nw M a b p x (fun i => ((Mine.tab 12 f).getD i 0).fmod p)) : Fq w nw M a b p x (fun i => (f i).fmod p) :=
  h.congr fun i hi => by rw [tab_getD _ _ _ hi]
theorem Fq.tabm {w : World} {nw : List (Addr × Obj)} {M : Addr} {a b p : Int} {x : Addr} {f : Nat → Int} (hp : 0 < p) (h : Fq w nw M a b p x (fun i => ((Mine.tab 12 (fun i => (f i).fmod p)).getD i 0).fmod p)) : Fq w nw M a b p x (fun i => (f i).fmod p) :=
  h.congr fun i hi => by rw [tab_getD _ _ _ hi, fmod_fmod_self _ _ hp]
theorem ints_size {ys : List Value} {n : Nat} {f : Nat → Int} (h : IntsAre ys (tab n f)) : ys.toArray.size = n := by
  rw [List.size_toArray, h.length, tab_length]
theorem drop_mid {a : Addr × Obj} {tl news : List (Addr × Obj)} (pre : List (Addr × Obj)) : ∀ p ∈ a :: (tl ++ news), p ∈ a :: (tl ++ (pre ++ news)) := by repeat' (first | exact sub_nil | exact fun _ h => h | exact subL | exact List.Mem.head _ | refine sub_cons ?_ ?_ | refine sub_app ?_ ?_ | refine subT ?_ | refine subR ?_ | refine List.Mem.tail _ ?_ | refine List.mem_append_right _ ?_)
theorem drop_top {a : Addr × Obj} {news : List (Addr × Obj)} (pre : List (Addr × Obj)) : ∀ p ∈ a :: news, p ∈ a :: (pre ++ news) := by repeat' (first | exact sub_nil | exact fun _ h => h | exact subL | exact List.Mem.head _ | refine sub_cons ?_ ?_ | refine sub_app ?_ ?_ | refine subT ?_ | refine subR ?_ | refine List.Mem.tail _ ?_ | refine List.mem_append_right _ ?_)
theorem Above.sub {tl n1 n2 : List (Addr × Obj)} (h : Above tl n1) (k : ∀ q ∈ n2, q ∈ n1) : Above tl n2 := fun p hp q hq => h p hp q (k q hq)
end Mine
open PySem PySem.Spec PySem.Calls PyProof.Rows PySem.W
set_option Elab.async false
set_option autoImplicit false
set_option maxRecDepth 100000
set_option maxHeartbeats 8000000
set_option pp.deepTerms false
set_option pp.maxSteps 3000
namespace Mine
theorem tab46 {p : Params} {h : Heap} (X : (kfrag p).In h) : TabF h 46 44 := by
  refine ⟨_, _, _, _, _, _, _, _, _, X 46 _ rfl, rfl, rfl, rfl, rfl, rfl, rfl, rfl, rfl, by decide⟩
theorem mod_tup {M : Addr} {a b : Int} (m : Mod M a b) {p : Params} {h : Heap} (X : (kfrag p).In h) : ModTup h M a b := by
  rcases m with ⟨rfl, rfl, rfl⟩ | ⟨rfl, rfl, rfl⟩
  · exact ⟨_, ⟨_, X 164 _ rfl, rfl, _, rfl⟩, rfl, mod_items⟩
  · exact ⟨_, ⟨_, X 167 _ rfl, rfl, _, rfl⟩, rfl, mod_items⟩
theorem elem_mod {prog : Program} {w : World} {A : Around} {E : Value → Shared → Prop} {h₀ : Heap} {L : Addr} {m : Str → Option Value} {p : Params} {env : Env} {scope : Scope} {cl : List (Str × Addr)} {C : Addr} {code : Value} {t : Shared} {m₂ : Str → Option Value} {x c : Addr} {ox : Obj} {es : List DictEntry} {n : Nat} {z q : Int} {tz tq : Tok} {p1 p2 p3 p4 : Pos} {W : Nat → Value → Prop} {i : Nat} (F : Fr h₀ L t.heap m) (X : (kfrag p).In h₀) (I : InstAt t.heap x ox 156 (some (dictOf es n))) (hl : getL "field_modulus" es = some (some (.int q tq))) (hcell : t.heap.IsCell c (some (.ref x))) (hc : cl.lookup ("self" : Str) = some c) (hn : t.heap.Ns C m₂) (hz : m₂ "coeff" = some (.int z tz)) (hq : 0 < q) (hk : scope.kind = .function) (k1 : (genEnv scope cl C code builtinsNs env).kindOf "coeff" = some .local) (k2 : (genEnv scope cl C code builtinsNs env).kindOf "self" = some .free) (hW : ∀ u, W i (.int (z.fmod q) u)) : wpAny (model prog w) A (eval (.BinOp (.Name "coeff" p1) .Mod (.Attribute (.Name "self" p2) "field_modulus" p3) p4) (genEnv scope cl C code builtinsNs env)) (fun y s₃ => W i y ∧ Keeps t s₃) E t := by
  refine wpAny_BinOp ?_
  refine wpAny_Name (wpAny_loadName_local hk k1 hn hz ?_)
  refine Attribute_Name_ ?_
  refine wpAny_Name (wpAny_loadName_free hk k2 hc hcell ?_)
  refine get_own F X I rfl rfl rfl rfl hl rfl ?_
  refine AutoIntOps.mod_1 (by simp; omega) ?_
  exact ⟨hW _, t.heap, _, rfl, fun _ _ e => e⟩
end Mine
open PySem PySem.Spec PySem.Calls PyProof.Rows PySem.W
set_option Elab.async false
set_option maxRecDepth 100000
set_option maxHeartbeats 8000000
namespace Mine
section
variable {prog : Program} {w : World} {A : Around} {E : Value → Shared → Prop} {s : Shared} {h₀ : Heap} {L : Addr} {m : Str → Option Value} {env : Env}
theorem cp_block1 {elt iter : Expr} {a : Str} {pa : Pos} {scope : Scope} {cl : List (Str × Addr)} {pos : Pos} {s₂ : Shared} {I : Addr} {fp wr : List Addr} {n : Nat} {P Md : Nat → Value → Heap → Prop} {St : Nat → Heap → Prop} {news : List (Addr × Obj)}
    {PP : Nat → Value → Prop} {RR : Value → Addr → Result → Shared → Prop}
    (W : KTurns prog w A (.Name a pa) I fp wr n P Md St) (hsz : n ≤ sizeLine) (hP : ∀ i v h, P i v h → PP i v)
    (hself : ∀ (s : Shared) (Q : Value → Shared → Prop) (E : Value → Shared → Prop), St 0 s.heap → Q (.ref I) s → wpAny (model prog w) A (pyIter (.ref I)) Q E s)
    (hwr : ∀ c ∈ wr, h₀.get? c = none) (hfp : ∀ c ∈ fp, c < s₂.heap.objs.size) (hL : L ∉ fp) (hIo : ∀ i h, St i h → ∀ c ∈ wr, ∃ o, h.get? c = some o)
    (hcell : ∀ y ∈ scope.names, y.2 ≠ .cell) (hkind : scope.kind = .function) (hxa : scope.names.lookup a = some .local) (hh : A.handled = none)
    (hst : St 0 s₂.heap) (F : Fr h₀ L s₂.heap m) (N : News h₀ L s₂.heap news) (off : ∀ p ∈ news, p.1 ∉ wr) (J : Nat → List Value → List (Addr × Obj) → Prop) (h0 : J 0 [] news) (hlen : ∀ i ys nw, J i ys nw → ys.length ≤ i)
    (turn : ∀ i ys nw x C oC D m₂ h tk own (E' : Value → Shared → Prop), i < n → J i ys nw → PP i x → LCg.NsObj oC m₂ → m₂ a = some x → Fr h₀ L h m → News h₀ L h (own ++ ((C, oC) :: (D, LCg.lst ys) :: nw)) →
      (∀ c ∈ wr, ∃ o, (c, o) ∈ own) → (∀ p ∈ nw, p.1 ∉ wr ∧ p.1 ≠ C ∧ p.1 ≠ D) → (@Ne Nat C D) →
      wpAny (model prog w) A (eval elt (compEnvC scope cl C env)) (PairEnd h₀ L m wr { s₂ with heap := h, toks := tk } own C oC D (LCg.lst ys) (fun z nw' => J (i + 1) (ys ++ [z]) nw')) E' { s₂ with heap := h, toks := tk })
    (hRR : ∀ D C h tk m' ys nw, Fr h₀ L h m → News h₀ L h ((D, LCg.lst ys) :: nw) → (∀ p ∈ nw, p.1 ≠ D) → h.Ns C m' → h₀.get? C = none → C ≠ L → C ≠ D → (∀ p ∈ nw, p.1 ≠ C) → J n ys nw → RR (.ref D) C (.ok .next) { s₂ with heap := h, toks := tk }) :
    wpAny (model prog w) A (newList []) (fun acc s₃ => wpAny (model prog w) A (newFunctionEnv scope env.globals cl [] env.qual none .none (some env)) (fun cenv s₄ =>
      codeAny (model prog w) A (.compStart (.ListComp elt [⟨.Name a pa, iter, [], 0⟩] scope pos) 0 (.ref I) acc { cenv with scope := relabel scope env }) (RR acc cenv.locals) s₄) E s₃) E s₂ := by
  exact cp_core (MM := fun i m => Y2 (fun (x : Value) => PP i x) (fun x => m a = some x)) (ifs := []) (pz := fun _ => true) W hsz (fun i v C g tk m' Q E' hp hn k =>
    wpAny_assign_Name (wpAny_storeName_local (lookup_relabel_local hxa) hn (fun g₃ n₃ hs₃ => k g₃ _ _ n₃ ⟨v, hP i v g hp, by simp⟩ fun c o hc e => hs₃.extBut c o hc e) (by simp [compEnvC, relabel, hkind]))) hself hwr hfp hL hIo hcell hkind hst F N off J h0 hlen
    (fun i C h tk m₂ E' hi _ hn => wpAny_tests_nil ⟨rfl, _, rfl⟩) (fun _ _ _ _ _ h => nomatch h) (fun i ys nw C oC D m₂ h tk own E' hi hJ ⟨x, hPP, ex⟩ _ hC => turn i ys nw x C oC D m₂ h tk own E' hi hJ hPP hC ex) hRR
end
end Mine
open PySem PySem.Spec PySem.Calls PyProof.Rows PySem.W
set_option Elab.async false
set_option autoImplicit false
set_option maxRecDepth 100000
set_option maxHeartbeats 8000000
namespace Mine
section
variable {prog : Program} {w : World} {A : Around} {E : Value → Shared → Prop} {s : Shared} {h₀ : Heap} {L : Addr} {m : Str → Option Value} {env : Env}
theorem tup_src {elt iter : Expr} {a : Str} {pa : Pos} {scope : Scope} {cl : List (Str × Addr)} {pos : Pos} {Q : Value → Shared → Prop} {l1 : Addr} {o1 : Obj} {xs : Array Value} {k1 n : Nat} {news : List (Addr × Obj)}
    (hh : A.handled = none) (F : Fr h₀ L s.heap m) (N : News h₀ L s.heap news) (m1 : (l1, o1) ∈ news) (c1 : o1.cls = .type "tuple") (d1 : o1.data = .seq xs k1)
    (z1 : xs.size = n) (hsz : n ≤ sizeLine) (hcell : ∀ y ∈ scope.names, y.2 ≠ .cell) (hkind : scope.kind = .function) (hxa : scope.names.lookup a = some .local)
    (J : Nat → List Value → List (Addr × Obj) → Prop) (h0 : J 0 [] news) (hlen : ∀ i ys nw, J i ys nw → ys.length ≤ i)
    (turn : ∀ i zs nw x C oC D m₂ h tk own wr (E' : Value → Shared → Prop), i < n → J i zs nw → xs[i]? = some x → LCg.NsObj oC m₂ → m₂ a = some x → Fr h₀ L h m → News h₀ L h (own ++ ((C, oC) :: (D, LCg.lst zs) :: nw)) →
      (∀ c ∈ wr, ∃ o, (c, o) ∈ own) → (∀ p ∈ nw, p.1 ∉ wr ∧ p.1 ≠ C ∧ p.1 ≠ D) → (@Ne Nat C D) →
      wpAny (model prog w) A (eval elt (compEnvC scope cl C env)) (PairEnd h₀ L m wr { s with heap := h, toks := tk } own C oC D (LCg.lst zs) (fun z nw' => J (i + 1) (zs ++ [z]) nw')) E' { s with heap := h, toks := tk })
    (fin : ∀ D h tk zs nw, Fr h₀ L h m → News h₀ L h ((D, LCg.lst zs) :: nw) → (∀ p ∈ nw, p.1 ≠ D) → J n zs nw → Q (.ref D) { s with heap := h, toks := tk }) :
    wpAny (model prog w) A (pyIter (.ref l1)) (fun it s₂ =>
      compIt (model prog w) A E (.ListComp elt [⟨.Name a pa, iter, [], 0⟩] scope pos) scope cl env Q it s₂) E s := by
  have t1 := tup_of_news N m1 c1 d1
  have lt1 : l1 < s.heap.objs.size := Heap.lt_size (N _ m1).1
  have hLs : L < s.heap.objs.size := F.ns.lt
  have fresh : ∀ c, s.heap.objs.size ≤ c → h₀.get? c = none := fun c hc => by
    cases e : h₀.get? c with
    | none => rfl
    | some o => exact absurd (Heap.lt_size (F.keep _ _ e)) (Nat.not_lt.mpr hc)
  refine wpAny_pyIter_tuple t1 ?_
  generalize hg : s.heap.push { cls := .type "tuple_iterator", data := .fields #[.ref l1, .int 0 0] } = g
  have hk : ∀ c o, s.heap.get? c = some o → g.get? c = some o := fun c o e => hg ▸ Heap.get?_push_of_some _ e
  have hI : g.get? s.heap.objs.size = some { cls := .type "tuple_iterator", data := .fields #[.ref l1, .int 0 0] } := hg ▸ Heap.get?_push_size _ rfl
  have hne : l1 ≠ s.heap.objs.size := Nat.ne_of_lt lt1
  have W := KTurns.ofWalks (target := .Name a pa) (Walks.tuple (prog := prog) (w := w) (A := A) hh s.heap.objs.size l1 hne xs) fun i v s Q E st q => letGo_tupleiter st.1 q
  rw [z1] at W
  refine cp_block1 (s₂ := { s with heap := g }) (PP := fun i x => xs[i]? = some x) W hsz (fun _ _ _ hp => hp) ?_ ?_ ?_ ?_ ?_ hcell hkind hxa hh ?_ (F.keeps hk) (N.grown hk) ?_ J h0 hlen ?_ ?_
  · intro s' Q' E' st hq
    exact (Walks.tuple (prog := prog) (w := w) (A := A) hh s.heap.objs.size l1 hne xs).self 0 s' Q' E' st hq
  · intro c hc
    rw [List.mem_singleton.mp hc]
    exact fresh _ (Nat.le_refl _)
  · intro c hc
    show c < g.objs.size
    rcases List.mem_cons.mp hc with rfl | hc
    · exact Heap.lt_size hI
    · rw [List.mem_singleton.mp hc]; exact Heap.lt_size (hk _ _ (N _ m1).1)
  · intro hc
    rcases List.mem_cons.mp hc with e | hc
    · exact absurd e (Nat.ne_of_lt hLs)
    · exact (N _ m1).2.1 (List.mem_singleton.mp hc).symm
  · rintro i h ⟨⟨o, e, _⟩, _⟩ c hc
    rw [List.mem_singleton.mp hc]
    exact ⟨o, e⟩
  · exact ⟨⟨_, hI, rfl, rfl⟩, t1.at fun o e => hk _ _ e⟩
  · intro p hp hc
    exact absurd (List.mem_singleton.mp hc) (Nat.ne_of_lt (Heap.lt_size (N p hp).1))
  · intro i zs nw x C oC D m₂ h tk own E' hi hJ hx hC ha F' N' hw off hne
    exact turn i zs nw x C oC D m₂ h tk own _ E' hi hJ hx hC ha F' N' hw off hne
  · intro D C h tk m' zs nw F' N' o1 hn hC₀ hCL hCD offC hJ
    refine ⟨m', hn, fun h'' hs'' => fin D h'' tk zs nw (F'.change hs'' hCL hC₀) (fun p hp => ?_) o1 hJ⟩
    refine ⟨hs''.extBut _ _ ?_ (N' p hp).1, (N' p hp).2⟩
    rcases List.mem_cons.mp hp with rfl | hp
    · exact Ne.symm hCD
    · exact offC p hp
end
end Mine
open PySem PySem.Spec PySem.Calls PyProof.Rows PySem.W
set_option Elab.async false
set_option autoImplicit false
set_option maxRecDepth 100000
set_option maxHeartbeats 8000000
namespace Mine
/-- an enumerate: its owned tuple's field, flag, place, last item -/
abbrev EnAt (h : Heap) (e it : Addr) (v0 : Value) (f : Bool) (i : Int) (old : Value) : Prop :=
  h.get? e = some { cls := .type "enumerate", dict := none, data := .fields #[v0, .bool f, .ref it, rawInt i, .none, old], slots := #[] }
section
variable {prog : Program} {w : World} {A : Around} {E : Value → Shared → Prop} {s : Shared}
theorem en_next {e it t : Addr} {v0 old x : Value} {f : Bool} {i : Nat} {items : Array Value} {Q : Option Value → Shared → Prop} (he : EnAt s.heap e it v0 f i old)
    (hv : v0 = .none ∨ ∃ a oa, v0 = rawInt (a : Nat) ∧ s.heap.get? a = some oa ∧ a ≠ e ∧ a ≠ it) (hit : s.heap.IsTupleIter it t i) (ht : s.heap.IsTuple t items) (hx : items[i]? = some x) (hne : e ≠ it)
    (hQ : ∀ h' v1 f1 old1 tk, EnAt h' e it v1 f1 ((i : Int) + 1) old1 → (v1 = rawInt (s.heap.objs.size : Nat) ∨ v1 = v0 ∧ v0 ≠ .none) → h'.IsTupleIter it t (i + 1) → h'.get? s.heap.objs.size = some (tupV [.int i tk, x]) →
      h'.objs.size = s.heap.objs.size + 1 → (∀ b o, b ≠ e → b ≠ it → s.heap.get? b = some o → h'.get? b = some o) → Q (some (.ref s.heap.objs.size)) { s with heap := h', toks := s.toks + 1 }) :
    wpAny (model prog w) A (pyNext (.ref e)) Q E s := by
  have hT : s.TypeIs (.ref e) "enumerate" := ⟨_, he, rfl⟩
  unfold pyNext
  refine wpAny_bind (wpAny_attempt (wpAny_callSpecial?_slot (name := Str.ofString "__next__") hT F.slot_enumerate_next
    (wpAny_call_entry F.slot_enumerate_next hT F.entry_enumerate_next ?_ (F.args_enumerate_next_1 _))))
  obtain ⟨hp, g, d, tk, os⟩ := s
  show wpAny _ _ (field (.ref e) 2 >>= _) _ _ _
  refine wpAny_bind (wpAny_field he rfl (x := .ref it) rfl ?_)
  refine wpAny_bind (nextOf_tup_item hit ht hx fun h₁ hit₁ hs₁ => ?_)
  replace hs₁ : Heap.SameBut it hp h₁ := hs₁
  have he₁ : EnAt h₁ e it v0 f i old := (hs₁.2 e hne).trans he
  show wpAny _ _ (field (.ref e) 3 >>= _) _ _ ⟨h₁, g, d, tk, os⟩
  refine wpAny_bind (wpAny_field he₁ rfl (x := rawInt i) rfl ?_)
  show wpAny _ _ (field (.ref e) 4 >>= _) _ _ ⟨h₁, g, d, tk, os⟩
  refine wpAny_bind (wpAny_field he₁ rfl (x := .none) rfl ?_)
  show wpAny _ _ (mkInt i >>= _) _ _ ⟨h₁, g, d, tk, os⟩
  refine wpAny_bind (wpAny_mkInt ?_)
  show wpAny _ _ (setField (.ref e) 3 (rawInt ((i : Int) + 1)) >>= _) _ _ ⟨h₁, g, d, tk + 1, os⟩
  refine wpAny_bind (wpAny_setField_rec he₁ (by simp) fun h₂ he₂ hs₂ => ?_)
  replace hs₂ : Heap.SameBut e h₁ h₂ := hs₂
  replace he₂ : EnAt h₂ e it v0 f ((i : Int) + 1) old := he₂
  show wpAny _ _ (setField (.ref e) 4 .none >>= _) _ _ ⟨h₂, g, d, tk + 1, os⟩
  refine wpAny_bind (wpAny_setField_rec he₂ (by simp) fun h₃ he₃ hs₃ => ?_)
  replace hs₃ : Heap.SameBut e h₂ h₃ := hs₃
  replace he₃ : EnAt h₃ e it v0 f ((i : Int) + 1) old := he₃
  show wpAny _ _ (newTuple [.int i tk, x] >>= _) _ _ ⟨h₃, g, d, tk + 1, os⟩
  refine wpAny_bind (wpAny_newTuple ?_)
  have he₄ : EnAt (h₃.push { cls := .type "tuple", data := .seq #[.int i tk, x] }) e it v0 f ((i : Int) + 1) old := Heap.get?_push_of_some _ he₃
  generalize hh₄ : h₃.push { cls := .type "tuple", data := .seq #[.int i tk, x] } = h₄ at he₄
  have hsz : h₃.objs.size = hp.objs.size := by rw [hs₃.1, hs₂.1, hs₁.1]
  have hel : e < hp.objs.size := Heap.lt_size he
  have ht₄ : h₄.get? hp.objs.size = some (tupV [.int i tk, x]) := by rw [← hh₄, ← hsz]; exact Heap.get?_push_size _ rfl
  have hz₄ : h₄.objs.size = hp.objs.size + 1 := by rw [← hh₄, Heap.size_push, hsz]
  have hk₄ : ∀ b o, b ≠ e → b ≠ it → hp.get? b = some o → h₄.get? b = some o := fun b o hbe hbi hb => by
    rw [← hh₄]; exact Heap.get?_push_of_some _ (hs₃.extBut b o hbe (hs₂.extBut b o hbe (hs₁.extBut b o hbi hb)))
  have hit₄ : h₄.IsTupleIter it t (i + 1) := by
    rw [← hh₄]; obtain ⟨o, ho, r⟩ := hit₁; exact ⟨o, Heap.get?_push_of_some _ (hs₃.extBut _ _ (Ne.symm hne) (hs₂.extBut _ _ (Ne.symm hne) ho)), r⟩
  show wpAny _ _ (Builtin.SmallTypes.ownedTupleIsFree (.ref e) >>= _) _ _ ⟨h₄, g, d, tk + 1, os⟩
  rw [hsz]
  clear hh₄ he₃ hs₃ he₂ hs₂ he₁ hs₁ hit₁ hsz h₃ h₂ h₁
  have fin : ∀ h₅ v1 f1 old1, EnAt h₅ e it v1 f1 ((i : Int) + 1) old1 → Heap.SameBut e h₄ h₅ → (v1 = rawInt (hp.objs.size : Nat) ∨ v1 = v0 ∧ v0 ≠ .none) → Q (some (.ref hp.objs.size)) ⟨h₅, g, d, tk + 1, os⟩ := fun h₅ v1 f1 old1 he₅ hs₅ hv1 =>
    hQ h₅ v1 f1 old1 tk he₅ hv1 (let ⟨o, ho, r⟩ := hit₄; ⟨o, hs₅.extBut _ _ (Ne.symm hne) ho, r⟩) (hs₅.extBut _ _ (Nat.ne_of_gt hel) ht₄) (by show h₅.objs.size = hp.objs.size + 1; rw [hs₅.1, hz₄]) fun b o hbe hbi hb => hs₅.extBut b o hbe (hk₄ b o hbe hbi hb)
  rcases hv with rfl | ⟨a, oa, rfl, ha, hae, hai⟩
  · refine wpAny_bind ?_
    unfold Builtin.SmallTypes.ownedTupleIsFree
    refine wpAny_bind (wpAny_field he₄ rfl (x := .none) rfl (wpAny_pure ?_))
    simp only [if_true]
    refine wpAny_bind (wpAny_rule ?_)
    refine wpAny_bind (wpAny_field he₄ rfl (x := old) rfl ?_)
    refine wpAny_bind (wpAny_setField_rec he₄ (by simp) fun h₅ he₅ hs₅ => ?_)
    replace hs₅ : Heap.SameBut e h₄ h₅ := hs₅
    replace he₅ : EnAt h₅ e it .none f ((i : Int) + 1) x := he₅
    show wpAny _ _ (Builtin.SmallTypes.ownedTupleHandOut (.ref e) (.ref hp.objs.size) >>= _) _ _ ⟨h₅, g, d, tk + 1, os⟩
    refine wpAny_bind ?_
    unfold Builtin.SmallTypes.ownedTupleHandOut
    refine wpAny_bind (wpAny_setField_rec he₅ (by simp) fun h₆ he₆ hs₆ => ?_)
    replace hs₆ : Heap.SameBut e h₅ h₆ := hs₆
    replace he₆ : EnAt h₆ e it (rawInt (hp.objs.size : Nat)) f ((i : Int) + 1) x := he₆
    refine wpAny_setField_rec he₆ (by simp) fun h₇ he₇ hs₇ => ?_
    replace hs₇ : Heap.SameBut e h₆ h₇ := hs₇
    replace he₇ : EnAt h₇ e it (rawInt (hp.objs.size : Nat)) false ((i : Int) + 1) x := he₇
    refine wpAny_bind (wpAny_letGo (wpAny_pure ⟨_, rfl, wpAny_pure (fin h₇ _ _ _ he₇ ((hs₅.trans hs₆).trans hs₇) (.inl rfl))⟩))
  · have ha₄ : h₄.get? a = some oa := hk₄ a oa hae hai ha
    refine wpAny_bind ?_
    unfold Builtin.SmallTypes.ownedTupleIsFree
    refine wpAny_bind (wpAny_field he₄ rfl (x := rawInt a) rfl ?_)
    show wpAny _ _ (loadIfAlive ((a : Int).toNat) >>= _) _ _ _
    rw [Int.toNat_natCast]
    refine wpAny_bind (kdx_alive ha₄ ?_)
    simp only [Option.isNone_some, Bool.false_eq_true, if_false]
    refine wpAny_bind (wpAny_field he₄ rfl (x := .bool f) rfl ?_)
    cases f with
    | true =>
      rw [if_neg (show ¬ ((Value.bool true != Value.bool true) = true) from Bool.false_ne_true)]
      refine wpAny_pure ?_
      simp only [Bool.false_eq_true, if_false]
      exact wpAny_pure ⟨_, rfl, wpAny_pure (fin h₄ _ _ _ he₄ (Heap.SameBut.refl _ _) (.inr ⟨rfl, by simp [rawInt]⟩))⟩
    | false =>
      rw [if_pos (show (Value.bool false != Value.bool true) = true from rfl)]
      refine wpAny_bind (wpAny_setField_rec he₄ (by simp) fun h₅ he₅ hs₅ => ?_)
      replace hs₅ : Heap.SameBut e h₄ h₅ := hs₅
      replace he₅ : EnAt h₅ e it (rawInt a) true ((i : Int) + 1) old := he₅
      refine wpAny_pure ?_
      simp only [Bool.false_eq_true, if_false]
      exact wpAny_pure ⟨_, rfl, wpAny_pure (fin h₅ _ _ _ he₅ hs₅ (.inr ⟨rfl, by simp [rawInt]⟩))⟩
theorem en_end {e it t : Addr} {v0 old : Value} {f : Bool} {i : Nat} {items : Array Value} {Q : Option Value → Shared → Prop} (hh : A.handled = none) (he : EnAt s.heap e it v0 f i old)
    (hit : s.heap.IsTupleIter it t i) (ht : s.heap.IsTuple t items) (hx : items[i]? = none)
    (hQ : ∀ h', Heap.ExtBut it s.heap h' → Q none { s with heap := h' }) : wpAny (model prog w) A (pyNext (.ref e)) Q E s := by
  have hT : s.TypeIs (.ref e) "enumerate" := ⟨_, he, rfl⟩
  unfold pyNext
  refine wpAny_bind (wpAny_attempt (wpAny_callSpecial?_slot (name := Str.ofString "__next__") hT F.slot_enumerate_next
    (wpAny_call_entry F.slot_enumerate_next hT F.entry_enumerate_next ?_ (F.args_enumerate_next_1 _))))
  show wpAny _ _ (field (.ref e) 2 >>= _) _ _ _
  refine wpAny_bind (wpAny_field he rfl (x := .ref it) rfl ?_)
  refine wpAny_bind (nextOf_tup_end hh hit ht hx fun h' x he' hx' => ?_)
  obtain ⟨o, ho, hc⟩ := hx'
  refine wpAny_bind (wpAny_isInstance (T := "StopIteration") (b := true) ⟨o, ho, hc⟩ isSubtype_stop ?_)
  exact wpAny_pure (hQ _ he')
def EnSt (h : Heap) (e it t S : Addr) (items : Array Value) (i : Nat) : Prop :=
  (∃ v0 f old, EnAt h e it v0 f i old ∧ (v0 = .none ∨ ∃ (a : Addr) (oa : Obj), v0 = rawInt (a : Nat) ∧ h.get? a = some oa ∧ a ≠ e ∧ a ≠ it ∧ a ≠ S)) ∧ h.IsTupleIter it t i ∧ h.IsTuple t items
theorem EnSt.keep {h h' : Heap} {e it t S : Addr} {items : Array Value} {i : Nat} (x : EnSt h e it t S items i) (hk : ∀ b o, b ≠ S → h.get? b = some o → h'.get? b = some o) (h1 : e ≠ S) (h2 : it ≠ S) (h3 : t ≠ S) : EnSt h' e it t S items i := by
  obtain ⟨⟨v0, f, old, he, hv⟩, ⟨o, ho, r⟩, ⟨o', ho', r'⟩⟩ := x
  refine ⟨⟨v0, f, old, hk _ _ h1 he, ?_⟩, ⟨o, hk _ _ h2 ho, r⟩, ⟨o', hk _ _ h3 ho', r'⟩⟩
  rcases hv with rfl | ⟨a, oa, rfl, ha, q1, q2, q3⟩
  · exact .inl rfl
  · exact .inr ⟨a, oa, rfl, hk _ _ q3 ha, q1, q2, q3⟩
def EnG (items : Array Value) (lo : Addr) (h : Heap) (as : List Addr) : Prop := ∀ (j : Nat) (a : Addr), as[j]? = some a → lo < a ∧ ∃ (tk : Tok) (x : Value), items[j]? = some x ∧ h.get? a = some (tupV [.int (j : Nat) tk, x])
end
section
variable {prog : Program} {w : World} {A : Around} {E : Value → Shared → Prop} {s : Shared} {R : Result → Shared → Prop} {items : Array Value}
theorem en_loop {S e it t : Addr} (hh : A.handled = none) (heS : e < S) (hiS : it < S) (htS : t < S) (hne : e ≠ it) (hte : t ≠ e) (hti : t ≠ it) (hn : items.size ≤ sizeLine) (res : Value) {h₁ : Heap}
    (hR : ∀ h' tk acc c as, (∀ b o, b ≠ S → b ≠ e → b ≠ it → h₁.get? b = some o → h'.get? b = some o) → h'.get? S = some { cls := .type "list", dict := none, data := .seq acc c, slots := #[] } → as.length = items.size → EnG items S h' as →
      acc.toList = as.map Value.ref → R (.ok (.ret res)) { s with heap := h', toks := tk }) :
    ∀ (k i : Nat) (h : Heap) (tk c : Nat) (acc : Array Value) (as : List Addr), items.size - i = k → i ≤ items.size → EnSt h e it t S items i → (∀ b o, b ≠ S → b ≠ e → b ≠ it → h₁.get? b = some o → h.get? b = some o) →
      h.get? S = some { cls := .type "list", dict := none, data := .seq acc c, slots := #[] } → acc.toList = as.map Value.ref → as.length = i → EnG items S h as →
      codeAny (model prog w) A (.builtin "list.extend.loop" ⟨[.ref S, .ref e, res], []⟩) R { s with heap := h, toks := tk } := by
  have hSe : S ≠ e := Nat.ne_of_gt heS
  have hSi : S ≠ it := Nat.ne_of_gt hiS
  intro k
  induction k with
  | zero =>
    intro i h tk c acc as hk hi hst hkeep hS hacc hal hG
    obtain ⟨⟨v0, f, old, he, hv⟩, hit, ht⟩ := hst
    refine codeAny_builtin F.entry_extend_loop ?_
    rw [Around.under_plainId F.plain_extend_loop _]
    show wpAny _ A.in1 (pyNext (.ref e) >>= _) _ _ _
    refine wpAny_bind (en_end (s := { s with heap := h, toks := tk }) (A := A.in1) hh he hit ht (Array.getElem?_eq_none (by omega)) fun h' hx => ?_)
    refine wpAny_pure (hR h' tk acc c as (fun b o h1 h2 h3 e => hx b o h3 (hkeep b o h1 h2 h3 e)) (hx S _ hSi hS) (by omega) (fun j a hj => ?_) hacc)
    obtain ⟨q1, tk, x, q2, q3⟩ := hG j a hj
    exact ⟨q1, tk, x, q2, hx a _ (Nat.ne_of_gt (Nat.lt_trans hiS q1)) q3⟩
  | succ k ih =>
    intro i h tk c acc as hk hi hst hkeep hS hacc hal hG
    have hlt : i < items.size := by omega
    obtain ⟨⟨v0, f, old, he, hv⟩, hit, ht⟩ := hst
    have hsz : acc.size = i := by rw [← Array.length_toList, hacc, List.length_map, hal]
    have hSl : S < h.objs.size := Heap.lt_size hS
    refine codeAny_builtin F.entry_extend_loop ?_
    rw [Around.under_plainId F.plain_extend_loop _]
    show wpAny _ A.in1 (pyNext (.ref e) >>= _) _ _ _
    refine wpAny_bind (en_next (s := { s with heap := h, toks := tk }) (x := items[i]) he (hv.imp id fun ⟨a, oa, q1, q2, q3, q4, _⟩ => ⟨a, oa, q1, q2, q3, q4⟩) hit ht (Array.getElem?_eq_getElem hlt) hne fun h' v1 f1 old1 tk1 he' hv1 hit' hT hz hkp => ?_)
    dsimp only at hT hz hkp hv1 ⊢
    have hS' := hkp S _ hSe hSi hS
    have up : ∀ b o, b ≠ S → h'.get? b = some o → (h'.update S (Obj.mapSeq (·.push (Value.ref h.objs.size)))).get? b = some o := fun b o hb e => (Heap.get?_update_other _ _ (Ne.symm hb)).trans e
    have hst' : EnSt h' e it t S items (i + 1) := by
      refine ⟨⟨v1, f1, old1, he', ?_⟩, hit', let ⟨o, ho, r⟩ := ht; ⟨o, hkp _ _ hte hti ho, r⟩⟩
      rcases hv1 with rfl | ⟨rfl, hv1⟩
      · exact .inr ⟨h.objs.size, _, rfl, hT, Nat.ne_of_gt (Nat.lt_trans heS hSl), Nat.ne_of_gt (Nat.lt_trans hiS hSl), Nat.ne_of_gt hSl⟩
      · rcases hv with rfl | ⟨a, oa, rfl, ha, q1, q2, q3⟩
        · exact absurd rfl hv1
        · exact .inr ⟨a, oa, rfl, hkp a oa q1 q2 ha, q1, q2, q3⟩
    show wpAny _ A.in1 (updateSeq S (·.push (Value.ref h.objs.size)) >>= _) _ _ _
    refine wpAny_bind ?_
    refine wpAny_updateSeq (hz := by rw [hsz]; omega) (_hz' := by rw [Array.size_push, hsz]; omega) hS' rfl (wpAny_pure ⟨plainId_quiet F.plain_extend_loop _, ih (i + 1) _ _ _ (acc.push (Value.ref h.objs.size)) (as ++ [h.objs.size]) (by omega) hlt (hst'.keep up (Ne.symm hSe) (Ne.symm hSi) (Nat.ne_of_lt htS))
      (fun b o h1 h2 h3 e => up b o h1 (hkp b o h2 h3 (hkeep b o h1 h2 h3 e))) (Heap.get?_update_self _ hS' rfl) (by rw [Array.toList_push, hacc, List.map_append]; rfl) (by rw [List.length_append, hal]; rfl) ?_⟩)
    intro j b hj
    rcases Nat.lt_trichotomy j as.length with h1 | h1 | h1
    · rw [List.getElem?_append_left h1] at hj
      obtain ⟨q1, tk', x', q2, q3⟩ := hG j b hj
      exact ⟨q1, tk', x', q2, up b _ (Nat.ne_of_gt q1) (hkp b _ (Nat.ne_of_gt (Nat.lt_trans heS q1)) (Nat.ne_of_gt (Nat.lt_trans hiS q1)) q3)⟩
    · subst h1
      have hb : h.objs.size = b := by simpa using hj
      subst hb
      exact ⟨hSl, tk1, items[i], by rw [hal]; exact Array.getElem?_eq_getElem hlt, by rw [hal]; exact up _ _ (Nat.ne_of_gt hSl) hT⟩
    · have hnone : (as ++ [h.objs.size])[j]? = none := List.getElem?_eq_none (by rw [List.length_append, List.length_singleton]; omega)
      rw [hnone] at hj; cases hj
end
theorem enum_no_len : typeLookup (.type "enumerate") "__len__" = pure none := by rw [typeLookup_type, builtinLookup_eq_fast]; kernel_rfl
theorem enum_no_hint : typeLookup (.type "enumerate") "__length_hint__" = pure none := by rw [typeLookup_type, builtinLookup_eq_fast]; kernel_rfl
section
variable {prog : Program} {w : World} {A : Around} {E : Value → Shared → Prop} {s : Shared} {items : Array Value}
theorem en_extend {R : Result → Shared → Prop} {S e it t : Addr} (hh : A.handled = none) (heS : e < S) (hiS : it < S) (htS : t < S) (hne : e ≠ it) (hte : t ≠ e) (hti : t ≠ it) (hn : items.size ≤ sizeLine) (res : Value) (c₀ : Nat)
    (he : IsEnum s.heap e it 0 .none) (hit : s.heap.IsTupleIter it t 0) (ht : s.heap.IsTuple t items) (hS : s.heap.get? S = some { cls := .type "list", data := .seq #[] c₀ })
    (hR : ∀ h' tk acc c as, (∀ b o, b ≠ S → b ≠ e → b ≠ it → s.heap.get? b = some o → h'.get? b = some o) → h'.get? S = some { cls := .type "list", dict := none, data := .seq acc c, slots := #[] } → as.length = items.size → EnG items S h' as →
      acc.toList = as.map Value.ref → R (.ok (.ret res)) { s with heap := h', toks := tk }) :
    wpAny (model prog w) A.in1 (Builtin.List.listExtendWith (.ref S) (.ref e) res)
      (fun fin s' => match fin with | .done f => R (.ok f) s' | .again c' => c'.quiet = true ∧ codeAny (model prog w) A c' R s') (fun e s' => R (.error e) s') s := by
  have hSe : S ≠ e := Nat.ne_of_gt heS
  have hSi : S ≠ it := Nat.ne_of_gt hiS
  have hT : s.TypeIs (.ref e) "enumerate" := ⟨_, he, rfl⟩
  unfold Builtin.List.listExtendWith
  refine wpAny_bind (wpAny_typeOf hT ?_)
  have h1 : Builtin.List.listSameRef (.ref S) (.ref e) = false := by simp [Builtin.List.listSameRef, hSe]
  have h2 : (Value.type "enumerate" == Value.type "list") = false := by decide
  have h3 : (Value.type "enumerate" == Value.type "tuple") = false := by decide
  simp only [h1, h2, h3, Bool.or_false, Bool.false_eq_true, if_false]
  refine wpAny_bind (wpAny_pyIter_enum he ?_)
  refine wpAny_bind (wpAny_holding ?_)
  unfold Builtin.List.listLengthHint
  refine wpAny_bind (wpAny_specialOf hT enum_no_len ?_)
  show wpAny _ A.in1 (specialOf (Value.ref e) (Str.ofString "__length_hint__") >>= _) _ _ _
  refine wpAny_bind (wpAny_specialOf hT enum_no_hint ?_)
  refine wpAny_pure ?_
  show wpAny _ A.in1 (rule "list.extend.makes-room" >>= fun _ => Builtin.List.listTouch (.ref S) >>= fun _ =>
    again (.builtin "list.extend.loop" ⟨[.ref S, .ref e, res], []⟩)) _ _ _
  refine wpAny_bind (wpAny_rule ?_)
  refine wpAny_bind ?_
  show wpAny _ A.in1 (updateSeq S (·.push .none) >>= fun _ => updateSeq S (·.pop)) _ _ _
  refine wpAny_bind (wpAny_updateSeq hS rfl ?_)
  have hS₂ := Heap.get?_update_self (Obj.mapSeq (·.push Value.none)) hS rfl
  refine wpAny_updateSeq (hz := by seq_fits) hS₂ rfl ?_
  have hS₃ := Heap.get?_update_self (Obj.mapSeq (·.pop)) hS₂ rfl
  have oth : ∀ b o, b ≠ S → s.heap.get? b = some o → ((s.heap.update S (Obj.mapSeq (·.push Value.none))).update S (Obj.mapSeq (·.pop))).get? b = some o :=
    fun b o hb e => (Heap.get?_update_other _ _ (Ne.symm hb)).trans ((Heap.get?_update_other _ _ (Ne.symm hb)).trans e)
  refine wpAny_pure ⟨plainId_quiet F.plain_extend_loop _, ?_⟩
  refine en_loop (s := s) (h₁ := s.heap) hh heS hiS htS hne hte hti hn res hR items.size 0 _ _ _ #[] [] (Nat.sub_zero _) (Nat.zero_le _) ?_ (fun b o h1 _ _ e => oth b o h1 e) hS₃ rfl rfl (fun j a hj => nomatch hj)
  exact EnSt.keep (h := s.heap) ⟨⟨.none, false, .none, he, .inl rfl⟩, hit, ht⟩ oth (Ne.symm hSe) (Ne.symm hSi) (Nat.ne_of_lt htS)
theorem en_call {e it t : Addr} {Q : Value → Shared → Prop} (hh : A.handled = none) (hne : e ≠ it) (hte : t ≠ e) (hti : t ≠ it) (hn : items.size ≤ sizeLine)
    (he : IsEnum s.heap e it 0 .none) (hit : s.heap.IsTupleIter it t 0) (ht : s.heap.IsTuple t items)
    (hQ : ∀ h' tk acc c as, (∀ b o, b ≠ e → b ≠ it → s.heap.get? b = some o → h'.get? b = some o) → h'.get? s.heap.objs.size = some { cls := .type "list", dict := none, data := .seq acc c, slots := #[] } → as.length = items.size → EnG items s.heap.objs.size h' as →
      acc.toList = as.map Value.ref → Q (.ref s.heap.objs.size) { s with heap := h', toks := tk }) :
    wpAny (model prog w) A (call (.type "list") [.ref e]) Q E s := by
  refine callType_codes (Q₁ := fun obj s₁ => obj = .ref s.heap.objs.size ∧ s₁ = { s with heap := s.heap.push { cls := .type "list", data := .seq #[] } }) F.called_list (F.typeCall_list_1 _) F.entry_list_init
    (code_list_new _ ⟨rfl, rfl⟩) fun obj s₁ h₁ => ?_
  obtain ⟨rfl, rfl⟩ := h₁
  have hS : (s.heap.push { cls := .type "list", data := .seq #[] }).get? s.heap.objs.size = some { cls := .type "list", data := .seq #[] } := Heap.get?_push_size _ rfl
  have up : ∀ b o, s.heap.get? b = some o → (s.heap.push { cls := .type "list", data := .seq #[] }).get? b = some o := fun b o e => Heap.get?_push_of_some _ e
  have l1 : e < s.heap.objs.size := Heap.lt_size he
  have l2 : it < s.heap.objs.size := let ⟨_, ho, _⟩ := hit; Heap.lt_size ho
  have l3 : t < s.heap.objs.size := let ⟨_, ho, _⟩ := ht; Heap.lt_size ho
  refine ⟨⟨_, hS, rfl⟩, F.args_list_init_2 _ _, ?_⟩
  show wpAny _ A.in1.in1 (do let old ← Builtin.List.listItems (.ref s.heap.objs.size); Builtin.List.listUpdate (.ref s.heap.objs.size) (fun _ => #[]); letGo old.toList.reverse; Builtin.List.listExtendWith (.ref s.heap.objs.size) (.ref e) .none) _ _ _
  refine wpAny_bind ?_
  unfold Builtin.List.listItems
  refine wpAny_bind (wpAny_seqItems hS rfl (wpAny_pure ?_))
  show wpAny _ _ (updateSeq s.heap.objs.size (fun _ => #[]) >>= fun _ => letGo (#[] : Array Value).toList.reverse >>= fun _ => Builtin.List.listExtendWith (.ref s.heap.objs.size) (.ref e) .none) _ _ _
  refine wpAny_bind (wpAny_updateSeq hS rfl ?_)
  have hS₂ := Heap.get?_update_self (Obj.mapSeq (fun _ => (#[] : Array Value))) hS rfl
  have oth : ∀ b o, b ≠ s.heap.objs.size → (s.heap.push { cls := .type "list", data := .seq #[] }).get? b = some o → ((s.heap.push { cls := .type "list", data := .seq #[] }).update s.heap.objs.size (Obj.mapSeq (fun _ => (#[] : Array Value)))).get? b = some o :=
    fun b o hb e => (Heap.get?_update_other _ _ (Ne.symm hb)).trans e
  refine wpAny_bind (wpAny_letGo ?_)
  refine en_extend (A := A.in1) hh l1 l2 l3 hne hte hti hn .none _ (oth _ _ (Nat.ne_of_lt l1) (up _ _ he)) (let ⟨o, ho, r⟩ := hit; ⟨o, oth _ _ (Nat.ne_of_lt l2) (up _ _ ho), r⟩) (let ⟨o, ho, r⟩ := ht; ⟨o, oth _ _ (Nat.ne_of_lt l3) (up _ _ ho), r⟩) hS₂ fun h' tk acc c as hk hS' hl hG hacc => ?_
  exact ⟨rfl, hQ h' tk acc c as (fun b o h1 h2 e => hk b o (Nat.ne_of_lt (Heap.lt_size e)) h1 h2 (oth b o (Nat.ne_of_lt (Heap.lt_size e)) (up b o e))) hS' hl hG hacc⟩
end
end Mine
open PySem PySem.Spec PySem.Calls PyProof.Rows PySem.W
set_option Elab.async false
set_option autoImplicit false
set_option maxRecDepth 100000
set_option maxHeartbeats 8000000
namespace Mine
abbrev enO (it : Addr) : Obj := { cls := .type "enumerate", dict := none, data := .fields #[.none, .bool false, .ref it, rawInt 0, .none, .none], slots := #[] }
section
variable {prog : Program} {w : World} {A : Around} {E : Value → Shared → Prop} {s : Shared} {h₀ : Heap} {L : Addr} {m : Str → Option Value} {news : List (Addr × Obj)}
/-- enumerate(t), the two new objects on the ledger -/
theorem enum_led {l : Addr} {ys : List Value} {Q : Value → Shared → Prop} (F : Fr h₀ L s.heap m) (N : News h₀ L s.heap news) (hm : (l, tupV ys) ∈ news)
    (h : ∀ e it oI h', Fr h₀ L h' m → News h₀ L h' ((e, enO it) :: (it, oI) :: news) → h'.IsTupleIter it l 0 → (∀ p ∈ news, p.1 < it) → (@LT.lt Nat _ it e) → Q (.ref e) { s with heap := h' }) :
    wpAny (model prog w) A (call (.type "enumerate") [.ref l]) Q E s := by
  have t1 : s.heap.IsTuple l ys.toArray := ⟨_, (N _ hm).1, rfl, _, rfl⟩
  refine call_enum_tup t1 fun h' he hit hz hk => ?_
  obtain ⟨oI, hoI, hr⟩ := id hit
  have F' := F.keeps hk
  have lt : ∀ p ∈ news, p.1 < s.heap.objs.size := fun p hp => Heap.lt_size (N p hp).1
  have new : ∀ c, s.heap.objs.size ≤ c → h₀.get? c = none := fun c hc => ktu_new F hc
  refine h _ _ oI h' F' (fun p hp => ?_) hit lt (Nat.lt_succ_self _)
  rcases List.mem_cons.mp hp with rfl | hp
  · exact ⟨he, Ne.symm (Nat.ne_of_lt (Nat.lt_succ_of_lt F.ns.lt)), new _ (Nat.le_succ _)⟩
  · rcases List.mem_cons.mp hp with rfl | hp
    · exact ⟨hoI, Ne.symm (Nat.ne_of_lt F.ns.lt), new _ (Nat.le_refl _)⟩
    · exact ⟨hk _ _ (N p hp).1, (N p hp).2⟩
/-- the objects of a list of pairs -/
theorem list_en_led {e it l : Addr} {oI : Obj} {ys : List Value} {c : Nat → Int} {n : Nat} {Q : Value → Shared → Prop} (hh : A.handled = none) (F : Fr h₀ L s.heap m) (N : News h₀ L s.heap ((e, enO it) :: (it, oI) :: news))
    (hit : s.heap.IsTupleIter it l 0) (hlt : ∀ p ∈ news, p.1 < it) (hie : @LT.lt Nat _ it e) (hm : (l, tupV ys) ∈ news) (hy : IntsAre ys (tab n c)) (hn : n ≤ sizeLine)
    (h : ∀ S h' tk zs tl k, Fr h₀ L h' m → News h₀ L h' ((S, W.listOf zs.toArray k) :: (tl ++ news)) → Above tl news → (∀ p ∈ tl ++ news, p.1 ≠ S) → Prs tl zs n (fun j => (j : Nat)) c → Q (.ref S) { s with heap := h', toks := tk }) :
    wpAny (model prog w) A (call (.type "list") [.ref e]) Q E s := by
  have hz : ys.toArray.size = n := ints_size hy
  have N' : News h₀ L s.heap news := fun p hp => N p (List.mem_cons_of_mem _ (List.mem_cons_of_mem _ hp))
  have t1 : s.heap.IsTuple l ys.toArray := ⟨_, (N' _ hm).1, rfl, _, rfl⟩
  have hll : l < it := hlt _ hm
  refine en_call hh (Nat.ne_of_gt hie) (Nat.ne_of_lt (Nat.lt_trans hll hie)) (Nat.ne_of_lt hll) (by rw [hz]; exact hn) (N _ List.mem_cons_self).1 hit t1 fun h' tk acc k as hk hS hl hG hacc => ?_
  rw [hz] at hl
  have hLe : L ≠ e := fun q => (N _ List.mem_cons_self).2.1 q.symm
  have hLi : L ≠ it := fun q => (N _ (List.mem_cons_of_mem _ List.mem_cons_self)).2.1 q.symm
  have h0e : ∀ b o, h₀.get? b = some o → b ≠ e := fun b o eb q => by rw [q, (N _ List.mem_cons_self).2.2] at eb; cases eb
  have h0i : ∀ b o, h₀.get? b = some o → b ≠ it := fun b o eb q => by rw [q, (N _ (List.mem_cons_of_mem _ List.mem_cons_self)).2.2] at eb; cases eb
  have F1 : Fr h₀ L h' m := ⟨F.ns.at' fun o eb => hk L o hLe hLi eb, fun b o eb => hk b o (h0e b o eb) (h0i b o eb) (F.keep b o eb), F.above⟩
  have N1 : News h₀ L h' news := fun p hp => ⟨hk _ _ (Nat.ne_of_lt (Nat.lt_trans (hlt p hp) hie)) (Nat.ne_of_lt (hlt p hp)) (N' p hp).1, (N' p hp).2⟩
  have hLs : L < s.heap.objs.size := F.ns.lt
  have new : ∀ c, s.heap.objs.size ≤ c → h₀.get? c = none := fun c hc => ktu_new F hc
  have old : ∀ p ∈ news, p.1 < s.heap.objs.size := fun p hp => Heap.lt_size (N' p hp).1
  have at' : ∀ a ∈ as, ∃ j, as[j]? = some a ∧ s.heap.objs.size < a ∧ ∃ (tk : Tok) (x : Value), ys.toArray[j]? = some x ∧ h'.get? a = some (tupV [.int (j : Nat) tk, x]) := fun a ha => by
    obtain ⟨j, hj⟩ := List.mem_iff_getElem?.mp ha
    obtain ⟨q1, q2⟩ := hG j a hj
    exact ⟨j, hj, q1, q2⟩
  have hacc' : acc = (as.map Value.ref).toArray := by rw [← hacc, Array.toArray_toList]
  subst hacc'
  refine h s.heap.objs.size h' tk (as.map Value.ref) (as.map fun a => (a, (h'.get? a).getD (enO 0))) k F1 (fun p hp => ?_) (fun p hp q hq => ?_) (fun p hp => ?_) ⟨by rw [List.length_map, hl], fun j hj => ?_⟩
  · rcases List.mem_cons.mp hp with rfl | hp
    · exact ⟨hS, Ne.symm (Nat.ne_of_lt hLs), new _ (Nat.le_refl _)⟩
    · rcases List.mem_append.mp hp with hp | hp
      · obtain ⟨a, ha, rfl⟩ := List.mem_map.mp hp
        obtain ⟨j, _, q1, tk', x, _, q2⟩ := at' a ha
        refine ⟨by show h'.get? a = some ((h'.get? a).getD (enO 0)); rw [q2]; rfl, Ne.symm (Nat.ne_of_lt (Nat.lt_trans hLs q1)), new _ (Nat.le_of_lt q1)⟩
      · exact N1 p hp
  · obtain ⟨a, ha, rfl⟩ := List.mem_map.mp hp
    obtain ⟨_, _, q1, _⟩ := at' a ha
    exact Nat.ne_of_gt (Nat.lt_trans (old q hq) q1)
  · rcases List.mem_append.mp hp with hp | hp
    · obtain ⟨a, ha, rfl⟩ := List.mem_map.mp hp
      obtain ⟨_, _, q1, _⟩ := at' a ha
      exact Nat.ne_of_gt q1
    · exact Nat.ne_of_lt (old p hp)
  · have hja : j < as.length := by rw [hl]; exact hj
    obtain ⟨q1, tk', x, q2, q3⟩ := hG j as[j] (List.getElem?_eq_getElem hja)
    obtain ⟨u, rfl⟩ := ints_at hy (i := j) (v := x) (by simpa using q2)
    rw [tab_getD _ _ _ hj] at q3
    refine ⟨as[j], tk', u, by simp [hja], ?_⟩
    refine List.mem_map.mpr ⟨as[j], List.getElem_mem hja, ?_⟩
    rw [q3]
    rfl
end
end Mine
open PySem PySem.Spec PySem.Calls PyProof.Rows PySem.W
set_option Elab.async false
set_option autoImplicit false
set_option maxRecDepth 100000
set_option maxHeartbeats 8000000
namespace Mine
section
variable {prog : Program} {w : World} {A : Around} {E : Value → Shared → Prop} {s : Shared} {h₀ : Heap} {env : Env} {target : Expr} {body : List Stmt} {Q : Flow → Shared → Prop}
/-- a for over a list of the ledger, by an invariant -/
theorem turns_list {ax : Addr} {vs : List Value} {k n : Nat} {m₀ : Str → Option Value} {news : List (Addr × Obj)} (hh : A.handled = none) (F : Fr h₀ env.locals s.heap m₀) (N : News h₀ env.locals s.heap news)
    (hm : (ax, W.listOf vs.toArray k) ∈ news) (hn : vs.length = n) (J : Nat → (Str → Option Value) → List (Addr × Obj) → Prop) (h0 : J 0 m₀ news) (hkeep : ∀ i m nw, J i m nw → (ax, W.listOf vs.toArray k) ∈ nw)
    (turn : ∀ i v m₁ nw h tk own I, i < n → vs[i]? = some v → J i m₁ nw → (∀ p ∈ nw, p.1 ∉ [I]) → (∀ p ∈ own, p.1 = I ∨ p = (ax, W.listOf vs.toArray k)) → Fr h₀ env.locals h m₁ → News h₀ env.locals h (own ++ nw) →
      wpAny (model prog w) A (assign target env v) (fun _ s₃ => wpAny (model prog w) A (execs body env)
        (LoopStepV h₀ env.locals [I] own (J (i + 1)) { s with heap := h, toks := tk } (fun v s' => Q (.ret v) s') fun s' => Q .next s') E s₃) E { s with heap := h, toks := tk })
    (done : ∀ h tk m' nw, Fr h₀ env.locals h m' → News h₀ env.locals h nw → J n m' nw → Q .next { s with heap := h, toks := tk }) :
    wpAny (model prog w) A (pyIter (.ref ax)) (fun it s₂ => TurnsAt prog w A h₀ env target body Q E it s₂) E s := by
  have hax := N _ hm
  have hl : s.heap.IsList ax vs.toArray := ⟨_, hax.1, rfl, _, rfl⟩
  have hlt : ax < s.heap.objs.size := Heap.lt_size hax.1
  have hne : ax ≠ s.heap.objs.size := Nat.ne_of_lt hlt
  refine wpAny_pyIter_list hl ?_
  have W := KTurns.ofWalks (target := target) (Walks.list (prog := prog) (w := w) hh s.heap.objs.size ax hne vs.toArray) fun i v s Q E st q => letGo_listiter st.1 q
  have hz : vs.toArray.size = n := by rw [List.size_toArray]; exact hn
  rw [hz] at W
  have hLs : env.locals < s.heap.objs.size := F.ns.lt
  refine ⟨s.heap.objs.size, _, _, n, _, _, _, m₀, news, J, rfl, W, ?_, ?_, ?_, ?_, F.push _, fun p hp => ⟨Heap.get?_push_of_some _ (N p hp).1, (N p hp).2⟩, h0, ?_, ?_⟩
  · intro hc
    rcases List.mem_cons.mp hc with e | hc
    · exact absurd e (Nat.ne_of_lt hLs)
    · exact hax.2.1 (List.mem_singleton.mp hc).symm
  · intro b hb
    rw [List.mem_singleton.mp hb]
    exact ktu_new F (Nat.le_refl _)
  · intro p hp hc
    exact absurd (List.mem_singleton.mp hc) (Nat.ne_of_lt (Heap.lt_size (N p hp).1))
  · exact ⟨⟨_, Heap.get?_push_size _ rfl, rfl, rfl⟩, hl.at fun o e => Heap.get?_push_of_some _ e⟩
  · intro i v m₁ nw h tk own hi hv hJ hoff hown hget hall hst F₁ N₁
    refine turn i v m₁ nw h tk own _ hi (by simpa using hv) hJ hoff (fun p hp => ?_) F₁ N₁
    rcases List.mem_cons.mp (hown p hp) with e | e
    · exact .inl e
    · refine .inr ?_
      have e' : p.1 = ax := List.mem_singleton.mp e
      have q1 := hget p hp
      have q2 := (N₁ _ (List.mem_append_right _ (hkeep _ _ _ hJ))).1
      rw [e'] at q1
      exact Prod.ext e' (Option.some.inj (q1.symm.trans q2))
  · intro h tk m' nw F' N' _ hJ
    exact done h tk m' nw F' N' hJ
/-- a for over enumerate of a ledger tuple of ints, by an invariant -/
theorem pair_enum {e it l : Addr} {oI : Obj} {ys : List Value} {c : Nat → Int} {n : Nat} {xi xc : Str} {m₀ : Str → Option Value} {news : List (Addr × Obj)} (hh : A.handled = none) (F : Fr h₀ env.locals s.heap m₀) (N : News h₀ env.locals s.heap ((e, enO it) :: (it, oI) :: news))
    (hit : s.heap.IsTupleIter it l 0) (hlt : ∀ p ∈ news, p.1 < it) (hie : @LT.lt Nat _ it e) (hm : (l, tupV ys) ∈ news) (hy : IntsAre ys (tab n c)) (J : Nat → (Str → Option Value) → List (Addr × Obj) → Prop) (h0 : J 0 m₀ news)
    (turn : ∀ i u u' m₁ nw h tk own, i < n → J i m₁ nw → nw.map (·.1) = news.map (·.1) → (∀ p ∈ own, p.1 ∈ [e, it, l]) → Fr h₀ env.locals h (fun y => if y = xc then some (.int (c i) u') else if y = xi then some (.int (i : Nat) u) else m₁ y) → News h₀ env.locals h (own ++ nw) →
      wpAny (model prog w) A (execs body env) (LoopStep3 h₀ env.locals own nw (J (i + 1)) { s with heap := h, toks := tk } (fun v s' => Q (.ret v) s') fun s' => Q .next s') E { s with heap := h, toks := tk })
    (done : ∀ h tk m' nw, Fr h₀ env.locals h m' → News h₀ env.locals h nw → nw.map (·.1) = news.map (·.1) → J n m' nw → Q .next { s with heap := h, toks := tk }) :
    wpAny (model prog w) A (pyIter (.ref e)) (fun it s₂ => PairAt3 prog w A h₀ env xi xc body Q E it s₂) E s := by
  have hz : ys.toArray.size = n := ints_size hy
  have N' : News h₀ env.locals s.heap news := fun p hp => N p (List.mem_cons_of_mem _ (List.mem_cons_of_mem _ hp))
  have t1 : s.heap.IsTuple l ys.toArray := ⟨_, (N' _ hm).1, rfl, _, rfl⟩
  have hll : l < it := hlt _ hm
  have Ne := N _ List.mem_cons_self
  have Ni := N _ (List.mem_cons_of_mem _ List.mem_cons_self)
  refine wpAny_pyIter_enum Ne.1 ?_
  have D1 := draws_tup (prog := prog) (w := w) (A := A.in1) hh it l (Nat.ne_of_lt hll) ys.toArray
  rw [hz] at D1
  have W := WalksT.enumerateD D1 e (Nat.ne_of_gt hie) (fun hc => by
      rcases List.mem_cons.mp hc with q | hc
      · exact absurd q (Nat.ne_of_gt hie)
      · exact absurd (List.mem_singleton.mp hc) (Nat.ne_of_gt (Nat.lt_trans hll hie))) List.mem_cons_self
  refine ⟨e, _, _, n, _, _, _, fun i v0 v1 => ∃ t, v0 = .int (i : Nat) t ∧ ys.toArray[i]? = some v1, m₀, news, J, rfl, W, ?_, ?_, ?_, ?_, ?_, F, N', h0, ?_, ?_⟩
  · rintro i vals ⟨t, x, hx, rfl⟩
    exact ⟨_, _, rfl, t, rfl, hx⟩
  · intro hc
    simp only [List.mem_cons, List.not_mem_nil, or_false] at hc
    rcases hc with q | q | q
    · exact Ne.2.1 q.symm
    · exact Ni.2.1 q.symm
    · exact (N' _ hm).2.1 q.symm
  · intro b hb
    simp only [List.mem_cons, List.not_mem_nil, or_false] at hb
    rcases hb with rfl | rfl
    · exact Ne.2.2
    · exact Ni.2.2
  · intro p hp hc
    simp only [List.mem_cons, List.not_mem_nil, or_false] at hc
    rcases hc with q | q
    · exact absurd q (Nat.ne_of_lt (Nat.lt_trans (hlt p hp) hie))
    · exact absurd q (Nat.ne_of_lt (hlt p hp))
  · exact ⟨⟨_, Ne.1⟩, hit, t1⟩
  · rintro i v0 v1 m₁ nw s₁ own ⟨h, tk, rfl⟩ hi ⟨t, rfl, hv⟩ hJ hmap hown F₁ N₁
    obtain ⟨u', rfl⟩ := ints_at hy (i := i) (v := v1) (by simpa using hv)
    rw [tab_getD _ _ _ hi] at F₁
    exact turn i t u' m₁ nw h tk own hi hJ hmap hown F₁ N₁
  · intro h tk m' nw F' N'' hmap hJ
    exact done h tk m' nw F' N'' hmap hJ
end
theorem mid_out {h₀ h : Heap} {L : Addr} {a b c d : Addr × Obj} {tl r : List (Addr × Obj)} (N : News h₀ L h (a :: b :: c :: (tl ++ d :: r))) : News h₀ L h (a :: b :: d :: c :: (tl ++ r)) := news_of N (by repeat' (first | exact sub_nil | exact fun _ h => h | exact subL | exact List.Mem.head _ | refine sub_cons ?_ ?_ | refine sub_app ?_ ?_ | refine subT ?_ | refine subR ?_ | refine List.Mem.tail _ ?_ | refine List.mem_append_right _ ?_))
theorem mid_outR {h₀ h : Heap} {L : Addr} {a b c d : Addr × Obj} {tl r : List (Addr × Obj)} (N : News h₀ L h (a :: b :: c :: (tl ++ d :: r))) (h1 : ∀ q ∈ tl ++ d :: r, q.1 ≠ c.1) (h2 : Above tl (d :: r)) (h3 : ∀ q ∈ r, q.1 ≠ d.1) :
    ∃ R, R = c :: (tl ++ r) ∧ News h₀ L h (a :: b :: d :: R) ∧ ∀ q ∈ R, q.1 ≠ d.1 := ⟨_, rfl, mid_out N, fun q hq => by
  rcases List.mem_cons.mp hq with rfl | hq
  · exact (h1 d (List.mem_append_right _ List.mem_cons_self)).symm
  · rcases List.mem_append.mp hq with hq | hq
    · exact h2 q hq d List.mem_cons_self
    · exact h3 q hq⟩
end Mine
open PySem PySem.Spec PySem.Calls PyProof.Rows PySem.W
set_option Elab.async false
set_option autoImplicit false
set_option maxRecDepth 100000
set_option maxHeartbeats 8000000
namespace Mine
/-- one place changed -/
def upd (f : Nat → Int) (n : Nat) (v : Int) : Nat → Int := fun k => if k = n then v else f k
noncomputable def rowF (c' : Nat → Int) (x : Int) (i : Nat) (f : Nat → Int) : Nat → Nat → Int
  | 0 => f
  | j + 1 => upd (rowF c' x i f j) (i + j) (rowF c' x i f j (i + j) + x * c' j)
noncomputable def rowsF (c c' : Nat → Int) : Nat → Nat → Int
  | 0 => fun _ => 0
  | i + 1 => rowF c' (c i) i (rowsF c c' i) 12
def mcv (a b : Int) (j : Nat) : Int := if j = 0 then a else b
noncomputable def popIn (a b : Int) (f : Nat → Int) (t : Nat) : Nat → Nat → Int
  | 0 => f
  | j + 1 => upd (popIn a b f t j) (10 - t + 6 * j) (popIn a b f t j (10 - t + 6 * j) - f (22 - t) * mcv a b j)
noncomputable def popF (a b : Int) (f : Nat → Int) : Nat → Nat → Int
  | 0 => f
  | t + 1 => popIn a b (popF a b f t) t 2
noncomputable def mulF0 (a b : Int) (c c' : Nat → Int) : Nat → Int := popF a b (rowsF c c' 12) 11
theorem mulF_ex : ∃ f : Int → Int → (Nat → Int) → (Nat → Int) → Nat → Int, f = mulF0 := ⟨_, rfl⟩
/-- the product's coefficients, closed to unfolding -/
noncomputable def mulF : Int → Int → (Nat → Int) → (Nat → Int) → Nat → Int := Classical.choose mulF_ex
theorem mulF_eq : mulF = mulF0 := Classical.choose_spec mulF_ex
theorem tab_upd (n i : Nat) (f : Nat → Int) (v : Int) : tab n (upd f i v) = (tab n f).set i v := by
  apply List.ext_getElem?
  intro k
  rw [List.getElem?_set]
  by_cases hk : k < n
  · rw [tab_get _ _ _ hk, tab_length]
    unfold upd
    by_cases e : i = k
    · subst e; simp [hk]
    · rw [if_neg e, if_neg (fun q => e q.symm), tab_get _ _ _ hk]
  · have h1 : (tab n (upd f i v))[k]? = none := by simp [tab, hk]
    have h2 : (tab n f)[k]? = none := by simp [tab, hk]
    rw [h1, h2, tab_length]
    by_cases e : i = k
    · subst e; simp [hk]
    · simp [e]
theorem ints_set {vs : List Value} {ns : List Int} (h : IntsAre vs ns) : ∀ (i : Nat) (x : Int) (t : Tok), IntsAre (vs.set i (.int x t)) (ns.set i x) := by
  induction h with
  | nil => intro i x t; exact .nil
  | cons n u h ih =>
    intro i x t
    cases i with
    | zero => exact .cons _ _ h
    | succ i => exact .cons _ _ (ih i x t)
theorem led_first {h₀ h : Heap} {L D : Addr} {o : Obj} {own R : List (Addr × Obj)} (N : News h₀ L h (own ++ (D, o) :: R)) (h1 : ∀ q ∈ own, q.1 ≠ D) (h2 : ∀ q ∈ R, q.1 ≠ D) :
    Y5 (fun (R' : List (Addr × Obj)) => R' = own ++ R) (fun (R' : List (Addr × Obj)) => News h₀ L h ((D, o) :: R')) (fun (R' : List (Addr × Obj)) => ∀ q ∈ R', q.1 ≠ D) (fun (R' : List (Addr × Obj)) => ∀ q ∈ own, q ∈ R') (fun (R' : List (Addr × Obj)) => ∀ q ∈ R, q ∈ R') :=
  ⟨_, rfl, news_of N (by repeat' (first | exact sub_nil | exact fun _ h => h | exact subL | exact List.Mem.head _ | refine sub_cons ?_ ?_ | refine sub_app ?_ ?_ | refine subT ?_ | refine subR ?_ | refine List.Mem.tail _ ?_ | refine List.mem_append_right _ ?_)), fun q hq => (List.mem_append.mp hq).elim (h1 q) (h2 q), fun q hq => List.mem_append_left _ hq, fun q hq => List.mem_append_right _ hq⟩
end Mine
namespace Mine
theorem ints_cast {vs : List Value} {ns ns' : List Int} (h : IntsAre vs ns) (e : ns = ns') : IntsAre vs ns' := e ▸ h
end Mine
namespace Mine
theorem mid_outS {h₀ h : Heap} {L D : Addr} {a b c : Addr × Obj} {o : Obj} {tl r : List (Addr × Obj)} (N : News h₀ L h (a :: b :: c :: (tl ++ (D, o) :: r))) (h1 : ∀ q ∈ tl ++ (D, o) :: r, q.1 ≠ c.1) (h2 : Above tl ((D, o) :: r)) (h3 : ∀ q ∈ r, q.1 ≠ D) :
    Y7 (fun (R : List (Addr × Obj)) => R = c :: (tl ++ r)) (fun (R : List (Addr × Obj)) => News h₀ L h (a :: b :: (D, o) :: R)) (fun (R : List (Addr × Obj)) => ∀ q ∈ R, q.1 ≠ D) (fun (R : List (Addr × Obj)) => ∀ q ∈ (D, o) :: R, q ∈ c :: (tl ++ (D, o) :: r)) (fun (R : List (Addr × Obj)) => c ∈ R) (fun (R : List (Addr × Obj)) => ∀ q ∈ tl, q ∈ R) (fun (R : List (Addr × Obj)) => ∀ q ∈ r, q ∈ R) := by
  obtain ⟨R, hR, N', hD⟩ := mid_outR N h1 h2 h3
  subst hR
  refine ⟨_, rfl, N', hD, fun q hq => ?_, List.mem_cons_self, fun q hq => List.mem_cons_of_mem _ (List.mem_append_left _ hq), fun q hq => List.mem_cons_of_mem _ (List.mem_append_right _ hq)⟩
  revert q; repeat' (first | exact sub_nil | exact fun _ h => h | exact subL | exact List.Mem.head _ | refine sub_cons ?_ ?_ | refine sub_app ?_ ?_ | refine subT ?_ | refine subR ?_ | refine List.Mem.tail _ ?_ | refine List.mem_append_right _ ?_)
end Mine
namespace Mine
theorem own3_ne {e it l D : Addr} {own : List (Addr × Obj)} (hown : ∀ p ∈ own, p.1 ∈ [e, it, l]) (h1 : @LT.lt Nat _ D it) (h2 : @LT.lt Nat _ it e) (h3 : l ≠ D) : ∀ q ∈ own, q.1 ≠ D := fun q hq => by
  have h9 := hown q hq
  simp only [List.mem_cons, List.not_mem_nil, or_false] at h9
  rcases h9 with h9 | h9 | h9
  · rw [h9]; exact Nat.ne_of_gt (Nat.lt_trans h1 h2)
  · rw [h9]; exact Nat.ne_of_gt h1
  · rw [h9]; exact h3
theorem own1_ne {I ax D : Addr} {o oD : Obj} {own nw : List (Addr × Obj)} (hown : ∀ p ∈ own, p.1 = I ∨ p = (ax, o)) (hoff : ∀ p ∈ (D, oD) :: nw, p.1 ∉ [I]) (h3 : ax ≠ D) : ∀ q ∈ own, q.1 ≠ D := fun q hq => by
  rcases hown q hq with h9 | h9
  · rw [h9]; exact fun h => hoff _ List.mem_cons_self (List.mem_singleton.mpr h.symm)
  · rw [h9]; exact h3
end Mine
namespace Mine
theorem row_step {vs : List Value} {f : Nat → Int} {i j : Nat} {x : Int} (hi : i < 12) (hj : j < 12) (h : IntsAre vs ((tab 23 f).set ((i : Int) + (j : Int)).toNat ((tab 23 f).getD ((i : Int) + (j : Int)).toNat 0 + x))) :
    IntsAre vs (tab 23 (upd f (i + j) (f (i + j) + x))) := by
  have e : ((i : Int) + (j : Int)).toNat = i + j := by omega
  rw [e, tab_getD _ _ _ (by omega)] at h
  rw [tab_upd]; exact h
theorem off_new {I D : Addr} {o o' : Obj} {nw : List (Addr × Obj)} (h : ∀ p ∈ (D, o) :: nw, p.1 ∉ [I]) : ∀ p ∈ (D, o') :: nw, p.1 ∉ [I] := fun p hp => by
  rcases List.mem_cons.mp hp with rfl | hp
  · exact h (D, o) List.mem_cons_self
  · exact h p (List.mem_cons_of_mem _ hp)
theorem sub_head {a : Addr × Obj} {R R' : List (Addr × Obj)} (h : ∀ q ∈ R, q ∈ R') : ∀ q ∈ a :: R, q ∈ a :: R' := fun q hq => by
  rcases List.mem_cons.mp hq with rfl | hq
  · exact List.mem_cons_self
  · exact List.mem_cons_of_mem _ (h q hq)
theorem sub_tail {a : Addr × Obj} {R R' : List (Addr × Obj)} (h : ∀ q ∈ R, q ∈ R') : ∀ q ∈ R, q ∈ a :: R' := fun q hq => List.mem_cons_of_mem _ (h q hq)
end Mine
namespace Mine
theorem Over.sub {xs ys : List Str} {m m' u : Str → Option Value} (h : Over xs m m') (hs : (ys.all fun z => xs.contains z) = true) : Over xs m (Mine.over ys u m') := fun z hz => by
  unfold Mine.over
  cases e : ys.contains z with
  | false => simp only [Bool.false_eq_true, if_false]; exact h z hz
  | true =>
    have h1 := List.all_eq_true.mp hs z (by simpa using e)
    rw [h1] at hz; cases hz
end Mine
namespace Mine
theorem news_subM {h₀ h : Heap} {L : Addr} {a b : List (Addr × Obj)} (N : News h₀ L h a) (s : ∀ q ∈ b, q ∈ a) : News h₀ L h b := fun p hp => N p (s p hp)
end Mine

namespace Mine
theorem mct_at {a b : Int} {g1 g2 : Addr} {u1 v1 u2 v2 : Tok} {l : List (Addr × Obj)} (h1 : (g1, tupO 0 u1 a v1) ∈ l) (h2 : (g2, tupO 6 u2 b v2) ∈ l) :
    ∀ j, j < 2 → Yc2 (fun (t : Addr) (_u _v : Tok) => [Value.ref g1, Value.ref g2][j]? = some (.ref t)) (fun t u v => (t, tupO ((6 * j : Nat) : Int) u (mcv a b j) v) ∈ l) := fun j hj => by
  match j, hj with
  | 0, _ => exact ⟨g1, u1, v1, rfl, h1⟩
  | 1, _ => exact ⟨g2, u2, v2, rfl, h2⟩
theorem Mod.ok {M : Addr} {a b : Int} (h : Mod M a b) (x : Int) (j : Nat) : IntMulOk x (mcv a b j) := by
  refine IntMulOk.of_right ?_
  unfold mcv
  rcases h with ⟨_, rfl, rfl⟩ | ⟨_, rfl, rfl⟩ <;> split <;> decide +kernel
theorem tab_dropLast (n : Nat) (f : Nat → Int) : (tab (n + 1) f).dropLast = tab n f := by rw [tab_succ]; simp
theorem tab_last (n : Nat) (f : Nat → Int) : (tab (n + 1) f).getLast? = some (f n) := by rw [tab_succ]; simp
end Mine
namespace Mine
end Mine
namespace Mine
theorem Mod.bits {M : Addr} {a b : Int} (h : Mod M a b) (j : Nat) : Builtin.Int.intBits (mcv a b j) ≤ 64 := by
  unfold mcv
  rcases h with ⟨_, rfl, rfl⟩ | ⟨_, rfl, rfl⟩ <;> split <;> decide +kernel
theorem tab_lastD (t : Nat) (f : Nat → Int) (h : t < 11) : (tab (23 - t) f).getLastD 0 = f (22 - t) := by
  have e : 23 - t = 22 - t + 1 := by omega
  rw [e, List.getLastD_eq_getLast?, tab_last]; rfl
theorem tab_drop (t : Nat) (f : Nat → Int) (h : t < 11) : (tab (23 - t) f).dropLast = tab (22 - t) f := by
  have e : 23 - t = 22 - t + 1 := by omega
  rw [e, tab_dropLast]
end Mine
namespace Mine
theorem off_of {h₀ h : Heap} {L D I : Addr} {o oI : Obj} {R : List (Addr × Obj)} (_N : News h₀ L h ((D, o) :: (I, oI) :: R)) (l : AllLt D R) (h1 : @Ne Nat D I) : ∀ q ∈ (I, oI) :: R, q.1 ≠ D := all_cons h1.symm (allNe_of l)
end Mine
namespace Mine
theorem mem5 {α : Type} {x a b c d e : α} {l : List α} (h : x ∈ l) : x ∈ a :: b :: c :: d :: e :: l := List.mem_cons_of_mem _ (List.mem_cons_of_mem _ (List.mem_cons_of_mem _ (List.mem_cons_of_mem _ (List.mem_cons_of_mem _ h))))
end Mine
namespace Mine
theorem pop_eq {f g : Nat → Int} {t j : Nat} {v : Int} (ht : t < 11) (hj : j < 2) : (tab (22 - t) g).set (12 - 2 + (t : Int) * -1 + ((6 * j : Nat) : Int)).toNat ((tab (22 - t) g).getD (12 - 2 + (t : Int) * -1 + ((6 * j : Nat) : Int)).toNat 0 - (tab (23 - t) f).getLastD 0 * v) =
    tab (22 - t) (upd g (10 - t + 6 * j) (g (10 - t + 6 * j) - f (22 - t) * v)) := by
  have e : (12 - 2 + (t : Int) * -1 + ((6 * j : Nat) : Int)).toNat = 10 - t + 6 * j := by omega
  rw [e, tab_getD _ _ _ (by omega), tab_upd, tab_lastD _ _ ht]
theorem pop_next {a b : Int} {f : Nat → Int} {t : Nat} {vs : List Value} (h : IntsAre vs (tab (22 - t) (popIn a b (popF a b f t) t 2))) : IntsAre vs (tab (23 - (t + 1)) (popF a b f (t + 1))) := by
  have e : 23 - (t + 1) = 22 - t := by omega
  rw [e]; exact h
end Mine
namespace Mine
theorem news_rot5 {h₀ h : Heap} {L : Addr} {a b c d e f : Addr × Obj} {news : List (Addr × Obj)} (N : News h₀ L h (a :: b :: c :: d :: e :: f :: news)) : News h₀ L h (f :: a :: b :: c :: d :: e :: news) := news_of N (by repeat' (first | exact sub_nil | exact fun _ h => h | exact subL | exact List.Mem.head _ | refine sub_cons ?_ ?_ | refine sub_app ?_ ?_ | refine subT ?_ | refine subR ?_ | refine List.Mem.tail _ ?_ | refine List.mem_append_right _ ?_))
theorem news_rot4 {h₀ h : Heap} {L : Addr} {a b c d e : Addr × Obj} {news : List (Addr × Obj)} (N : News h₀ L h (a :: b :: c :: d :: e :: news)) : News h₀ L h (e :: a :: b :: c :: d :: news) := news_of N (by repeat' (first | exact sub_nil | exact fun _ h => h | exact subL | exact List.Mem.head _ | refine sub_cons ?_ ?_ | refine sub_app ?_ ?_ | refine subT ?_ | refine subR ?_ | refine List.Mem.tail _ ?_ | refine List.mem_append_right _ ?_))
end Mine
open PySem PySem.Spec PySem.Calls PyProof.Rows PySem.W
set_option Elab.async false
set_option autoImplicit false
set_option maxRecDepth 100000
set_option maxHeartbeats 8000000
namespace Mine
section
variable {prog : Program} {w : World} {A : Around} {E : Value → Shared → Prop} {s : Shared} {h₀ : Heap} {env : Env} {target : Expr} {body : List Stmt} {Q : Flow → Shared → Prop}
theorem turns_list_o {ax : Addr} {vs : List Value} {k n : Nat} {m₀ : Str → Option Value} {news : List (Addr × Obj)} (xs : List Str) (hh : A.handled = none) (F : Fr h₀ env.locals s.heap m₀) (N : News h₀ env.locals s.heap news)
    (hm : (ax, W.listOf vs.toArray k) ∈ news) (hn : vs.length = n) (J : Nat → List (Addr × Obj) → Prop) (h0 : J 0 news) (hkeep : ∀ i nw, J i nw → (ax, W.listOf vs.toArray k) ∈ nw)
    (turn : ∀ i v u nw h tk own I, i < n → vs[i]? = some v → J i nw → (∀ p ∈ nw, p.1 ∉ [I]) → (∀ p ∈ own, p.1 = I ∨ p = (ax, W.listOf vs.toArray k)) → Fr h₀ env.locals h (over xs u m₀) → News h₀ env.locals h (own ++ nw) →
      wpAny (model prog w) A (assign target env v) (fun _ s₃ => wpAny (model prog w) A (execs body env)
        (LoopStepV h₀ env.locals [I] own (fun m' nw' => Over xs m₀ m' ∧ J (i + 1) nw') { s with heap := h, toks := tk } (fun v s' => Q (.ret v) s') fun s' => Q .next s') E s₃) E { s with heap := h, toks := tk })
    (done : ∀ h tk u nw, Fr h₀ env.locals h (over xs u m₀) → News h₀ env.locals h nw → J n nw → Q .next { s with heap := h, toks := tk }) :
    wpAny (model prog w) A (pyIter (.ref ax)) (fun it s₂ => TurnsAt prog w A h₀ env target body Q E it s₂) E s := by
  refine turns_list hh F N hm hn (fun i m nw => Over xs m₀ m ∧ J i nw) ⟨Over.refl, h0⟩ (fun i m nw h => hkeep i nw h.2) ?_ ?_
  · rintro i v m₁ nw h tk own I hi hv ⟨ho, hJ⟩ hoff hown F' N'
    rw [ho.eq] at F'
    exact turn i v _ nw h tk own I hi hv hJ hoff hown F' N'
  · rintro h tk m' nw F' N' ⟨ho, hJ⟩
    rw [ho.eq] at F'
    exact done h tk _ nw F' N' hJ
/-- pair_enum, the names that the loop turns told -/
theorem pair_enum_o {e it l : Addr} {oI : Obj} {ys : List Value} {c : Nat → Int} {n : Nat} {xi xc : Str} {m₀ : Str → Option Value} {news : List (Addr × Obj)} (xs : List Str) (hh : A.handled = none) (F : Fr h₀ env.locals s.heap m₀) (N : News h₀ env.locals s.heap ((e, enO it) :: (it, oI) :: news))
    (hit : s.heap.IsTupleIter it l 0) (hlt : ∀ p ∈ news, p.1 < it) (hie : @LT.lt Nat _ it e) (hm : (l, tupV ys) ∈ news) (hy : IntsAre ys (tab n c)) (J : Nat → List (Addr × Obj) → Prop) (h0 : J 0 news)
    (turn : ∀ i u u' um nw h tk own, i < n → J i nw → nw.map (·.1) = news.map (·.1) → (∀ p ∈ own, p.1 ∈ [e, it, l]) → Fr h₀ env.locals h (fun y => if y = xc then some (.int (c i) u') else if y = xi then some (.int (i : Nat) u) else over xs um m₀ y) → News h₀ env.locals h (own ++ nw) →
      wpAny (model prog w) A (execs body env) (LoopStep3 h₀ env.locals own nw (fun m' nw' => Over xs m₀ m' ∧ J (i + 1) nw') { s with heap := h, toks := tk } (fun v s' => Q (.ret v) s') fun s' => Q .next s') E { s with heap := h, toks := tk })
    (done : ∀ h tk u nw, Fr h₀ env.locals h (over xs u m₀) → News h₀ env.locals h nw → J n nw → Q .next { s with heap := h, toks := tk }) :
    wpAny (model prog w) A (pyIter (.ref e)) (fun it s₂ => PairAt3 prog w A h₀ env xi xc body Q E it s₂) E s := by
  refine pair_enum hh F N hit hlt hie hm hy (fun i m nw => Over xs m₀ m ∧ J i nw) ⟨Over.refl, h0⟩ ?_ ?_
  · rintro i u u' m₁ nw h tk own hi ⟨ho, hJ⟩ hmap hown F' N'
    rw [ho.eq] at F'
    exact turn i u u' _ nw h tk own hi hJ hmap hown F' N'
  · rintro h tk m' nw F' N' _ ⟨ho, hJ⟩
    rw [ho.eq] at F'
    exact done h tk _ nw F' N' hJ
end
section
variable {h₀ : Heap} {L : Addr} {s₁ : Shared} {Qr : Value → Shared → Prop} {Qb : Shared → Prop}
theorem step3_end {own l news₁ : List (Addr × Obj)} {J : (Str → Option Value) → List (Addr × Obj) → Prop} {h' : Heap} {tk : Nat} {m' : Str → Option Value} (nw : List (Addr × Obj)) (F : Fr h₀ L h' m') (N : News h₀ L h' l) (ho : ∀ p ∈ own, p ∈ l) (hn : ∀ p ∈ nw, p ∈ l)
    (hmap : nw.map (·.1) = news₁.map (·.1)) (hJ : J m' nw) : LoopStep3 h₀ L own news₁ J s₁ Qr Qb .next { s₁ with heap := h', toks := tk } :=
  ⟨rfl, h', tk, m', nw, rfl, F, fun p hp => N p ((List.mem_append.mp hp).elim (ho p) (hn p)), hmap, hJ⟩
end
end Mine
namespace Mine
section
variable {h₀ : Heap} {L : Addr} {s₁ : Shared}
theorem stepU_end {wr : List Addr} {own l : List (Addr × Obj)} {J : (Str → Option Value) → List (Addr × Obj) → Prop} {h' : Heap} {tk : Nat} {m' : Str → Option Value} (nw : List (Addr × Obj)) (F : Fr h₀ L h' m') (N : News h₀ L h' l) (ho : ∀ p ∈ own, p ∈ l) (hn : ∀ p ∈ nw, p ∈ l)
    (off : ∀ p ∈ nw, p.1 ∉ wr) (hJ : J m' nw) : LoopStepU h₀ L wr own J s₁ .next { s₁ with heap := h', toks := tk } :=
  ⟨rfl, h', tk, m', nw, rfl, F, fun p hp => N p ((List.mem_append.mp hp).elim (ho p) (hn p)), off, hJ⟩
end
end Mine
namespace Mine
section
variable {prog : Program} {w : World} {A : Around} {E : Value → Shared → Prop} {s : Shared} {env : Env} {h₀ : Heap} {x : Str} {body : List Stmt} {Q : Flow → Shared → Prop}
theorem krs_inv {I : Addr} {a c : Int} {n : Nat} {m₀ : Str → Option Value} {news : List (Addr × Obj)} (xs : List Str) (J : Nat → List (Addr × Obj) → Prop) (h0 : J 0 news) (off0 : ∀ p ∈ news, p.1 ≠ I)
    (turn : ∀ i u nw t h tk, i < n → J i nw → (∀ p ∈ nw, p.1 ≠ I) → Fr h₀ env.locals h (fun y => if y = x then some (.int (a + (i : Int) * c) t) else over xs u m₀ y) →
      News h₀ env.locals h ((I, krsIt (a + ((i + 1 : Nat) : Int) * c) ((n : Int) - ((i + 1 : Nat) : Int)) c) :: nw) →
      wpAny (model prog w) A (execs body env) (UnrPost h₀ env.locals { s with heap := h, toks := tk } I (krsIt (a + ((i + 1 : Nat) : Int) * c) ((n : Int) - ((i + 1 : Nat) : Int)) c) (fun m' nw' => Over xs m₀ m' ∧ J (i + 1) nw') Q) E { s with heap := h, toks := tk })
    (done : ∀ u nw h tk, J n nw → Fr h₀ env.locals h (over xs u m₀) → News h₀ env.locals h nw → Q .next { s with heap := h, toks := tk }) :
    KrsRest prog w A E h₀ env x body Q s I a c n n 0 m₀ news := by
  have all : ∀ k i m' nw, i + k = n → Over xs m₀ m' → J i nw → (∀ p ∈ nw, p.1 ≠ I) → KrsRest prog w A E h₀ env x body Q s I a c n k i m' nw := by
    intro k
    induction k with
    | zero => intro i m' nw e hm hj off
              have : i = n := by omega
              subst this
              rw [hm.eq]
              exact KrsRest.zero fun h tk F N => done _ _ h tk hj F N
    | succ k ih =>
      intro i m' nw e hm hj off
      refine KrsRest.succ rfl fun t h tk F N => ?_
      rw [hm.eq] at F
      exact wpAny_mono (turn i _ nw t h tk (by omega) hj off F N) (fun f s₂ hf => unrPost_mono hf fun m'' nw' off' hr => ih (i + 1) m'' nw' (by omega) hr.1 hr.2 off') fun _ _ e => e
  exact all n 0 m₀ news (by omega) Over.refl h0 off0
/-- a for over a written range that is not by ones, by an invariant -/
theorem krs_loop {r : Addr} {a₀ b₀ c : Int} {t₀ u₀ v₀ : Tok} (n : Nat) {m₀ : Str → Option Value} {news : List (Addr × Obj)} (xs : List Str)
    (hh : A.handled = none) (hr : IsRange s.heap r a₀ b₀ c t₀ u₀ v₀) (hsmall : Builtin.Range.small a₀ b₀ c = true) (hn : Builtin.Range.rangeSize a₀ b₀ c = (n : Int)) (F : Fr h₀ env.locals s.heap m₀) (N : News h₀ env.locals s.heap news)
    (J : Nat → List (Addr × Obj) → Prop) (h0 : J 0 news)
    (turn : ∀ I i u nw t h tk, (∀ p ∈ news, p.1 < I) → i < n → J i nw → (∀ p ∈ nw, p.1 ≠ I) → Fr h₀ env.locals h (fun y => if y = x then some (.int (a₀ + (i : Int) * c) t) else over xs u m₀ y) →
      News h₀ env.locals h ((I, krsIt (a₀ + ((i + 1 : Nat) : Int) * c) ((n : Int) - ((i + 1 : Nat) : Int)) c) :: nw) →
      wpAny (model prog w) A (execs body env) (UnrPost h₀ env.locals { s with heap := h, toks := tk } I (krsIt (a₀ + ((i + 1 : Nat) : Int) * c) ((n : Int) - ((i + 1 : Nat) : Int)) c) (fun m' nw' => Over xs m₀ m' ∧ J (i + 1) nw') Q) E { s with heap := h, toks := tk })
    (done : ∀ u nw h tk, J n nw → Fr h₀ env.locals h (over xs u m₀) → News h₀ env.locals h nw → Q .next { s with heap := h, toks := tk }) :
    wpAny (model prog w) A (pyIter (.ref r)) (fun it s₂ => LoopAtV prog w A h₀ env x body Q E it s₂) E s :=
  krs_iter hh hr hsmall hn F N fun I hI => krs_inv xs J h0 (fun p hp => Nat.ne_of_lt (hI p hp)) (fun i u nw t h tk => turn I i u nw t h tk hI) done
theorem range_loop {r : Addr} {a₀ b₀ : Int} {t₀ u₀ v₀ : Tok} (n : Nat) {m₀ : Str → Option Value} {news : List (Addr × Obj)} (xs : List Str)
    (hh : A.handled = none) (hr : IsRange s.heap r a₀ b₀ 1 t₀ u₀ v₀) (hsmall : Builtin.Range.small a₀ b₀ 1 = true) (hn : Builtin.Range.rangeSize a₀ b₀ 1 = (n : Int)) (F : Fr h₀ env.locals s.heap m₀) (N : News h₀ env.locals s.heap news)
    (J : Nat → List (Addr × Obj) → Prop) (h0 : J 0 news)
    (turn : ∀ I i u nw t h tk, (∀ p ∈ news, p.1 < I) → i < n → J i nw → (∀ p ∈ nw, p.1 ≠ I) → Fr h₀ env.locals h (fun y => if y = x then some (.int (a₀ + (i : Int)) t) else over xs u m₀ y) →
      News h₀ env.locals h ((I, itR (a₀ + ((i + 1 : Nat) : Int)) ((n : Int) - ((i + 1 : Nat) : Int))) :: nw) →
      wpAny (model prog w) A (execs body env) (UnrPost h₀ env.locals { s with heap := h, toks := tk } I (itR (a₀ + ((i + 1 : Nat) : Int)) ((n : Int) - ((i + 1 : Nat) : Int))) (fun m' nw' => Over xs m₀ m' ∧ J (i + 1) nw') Q) E { s with heap := h, toks := tk })
    (done : ∀ u nw h tk, J n nw → Fr h₀ env.locals h (over xs u m₀) → News h₀ env.locals h nw → Q .next { s with heap := h, toks := tk }) :
    wpAny (model prog w) A (pyIter (.ref r)) (fun it s₂ => LoopAtV prog w A h₀ env x body Q E it s₂) E s :=
  iter_rangeUnr hh hr hsmall hn F N fun I hI => range_inv xs J h0 (fun p hp => Nat.ne_of_lt (hI p hp)) (fun i u nw t h tk => turn I i u nw t h tk hI) done
end
end Mine

namespace Mine
section
variable {prog : Program} {w : World} {A : Around} {E : Value → Shared → Prop} {s : Shared} {h₀ : Heap} {L : Addr} {m : Str → Option Value} {env : Env}
theorem list_src {elt iter : Expr} {a : Str} {pa : Pos} {scope : Scope} {cl : List (Str × Addr)} {pos : Pos} {Q : Value → Shared → Prop} {l1 : Addr} {xs : Array Value} {k1 n : Nat} {news : List (Addr × Obj)}
    (hh : A.handled = none) (F : Fr h₀ L s.heap m) (N : News h₀ L s.heap news) (m1 : (l1, W.listOf xs k1) ∈ news)
    (z1 : xs.size = n) (hsz : n ≤ sizeLine) (hcell : ∀ y ∈ scope.names, y.2 ≠ .cell) (hkind : scope.kind = .function) (hxa : scope.names.lookup a = some .local)
    (J : Nat → List Value → List (Addr × Obj) → Prop) (h0 : J 0 [] news) (hlen : ∀ i ys nw, J i ys nw → ys.length ≤ i)
    (turn : ∀ i zs nw x C oC D m₂ h tk own wr (E' : Value → Shared → Prop), i < n → J i zs nw → xs[i]? = some x → LCg.NsObj oC m₂ → m₂ a = some x → Fr h₀ L h m → News h₀ L h (own ++ ((C, oC) :: (D, LCg.lst zs) :: nw)) →
      (∀ c ∈ wr, ∃ o, (c, o) ∈ own) → (∀ p ∈ nw, p.1 ∉ wr ∧ p.1 ≠ C ∧ p.1 ≠ D) → (@Ne Nat C D) →
      wpAny (model prog w) A (eval elt (compEnvC scope cl C env)) (PairEnd h₀ L m wr { s with heap := h, toks := tk } own C oC D (LCg.lst zs) (fun z nw' => J (i + 1) (zs ++ [z]) nw')) E' { s with heap := h, toks := tk })
    (fin : ∀ D h tk zs nw, Fr h₀ L h m → News h₀ L h ((D, LCg.lst zs) :: nw) → (∀ p ∈ nw, p.1 ≠ D) → J n zs nw → Q (.ref D) { s with heap := h, toks := tk }) :
    wpAny (model prog w) A (pyIter (.ref l1)) (fun it s₂ =>
      compIt (model prog w) A E (.ListComp elt [⟨.Name a pa, iter, [], 0⟩] scope pos) scope cl env Q it s₂) E s := by
  have t1 : s.heap.IsList l1 xs := ⟨_, (N _ m1).1, rfl, _, rfl⟩
  have lt1 : l1 < s.heap.objs.size := Heap.lt_size (N _ m1).1
  have hLs : L < s.heap.objs.size := F.ns.lt
  have fresh : ∀ c, s.heap.objs.size ≤ c → h₀.get? c = none := fun c hc => by
    cases e : h₀.get? c with
    | none => rfl
    | some o => exact absurd (Heap.lt_size (F.keep _ _ e)) (Nat.not_lt.mpr hc)
  refine wpAny_pyIter_list t1 ?_
  generalize hg : s.heap.push { cls := .type "list_iterator", data := .fields #[.ref l1, .int 0 0] } = g
  have hk : ∀ c o, s.heap.get? c = some o → g.get? c = some o := fun c o e => hg ▸ Heap.get?_push_of_some _ e
  have hI : g.get? s.heap.objs.size = some { cls := .type "list_iterator", data := .fields #[.ref l1, .int 0 0] } := hg ▸ Heap.get?_push_size _ rfl
  have hne : l1 ≠ s.heap.objs.size := Nat.ne_of_lt lt1
  have W := KTurns.ofWalks (target := .Name a pa) (Walks.list (prog := prog) (w := w) (A := A) hh s.heap.objs.size l1 hne xs) fun i v s Q E st q => letGo_listiter st.1 q
  rw [z1] at W
  refine cp_block1 (s₂ := { s with heap := g }) (PP := fun i x => xs[i]? = some x) W hsz (fun _ _ _ hp => hp) ?_ ?_ ?_ ?_ ?_ hcell hkind hxa hh ?_ (F.keeps hk) (N.grown hk) ?_ J h0 hlen ?_ ?_
  · intro s' Q' E' st hq
    exact (Walks.list (prog := prog) (w := w) (A := A) hh s.heap.objs.size l1 hne xs).self 0 s' Q' E' st hq
  · intro c hc
    rw [List.mem_singleton.mp hc]
    exact fresh _ (Nat.le_refl _)
  · intro c hc
    show c < g.objs.size
    rcases List.mem_cons.mp hc with rfl | hc
    · exact Heap.lt_size hI
    · rw [List.mem_singleton.mp hc]; exact Heap.lt_size (hk _ _ (N _ m1).1)
  · intro hc
    rcases List.mem_cons.mp hc with e | hc
    · exact absurd e (Nat.ne_of_lt hLs)
    · exact (N _ m1).2.1 (List.mem_singleton.mp hc).symm
  · rintro i h ⟨⟨o, e, _⟩, _⟩ c hc
    rw [List.mem_singleton.mp hc]
    exact ⟨o, e⟩
  · exact ⟨⟨_, hI, rfl, rfl⟩, t1.at fun o e => hk _ _ e⟩
  · intro p hp hc
    exact absurd (List.mem_singleton.mp hc) (Nat.ne_of_lt (Heap.lt_size (N p hp).1))
  · intro i zs nw x C oC D m₂ h tk own E' hi hJ hx hC ha F' N' hw off hne
    exact turn i zs nw x C oC D m₂ h tk own _ E' hi hJ hx hC ha F' N' hw off hne
  · intro D C h tk m' zs nw F' N' o1 hn hC₀ hCL hCD offC hJ
    refine ⟨m', hn, fun h'' hs'' => fin D h'' tk zs nw (F'.change hs'' hCL hC₀) (fun p hp => ?_) o1 hJ⟩
    refine ⟨hs''.extBut _ _ ?_ (N' p hp).1, (N' p hp).2⟩
    rcases List.mem_cons.mp hp with rfl | hp
    · exact Ne.symm hCD
    · exact offC p hp
end
end Mine
namespace Mine
section
variable {prog : Program} {w : World} {A : Around} {E : Value → Shared → Prop} {Q : Flow → Shared → Prop} {s : Shared} {env : Env}
/-- a while by an invariant over the whole state -/
theorem While_sh {test : Expr} {body : List Stmt} {pos : Pos} (I : Nat → Shared → Prop) (n₀ : Nat) (h0 : I n₀ s)
    (turn : ∀ n s', I n s' → wpAny (model prog w) A (isTrue test env (eval test env)) (fun b s₂ =>
        if b = true then wpAny (model prog w) A (execs body env) (fun f s₃ => f = .next ∧ ∃ n', n' < n ∧ I n' s₃) E s₂ else Q .next s₂) E s')
    (hE : PassesOwn (model prog w) A env E := by passes_own) :
    wpAny (model prog w) A (exec (.While test body [] pos) env) Q E s := by
  refine wpAny_While (codeAny_whileLoop I ?_ n₀ h0)
  rintro n s' hI
  refine wpAny_mono (turn n s' hI) (fun b s₂ h₂ => ?_) hE
  cases b with
  | false =>
    simp only [Bool.false_eq_true, if_false] at h₂ ⊢
    exact wpAny_execs_nil h₂
  | true =>
    simp only [if_true] at h₂ ⊢
    refine wpAny_mono h₂ (fun f s₃ h₃ => ?_) hE
    obtain ⟨rfl, n', hn, hI'⟩ := h₃
    exact ⟨n', hn, hI'⟩
end
noncomputable def mulm (a b p : Int) (c d : Nat → Int) : Nat → Int := fun i => (mulF a b c d i).fmod p
noncomputable def powG (a b p : Int) : Nat → (Nat → Int) → (Nat → Int) → Nat → Int
  | 0, o, _ => o
  | 1, o, t => mulm a b p o t
  | _, o, t => mulm a b p o (mulm a b p t t)
def oneC (p : Int) : Nat → Int := fun i => (([1, 0, 0, 0, 0, 0, 0, 0, 0, 0, 0, 0] : List Int).getD i 0).fmod p
/-- small enough to be multiplied -/
def Sm (c : Nat → Int) : Prop := ∀ i, i < 12 → Builtin.Int.intBits (c i) ≤ 1000000
theorem Sm.mul {c d : Nat → Int} (h : Sm c) (k : Sm d) : ∀ i j, i < 12 → j < 12 → IntMulOk (c i) (d j) := fun i j hi hj => IntMulOk.of_le (h i hi) (k j hj) (by decide)
end Mine
namespace Mine
theorem Over.three {a b c : Str} {va vb vc : Option Value} {m m' : Str → Option Value} (h : Over [a, b, c] m m') (ha : m' a = va) (hb : m' b = vb) (hc : m' c = vc) : m' = fun y => if y = a then va else if y = b then vb else if y = c then vc else m y := by
  funext y
  by_cases h1 : y = a
  · subst h1; simp [ha]
  · by_cases h2 : y = b
    · subst h2; simp [h1, hb]
    · by_cases h3 : y = c
      · subst h3; simp [h1, h2, hc]
      · simp only [if_neg h1, if_neg h2, if_neg h3]
        exact h y (by simp [h1, h2, h3])
theorem Over.three' {a b c : Str} {va vb vc : Option Value} {m : Str → Option Value} : Over [a, b, c] m fun y => if y = a then va else if y = b then vb else if y = c then vc else m y := fun z hz => by
  have h : z ≠ a ∧ z ≠ b ∧ z ≠ c := by simpa using hz
  simp only [if_neg h.1, if_neg h.2.1, if_neg h.2.2]
theorem news_assoc1 {h₀ h : Heap} {L : Addr} {a : Addr × Obj} {t1 t6 n : List (Addr × Obj)} (N : News h₀ L h (a :: (t1 ++ (t6 ++ n)))) : News h₀ L h (a :: ((t1 ++ t6) ++ n)) := by rw [List.append_assoc]; exact N
theorem news_assoc2 {h₀ h : Heap} {L : Addr} {a : Addr × Obj} {t2 t1 t6 n : List (Addr × Obj)} (N : News h₀ L h (a :: (t2 ++ (t1 ++ (t6 ++ n))))) : News h₀ L h (a :: ((t2 ++ (t1 ++ t6)) ++ n)) := by rw [List.append_assoc, List.append_assoc]; exact N
theorem above_assoc1 {a : Addr × Obj} {t2 t1 t6 n : List (Addr × Obj)} (N : Above t2 (a :: (t1 ++ (t6 ++ n)))) : Above t2 (a :: ((t1 ++ t6) ++ n)) := by rw [List.append_assoc]; exact N
theorem led44 {tl news : List (Addr × Obj)} {o : Obj} (h : Above tl ((44, o) :: news)) (k : ∀ q ∈ news, q.1 ≠ 44) : ∀ q ∈ tl ++ news, q.1 ≠ 44 := fun q hq => (List.mem_append.mp hq).elim (fun hq => h q hq _ List.mem_cons_self) (k q)
theorem Above.app44 {tl tl' news : List (Addr × Obj)} {o o' o'' : Obj} (h : Above tl' ((44, o) :: (tl ++ news))) (k : Above tl ((44, o') :: news)) : Above (tl' ++ tl) ((44, o'') :: news) := fun p hp q hq => by
  rcases List.mem_append.mp hp with hp | hp
  · rcases List.mem_cons.mp hq with rfl | hq
    · exact h p hp (44, o) List.mem_cons_self
    · exact h p hp q (List.mem_cons_of_mem _ (List.mem_append_right _ hq))
  · rcases List.mem_cons.mp hq with rfl | hq
    · exact k p hp (44, o') List.mem_cons_self
    · exact k p hp q (List.mem_cons_of_mem _ hq)
theorem Above.obj44 {tl news : List (Addr × Obj)} {o o' : Obj} (h : Above tl ((44, o) :: news)) : Above tl ((44, o') :: news) := fun p hp q hq => by
  rcases List.mem_cons.mp hq with rfl | hq
  · exact h p hp (44, o) List.mem_cons_self
  · exact h p hp q (List.mem_cons_of_mem _ hq)
theorem intBits_fmod {p : Int} (hp : 0 < p) {m : Nat} (h : Builtin.Int.intBits p ≤ m) (a : Int) : Builtin.Int.intBits (a.fmod p) ≤ m := intBits_le_of_natAbs (natAbs_fmod_le a p (by omega)) h
theorem Sm.fmod {p : Int} (hp : 0 < p) (h : Builtin.Int.intBits p ≤ 1000000) (f : Nat → Int) : Sm fun i => (f i).fmod p := fun i _ => intBits_fmod hp h (f i)
end Mine
namespace Mine
inductive PowI (w : World) (h₀ : Heap) (L : Addr) (m₀ : Str → Option Value) (xa xb xc : Str) (news : List (Addr × Obj)) (M : Addr) (ma mb p : Int) (s : Shared) (n : Nat) (co ct : Nat → Int) (s' : Shared) : Prop
  | mk (h : Heap) (tk : Nat) (gs : Array GenState) (ps : Array Value) (tl : List (Addr × Obj)) (xo xt : Addr) (tn : Tok) (h1 : s' = { s with heap := h, toks := tk, gens := gs }) (h2 : TriplesOk ps.toList) (h3 : AllBare gs) (h4 : Fr h₀ L h (fun y => if y = xa then some (.ref xo) else if y = xb then some (.ref xt) else if y = xc then some (.int (n : Int) tn) else m₀ y)) (h5 : News h₀ L h ((44, tabO ps) :: (tl ++ news))) (h6 : Above tl ((44, tabO ps) :: news)) (h7 : Fq w tl M ma mb p xo co) (h8 : Fq w (tl ++ news) M ma mb p xt ct) (h9 : Sm co) (h10 : Sm ct) : PowI w h₀ L m₀ xa xb xc news M ma mb p s n co ct s'
theorem PowI.intro {w : World} {h₀ : Heap} {L : Addr} {m₀ : Str → Option Value} {xa xb xc : Str} {news : List (Addr × Obj)} {M : Addr} {ma mb p : Int} {s : Shared} {n : Nat} {co ct : Nat → Int} {h : Heap} {tk : Nat} {gs : Array GenState} {ps : Array Value} {m' : Str → Option Value}
    (tl : List (Addr × Obj)) {xo xt : Addr} {tn : Tok} (t : TriplesOk ps.toList) (G : AllBare gs) (F : Fr h₀ L h m') (N : News h₀ L h ((44, tabO ps) :: (tl ++ news))) (A : Above tl ((44, tabO ps) :: news)) (ov : Over [xa, xb, xc] m₀ m')
    (ha : m' xa = some (.ref xo)) (hb : m' xb = some (.ref xt)) (hc : m' xc = some (.int (n : Int) tn)) (fo : Fq w tl M ma mb p xo co) (ft : Fq w (tl ++ news) M ma mb p xt ct) (so : Sm co) (st : Sm ct) :
    PowI w h₀ L m₀ xa xb xc news M ma mb p s n co ct { s with heap := h, toks := tk, gens := gs } :=
  ⟨h, tk, gs, ps, tl, xo, xt, tn, rfl, t, G, (Over.three ov ha hb hc) ▸ F, N, A, fo, ft, so, st⟩
def PowTurn (w : World) (h₀ : Heap) (L : Addr) (m₀ : Str → Option Value) (xa xb xc : Str) (news : List (Addr × Obj)) (M : Addr) (ma mb p : Int) (s : Shared) (k : Nat) (co ct : Nat → Int) (f : Flow) (s₃ : Shared) : Prop :=
  f = .next ∧ ∃ k' co2 ct2, k' < k ∧ powG ma mb p k' co2 ct2 = powG ma mb p k co ct ∧ PowI w h₀ L m₀ xa xb xc news M ma mb p s k' co2 ct2 s₃
section
variable {prog : Program} {w : World} {A : Around} {E : Value → Shared → Prop} {Q : Flow → Shared → Prop} {s : Shared} {env : Env}
theorem While_pow {test : Expr} {body : List Stmt} {pos : Pos} (xa xb xc : Str) {h₀ : Heap} {m₀ : Str → Option Value} {M : Addr} {ma mb p : Int} (news tl : List (Addr × Obj)) {n : Nat} {co ct : Nat → Int} {ps : Array Value} {xo xt : Addr} {tn : Tok}
    (t : TriplesOk ps.toList) (G : AllBare s.gens) (F : Fr h₀ env.locals s.heap m₀) (N : News h₀ env.locals s.heap ((44, tabO ps) :: (tl ++ news))) (Ab : Above tl ((44, tabO ps) :: news))
    (ha : m₀ xa = some (.ref xo)) (hb : m₀ xb = some (.ref xt)) (hc : m₀ xc = some (.int (n : Int) tn)) (fo : Fq w tl M ma mb p xo co) (ft : Fq w (tl ++ news) M ma mb p xt ct) (so : Sm co) (st : Sm ct) (hn : n ≤ 2)
    (turn : ∀ k (co' ct' : Nat → Int) s', k ≤ 2 → powG ma mb p k co' ct' = powG ma mb p n co ct → PowI w h₀ env.locals m₀ xa xb xc news M ma mb p s k co' ct' s' →
      wpAny (model prog w) A (isTrue test env (eval test env)) (fun b s₂ =>
        if b = true then wpAny (model prog w) A (execs body env) (PowTurn w h₀ env.locals m₀ xa xb xc news M ma mb p s k co' ct') E s₂
        else Q .next s₂) E s') (hE : PassesOwn (model prog w) A env E := by passes_own) :
    wpAny (model prog w) A (exec (.While test body [] pos) env) Q E s := by
  refine While_sh (fun k s' => ∃ co' ct', k ≤ 2 ∧ powG ma mb p k co' ct' = powG ma mb p n co ct ∧ PowI w h₀ env.locals m₀ xa xb xc news M ma mb p s k co' ct' s') n
    ⟨co, ct, hn, rfl, PowI.intro tl t G F N Ab Over.refl ha hb hc fo ft so st⟩ ?_ hE
  rintro k s' ⟨co', ct', hk, he, hI⟩
  refine wpAny_mono (turn k co' ct' s' hk he hI) (fun b s₂ h₂ => ?_) fun _ _ e => e
  cases b with
  | false => simpa using h₂
  | true =>
    simp only [if_true] at h₂ ⊢
    refine wpAny_mono h₂ (fun f s₃ h₃ => ?_) fun _ _ e => e
    obtain ⟨rfl, k', co2, ct2, hlt, he2, hI2⟩ := h₃
    exact ⟨rfl, k', hlt, co2, ct2, by omega, he2.trans he, hI2⟩
end
end Mine
open PySem PySem.Spec PySem.Calls PyProof.Rows PySem.W
set_option Elab.async false
set_option autoImplicit false
set_option maxRecDepth 100000
set_option maxHeartbeats 8000000
namespace Mine
section
variable {prog : Program} {w : World} {A : Around} {E : Value → Shared → Prop} {s : Shared} {h₀ : Heap} {L D : Addr} {m : Str → Option Value} {news news' : List (Addr × Obj)} {vs : List Value} {n : Nat} {k : Int} {t : Tok}
/-- an item of a ledger list at a known place -/
theorem ref_item {value slice : PySem.Expr} {i : Nat} {v : Value} {Q : Value → Shared → Prop} (N : News h₀ L s.heap news) (hm : (D, W.listOf vs.toArray n) ∈ news) (hx : vs[i]? = some v) (hk : k = (i : Nat)) (hfit : k < 2 ^ 63) (h : Q v s)
    (hs : subscripted slice false (.ref D) (.int k t) = operate [.ref D, .int k t] (getItem (.ref D) (.int k t)) := by with_unfolding_all rfl) :
    wpAny (model prog w) A (subscriptTail value slice (.ref D) (.int k t)) Q E s := by
  have hl : s.heap.IsList D vs.toArray := ⟨_, (N _ hm).1, rfl, _, rfl⟩
  subst hk
  refine tail_any hl.typeIs PySem.F.slot_list_getitem.lookup (wpAny_getItem_list hl (by omega) hfit (by simpa using hx) h) hs
/-- a store into a ledger list at a known place -/
theorem ref_set {i : Nat} {v : Value} {Q : Unit → Shared → Prop} (F : Fr h₀ L s.heap m) (N : News h₀ L s.heap news) (U : Upd D (W.listOf vs.toArray n) (W.listOf (vs.set i v).toArray n) news news') (hk : k = (i : Nat)) (hi : i < vs.length) (hfit : k < 2 ^ 63)
    (h : ∀ h', Fr h₀ L h' m → News h₀ L h' news' → Q () { s with heap := h' }) :
    wpAny (model prog w) A (setItem (.ref D) (.int k t) v) Q E s := by
  obtain ⟨pre, post, rfl, rfl, a, b⟩ := U.split
  have z := N (D, W.listOf vs.toArray n) (List.mem_append.mpr (.inr (.head _)))
  have hs : vs.toArray.size = vs.length := List.size_toArray
  subst hk
  have e : ((i : Nat) : Int).toNat = i := by omega
  refine ki_setAt z.1 (by omega) hfit (by omega) (h _ (F.change (Heap.SameBut.update ..) z.2.1 z.2.2) (ki_turn _ N a b ?_ ?_))
  · rw [e]
    apply Array.toList_inj.mp
    simp
  · simp
end
theorem Prs.set {nw nw' : List (Addr × Obj)} {ys : List Value} {n : Nat} {a b : Nat → Int} (h : Prs nw ys n a b) (s : ∀ p ∈ nw, p ∈ nw') {i : Nat} (_hi : i < n) {t : Addr} {x y : Int} {u u' : Tok} (m : (t, tupO x u y u') ∈ nw') :
    Prs nw' (ys.set i (.ref t)) n (upd a i x) (upd b i y) := by
  refine ⟨by rw [List.length_set, h.1], fun j hj => ?_⟩
  by_cases e : i = j
  · subst e
    refine ⟨t, u, u', ?_, ?_⟩
    · rw [List.getElem?_set]; simp [h.1, hj]
    · simpa [upd] using m
  · obtain ⟨t', v, v', e', m'⟩ := h.2 j hj
    refine ⟨t', v, v', ?_, ?_⟩
    · rw [List.getElem?_set]; simp [e, e']
    · have : ¬ j = i := fun q => e q.symm
      simpa [upd, this] using s _ m'
section
variable {prog : Program} {w : World} {A : Around} {E : Value → Shared → Prop} {s : Shared} {h₀ : Heap} {L : Addr} {m : Str → Option Value} {env : Env}
theorem range_src {elt iter : Expr} {a : Str} {pa : Pos} {scope : Scope} {cl : List (Str × Addr)} {pos : Pos} {Q : Value → Shared → Prop} {r : Addr} {lo hi : Int} {t u v : Tok} {n : Nat} {news : List (Addr × Obj)}
    (hh : A.handled = none) (F : Fr h₀ L s.heap m) (N : News h₀ L s.heap news) (hr : IsRange s.heap r lo hi 1 t u v) (hsm : Builtin.Range.small lo hi 1 = true) (hn : Builtin.Range.rangeSize lo hi 1 = ((n : Nat) : Int))
    (hsz : n ≤ sizeLine) (hcell : ∀ y ∈ scope.names, y.2 ≠ .cell) (hkind : scope.kind = .function) (hxa : scope.names.lookup a = some .local)
    (J : Nat → List Value → List (Addr × Obj) → Prop) (h0 : J 0 [] news) (hlen : ∀ i ys nw, J i ys nw → ys.length ≤ i)
    (turn : ∀ i zs nw u C oC D m₂ h tk own wr (E' : Value → Shared → Prop), i < n → J i zs nw → LCg.NsObj oC m₂ → m₂ a = some (.int (lo + (i : Int)) u) → Fr h₀ L h m → News h₀ L h (own ++ ((C, oC) :: (D, LCg.lst zs) :: nw)) →
      (∀ c ∈ wr, ∃ o, (c, o) ∈ own) → (∀ p ∈ nw, p.1 ∉ wr ∧ p.1 ≠ C ∧ p.1 ≠ D) → (@Ne Nat C D) →
      wpAny (model prog w) A (eval elt (compEnvC scope cl C env)) (PairEnd h₀ L m wr { s with heap := h, toks := tk } own C oC D (LCg.lst zs) (fun z nw' => J (i + 1) (zs ++ [z]) nw')) E' { s with heap := h, toks := tk })
    (fin : ∀ D h tk zs nw, Fr h₀ L h m → News h₀ L h ((D, LCg.lst zs) :: nw) → (∀ p ∈ nw, p.1 ≠ D) → J n zs nw → Q (.ref D) { s with heap := h, toks := tk }) :
    wpAny (model prog w) A (pyIter (.ref r)) (fun it s₂ =>
      compIt (model prog w) A E (.ListComp elt [⟨.Name a pa, iter, [], 0⟩] scope pos) scope cl env Q it s₂) E s := by
  have hLs : L < s.heap.objs.size := F.ns.lt
  have fresh : ∀ c, s.heap.objs.size ≤ c → h₀.get? c = none := fun c hc => by
    cases e : h₀.get? c with
    | none => rfl
    | some o => exact absurd (Heap.lt_size (F.keep _ _ e)) (Nat.not_lt.mpr hc)
  refine wpAny_pyIter_range hr hsm ?_
  have hI : IsRangeIter (s.heap.push { cls := .type "range_iterator", data := .fields #[rawInt lo, rawInt (Builtin.Range.rangeSize lo hi 1), rawInt 1] }) s.heap.objs.size (lo + ((0 : Nat) : Int) * 1) ((n : Int) - ((0 : Nat) : Int)) 1 := by
    show IsRangeIter _ _ _ _ _; rw [hn]; simpa using Heap.get?_push_size _ rfl
  revert hI
  generalize hg : s.heap.push { cls := .type "range_iterator", data := .fields #[rawInt lo, rawInt (Builtin.Range.rangeSize lo hi 1), rawInt 1] } = g
  intro hI
  have hk : ∀ c o, s.heap.get? c = some o → g.get? c = some o := fun c o e => hg ▸ Heap.get?_push_of_some _ e
  have W := KTurns.ofWalks (target := .Name a pa) (LCg.range_walks (prog := prog) (w := w) (A := A) (I := s.heap.objs.size) hh lo n) fun i v s Q E st q => wpAny_of_eq (show letOwnedTupleGo (.Name a pa) _ v = pure () from rfl) q
  refine cp_block1 (s₂ := { s with heap := g }) (PP := fun i x => ∃ u, x = .int (lo + (i : Int)) u) W hsz (fun _ _ _ hp => hp) ?_ ?_ ?_ ?_ ?_ hcell hkind hxa hh ?_ (F.keeps hk) (N.grown hk) ?_ J h0 hlen ?_ ?_
  · intro s' Q' E' st hq
    exact (LCg.range_walks (prog := prog) (w := w) (A := A) (I := s.heap.objs.size) hh lo n).self 0 s' Q' E' st hq
  · intro c hc
    rw [List.mem_singleton.mp hc]
    exact fresh _ (Nat.le_refl _)
  · intro c hc
    show c < g.objs.size
    rw [List.mem_singleton.mp hc]
    exact Heap.lt_size hI
  · intro hc
    exact absurd (List.mem_singleton.mp hc) (Nat.ne_of_lt hLs)
  · rintro i h st c hc
    rw [List.mem_singleton.mp hc]
    exact ⟨_, st⟩
  · exact hI
  · intro p hp hc
    exact absurd (List.mem_singleton.mp hc) (Nat.ne_of_lt (Heap.lt_size (N p hp).1))
  · rintro i zs nw x C oC D m₂ h tk own E' hi hJ ⟨u, rfl⟩ hC ha F' N' hw off hne
    exact turn i zs nw u C oC D m₂ h tk own _ E' hi hJ hC ha F' N' hw off hne
  · intro D C h tk m' zs nw F' N' o1 hn hC₀ hCL hCD offC hJ
    refine ⟨m', hn, fun h'' hs'' => fin D h'' tk zs nw (F'.change hs'' hCL hC₀) (fun p hp => ?_) o1 hJ⟩
    refine ⟨hs''.extBut _ _ ?_ (N' p hp).1, (N' p hp).2⟩
    rcases List.mem_cons.mp hp with rfl | hp
    · exact Ne.symm hCD
    · exact offC p hp
end
/-- sums over rows, as the product of pairs is added up -/
noncomputable def rowT (v : Nat → Int) (j : Nat) (f : Nat → Int) : Nat → Nat → Int
  | 0 => f
  | k + 1 => upd (rowT v j f k) (j + k) (rowT v j f k (j + k) + v k)
noncomputable def rowsT (V : Nat → Nat → Int) : Nat → Nat → Int
  | 0 => fun _ => 0
  | j + 1 => rowT (V j) j (rowsT V j) 6
def fdR (sh : Int) (f g : Nat → Int) (t : Nat) : Nat → Int := fun k => if k < t then f k + sh * f (k + 6) - g (k + 6) else f k
def fdI (sh : Int) (f g : Nat → Int) (t : Nat) : Nat → Int := fun k => if k < t then g k + f (k + 6) + sh * g (k + 6) else g k
theorem fdR_step {sh : Int} {f g : Nat → Int} {t : Nat} (h : t < 5) : upd (fdR sh f g t) t (fdR sh f g t t + sh * fdR sh f g t (t + 6) - fdI sh f g t (t + 6)) = fdR sh f g (t + 1) := by
  funext k
  unfold upd fdR fdI
  by_cases e : k = t
  · subst e
    have h1 : ¬ k + 6 < k := by omega
    simp [h1]
  · by_cases e2 : k < t
    · have : k < t + 1 := by omega
      simp [e, e2, this]
    · have : ¬ k < t + 1 := by omega
      simp [e, e2, this]
theorem fdI_step {sh : Int} {f g : Nat → Int} {t : Nat} (h : t < 5) : upd (fdI sh f g t) t (fdI sh f g t t + fdR sh f g t (t + 6) + sh * fdI sh f g t (t + 6)) = fdI sh f g (t + 1) := by
  funext k
  unfold upd fdR fdI
  by_cases e : k = t
  · subst e
    have h1 : ¬ k + 6 < k := by omega
    simp [h1]
  · by_cases e2 : k < t
    · have : k < t + 1 := by omega
      simp [e, e2, this]
    · have : ¬ k < t + 1 := by omega
      simp [e, e2, this]
noncomputable def tmR (a b a' b' : Nat → Int) : Nat → Int := rowsT (fun j k => a j * a' k - b j * b' k) 6
noncomputable def tmI (a b a' b' : Nat → Int) : Nat → Int := rowsT (fun j k => a j * b' k + b j * a' k) 6
/-- pairs small enough to be multiplied -/
def Sp (a b : Nat → Int) : Prop := ∀ i, i < 6 → Builtin.Int.intBits (a i) ≤ 50000000 ∧ Builtin.Int.intBits (b i) ≤ 50000000
theorem Sp.mul {a b a' b' : Nat → Int} (h : Sp a b) (k : Sp a' b') {i j : Nat} (hi : i < 6) (hj : j < 6) : IntMulOk (a i) (a' j) ∧ IntMulOk (b i) (b' j) ∧ IntMulOk (a i) (b' j) ∧ IntMulOk (b i) (a' j) :=
  ⟨IntMulOk.of_le (h i hi).1 (k j hj).1 (by decide), IntMulOk.of_le (h i hi).2 (k j hj).2 (by decide), IntMulOk.of_le (h i hi).1 (k j hj).2 (by decide), IntMulOk.of_le (h i hi).2 (k j hj).1 (by decide)⟩
theorem allNe_cell {d : Addr} {o : Obj} {l : List (Addr × Obj)} (h : AllLt d l) : ∀ p ∈ (d + 1, o) :: l, p.1 ≠ d + 1 + 1 := all_cons (Nat.ne_of_lt (Nat.lt_succ_self _)) (allNe2 h)
inductive ItemAt (vs : List Value) (k : Int) (v : Value) : Prop
  | mk (i : Nat) (h1 : k = (i : Int)) (h2 : i < 1000000) (h3 : vs[i]? = some v) : ItemAt vs k v
theorem item_at {prog : Program} {w : World} {A : Around} {E : Value → Shared → Prop} {s : Shared} {h₀ : Heap} {L D : Addr} {news : List (Addr × Obj)} {vs : List Value} {n : Nat} {k : Int} {t : Tok} {value slice : PySem.Expr} {v : Value} {Q : Value → Shared → Prop}
    (N : News h₀ L s.heap news) (hm : (D, W.listOf vs.toArray n) ∈ news) (hx : ItemAt vs k v) (h : Q v s)
    (hs : subscripted slice false (.ref D) (.int k t) = operate [.ref D, .int k t] (getItem (.ref D) (.int k t)) := by with_unfolding_all rfl) :
    wpAny (model prog w) A (subscriptTail value slice (.ref D) (.int k t)) Q E s := by
  obtain ⟨i, e, hi, hx⟩ := hx
  exact ref_item N hm hx e (by omega) h hs
theorem prs_at {nw : List (Addr × Obj)} {ys : List Value} {n : Nat} {a b : Nat → Int} (h : Prs nw ys n a b) {i : Nat} (hi : i < n) (hn : n < 1000) {k : Int} (hk : k = (i : Int)) : Yc2 (fun (t : Addr) (u : Tok) (u' : Tok) => ItemAt ys k (.ref t)) (fun (t : Addr) (u : Tok) (u' : Tok) => (t, tupO (a i) u (b i) u') ∈ nw) := by
  obtain ⟨t, u, u', e, m⟩ := h.2 i hi
  exact ⟨t, u, u', ⟨i, hk, by omega, e⟩, m⟩
/-- the list of pairs that is added up -/
inductive TotJ (D : Addr) (R : List (Addr × Obj)) (f g : Nat → Int) (nw : List (Addr × Obj)) : Prop
  | mk (ts : _) (k : _) (tl : _) (h1 : nw = (D, W.listOf (List.toArray ts) k) :: (tl ++ R)) (h2 : ∀ q ∈ tl ++ R, q.1 ≠ D) (h3 : Above tl R) (h4 : Prs (tl ++ R) ts 11 f g) : TotJ D R f g nw
/-- one place of it changed -/
theorem TotJ.intro {D t : Addr} {R tl : List (Addr × Obj)} {f g : Nat → Int} {ts : List Value} {k i : Nat} {x y : Int} {u u' : Tok} (hP : Prs (tl ++ R) ts 11 f g) (hi : i < 11) (hA : Above tl R) (ht : AllLt t (tl ++ R)) (hd : @LT.lt Nat _ D t) (hD : ∀ q ∈ tl ++ R, q.1 ≠ D) :
    TotJ D R (upd f i x) (upd g i y) ((D, W.listOf (List.toArray (ts.set i (.ref t))) k) :: ((t, tupO x u y u') :: tl ++ R)) :=
  ⟨_, _, (t, tupO x u y u') :: tl, rfl, all_cons (Nat.ne_of_gt hd) hD, Above.cons (fun q hq => Nat.ne_of_lt (allLt_mem ht q (List.mem_append_right _ hq))) hA, hP.set (fun _ h => List.mem_cons_of_mem _ h) hi (List.Mem.head _)⟩
theorem sub_tot {a b c : Addr × Obj} {tl R : List (Addr × Obj)} : ∀ p ∈ c :: (a :: tl ++ R), p ∈ a :: b :: c :: (tl ++ R) := by repeat' (first | exact sub_nil | exact fun _ h => h | exact subL | exact List.Mem.head _ | refine sub_cons ?_ ?_ | refine sub_app ?_ ?_ | refine subT ?_ | refine subR ?_ | refine List.Mem.tail _ ?_ | refine List.mem_append_right _ ?_)
theorem sub_out {a b : Addr × Obj} {tl R : List (Addr × Obj)} : ∀ p ∈ b :: (tl ++ R), p ∈ b :: (tl ++ a :: R) := by repeat' (first | exact sub_nil | exact fun _ h => h | exact subL | exact List.Mem.head _ | refine sub_cons ?_ ?_ | refine sub_app ?_ ?_ | refine subT ?_ | refine subR ?_ | refine List.Mem.tail _ ?_ | refine List.mem_append_right _ ?_)
theorem above_into {I : Addr} {oI : Obj} {tl R : List (Addr × Obj)} (h : Above tl R) (k : ∀ q ∈ tl ++ R, q.1 ≠ I) : Above tl ((I, oI) :: R) := fun p hp q hq => by
  rcases List.mem_cons.mp hq with rfl | hq
  · exact k p (List.mem_append_left _ hp)
  · exact h p hp q hq
theorem off_out {I D : Addr} {o oI : Obj} {tl tl' R : List (Addr × Obj)} (h : Above tl' ((I, oI) :: R)) (k : ∀ q ∈ tl ++ R, q.1 ≠ I) (hD : @Ne Nat D I) : ∀ q ∈ (D, o) :: (tl' ++ R), q.1 ≠ I := fun q hq => by
  rcases List.mem_cons.mp hq with rfl | hq
  · exact hD
  · rcases List.mem_append.mp hq with hq | hq
    · exact h q hq _ List.mem_cons_self
    · exact k q (List.mem_append_right _ hq)
theorem rep_at {α : Type} (x : α) : ∀ n j, j < n → ((List.replicate n [x]).flatten)[j]? = some x
  | 0, _, h => absurd h (Nat.not_lt_zero _)
  | _ + 1, 0, _ => rfl
  | n + 1, j + 1, h => rep_at x n j (Nat.lt_of_succ_lt_succ h)
theorem prs_zero {D : Addr} {u u' : Tok} {l : List (Addr × Obj)} (h : (D, tupO 0 u 0 u') ∈ l) : Prs l (List.replicate (Int.toNat 11) [Value.ref D]).flatten 11 (fun _ => 0) (fun _ => 0) :=
  ⟨rfl, fun j hj => ⟨D, u, u', rep_at _ 11 j hj, h⟩⟩
theorem led_into {h₀ h : Heap} {L D I : Addr} {o oI : Obj} {tl R : List (Addr × Obj)} (N : News h₀ L h ((I, oI) :: (D, o) :: (tl ++ R))) : News h₀ L h ((D, o) :: (tl ++ ((I, oI) :: R))) := news_of N (by repeat' (first | exact sub_nil | exact fun _ h => h | exact subL | exact List.Mem.head _ | refine sub_cons ?_ ?_ | refine sub_app ?_ ?_ | refine subT ?_ | refine subR ?_ | refine List.Mem.tail _ ?_ | refine List.mem_append_right _ ?_))
theorem ne_into {D I : Addr} {oI : Obj} {tl R : List (Addr × Obj)} (h : ∀ q ∈ tl ++ R, q.1 ≠ D) (hI : @Ne Nat I D) : ∀ q ∈ tl ++ ((I, oI) :: R), q.1 ≠ D := fun q hq => by
  simp only [List.mem_cons, List.mem_append] at hq
  rcases hq with hq | rfl | hq
  · exact h q (List.mem_append_left _ hq)
  · exact hI
  · exact h q (List.mem_append_right _ hq)
theorem sub_into {a : Addr × Obj} {tl R : List (Addr × Obj)} : ∀ q ∈ tl ++ R, q ∈ tl ++ (a :: R) := by repeat' (first | exact sub_nil | exact fun _ h => h | exact subL | exact List.Mem.head _ | refine sub_cons ?_ ?_ | refine sub_app ?_ ?_ | refine subT ?_ | refine subR ?_ | refine List.Mem.tail _ ?_ | refine List.mem_append_right _ ?_)
theorem led_cut {h₀ h : Heap} {L D : Addr} {o : Obj} {R : List (Addr × Obj)} (N : News h₀ L h ((D, o) :: R)) (hD : ∀ q ∈ R, q.1 ≠ D) :
    Y4 (fun (R' : List (Addr × Obj)) => R' = R) (fun (R' : List (Addr × Obj)) => News h₀ L h ((D, o) :: R')) (fun (R' : List (Addr × Obj)) => ∀ q ∈ R', q.1 ≠ D) (fun (R' : List (Addr × Obj)) => ∀ q ∈ R, q ∈ R') := ⟨R, rfl, N, hD, fun _ h => h⟩
section
variable {prog : Program} {w : World} {A : Around} {E : Value → Shared → Prop} {s : Shared} {h₀ : Heap} {L t : Addr} {news : List (Addr × Obj)} {x y : Int} {u u' ti : Tok} {value slice : PySem.Expr} {Q : Value → Shared → Prop}
theorem pair_fst (N : News h₀ L s.heap news) (hm : (t, tupO x u y u') ∈ news) (h : Q (.int x u) s)
    (hs : subscripted slice false (.ref t) (.int 0 ti) = operate [.ref t, .int 0 ti] (getItem (.ref t) (.int 0 ti)) := by with_unfolding_all rfl) :
    wpAny (model prog w) A (subscriptTail value slice (.ref t) (.int 0 ti)) Q E s :=
  item_tupleT (l := [.int x u, .int y u']) (j := 0) ⟨_, (N _ hm).1, rfl, _, rfl⟩ (by decide) (by decide) rfl rfl h hs
theorem pair_snd (N : News h₀ L s.heap news) (hm : (t, tupO x u y u') ∈ news) (h : Q (.int y u') s)
    (hs : subscripted slice false (.ref t) (.int 1 ti) = operate [.ref t, .int 1 ti] (getItem (.ref t) (.int 1 ti)) := by with_unfolding_all rfl) :
    wpAny (model prog w) A (subscriptTail value slice (.ref t) (.int 1 ti)) Q E s :=
  item_tupleT (l := [.int x u, .int y u']) (j := 1) ⟨_, (N _ hm).1, rfl, _, rfl⟩ (by decide) (by decide) rfl rfl h hs
end
theorem Prs.drop {I : Addr} {x l : Int} {tl R : List (Addr × Obj)} {ys : List Value} {n : Nat} {a b : Nat → Int} (h : Prs (tl ++ (I, itR x l) :: R) ys n a b) : Prs (tl ++ R) ys n a b :=
  ⟨h.1, fun j hj => by
    obtain ⟨t, u, u', e, m⟩ := h.2 j hj
    refine ⟨t, u, u', e, ?_⟩
    simp only [List.mem_append, List.mem_cons] at m ⊢
    rcases m with m | m | m
    · exact .inl m
    · have q := congrArg (fun p : Addr × Obj => p.2.cls) m
      simp [itR] at q
    · exact .inr m⟩
theorem tot_end {h₀ h' : Heap} {L : Addr} {s₁ : Shared} {I D t : Addr} {it : Obj} {tl R : List (Addr × Obj)} {ts : List Value} {f g f' g' : Nat → Int} {k i tk : Nat} {x y : Int} {u u' : Tok} {m' : Str → Option Value} {P : (Str → Option Value) → Prop}
    (F : Fr h₀ L h' m') (N : News h₀ L h' ((t, tupO x u y u') :: (I, it) :: (D, W.listOf (ts.set i (.ref t)).toArray k) :: (tl ++ R))) (l : @LT.lt Nat _ I t ∧ @LT.lt Nat _ D t ∧ AllLt t (tl ++ R)) (o21 : @Ne Nat D I) (off2 : ∀ q ∈ tl ++ R, q.1 ≠ I)
    (hP : Prs (tl ++ R) ts 11 f g) (hi : i < 11) (hA : Above tl R) (hD : ∀ q ∈ tl ++ R, q.1 ≠ D) (ef : upd f i x = f') (eg : upd g i y = g') (r : P m') :
    UnrEnd h₀ L s₁ I it (fun m nw => P m ∧ TotJ D R f' g' nw) { s₁ with heap := h', toks := tk } := by
  subst ef eg
  exact unr_end _ F N (List.Mem.tail _ (List.Mem.head _)) sub_tot (all_cons o21 (all_cons (Nat.ne_of_gt l.1) off2)) ⟨r, TotJ.intro hP hi hA l.2.2 l.2.1 hD⟩
theorem fdR_zero (sh : Int) (f g : Nat → Int) : fdR sh f g 0 = f := by funext k; simp [fdR]
theorem fdI_zero (sh : Int) (f g : Nat → Int) : fdI sh f g 0 = g := by funext k; simp [fdI]
/-- a comprehension's element that is a new pair -/
theorem pair_end {h₀ h' : Heap} {L C D a : Addr} {m : Str → Option Value} {wr : List Addr} {s₁ : Shared} {own tl NN : List (Addr × Obj)} {oC oD : Obj} {zs : List Value} {i : Nat} {f g : Nat → Int} {x y : Int} {u u' : Tok} {tk : Nat}
    (F : Fr h₀ L h' m) (N : News h₀ L h' ((a, tupO x u y u') :: (C, oC) :: (D, oD) :: (own ++ (tl ++ NN)))) (l : @LT.lt Nat _ C a ∧ @LT.lt Nat _ D a ∧ AllLt a (own ++ (tl ++ NN))) (off : ∀ p ∈ tl ++ NN, p.1 ∉ wr ∧ p.1 ≠ C ∧ p.1 ≠ D) (hw : ∀ c ∈ wr, ∃ o, (c, o) ∈ own)
    (hA : Above tl NN) (hP : Prs tl zs i f g) (ex : x = f i) (ey : y = g i) :
    PairEnd h₀ L m wr s₁ own C oC D oD (fun z nw' => TlP NN nw' (zs ++ [z]) (i + 1) f g) (.ref a) { s₁ with heap := h', toks := tk } :=
  pairEnd_new F N off hw (all_cons (Nat.ne_of_lt l.1) (all_cons (Nat.ne_of_lt l.2.1) (allNe_of l.2.2)))
    ⟨(a, tupO x u y u') :: tl, rfl, Above.cons (fun q hq => Nat.ne_of_lt (allLt_mem l.2.2 q (List.mem_append_right _ (List.mem_append_right _ hq)))) hA, hP.snoc (fun _ h => List.mem_cons_of_mem _ h) (List.Mem.head _) ex ey⟩
theorem mem_own {α : Type} {x : α} {own tl NN : List α} (h : x ∈ NN) : x ∈ own ++ (tl ++ NN) := List.mem_append_right _ (List.mem_append_right _ h)
theorem above_lst {D : Addr} {o : Obj} {tl NN news : List (Addr × Obj)} (h : ∀ p ∈ tl ++ NN, p.1 ≠ D) (A : Above tl NN) (s : ∀ q ∈ news, q ∈ NN) : Above ((D, o) :: tl) news :=
  Above.cons (fun q hq => h q (List.mem_append_right _ (s q hq))) (A.sub s)
theorem news_lst {h₀ h : Heap} {L : Addr} {a : Addr × Obj} {tl NN news : List (Addr × Obj)} (N : News h₀ L h (a :: (tl ++ NN))) (s : ∀ q ∈ news, q ∈ NN) : News h₀ L h (a :: tl ++ news) := fun p hp => N p (by
  simp only [List.mem_cons, List.mem_append, List.cons_append] at hp ⊢
  rcases hp with h | h | h
  · exact .inl h
  · exact .inr (.inl h)
  · exact .inr (.inr (s p h)))
theorem led_name {h₀ h : Heap} {L : Addr} {a : Addr × Obj} {R : List (Addr × Obj)} (N : News h₀ L h (a :: R)) : Y4 (fun (NN : List (Addr × Obj)) => NN = a :: R) (fun (NN : List (Addr × Obj)) => News h₀ L h NN) (fun (NN : List (Addr × Obj)) => a ∈ NN) (fun (NN : List (Addr × Obj)) => ∀ q ∈ R, q ∈ NN) := ⟨_, rfl, N, List.mem_cons_self, fun _ h => List.mem_cons_of_mem _ h⟩
end Mine
open PySem PySem.Spec PySem.Calls PyProof.Rows PySem.W
set_option Elab.async false
set_option autoImplicit false
set_option maxRecDepth 100000
set_option maxHeartbeats 8000000
namespace Mine
abbrev tup2 (x y : Value) : Obj := { cls := .type "tuple", data := .seq #[x, y] }
/-- the pairs and the twelve coefficients tell the same element -/
def Rel (sh p : Int) (a b c : Nat → Int) : Prop := ∀ i, i < 6 → c i = (a i - sh * b i).fmod p ∧ c (i + 6) = (b i).fmod p
def Bd (n : Nat) (a b : Nat → Int) : Prop := ∀ i, i < 6 → Builtin.Int.intBits (a i) ≤ n ∧ Builtin.Int.intBits (b i) ≤ n
theorem Bd.sp {n : Nat} {a b : Nat → Int} (h : Bd n a b) (hn : n ≤ 50000000) : Sp a b := fun i hi => ⟨Nat.le_trans (h i hi).1 hn, Nat.le_trans (h i hi).2 hn⟩
/-- a row on the ledger -/
inductive RowAt (w : World) (nw : List (Addr × Obj)) (M : Addr) (ma mb p : Int) (r : Addr) (a b c : Nat → Int) : Prop
  | mk (l x : Addr) (ys : List Value) (k : Nat) (h1 : (r, tup2 (.ref l) (.ref x)) ∈ nw) (h2 : (l, W.listOf ys.toArray k) ∈ nw) (h3 : Prs nw ys 6 a b) (h4 : Fq w nw M ma mb p x c) : RowAt w nw M ma mb p r a b c
theorem RowAt.mono {w : World} {nw nw' : List (Addr × Obj)} {M : Addr} {ma mb p : Int} {r : Addr} {a b c : Nat → Int} (h : RowAt w nw M ma mb p r a b c) (s : ∀ q ∈ nw, q ∈ nw') : RowAt w nw' M ma mb p r a b c :=
  let ⟨l, x, ys, k, h1, h2, h3, h4⟩ := h
  ⟨l, x, ys, k, s _ h1, s _ h2, h3.mono s, h4.mono s⟩
inductive RowOk (w : World) (nw : List (Addr × Obj)) (M : Addr) (ma mb p sh : Int) (B : Nat) (v : Value) : Prop
  | mk (r : _) (a : _) (b : _) (c : _) (h1 : v = .ref r) (h2 : RowAt w nw M ma mb p r a b c) (h3 : Rel sh p a b c) (h4 : Bd B a b) (h5 : Sm c) : RowOk w nw M ma mb p sh B v
theorem RowOk.mono {w : World} {nw nw' : List (Addr × Obj)} {M : Addr} {ma mb p sh : Int} {B : Nat} {v : Value} (h : RowOk w nw M ma mb p sh B v) (s : ∀ q ∈ nw, q ∈ nw') : RowOk w nw' M ma mb p sh B v :=
  let ⟨r, a, b, c, e, h1, h2, h3, h4⟩ := h
  ⟨r, a, b, c, e, h1.mono s, h2, h3, h4⟩
section
variable {prog : Program} {w : World} {A : Around} {E : Value → Shared → Prop} {s : Shared} {h₀ : Heap} {L t : Addr} {news : List (Addr × Obj)} {x y : Value} {ti : Tok} {value slice : PySem.Expr} {Q : Value → Shared → Prop}
theorem tup_fst (N : News h₀ L s.heap news) (hm : (t, tup2 x y) ∈ news) (h : Q x s)
    (hs : subscripted slice false (.ref t) (.int 0 ti) = operate [.ref t, .int 0 ti] (getItem (.ref t) (.int 0 ti)) := by with_unfolding_all rfl) :
    wpAny (model prog w) A (subscriptTail value slice (.ref t) (.int 0 ti)) Q E s :=
  item_tupleT (l := [x, y]) (j := 0) ⟨_, (N _ hm).1, rfl, _, rfl⟩ (by decide) (by decide) rfl rfl h hs
theorem tup_snd (N : News h₀ L s.heap news) (hm : (t, tup2 x y) ∈ news) (h : Q y s)
    (hs : subscripted slice false (.ref t) (.int 1 ti) = operate [.ref t, .int 1 ti] (getItem (.ref t) (.int 1 ti)) := by with_unfolding_all rfl) :
    wpAny (model prog w) A (subscriptTail value slice (.ref t) (.int 1 ti)) Q E s :=
  item_tupleT (l := [x, y]) (j := 1) ⟨_, (N _ hm).1, rfl, _, rfl⟩ (by decide) (by decide) rfl rfl h hs
end
theorem rot44 {h₀ h : Heap} {L : Addr} {a b : Addr × Obj} {tl R : List (Addr × Obj)} (N : News h₀ L h (a :: (tl ++ b :: R))) : News h₀ L h (b :: a :: (tl ++ R)) := news_of N (by repeat' (first | exact sub_nil | exact fun _ h => h | exact subL | exact List.Mem.head _ | refine sub_cons ?_ ?_ | refine sub_app ?_ ?_ | refine subT ?_ | refine subR ?_ | refine List.Mem.tail _ ?_ | refine List.mem_append_right _ ?_))
theorem ne44 {D : Addr} {o o4 : Obj} {tl R : List (Addr × Obj)} (off : ∀ q ∈ tl ++ (44, o4) :: R, q.1 ≠ D) (A : Above tl ((44, o4) :: R)) (H : ∀ q ∈ R, q.1 ≠ 44) : ∀ q ∈ (D, o) :: (tl ++ R), q.1 ≠ 44 := fun q hq => by
  rcases List.mem_cons.mp hq with rfl | hq
  · exact (off (44, o4) (List.mem_append_right _ List.mem_cons_self)).symm
  · rcases List.mem_append.mp hq with hq | hq
    · exact A q hq _ List.mem_cons_self
    · exact H q hq
theorem len_led {prog : Program} {w : World} {A : Around} {E : Value → Shared → Prop} {s : Shared} {h₀ : Heap} {L D : Addr} {news : List (Addr × Obj)} {vs : List Value} {k n : Nat} {Q : Value → Shared → Prop} (N : News h₀ L s.heap news) (hm : (D, W.listOf vs.toArray k) ∈ news) (hn : vs.length = n) (hf : n < 2 ^ 62)
    (h : Q (.int (n : Nat) (s.toks + 1)) { s with toks := s.toks + 1 + 1 }) : wpAny (model prog w) A (call (.builtin "len") [.ref D]) Q E s := by
  have hl : s.heap.IsList D vs.toArray := ⟨_, (N _ hm).1, rfl, _, rfl⟩
  have e : vs.toArray.size = n := by rw [List.size_toArray]; exact hn
  refine Calls.call_len_list hl (by omega) ?_
  rw [e]
  exact h
theorem row_pick {w : World} {nw : List (Addr × Obj)} {M : Addr} {ma mb p sh : Int} {B n : Nat} {vs : List Value} (hn0 : 0 < n) (hn4 : n ≤ 4) (hrow : ∀ i, i < n → ∃ v, vs[i]? = some v ∧ RowOk w nw M ma mb p sh B v) (x : Int) :
    Y2 (fun (v : Value) => ItemAt vs (x.fmod (n : Int)) v) (fun (v : Value) => RowOk w nw M ma mb p sh B v) := by
  have h1 := Int.fmod_nonneg_of_pos x (show (0 : Int) < (n : Int) by omega)
  have h2 := Int.fmod_lt_of_pos x (show (0 : Int) < (n : Int) by omega)
  obtain ⟨v, e, h⟩ := hrow (x.fmod (n : Int)).toNat (by omega)
  exact ⟨v, ⟨_, by omega, by omega, e⟩, h⟩
def Mark : Prop := True
/-- a comprehension's element that is a new pair (the layer's own form) -/
theorem comp_pair_end {h₀ h' : Heap} {L I C D a : Addr} {m : Str → Option Value} {s₁ : Shared} {tl NN : List (Addr × Obj)} {oI oC oD : Obj} {zs : List Value} {i : Nat} {f g : Nat → Int} {x y : Int} {u u' : Tok} {tk : Nat}
    (F : Fr h₀ L h' m) (N : News h₀ L h' ((a, tupO x u y u') :: (I, oI) :: (C, oC) :: (D, oD) :: (tl ++ NN))) (l : @LT.lt Nat _ I a ∧ @LT.lt Nat _ C a ∧ @LT.lt Nat _ D a ∧ AllLt a (tl ++ NN)) (off : LCg.Off3 I C D (tl ++ NN))
    (hA : Above tl NN) (hP : Prs tl zs i f g) (ex : x = f i) (ey : y = g i) :
    LCg.CompEnd h₀ L m s₁ I oI C oC D oD (fun _ => True) (fun z nw' => TlP NN nw' (zs ++ [z]) (i + 1) f g) (.ref a) { s₁ with heap := h', toks := tk } :=
  compEnd_new F N off l trivial ⟨(a, tupO x u y u') :: tl, rfl, Above.cons (fun q hq => Nat.ne_of_lt (allLt_mem l.2.2.2 q (List.mem_append_right _ hq))) hA, hP.snoc (fun _ h => List.mem_cons_of_mem _ h) (List.Mem.head _) ex ey⟩
theorem off1_all {D : Addr} {l : List (Addr × Obj)} (h : LCg.Off1 D l) : ∀ p ∈ l, p.1 ≠ D := off1_mem h
/-- the deed's end: the new row's ledger -/
theorem deed_news {h₀ h : Heap} {L r Dl : Addr} {o2 oR oD : Obj} {tl2 tl' NN news : List (Addr × Obj)} (N : News h₀ L h ((r, oR) :: (44, o2) :: (tl2 ++ ((Dl, oD) :: (tl' ++ NN))))) (sN : ∀ q ∈ news, q ∈ NN) :
    News h₀ L h ((44, o2) :: (((r, oR) :: (tl2 ++ ((Dl, oD) :: tl'))) ++ news)) := fun p hp => N p (by
  simp only [List.mem_cons, List.mem_append, List.cons_append] at hp ⊢
  rcases hp with h | h | (h | h | h) | h
  · simp [h]
  · simp [h]
  · simp [h]
  · simp [h]
  · simp [h]
  · simp [sN p h])
theorem deed_above {r Dl : Addr} {o2 o4 oR oD : Obj} {tl2 tl' NN news : List (Addr × Obj)} (l : @LT.lt Nat _ 44 r ∧ AllLt r (tl2 ++ ((Dl, oD) :: (tl' ++ NN)))) (A2 : Above tl2 ((44, o2) :: ((Dl, oD) :: (tl' ++ NN)))) (off : ∀ q ∈ tl' ++ (44, o4) :: NN, q.1 ≠ Dl)
    (A1 : Above tl' ((44, o4) :: NN)) (sN : ∀ q ∈ news, q ∈ NN) : Above ((r, oR) :: (tl2 ++ ((Dl, oD) :: tl'))) ((44, o2) :: news) := by
  refine Above.cons (all_cons (Nat.ne_of_lt l.1) fun q hq => Nat.ne_of_lt (allLt_mem l.2 q (List.mem_append_right _ (List.mem_cons_of_mem _ (List.mem_append_right _ (sN q hq)))))) ?_
  intro p hp q hq
  rcases List.mem_append.mp hp with hp | hp
  · rcases List.mem_cons.mp hq with rfl | hq
    · exact A2 p hp (44, o2) List.mem_cons_self
    · exact A2 p hp q (List.mem_cons_of_mem _ (List.mem_cons_of_mem _ (List.mem_append_right _ (sN q hq))))
  · rcases List.mem_cons.mp hp with rfl | hp
    · rcases List.mem_cons.mp hq with rfl | hq
      · exact (off (44, o4) (List.mem_append_right _ List.mem_cons_self)).symm
      · exact (off q (List.mem_append_right _ (List.mem_cons_of_mem _ (sN q hq)))).symm
    · rcases List.mem_cons.mp hq with rfl | hq
      · exact A1 p hp (44, o4) List.mem_cons_self
      · exact A1 p hp q (List.mem_cons_of_mem _ (sN q hq))
theorem deed_row {w : World} {M : Addr} {ma mb p sh : Int} {B : Nat} {r Dl x : Addr} {tl2 tl' : List (Addr × Obj)} {zs : List Value} {k : Nat} {a b c : Nat → Int} (hP : Prs tl' zs 6 a b) (f : Fq w tl2 M ma mb p x c) (hR : Rel sh p a b c) (hB : Bd B a b) (hS : Sm c) :
    RowOk w ((r, tup2 (.ref Dl) (.ref x)) :: (tl2 ++ ((Dl, W.listOf zs.toArray k) :: tl'))) M ma mb p sh B (.ref r) :=
  ⟨r, a, b, c, rfl, ⟨Dl, x, zs, k, List.Mem.head _, List.mem_cons_of_mem _ (List.mem_append_right _ (List.Mem.head _)), hP.mono fun _ h => List.mem_cons_of_mem _ (List.mem_append_right _ (List.mem_cons_of_mem _ h)),
    f.mono fun _ h => List.mem_cons_of_mem _ (List.mem_append_left _ h)⟩, hR, hB, hS⟩
/-- the code table first, the rest named -/
theorem name44 {h₀ h : Heap} {L : Addr} {e a b c d : Addr × Obj} {news : List (Addr × Obj)} (N : News h₀ L h (e :: a :: b :: c :: d :: news)) : Y6 (fun (NN : List (Addr × Obj)) => NN = e :: a :: b :: c :: news) (fun (NN : List (Addr × Obj)) => News h₀ L h (d :: NN)) (fun (NN : List (Addr × Obj)) => a ∈ NN) (fun (NN : List (Addr × Obj)) => b ∈ NN) (fun (NN : List (Addr × Obj)) => c ∈ NN) (fun (NN : List (Addr × Obj)) => ∀ q ∈ news, q ∈ NN) :=
  ⟨_, rfl, news_rot4 N, by simp, by simp, by simp, fun q hq => by simp [hq]⟩
theorem lt6 : ∀ n : Nat, n < 6 → (n : Int) = 0 ∨ (n : Int) = 1 ∨ (n : Int) = 2 ∨ (n : Int) = 3 ∨ (n : Int) = 4 ∨ (n : Int) = 5 := by decide
theorem fmod6 (z : Int) : z.fmod 6 = 0 ∨ z.fmod 6 = 1 ∨ z.fmod 6 = 2 ∨ z.fmod 6 = 3 ∨ z.fmod 6 = 4 ∨ z.fmod 6 = 5 := by
  obtain ⟨n, hn⟩ := Int.eq_ofNat_of_zero_le (Int.fmod_nonneg_of_pos z (show (0 : Int) < 6 by decide))
  have h2 := Int.fmod_lt_of_pos z (show (0 : Int) < 6 by decide)
  rw [hn] at h2 ⊢
  exact lt6 n (Int.ofNat_lt.mp h2)
theorem allNe_cell3 {d : Addr} {o o' : Obj} {l : List (Addr × Obj)} (h : AllLt d l) : ∀ p ∈ (d + 1 + 1, o) :: (d + 1, o') :: l, p.1 ≠ d + 1 + 1 + 1 :=
  all_cons (Nat.ne_of_lt (Nat.lt_succ_self _)) (all_cons (Nat.ne_of_lt (Nat.lt_succ_of_lt (Nat.lt_succ_self _))) fun p hp => Nat.ne_of_lt (Nat.lt_succ_of_lt (Nat.lt_succ_of_lt (Nat.lt_succ_of_lt (allLt_mem h p hp)))))
theorem rot44' {h₀ h : Heap} {L : Addr} {b : Addr × Obj} {tl R : List (Addr × Obj)} (N : News h₀ L h (tl ++ b :: R)) : News h₀ L h (b :: (tl ++ R)) := news_of N (by repeat' (first | exact sub_nil | exact fun _ h => h | exact subL | exact List.Mem.head _ | refine sub_cons ?_ ?_ | refine sub_app ?_ ?_ | refine subT ?_ | refine subR ?_ | refine List.Mem.tail _ ?_ | refine List.mem_append_right _ ?_))
theorem ne44' {o4 : Obj} {tl R : List (Addr × Obj)} (A : Above tl ((44, o4) :: R)) (H : ∀ q ∈ R, q.1 ≠ 44) : ∀ q ∈ tl ++ R, q.1 ≠ 44 := fun q hq => (List.mem_append.mp hq).elim (fun hq => A q hq _ List.mem_cons_self) (H q)
theorem deed_news2 {h₀ h : Heap} {L r : Addr} {o2 oR : Obj} {tl2 tl' NN news : List (Addr × Obj)} (N : News h₀ L h ((r, oR) :: (44, o2) :: (tl2 ++ (tl' ++ NN)))) (sN : ∀ q ∈ news, q ∈ NN) :
    News h₀ L h ((44, o2) :: (((r, oR) :: (tl2 ++ tl')) ++ news)) := fun p hp => N p (by
  simp only [List.mem_cons, List.mem_append, List.cons_append] at hp ⊢
  rcases hp with h | h | (h | h) | h
  · simp [h]
  · simp [h]
  · simp [h]
  · simp [h]
  · simp [sN p h])
theorem deed_above2 {r : Addr} {o2 o4 oR : Obj} {tl2 tl' NN news : List (Addr × Obj)} (l : @LT.lt Nat _ 44 r ∧ AllLt r (tl2 ++ (tl' ++ NN))) (A2 : Above tl2 ((44, o2) :: (tl' ++ NN)))
    (A1 : Above tl' ((44, o4) :: NN)) (sN : ∀ q ∈ news, q ∈ NN) : Above ((r, oR) :: (tl2 ++ tl')) ((44, o2) :: news) := by
  refine Above.cons (all_cons (Nat.ne_of_lt l.1) fun q hq => Nat.ne_of_lt (allLt_mem l.2 q (List.mem_append_right _ (List.mem_append_right _ (sN q hq))))) ?_
  intro p hp q hq
  rcases List.mem_append.mp hp with hp | hp
  · rcases List.mem_cons.mp hq with rfl | hq
    · exact A2 p hp (44, o2) List.mem_cons_self
    · exact A2 p hp q (List.mem_cons_of_mem _ (List.mem_append_right _ (sN q hq)))
  · rcases List.mem_cons.mp hq with rfl | hq
    · exact A1 p hp (44, o4) List.mem_cons_self
    · exact A1 p hp q (List.mem_cons_of_mem _ (sN q hq))
theorem deed_row2 {w : World} {M : Addr} {ma mb p sh : Int} {B : Nat} {r Dl x : Addr} {tl2 tl' : List (Addr × Obj)} {zs : List Value} {k : Nat} {a b c : Nat → Int} (hm : (Dl, W.listOf zs.toArray k) ∈ tl') (hP : Prs tl' zs 6 a b) (f : Fq w tl2 M ma mb p x c) (hR : Rel sh p a b c) (hB : Bd B a b) (hS : Sm c) :
    RowOk w ((r, tup2 (.ref Dl) (.ref x)) :: (tl2 ++ tl')) M ma mb p sh B (.ref r) :=
  ⟨r, a, b, c, rfl, ⟨Dl, x, zs, k, List.Mem.head _, List.mem_cons_of_mem _ (List.mem_append_right _ hm), hP.mono fun _ h => List.mem_cons_of_mem _ (List.mem_append_right _ h),
    f.mono fun _ h => List.mem_cons_of_mem _ (List.mem_append_left _ h)⟩, hR, hB, hS⟩
theorem Fq.right {w : World} {tl NN : List (Addr × Obj)} {o : Obj} {M : Addr} {a b p : Int} {x : Addr} {c : Nat → Int} (_A : Above tl ((44, o) :: NN)) (f : Fq w NN M a b p x c) : Fq w (tl ++ NN) M a b p x c := f.mono fun _ h => List.mem_append_right _ h
theorem mul_z {n : Nat} {a b : Nat → Int} {z : Int} (D : Bd n a b) {i : Nat} (hi : i < 6) (hn : n ≤ 3000000) (hz : Builtin.Int.intBits z ≤ 1100000) : IntMulOk (a i) z ∧ IntMulOk (b i) z :=
  ⟨IntMulOk.of_le (Nat.le_trans (D i hi).1 hn) hz (by decide), IntMulOk.of_le (Nat.le_trans (D i hi).2 hn) hz (by decide)⟩
theorem times_bits {z : Int} (h : Builtin.Int.intBits z ≤ 1048576) : Builtin.Int.intBits (z.fdiv 60 - 40) ≤ 1100000 :=
  Nat.le_trans (intBits_sub_le (intBits_fdiv_le h) (show Builtin.Int.intBits 40 ≤ 64 by decide)) (by decide)
theorem Sm.muli {c : Nat → Int} {z : Int} (h : Sm c) (hz : Builtin.Int.intBits z ≤ 1100000) : ∀ i, i < 12 → IntMulOk (c i) z := fun i hi => IntMulOk.of_le (h i hi) hz (by decide)
theorem unrot44 {h₀ h : Heap} {L : Addr} {e a b c d : Addr × Obj} {news : List (Addr × Obj)} (N : News h₀ L h (d :: e :: a :: b :: c :: news)) : News h₀ L h (e :: a :: b :: c :: d :: news) := news_of N (by repeat' (first | exact sub_nil | exact fun _ h => h | exact subL | exact List.Mem.head _ | refine sub_cons ?_ ?_ | refine sub_app ?_ ?_ | refine subT ?_ | refine subR ?_ | refine List.Mem.tail _ ?_ | refine List.mem_append_right _ ?_))
end Mine
open PySem PySem.Spec PySem.Calls PyProof.Rows PySem.W
set_option Elab.async false
set_option autoImplicit false
set_option maxRecDepth 100000
set_option maxHeartbeats 8000000
namespace Mine
/-- the same behind the prime -/
def Cg (p x y : Int) : Prop := ∃ k, x = y + p * k
namespace Cg
variable {p x y x' y' z : Int}
theorem refl : Cg p x x := ⟨0, by rw [Int.mul_zero, Int.add_zero]⟩
theorem of_eq (h : x = y) : Cg p x y := h ▸ refl
theorem symm (h : Cg p x y) : Cg p y x := let ⟨k, e⟩ := h; ⟨-k, by rw [e, Int.mul_neg]; omega⟩
theorem trans (h : Cg p x y) (k : Cg p y z) : Cg p x z := let ⟨a, e⟩ := h; let ⟨b, f⟩ := k; ⟨b + a, by rw [e, f, Int.mul_add]; omega⟩
theorem add (h : Cg p x y) (k : Cg p x' y') : Cg p (x + x') (y + y') := let ⟨a, e⟩ := h; let ⟨b, f⟩ := k; ⟨a + b, by rw [e, f, Int.mul_add]; omega⟩
theorem neg (h : Cg p x y) : Cg p (-x) (-y) := let ⟨a, e⟩ := h; ⟨-a, by rw [e, Int.mul_neg]; omega⟩
theorem sub (h : Cg p x y) (k : Cg p x' y') : Cg p (x - x') (y - y') := by rw [Int.sub_eq_add_neg, Int.sub_eq_add_neg]; exact h.add k.neg
theorem mul (h : Cg p x y) (k : Cg p x' y') : Cg p (x * x') (y * y') := by
  obtain ⟨a, rfl⟩ := h; obtain ⟨b, rfl⟩ := k
  refine ⟨a * y' + y * b + p * (a * b), ?_⟩
  grind
theorem mod (hp : 0 < p) : Cg p (x.fmod p) x := by
  refine ⟨-(x / p), ?_⟩
  rw [Int.fmod_eq_emod_of_nonneg _ (Int.le_of_lt hp), Int.mul_neg]
  have := Int.emod_add_mul_ediv x p
  omega
theorem eq (hp : 0 < p) (h : Cg p x y) : x.fmod p = y.fmod p := by
  obtain ⟨k, rfl⟩ := h
  rw [Int.fmod_eq_emod_of_nonneg _ (Int.le_of_lt hp), Int.fmod_eq_emod_of_nonneg _ (Int.le_of_lt hp), Int.add_mul_emod_self_left]
end Cg
section
variable {sh p : Int} {a b c a' b' c' : Nat → Int}
theorem Rel.lo (hp : 0 < p) (h : Rel sh p a b c) {i : Nat} (hi : i < 6) : Cg p (c i) (a i - sh * b i) := by rw [(h i hi).1]; exact Cg.mod hp
theorem Rel.hi (hp : 0 < p) (h : Rel sh p a b c) {i : Nat} (hi : i < 6) : Cg p (c (i + 6)) (b i) := by rw [(h i hi).2]; exact Cg.mod hp
theorem rel_add (hp : 0 < p) (h : Rel sh p a b c) (k : Rel sh p a' b' c') : Rel sh p (fun i => a i + a' i) (fun i => b i + b' i) (fun i => (c i + c' i).fmod p) := fun i hi =>
  ⟨Cg.eq hp (((h.lo hp hi).add (k.lo hp hi)).trans (Cg.of_eq (by show _ = _ + _ - sh * (_ + _); rw [Int.mul_add]; omega))), Cg.eq hp ((h.hi hp hi).add (k.hi hp hi))⟩
theorem rel_sub (hp : 0 < p) (h : Rel sh p a b c) (k : Rel sh p a' b' c') : Rel sh p (fun i => a i - a' i) (fun i => b i - b' i) (fun i => (c i - c' i).fmod p) := fun i hi =>
  ⟨Cg.eq hp (((h.lo hp hi).sub (k.lo hp hi)).trans (Cg.of_eq (by show _ = _ - _ - sh * (_ - _); rw [Int.mul_sub]; omega))), Cg.eq hp ((h.hi hp hi).sub (k.hi hp hi))⟩
theorem rel_neg (hp : 0 < p) (h : Rel sh p a b c) : Rel sh p (fun i => -(a i)) (fun i => -(b i)) (fun i => (-(c i)).fmod p) := fun i hi =>
  ⟨Cg.eq hp ((h.lo hp hi).neg.trans (Cg.of_eq (by show _ = -_ - sh * (-_); rw [Int.mul_neg]; omega))), Cg.eq hp (h.hi hp hi).neg⟩
theorem rel_muli (hp : 0 < p) (h : Rel sh p a b c) (z : Int) : Rel sh p (fun i => a i * z) (fun i => b i * z) (fun i => (c i * z).fmod p) := fun i hi =>
  ⟨Cg.eq hp (((h.lo hp hi).mul Cg.refl).trans (Cg.of_eq (by rw [Int.sub_mul, Int.mul_assoc]))), Cg.eq hp ((h.hi hp hi).mul Cg.refl)⟩
theorem Bd.add {n : Nat} (h : Bd n a b) (k : Bd n a' b') : Bd (n + 1100000) (fun i => a i + a' i) (fun i => b i + b' i) := fun i hi =>
  ⟨Nat.le_trans (intBits_add_le (h i hi).1 (k i hi).1) (by omega), Nat.le_trans (intBits_add_le (h i hi).2 (k i hi).2) (by omega)⟩
theorem Bd.sub {n : Nat} (h : Bd n a b) (k : Bd n a' b') : Bd (n + 1100000) (fun i => a i - a' i) (fun i => b i - b' i) := fun i hi =>
  ⟨Nat.le_trans (intBits_sub_le (h i hi).1 (k i hi).1) (by omega), Nat.le_trans (intBits_sub_le (h i hi).2 (k i hi).2) (by omega)⟩
theorem Bd.neg {n : Nat} (h : Bd n a b) : Bd (n + 1100000) (fun i => -(a i)) (fun i => -(b i)) := fun i hi =>
  ⟨Nat.le_trans (intBits_neg_le (h i hi).1) (by omega), Nat.le_trans (intBits_neg_le (h i hi).2) (by omega)⟩
theorem Bd.muli {n : Nat} {z : Int} (h : Bd n a b) (hz : Builtin.Int.intBits z ≤ 1100000) : Bd (n + 1100000) (fun i => a i * z) (fun i => b i * z) := fun i hi =>
  ⟨Nat.le_trans (intBits_mul_le (h i hi).1 hz) (by omega), Nat.le_trans (intBits_mul_le (h i hi).2 hz) (by omega)⟩
theorem Bd.fmod {n : Nat} {f g : Nat → Int} (hp : 0 < p) (h : Builtin.Int.intBits p ≤ 1000000) : Bd (n + 1100000) (fun i => (f i).fmod p) (fun i => (g i).fmod p) := fun i _ =>
  ⟨Nat.le_trans (intBits_fmod hp h _) (by omega), Nat.le_trans (intBits_fmod hp h _) (by omega)⟩
end
end Mine
open PySem PySem.Spec PySem.Calls PyProof.Rows PySem.W
set_option Elab.async false
set_option autoImplicit false
set_option maxRecDepth 100000
set_option maxHeartbeats 8000000
namespace Mine
section
variable {p : Int}
theorem upd_cg {f g : Nat → Int} {n : Nat} {x y : Int} (h : ∀ k, Cg p (f k) (g k)) (e : Cg p x y) : ∀ k, Cg p (upd f n x k) (upd g n y k) := fun k => by
  unfold upd
  by_cases q : k = n
  · rw [if_pos q, if_pos q]; exact e
  · rw [if_neg q, if_neg q]; exact h k
theorem rowF_cg {c d : Nat → Int} {x y : Int} {i : Nat} {f g : Nat → Int} (hc : ∀ j, j < 12 → Cg p (c j) (d j)) (hx : Cg p x y) (hf : ∀ k, Cg p (f k) (g k)) : ∀ n, n ≤ 12 → ∀ k, Cg p (rowF c x i f n k) (rowF d y i g n k)
  | 0, _ => hf
  | n + 1, h => upd_cg (rowF_cg hc hx hf n (by omega)) ((rowF_cg hc hx hf n (by omega) _).add (hx.mul (hc n (by omega))))
theorem rowsF_cg {c d c' d' : Nat → Int} (hc : ∀ j, j < 12 → Cg p (c j) (d j)) (hc' : ∀ j, j < 12 → Cg p (c' j) (d' j)) : ∀ n, n ≤ 12 → ∀ k, Cg p (rowsF c c' n k) (rowsF d d' n k)
  | 0, _ => fun _ => Cg.refl
  | n + 1, h => rowF_cg hc' (hc n (by omega)) (rowsF_cg hc hc' n (by omega)) 12 (Nat.le_refl _)
theorem popIn_cg {a b : Int} {f g : Nat → Int} {t : Nat} (hf : ∀ k, Cg p (f k) (g k)) : ∀ n, ∀ k, Cg p (popIn a b f t n k) (popIn a b g t n k)
  | 0 => hf
  | n + 1 => upd_cg (popIn_cg hf n) ((popIn_cg hf n _).sub ((hf _).mul Cg.refl))
theorem popF_cg {a b : Int} {f g : Nat → Int} (hf : ∀ k, Cg p (f k) (g k)) : ∀ n, ∀ k, Cg p (popF a b f n k) (popF a b g n k)
  | 0 => hf
  | n + 1 => popIn_cg (popF_cg hf n) 2
theorem mulF_cg {a b : Int} {c d c' d' : Nat → Int} (hc : ∀ j, j < 12 → Cg p (c j) (d j)) (hc' : ∀ j, j < 12 → Cg p (c' j) (d' j)) (k : Nat) : Cg p (mulF a b c c' k) (mulF a b d d' k) := by
  rw [mulF_eq]; exact popF_cg (rowsF_cg hc hc' 12 (Nat.le_refl _)) 11 k
end
end Mine
open PySem PySem.Spec PySem.Calls PyProof.Rows PySem.W
set_option Elab.async false
set_option autoImplicit false
set_option maxRecDepth 100000
set_option maxHeartbeats 8000000
namespace Mine
theorem pl_0 (a b : Int) (f : Nat → Int) : popF a b f 11 0 = f 0 - (f 12 - f 18 * b) * a := by kernel_rfl
theorem pl_1 (a b : Int) (f : Nat → Int) : popF a b f 11 1 = f 1 - (f 13 - f 19 * b) * a := by kernel_rfl
theorem pl_2 (a b : Int) (f : Nat → Int) : popF a b f 11 2 = f 2 - (f 14 - f 20 * b) * a := by kernel_rfl
theorem pl_3 (a b : Int) (f : Nat → Int) : popF a b f 11 3 = f 3 - (f 15 - f 21 * b) * a := by kernel_rfl
theorem pl_4 (a b : Int) (f : Nat → Int) : popF a b f 11 4 = f 4 - (f 16 - f 22 * b) * a := by kernel_rfl
theorem pl_5 (a b : Int) (f : Nat → Int) : popF a b f 11 5 = f 5 - f 17 * a := by kernel_rfl
theorem ph_0 (a b : Int) (f : Nat → Int) : popF a b f 11 6 = f 6 - f 18 * a - (f 12 - f 18 * b) * b := by kernel_rfl
theorem ph_1 (a b : Int) (f : Nat → Int) : popF a b f 11 7 = f 7 - f 19 * a - (f 13 - f 19 * b) * b := by kernel_rfl
theorem ph_2 (a b : Int) (f : Nat → Int) : popF a b f 11 8 = f 8 - f 20 * a - (f 14 - f 20 * b) * b := by kernel_rfl
theorem ph_3 (a b : Int) (f : Nat → Int) : popF a b f 11 9 = f 9 - f 21 * a - (f 15 - f 21 * b) * b := by kernel_rfl
theorem ph_4 (a b : Int) (f : Nat → Int) : popF a b f 11 10 = f 10 - f 22 * a - (f 16 - f 22 * b) * b := by kernel_rfl
theorem ph_5 (a b : Int) (f : Nat → Int) : popF a b f 11 11 = f 11 - f 17 * b := by kernel_rfl
end Mine
open PySem PySem.Spec PySem.Calls PyProof.Rows PySem.W
set_option Elab.async false
set_option autoImplicit false
set_option maxRecDepth 100000
set_option maxHeartbeats 8000000
namespace Mine
theorem rows_0 (c d : Nat → Int) : rowsF c d 12 0 = 0 + c 0 * d 0 := by kernel_rfl
theorem rows_1 (c d : Nat → Int) : rowsF c d 12 1 = 0 + c 0 * d 1 + c 1 * d 0 := by kernel_rfl
theorem rows_2 (c d : Nat → Int) : rowsF c d 12 2 = 0 + c 0 * d 2 + c 1 * d 1 + c 2 * d 0 := by kernel_rfl
theorem rows_3 (c d : Nat → Int) : rowsF c d 12 3 = 0 + c 0 * d 3 + c 1 * d 2 + c 2 * d 1 + c 3 * d 0 := by kernel_rfl
theorem rows_4 (c d : Nat → Int) : rowsF c d 12 4 = 0 + c 0 * d 4 + c 1 * d 3 + c 2 * d 2 + c 3 * d 1 + c 4 * d 0 := by kernel_rfl
theorem rows_5 (c d : Nat → Int) : rowsF c d 12 5 = 0 + c 0 * d 5 + c 1 * d 4 + c 2 * d 3 + c 3 * d 2 + c 4 * d 1 + c 5 * d 0 := by kernel_rfl
theorem rows_6 (c d : Nat → Int) : rowsF c d 12 6 = 0 + c 0 * d 6 + c 1 * d 5 + c 2 * d 4 + c 3 * d 3 + c 4 * d 2 + c 5 * d 1 + c 6 * d 0 := by kernel_rfl
theorem rows_7 (c d : Nat → Int) : rowsF c d 12 7 = 0 + c 0 * d 7 + c 1 * d 6 + c 2 * d 5 + c 3 * d 4 + c 4 * d 3 + c 5 * d 2 + c 6 * d 1 + c 7 * d 0 := by kernel_rfl
theorem rows_8 (c d : Nat → Int) : rowsF c d 12 8 = 0 + c 0 * d 8 + c 1 * d 7 + c 2 * d 6 + c 3 * d 5 + c 4 * d 4 + c 5 * d 3 + c 6 * d 2 + c 7 * d 1 + c 8 * d 0 := by kernel_rfl
theorem rows_9 (c d : Nat → Int) : rowsF c d 12 9 = 0 + c 0 * d 9 + c 1 * d 8 + c 2 * d 7 + c 3 * d 6 + c 4 * d 5 + c 5 * d 4 + c 6 * d 3 + c 7 * d 2 + c 8 * d 1 + c 9 * d 0 := by kernel_rfl
theorem rows_10 (c d : Nat → Int) : rowsF c d 12 10 = 0 + c 0 * d 10 + c 1 * d 9 + c 2 * d 8 + c 3 * d 7 + c 4 * d 6 + c 5 * d 5 + c 6 * d 4 + c 7 * d 3 + c 8 * d 2 + c 9 * d 1 + c 10 * d 0 := by kernel_rfl
theorem rows_11 (c d : Nat → Int) : rowsF c d 12 11 = 0 + c 0 * d 11 + c 1 * d 10 + c 2 * d 9 + c 3 * d 8 + c 4 * d 7 + c 5 * d 6 + c 6 * d 5 + c 7 * d 4 + c 8 * d 3 + c 9 * d 2 + c 10 * d 1 + c 11 * d 0 := by kernel_rfl
theorem rows_12 (c d : Nat → Int) : rowsF c d 12 12 = 0 + c 1 * d 11 + c 2 * d 10 + c 3 * d 9 + c 4 * d 8 + c 5 * d 7 + c 6 * d 6 + c 7 * d 5 + c 8 * d 4 + c 9 * d 3 + c 10 * d 2 + c 11 * d 1 := by kernel_rfl
theorem rows_13 (c d : Nat → Int) : rowsF c d 12 13 = 0 + c 2 * d 11 + c 3 * d 10 + c 4 * d 9 + c 5 * d 8 + c 6 * d 7 + c 7 * d 6 + c 8 * d 5 + c 9 * d 4 + c 10 * d 3 + c 11 * d 2 := by kernel_rfl
theorem rows_14 (c d : Nat → Int) : rowsF c d 12 14 = 0 + c 3 * d 11 + c 4 * d 10 + c 5 * d 9 + c 6 * d 8 + c 7 * d 7 + c 8 * d 6 + c 9 * d 5 + c 10 * d 4 + c 11 * d 3 := by kernel_rfl
theorem rows_15 (c d : Nat → Int) : rowsF c d 12 15 = 0 + c 4 * d 11 + c 5 * d 10 + c 6 * d 9 + c 7 * d 8 + c 8 * d 7 + c 9 * d 6 + c 10 * d 5 + c 11 * d 4 := by kernel_rfl
theorem rows_16 (c d : Nat → Int) : rowsF c d 12 16 = 0 + c 5 * d 11 + c 6 * d 10 + c 7 * d 9 + c 8 * d 8 + c 9 * d 7 + c 10 * d 6 + c 11 * d 5 := by kernel_rfl
theorem rows_17 (c d : Nat → Int) : rowsF c d 12 17 = 0 + c 6 * d 11 + c 7 * d 10 + c 8 * d 9 + c 9 * d 8 + c 10 * d 7 + c 11 * d 6 := by kernel_rfl
theorem rows_18 (c d : Nat → Int) : rowsF c d 12 18 = 0 + c 7 * d 11 + c 8 * d 10 + c 9 * d 9 + c 10 * d 8 + c 11 * d 7 := by kernel_rfl
theorem rows_19 (c d : Nat → Int) : rowsF c d 12 19 = 0 + c 8 * d 11 + c 9 * d 10 + c 10 * d 9 + c 11 * d 8 := by kernel_rfl
theorem rows_20 (c d : Nat → Int) : rowsF c d 12 20 = 0 + c 9 * d 11 + c 10 * d 10 + c 11 * d 9 := by kernel_rfl
theorem rows_21 (c d : Nat → Int) : rowsF c d 12 21 = 0 + c 10 * d 11 + c 11 * d 10 := by kernel_rfl
theorem rows_22 (c d : Nat → Int) : rowsF c d 12 22 = 0 + c 11 * d 11 := by kernel_rfl
theorem rowt_0 (V : Nat → Nat → Int) : rowsT V 6 0 = 0 + V 0 0 := by kernel_rfl
theorem rowt_1 (V : Nat → Nat → Int) : rowsT V 6 1 = 0 + V 0 1 + V 1 0 := by kernel_rfl
theorem rowt_2 (V : Nat → Nat → Int) : rowsT V 6 2 = 0 + V 0 2 + V 1 1 + V 2 0 := by kernel_rfl
theorem rowt_3 (V : Nat → Nat → Int) : rowsT V 6 3 = 0 + V 0 3 + V 1 2 + V 2 1 + V 3 0 := by kernel_rfl
theorem rowt_4 (V : Nat → Nat → Int) : rowsT V 6 4 = 0 + V 0 4 + V 1 3 + V 2 2 + V 3 1 + V 4 0 := by kernel_rfl
theorem rowt_5 (V : Nat → Nat → Int) : rowsT V 6 5 = 0 + V 0 5 + V 1 4 + V 2 3 + V 3 2 + V 4 1 + V 5 0 := by kernel_rfl
theorem rowt_6 (V : Nat → Nat → Int) : rowsT V 6 6 = 0 + V 1 5 + V 2 4 + V 3 3 + V 4 2 + V 5 1 := by kernel_rfl
theorem rowt_7 (V : Nat → Nat → Int) : rowsT V 6 7 = 0 + V 2 5 + V 3 4 + V 4 3 + V 5 2 := by kernel_rfl
theorem rowt_8 (V : Nat → Nat → Int) : rowsT V 6 8 = 0 + V 3 5 + V 4 4 + V 5 3 := by kernel_rfl
theorem rowt_9 (V : Nat → Nat → Int) : rowsT V 6 9 = 0 + V 4 5 + V 5 4 := by kernel_rfl
theorem rowt_10 (V : Nat → Nat → Int) : rowsT V 6 10 = 0 + V 5 5 := by kernel_rfl
end Mine
open PySem PySem.Spec PySem.Calls PyProof.Rows PySem.W
set_option Elab.async false
set_option autoImplicit false
set_option maxRecDepth 100000
set_option maxHeartbeats 8000000
set_option linter.unusedSimpArgs false
namespace Mine
/-- the twelve coefficients of six pairs -/
def cc (sh : Int) (a b : Nat → Int) : Nat → Int := fun j => if j < 6 then a j - sh * b j else b (j - 6)
theorem lo_0 (sh : Int) (a b u v : Nat → Int) : mulF (sh * sh + 1) (-2 * sh) (cc sh a b) (cc sh u v) 0 = fdR sh (tmR a b u v) (tmI a b u v) 5 0 - sh * fdI sh (tmR a b u v) (tmI a b u v) 5 0 := by
  rw [mulF_eq]
  have h := pl_0 (sh * sh + 1) (-2 * sh) (rowsF (cc sh a b) (cc sh u v) 12)
  simp only [Nat.reduceAdd, rows_0, rows_1, rows_2, rows_3, rows_4, rows_5, rows_6, rows_7, rows_8, rows_9, rows_10, rows_11, rows_12, rows_13, rows_14, rows_15, rows_16, rows_17, rows_18, rows_19, rows_20, rows_21, rows_22] at h
  show popF _ _ (rowsF _ _ 12) 11 0 = _
  rw [h]
  simp only [cc, fdR, fdI, tmR, tmI, Nat.reduceAdd, Nat.reduceSub, Nat.reduceLT, rowt_0, rowt_1, rowt_2, rowt_3, rowt_4, rowt_5, rowt_6, rowt_7, rowt_8, rowt_9, rowt_10, if_true, if_false, reduceIte]
  grind
theorem lo_1 (sh : Int) (a b u v : Nat → Int) : mulF (sh * sh + 1) (-2 * sh) (cc sh a b) (cc sh u v) 1 = fdR sh (tmR a b u v) (tmI a b u v) 5 1 - sh * fdI sh (tmR a b u v) (tmI a b u v) 5 1 := by
  rw [mulF_eq]
  have h := pl_1 (sh * sh + 1) (-2 * sh) (rowsF (cc sh a b) (cc sh u v) 12)
  simp only [Nat.reduceAdd, rows_0, rows_1, rows_2, rows_3, rows_4, rows_5, rows_6, rows_7, rows_8, rows_9, rows_10, rows_11, rows_12, rows_13, rows_14, rows_15, rows_16, rows_17, rows_18, rows_19, rows_20, rows_21, rows_22] at h
  show popF _ _ (rowsF _ _ 12) 11 1 = _
  rw [h]
  simp only [cc, fdR, fdI, tmR, tmI, Nat.reduceAdd, Nat.reduceSub, Nat.reduceLT, rowt_0, rowt_1, rowt_2, rowt_3, rowt_4, rowt_5, rowt_6, rowt_7, rowt_8, rowt_9, rowt_10, if_true, if_false, reduceIte]
  grind
theorem lo_2 (sh : Int) (a b u v : Nat → Int) : mulF (sh * sh + 1) (-2 * sh) (cc sh a b) (cc sh u v) 2 = fdR sh (tmR a b u v) (tmI a b u v) 5 2 - sh * fdI sh (tmR a b u v) (tmI a b u v) 5 2 := by
  rw [mulF_eq]
  have h := pl_2 (sh * sh + 1) (-2 * sh) (rowsF (cc sh a b) (cc sh u v) 12)
  simp only [Nat.reduceAdd, rows_0, rows_1, rows_2, rows_3, rows_4, rows_5, rows_6, rows_7, rows_8, rows_9, rows_10, rows_11, rows_12, rows_13, rows_14, rows_15, rows_16, rows_17, rows_18, rows_19, rows_20, rows_21, rows_22] at h
  show popF _ _ (rowsF _ _ 12) 11 2 = _
  rw [h]
  simp only [cc, fdR, fdI, tmR, tmI, Nat.reduceAdd, Nat.reduceSub, Nat.reduceLT, rowt_0, rowt_1, rowt_2, rowt_3, rowt_4, rowt_5, rowt_6, rowt_7, rowt_8, rowt_9, rowt_10, if_true, if_false, reduceIte]
  grind
theorem lo_3 (sh : Int) (a b u v : Nat → Int) : mulF (sh * sh + 1) (-2 * sh) (cc sh a b) (cc sh u v) 3 = fdR sh (tmR a b u v) (tmI a b u v) 5 3 - sh * fdI sh (tmR a b u v) (tmI a b u v) 5 3 := by
  rw [mulF_eq]
  have h := pl_3 (sh * sh + 1) (-2 * sh) (rowsF (cc sh a b) (cc sh u v) 12)
  simp only [Nat.reduceAdd, rows_0, rows_1, rows_2, rows_3, rows_4, rows_5, rows_6, rows_7, rows_8, rows_9, rows_10, rows_11, rows_12, rows_13, rows_14, rows_15, rows_16, rows_17, rows_18, rows_19, rows_20, rows_21, rows_22] at h
  show popF _ _ (rowsF _ _ 12) 11 3 = _
  rw [h]
  simp only [cc, fdR, fdI, tmR, tmI, Nat.reduceAdd, Nat.reduceSub, Nat.reduceLT, rowt_0, rowt_1, rowt_2, rowt_3, rowt_4, rowt_5, rowt_6, rowt_7, rowt_8, rowt_9, rowt_10, if_true, if_false, reduceIte]
  grind
theorem lo_4 (sh : Int) (a b u v : Nat → Int) : mulF (sh * sh + 1) (-2 * sh) (cc sh a b) (cc sh u v) 4 = fdR sh (tmR a b u v) (tmI a b u v) 5 4 - sh * fdI sh (tmR a b u v) (tmI a b u v) 5 4 := by
  rw [mulF_eq]
  have h := pl_4 (sh * sh + 1) (-2 * sh) (rowsF (cc sh a b) (cc sh u v) 12)
  simp only [Nat.reduceAdd, rows_0, rows_1, rows_2, rows_3, rows_4, rows_5, rows_6, rows_7, rows_8, rows_9, rows_10, rows_11, rows_12, rows_13, rows_14, rows_15, rows_16, rows_17, rows_18, rows_19, rows_20, rows_21, rows_22] at h
  show popF _ _ (rowsF _ _ 12) 11 4 = _
  rw [h]
  simp only [cc, fdR, fdI, tmR, tmI, Nat.reduceAdd, Nat.reduceSub, Nat.reduceLT, rowt_0, rowt_1, rowt_2, rowt_3, rowt_4, rowt_5, rowt_6, rowt_7, rowt_8, rowt_9, rowt_10, if_true, if_false, reduceIte]
  grind
theorem lo_5 (sh : Int) (a b u v : Nat → Int) : mulF (sh * sh + 1) (-2 * sh) (cc sh a b) (cc sh u v) 5 = fdR sh (tmR a b u v) (tmI a b u v) 5 5 - sh * fdI sh (tmR a b u v) (tmI a b u v) 5 5 := by
  rw [mulF_eq]
  have h := pl_5 (sh * sh + 1) (-2 * sh) (rowsF (cc sh a b) (cc sh u v) 12)
  simp only [Nat.reduceAdd, rows_0, rows_1, rows_2, rows_3, rows_4, rows_5, rows_6, rows_7, rows_8, rows_9, rows_10, rows_11, rows_12, rows_13, rows_14, rows_15, rows_16, rows_17, rows_18, rows_19, rows_20, rows_21, rows_22] at h
  show popF _ _ (rowsF _ _ 12) 11 5 = _
  rw [h]
  simp only [cc, fdR, fdI, tmR, tmI, Nat.reduceAdd, Nat.reduceSub, Nat.reduceLT, rowt_0, rowt_1, rowt_2, rowt_3, rowt_4, rowt_5, rowt_6, rowt_7, rowt_8, rowt_9, rowt_10, if_true, if_false, reduceIte]
  grind
theorem hi_0 (sh : Int) (a b u v : Nat → Int) : mulF (sh * sh + 1) (-2 * sh) (cc sh a b) (cc sh u v) 6 = fdI sh (tmR a b u v) (tmI a b u v) 5 0 := by
  rw [mulF_eq]
  have h := ph_0 (sh * sh + 1) (-2 * sh) (rowsF (cc sh a b) (cc sh u v) 12)
  simp only [Nat.reduceAdd, rows_0, rows_1, rows_2, rows_3, rows_4, rows_5, rows_6, rows_7, rows_8, rows_9, rows_10, rows_11, rows_12, rows_13, rows_14, rows_15, rows_16, rows_17, rows_18, rows_19, rows_20, rows_21, rows_22] at h
  show popF _ _ (rowsF _ _ 12) 11 6 = _
  rw [h]
  simp only [cc, fdR, fdI, tmR, tmI, Nat.reduceAdd, Nat.reduceSub, Nat.reduceLT, rowt_0, rowt_1, rowt_2, rowt_3, rowt_4, rowt_5, rowt_6, rowt_7, rowt_8, rowt_9, rowt_10, if_true, if_false, reduceIte]
  grind
theorem hi_1 (sh : Int) (a b u v : Nat → Int) : mulF (sh * sh + 1) (-2 * sh) (cc sh a b) (cc sh u v) 7 = fdI sh (tmR a b u v) (tmI a b u v) 5 1 := by
  rw [mulF_eq]
  have h := ph_1 (sh * sh + 1) (-2 * sh) (rowsF (cc sh a b) (cc sh u v) 12)
  simp only [Nat.reduceAdd, rows_0, rows_1, rows_2, rows_3, rows_4, rows_5, rows_6, rows_7, rows_8, rows_9, rows_10, rows_11, rows_12, rows_13, rows_14, rows_15, rows_16, rows_17, rows_18, rows_19, rows_20, rows_21, rows_22] at h
  show popF _ _ (rowsF _ _ 12) 11 7 = _
  rw [h]
  simp only [cc, fdR, fdI, tmR, tmI, Nat.reduceAdd, Nat.reduceSub, Nat.reduceLT, rowt_0, rowt_1, rowt_2, rowt_3, rowt_4, rowt_5, rowt_6, rowt_7, rowt_8, rowt_9, rowt_10, if_true, if_false, reduceIte]
  grind
theorem hi_2 (sh : Int) (a b u v : Nat → Int) : mulF (sh * sh + 1) (-2 * sh) (cc sh a b) (cc sh u v) 8 = fdI sh (tmR a b u v) (tmI a b u v) 5 2 := by
  rw [mulF_eq]
  have h := ph_2 (sh * sh + 1) (-2 * sh) (rowsF (cc sh a b) (cc sh u v) 12)
  simp only [Nat.reduceAdd, rows_0, rows_1, rows_2, rows_3, rows_4, rows_5, rows_6, rows_7, rows_8, rows_9, rows_10, rows_11, rows_12, rows_13, rows_14, rows_15, rows_16, rows_17, rows_18, rows_19, rows_20, rows_21, rows_22] at h
  show popF _ _ (rowsF _ _ 12) 11 8 = _
  rw [h]
  simp only [cc, fdR, fdI, tmR, tmI, Nat.reduceAdd, Nat.reduceSub, Nat.reduceLT, rowt_0, rowt_1, rowt_2, rowt_3, rowt_4, rowt_5, rowt_6, rowt_7, rowt_8, rowt_9, rowt_10, if_true, if_false, reduceIte]
  grind
theorem hi_3 (sh : Int) (a b u v : Nat → Int) : mulF (sh * sh + 1) (-2 * sh) (cc sh a b) (cc sh u v) 9 = fdI sh (tmR a b u v) (tmI a b u v) 5 3 := by
  rw [mulF_eq]
  have h := ph_3 (sh * sh + 1) (-2 * sh) (rowsF (cc sh a b) (cc sh u v) 12)
  simp only [Nat.reduceAdd, rows_0, rows_1, rows_2, rows_3, rows_4, rows_5, rows_6, rows_7, rows_8, rows_9, rows_10, rows_11, rows_12, rows_13, rows_14, rows_15, rows_16, rows_17, rows_18, rows_19, rows_20, rows_21, rows_22] at h
  show popF _ _ (rowsF _ _ 12) 11 9 = _
  rw [h]
  simp only [cc, fdR, fdI, tmR, tmI, Nat.reduceAdd, Nat.reduceSub, Nat.reduceLT, rowt_0, rowt_1, rowt_2, rowt_3, rowt_4, rowt_5, rowt_6, rowt_7, rowt_8, rowt_9, rowt_10, if_true, if_false, reduceIte]
  grind
theorem hi_4 (sh : Int) (a b u v : Nat → Int) : mulF (sh * sh + 1) (-2 * sh) (cc sh a b) (cc sh u v) 10 = fdI sh (tmR a b u v) (tmI a b u v) 5 4 := by
  rw [mulF_eq]
  have h := ph_4 (sh * sh + 1) (-2 * sh) (rowsF (cc sh a b) (cc sh u v) 12)
  simp only [Nat.reduceAdd, rows_0, rows_1, rows_2, rows_3, rows_4, rows_5, rows_6, rows_7, rows_8, rows_9, rows_10, rows_11, rows_12, rows_13, rows_14, rows_15, rows_16, rows_17, rows_18, rows_19, rows_20, rows_21, rows_22] at h
  show popF _ _ (rowsF _ _ 12) 11 10 = _
  rw [h]
  simp only [cc, fdR, fdI, tmR, tmI, Nat.reduceAdd, Nat.reduceSub, Nat.reduceLT, rowt_0, rowt_1, rowt_2, rowt_3, rowt_4, rowt_5, rowt_6, rowt_7, rowt_8, rowt_9, rowt_10, if_true, if_false, reduceIte]
  grind
theorem hi_5 (sh : Int) (a b u v : Nat → Int) : mulF (sh * sh + 1) (-2 * sh) (cc sh a b) (cc sh u v) 11 = fdI sh (tmR a b u v) (tmI a b u v) 5 5 := by
  rw [mulF_eq]
  have h := ph_5 (sh * sh + 1) (-2 * sh) (rowsF (cc sh a b) (cc sh u v) 12)
  simp only [Nat.reduceAdd, rows_0, rows_1, rows_2, rows_3, rows_4, rows_5, rows_6, rows_7, rows_8, rows_9, rows_10, rows_11, rows_12, rows_13, rows_14, rows_15, rows_16, rows_17, rows_18, rows_19, rows_20, rows_21, rows_22] at h
  show popF _ _ (rowsF _ _ 12) 11 11 = _
  rw [h]
  simp only [cc, fdR, fdI, tmR, tmI, Nat.reduceAdd, Nat.reduceSub, Nat.reduceLT, rowt_0, rowt_1, rowt_2, rowt_3, rowt_4, rowt_5, rowt_6, rowt_7, rowt_8, rowt_9, rowt_10, if_true, if_false, reduceIte]
  grind
theorem rel_mul {sh p ma mb : Int} {a b c a' b' c' : Nat → Int} (hp : 0 < p) (ha : ma = sh * sh + 1) (hb : mb = -2 * sh) (h : Rel sh p a b c) (k : Rel sh p a' b' c') :
    Rel sh p (fun i => (fdR sh (tmR a b a' b') (tmI a b a' b') 5 i).fmod p) (fun i => (fdI sh (tmR a b a' b') (tmI a b a' b') 5 i).fmod p) (fun i => (mulF ma mb c c' i).fmod p) := by
  subst ha hb
  have cg : ∀ {x y z : Nat → Int}, Rel sh p x y z → ∀ j, j < 12 → Cg p (z j) (cc sh x y j) := fun {x y z} r j hj => by
    unfold cc
    by_cases q : j < 6
    · rw [if_pos q]; exact r.lo hp q
    · rw [if_neg q]
      have e : j = (j - 6) + 6 := by omega
      have t := r.hi hp (i := j - 6) (by omega)
      rw [← e] at t; exact t
  have m : ∀ i, Cg p (mulF (sh * sh + 1) (-2 * sh) c c' i) (mulF (sh * sh + 1) (-2 * sh) (cc sh a b) (cc sh a' b') i) := mulF_cg (cg h) (cg k)
  have lo : ∀ i, i < 6 → mulF (sh * sh + 1) (-2 * sh) (cc sh a b) (cc sh a' b') i = fdR sh (tmR a b a' b') (tmI a b a' b') 5 i - sh * fdI sh (tmR a b a' b') (tmI a b a' b') 5 i := fun i hi => by
    match i, hi with
    | 0, _ => exact lo_0 ..
    | 1, _ => exact lo_1 ..
    | 2, _ => exact lo_2 ..
    | 3, _ => exact lo_3 ..
    | 4, _ => exact lo_4 ..
    | 5, _ => exact lo_5 ..
  have hi' : ∀ i, i < 6 → mulF (sh * sh + 1) (-2 * sh) (cc sh a b) (cc sh a' b') (i + 6) = fdI sh (tmR a b a' b') (tmI a b a' b') 5 i := fun i hi => by
    match i, hi with
    | 0, _ => exact hi_0 ..
    | 1, _ => exact hi_1 ..
    | 2, _ => exact hi_2 ..
    | 3, _ => exact hi_3 ..
    | 4, _ => exact hi_4 ..
    | 5, _ => exact hi_5 ..
  intro i hi
  exact ⟨Cg.eq hp (((m i).trans (Cg.of_eq (lo i hi))).trans ((Cg.mod hp).symm.sub (Cg.refl.mul (Cg.mod hp).symm))), Cg.eq hp (((m (i + 6)).trans (Cg.of_eq (hi' i hi))).trans (Cg.mod hp).symm)⟩
theorem rel_init {sh p : Int} (hp : 0 < p) (e : List Int) : Rel sh p (fun i => (e.getD i 0 + sh * e.getD (i + 6) 0).fmod p) (fun i => (e.getD (i + 6) 0).fmod p) (fun i => (e.getD i 0).fmod p) := fun i _ =>
  ⟨Cg.eq hp ((Cg.of_eq (show e.getD i 0 = (e.getD i 0 + sh * e.getD (i + 6) 0) - sh * e.getD (i + 6) 0 by omega)).trans ((Cg.mod hp).symm.sub (Cg.refl.mul (Cg.mod hp).symm))), Cg.eq hp (Cg.mod hp).symm⟩
theorem Bd.init {p : Int} {f g : Nat → Int} (hp : 0 < p) (h : Builtin.Int.intBits p ≤ 1000000) : Bd 1000000 (fun i => (f i).fmod p) (fun i => (g i).fmod p) := fun _ _ => ⟨intBits_fmod hp h _, intBits_fmod hp h _⟩
end Mine
open PySem PySem.Spec PySem.Calls PyProof.Rows PySem.W
set_option Elab.async false
set_option autoImplicit false
set_option maxRecDepth 100000
set_option maxHeartbeats 8000000
namespace Mine
def LawEnd (c : ClaimW) (cl : Str → Option Addr) (mean : ExcName → Option Value) (args : List WData) (s₁ : Shared) (r : Result) (s' : Shared) : Prop :=
  GoodW c cl mean args { s₁ with heap := ghostOf s₁.heap [(46, 44)] } r { s' with gens := #[] } ∧ GrownAll [(46, 44)] s'.heap ∧ AllBare s'.gens
theorem law_post {M : Model} {A : Around} {cd : Code} {s s₁ : Shared} {c : ClaimW} {cl : Str → Option Addr} {mean : ExcName → Option Value} {args : List WData} (hT : TabsAt [(46, 44)] s₁.heap) (hr : ∀ a x, c.raises a x = false)
    (h : codeAny M A cd (LawEnd c cl mean args s₁) s) : codeAny M A cd (GoodWG c cl mean args s₁) s :=
  codeAny_mono h fun r s' ⟨⟨hc, hk, hos, _⟩, hgr, hb⟩ => by
    have h44 := (hT (46, 44) (.head _)).2
    have htab : isCodeTable s₁.heap 44 := ((hT (46, 44) (.head _)).1.tab h44).isCodeTable
    obtain ⟨ps, hps⟩ : GrownAt 44 s'.heap := hgr.1
    have keep : ∀ b o, b ≠ 44 → s₁.heap.get? b = some o → s'.heap.get? b = some o := fun b o hb e => hk b o (ghost_ne e (by simpa using hb))
    refine ⟨?_, ⟨fun b o e => ?_, fun b o e => ?_⟩, hos, hb⟩
    · rcases hc with ⟨v, d, as, r1, r2, r3, r4, r5⟩ | ⟨e, ob, x, _, _, _, r4, _⟩
      · refine .inl ⟨v, d, as, r1, r2, r3, r4, fun q => ⟨(r5 q).1, fun a ha => ?_⟩⟩
        cases q1 : s₁.heap.get? a with
        | none => rfl
        | some o =>
          by_cases hb : a = 44
          · subst hb; exact absurd ha (readsW_apart hps rfl r3)
          · have e3 := (r5 q).2 a ha
            rw [show (ghostOf s₁.heap [(46, 44)]).get? a = some o from ghost_ne q1 (by simpa using hb)] at e3
            cases e3
      · rw [hr] at r4; cases r4
    · by_cases hb : b = 44
      · subst hb
        rw [h44] at e
        cases e
        exact .inr (.inl ⟨htab, rfl, #[], ps, rfl, by rw [Array.empty_append]; exact hps⟩)
      · exact .inl (keep b o hb e)
    · by_cases hb : b = 44
      · subst hb; exact ⟨_, hps⟩
      · exact ⟨o, keep b o hb e⟩
theorem law_end {c : ClaimW} {cl : Str → Option Addr} {mean : ExcName → Option Value} {args : List WData} {s₁ : Shared} {L : Addr} {h' : Heap} {m : Str → Option Value} {tk : Nat} {gs : Array GenState} {ps : Array Value} {R : List (Addr × Obj)}
    (F : Fr (ghostOf s₁.heap [(46, 44)]) L h' m) (N : News (ghostOf s₁.heap [(46, 44)]) L h' ((44, tabO ps) :: R)) (G : AllBare gs) (hn : ∀ cls, c.raises args cls = false) (hp : c.post args (.bool true) args = true) :
    LawEnd c cl mean args s₁ (.ok (.ret (.bool true))) { s₁ with heap := h', toks := tk, gens := gs } :=
  ⟨goodW_bool (s' := { s₁ with heap := h', toks := tk, gens := #[] }) F rfl hn hp, ⟨⟨ps, (N _ List.mem_cons_self).1⟩, trivial⟩, G⟩
theorem in_sub {K K' : Frag} {h : Heap} (X : K'.In h) (k : ∀ q ∈ K, K'.lookup q.1 = some q.2) : K.In h := fun a o e => X a o (k (a, o) (mem_of_lookupK e))
/-- the script's first 41 numbers -/
def gv (ns : List Int) (k : Nat) : Int := if k < ns.length then ns.getD k 0 else 3 * (k : Int) + 1
theorem gv_bits {ns : List Int} (h : PyData.layable0 (.list (ns.map .int)) = true) {k : Nat} (hk : k < 41) : Builtin.Int.intBits (gv ns k) ≤ 1048576 := by
  unfold gv
  split
  · rename_i hl
    have e : ns.getD k 0 = ns[k] := by simp [hl]
    rw [e]
    exact intBits_le_of_item (List.getElem_mem hl) h
  · exact Nat.le_trans (intBits_le_64 (by omega) (by omega)) (by decide)
section
variable {prog : Program} {w : World} {A : Around} {E : Value → Shared → Prop} {s : Shared} {h₀ : Heap} {L D : Addr} {news : List (Addr × Obj)} {vs : List Value} {c n : Nat} {value slice : PySem.Expr} {Q : Value → Shared → Prop}
theorem tab_item {f : Nat → Int} {k : Int} {u : Tok} (N : News h₀ L s.heap news) (hm : (D, W.listOf vs.toArray c) ∈ news) (hi : IntsAre vs (tab n f)) (h0 : 0 ≤ k) (h1 : k < (n : Int)) (hfit : k < 2 ^ 63) (h : ∀ t, Q (.int (f k.toNat) t) s)
    (hs : subscripted slice false (.ref D) (.int k u) = operate [.ref D, .int k u] (getItem (.ref D) (.int k u)) := by with_unfolding_all rfl) :
    wpAny (model prog w) A (subscriptTail value slice (.ref D) (.int k u)) Q E s :=
  ksa_sub N hm hi h0 (by rw [tab_length]; exact h1) hfit (fun t => by rw [tab_getD _ _ _ (by omega)]; exact h t) hs
theorem menu_item {ns : List Int} {x m : Int} {u : Tok} (N : News h₀ L s.heap news) (hm : (D, W.listOf vs.toArray c) ∈ news) (hi : IntsAre vs ns) (hpos : 0 < m) (hlen : (ns.length : Int) = m) (hfit : m < 2 ^ 63) (h : ∀ t j, j < ns.length → Q (.int (ns.getD j 0) t) s)
    (hs : subscripted slice false (.ref D) (.int (x.fmod m) u) = operate [.ref D, .int (x.fmod m) u] (getItem (.ref D) (.int (x.fmod m) u)) := by with_unfolding_all rfl) :
    wpAny (model prog w) A (subscriptTail value slice (.ref D) (.int (x.fmod m) u)) Q E s := by
  have h1 := Int.fmod_nonneg_of_pos x hpos
  have h2 := Int.fmod_lt_of_pos x hpos
  exact ksa_sub N hm hi h1 (by omega) (by omega) (fun t => h t _ (by omega)) hs
end
theorem len_script {prog : Program} {w : World} {A : Around} {E : Value → Shared → Prop} {s : Shared} {h₀ : Heap} {L l : Addr} {m : Str → Option Value} {vs : List Value} {ns : List Int} {Q : Value → Shared → Prop} (F : Fr h₀ L s.heap m) (hl : h₀.IsList l vs.toArray) (hi : IntsAre vs ns) (hf : ns.length ≤ 2 ^ 20)
    (h : Q (.int (ns.length : Nat) (s.toks + 1)) { s with toks := s.toks + 1 + 1 }) : wpAny (model prog w) A (call (.builtin "len") [.ref l]) Q E s := by
  obtain ⟨o, e, r⟩ := hl
  have hl' : s.heap.IsList l vs.toArray := ⟨o, F.keep _ _ e, r⟩
  have e : vs.toArray.size = ns.length := by rw [List.size_toArray]; exact hi.length
  refine Calls.call_len_list hl' (by omega) ?_
  rw [e]
  exact h
/-- behind the choice of the modulus -/
def ModMid (h₀ : Heap) (L : Addr) (m : Str → Option Value) (x : Str) (news : List (Addr × Obj)) (sh : Int) (s : Shared) (f : Flow) (s' : Shared) : Prop :=
  f = .next ∧ ∃ M ma mb h' tk, s' = { s with heap := h', toks := tk } ∧ Fr h₀ L h' (fun y => if y = x then some (.ref M) else m y) ∧ News h₀ L h' news ∧ Mod M ma mb ∧ ma = sh * sh + 1 ∧ mb = -2 * sh
theorem mod_mid {prog : Program} {w : World} {A : Around} {E : Value → Shared → Prop} {s : Shared} {h₀ : Heap} {env : Env} {m : Str → Option Value} {news : List (Addr × Obj)} {sh : Int} {st : Stmt} {Q : Flow → Shared → Prop} (x : Str) (_F : Fr h₀ env.locals s.heap m) (_N : News h₀ env.locals s.heap news)
    (h : wpAny (model prog w) A (exec st env) (ModMid h₀ env.locals m x news sh s) E s)
    (k : ∀ M ma mb h' tk, Fr h₀ env.locals h' (fun y => if y = x then some (.ref M) else m y) → News h₀ env.locals h' news → Mod M ma mb → ma = sh * sh + 1 → mb = -2 * sh → Q .next { s with heap := h', toks := tk }) : wpAny (model prog w) A (exec st env) Q E s :=
  wpAny_mono h (fun f s' ⟨e, M, ma, mb, h', tk, e2, F, N, hM, h1, h2⟩ => by subst e e2; exact k M ma mb h' tk F N hM h1 h2) fun _ _ e => e
inductive LMark : Prop
  | mk
theorem gv_lt {ns : List Int} {i : Nat} (h : i < ns.length) : ns.getD (0 + (i : Int)).toNat 0 = gv ns i := by
  have e : (0 + (i : Int)).toNat = i := by omega
  rw [e]; unfold gv; rw [if_pos h]
theorem gv_ge {ns : List Int} {i : Nat} (h : ¬ i < ns.length) : 3 * (0 + (i : Int)) + 1 = gv ns i := by
  unfold gv; rw [if_neg h]; omega
end Mine
open PySem PySem.Spec PySem.Calls PyProof.Rows PySem.W
set_option Elab.async false
set_option autoImplicit false
set_option maxRecDepth 100000
set_option maxHeartbeats 8000000
namespace Mine
/-- the end of a turn whose body may leave generators -/
def GEnd (h₀ : Heap) (L : Addr) (wr : List Addr) (own : List (Addr × Obj)) (J : (Str → Option Value) → List (Addr × Obj) → Prop) (s : Shared) (Qr : Value → Shared → Prop) (Qb : Shared → Prop) (f : Flow) (s' : Shared) : Prop :=
  match f with
  | .ret v => Qr v s'
  | .brk => Qb s'
  | _ => ∃ h' tk gs m nw, s' = { s with heap := h', toks := tk, gens := gs } ∧ AllBare gs ∧ Fr h₀ L h' m ∧ News h₀ L h' (own ++ nw) ∧ (∀ p ∈ nw, p.1 ∉ wr) ∧ J m nw
theorem GEnd.of {h₀ : Heap} {L : Addr} {wr : List Addr} {own l : List (Addr × Obj)} {J : (Str → Option Value) → List (Addr × Obj) → Prop} {s : Shared} {Qr : Value → Shared → Prop} {Qb : Shared → Prop} {h' : Heap} {tk : Nat} {gs : Array GenState} {m : Str → Option Value} (nw : List (Addr × Obj))
    (G : AllBare gs) (F : Fr h₀ L h' m) (N : News h₀ L h' l) (ho : ∀ p ∈ own, p ∈ l) (hn : ∀ p ∈ nw, p ∈ l) (off : ∀ p ∈ nw, p.1 ∉ wr) (hJ : J m nw) : GEnd h₀ L wr own J s Qr Qb .next { s with heap := h', toks := tk, gens := gs } :=
  ⟨h', tk, gs, m, nw, rfl, G, F, fun p hp => N p ((List.mem_append.mp hp).elim (ho p) (hn p)), off, hJ⟩
section
variable {prog : Program} {w : World} {A : Around} {E : Value → Shared → Prop} {s : Shared} {env : Env} {h₀ : Heap} {target : Expr} {body : List Stmt} {Q : Flow → Shared → Prop}
inductive TurnsG (prog : Program) (w : World) (A : Around) (h₀ : Heap) (env : Env) (target : Expr) (body : List Stmt) (Q : Flow → Shared → Prop) (E : Value → Shared → Prop) (it : Value) (s₂ : Shared) : Prop
  | mk (I : Addr) (fp wr : List Addr) (n : Nat) (P Md : Nat → Value → Heap → Prop) (St : Nat → Heap → Prop) (m : Str → Option Value) (news : List (Addr × Obj)) (J : Nat → (Str → Option Value) → List (Addr × Obj) → Prop) (h1 : it = .ref I) (h2 : KTurns prog w A target I fp wr n P Md St) (h3 : env.locals ∉ fp) (h4 : ∀ b ∈ wr, h₀.get? b = none) (h5 : ∀ p ∈ news, p.1 ∉ wr) (h6 : St 0 s₂.heap) (h7 : ∀ i h, St i h → ∀ b ∈ wr, ∃ o, h.get? b = some o) (h8 : AllBare s₂.gens) (h9 : Fr h₀ env.locals s₂.heap m) (h10 : News h₀ env.locals s₂.heap news) (h11 : J 0 m news) (h12 : ∀ i v m₁ nw h tk gs own, i < n → P i v h → J i m₁ nw → AllBare gs → (∀ p ∈ nw, p.1 ∉ wr) → (∀ p ∈ own, p.1 ∈ fp) → (∀ b ∈ wr, ∃ o, (b, o) ∈ own) → Fr h₀ env.locals h m₁ → News h₀ env.locals h (own ++ nw) → wpAny (model prog w) A (assign target env v) (fun _ s₃ => wpAny (model prog w) A (execs body env) (GEnd h₀ env.locals wr own (J (i + 1)) s₂ (fun v s' => Q (.ret v) s') fun s' => Q .next s') E s₃) E { s₂ with heap := h, toks := tk, gens := gs }) (h13 : ∀ h' tk gs m' nw, AllBare gs → Fr h₀ env.locals h' m' → News h₀ env.locals h' nw → (∀ p ∈ nw, p.1 ∉ wr) → J n m' nw → Q .next { s₂ with heap := h', toks := tk, gens := gs }) : TurnsG prog w A h₀ env target body Q E it s₂
theorem For_g {iter : Expr} {pos : Pos} 
    (h : wpAny (model prog w) A (eval iter env) (fun xv s₁ => wpAny (model prog w) A (pyIter xv) (fun it s₂ => TurnsG prog w A h₀ env target body Q E it s₂) E s₁) E s)
    (hs : ∀ x, foldedSetIterable iter env x = pure x := by intro _; rfl)
    (hE : PassesOwn (model prog w) A env E := by passes_own) :
    wpAny (model prog w) A (exec (.For target iter body [] pos) env) Q E s := by
  refine wpAny_For (wpAny_mono h (fun xv s₁ h₁ => wpAny_mono h₁ (fun it s₂ h₂ => ?_) fun _ _ e => e) fun _ _ e => e) hs
  obtain ⟨I, fp, wr, n, P, Md, St, m, news, J, rfl, W, hLf, hwr, hnw, hst, hIo, hG, F, N, h0, step, hQ⟩ := h₂
  have hLw : env.locals ∉ wr := fun q => hLf (W.sub _ q)
  have old : ∀ b o, h₀.get? b = some o → b ∉ wr := fun b o e hb => by rw [hwr b hb] at e; cases e
  refine codeAny_forLoop_any
    (fun k s' => ∃ h' tk gs m' nw i, s' = { s₂ with heap := h', toks := tk, gens := gs } ∧ St i h' ∧ AllBare gs ∧ Fr h₀ env.locals h' m' ∧ News h₀ env.locals h' nw ∧ (∀ p ∈ nw, p.1 ∉ wr) ∧ J i m' nw ∧ i ≤ n ∧ k = n + 1 - i) ?_ (n + 1)
    ⟨s₂.heap, s₂.toks, s₂.gens, m, news, 0, rfl, hst, hG, F, N, hnw, h0, Nat.zero_le _, rfl⟩
  rintro k s' ⟨h', tk, gs, m', nw, i, rfl, hst', hG', F', N', hnw', hJ, hi, rfl⟩
  have up : ∀ g : Heap, (∀ b o, b ∉ wr → h'.get? b = some o → g.get? b = some o) → Fr h₀ env.locals g m' ∧ News h₀ env.locals g nw := fun g hk =>
    ⟨⟨F'.ns.at' fun o e => hk _ o hLw e, fun b o e => hk b o (old b o e) (F'.keep b o e), F'.above⟩, fun p hp => ⟨hk _ _ (hnw' p hp) (N' p hp).1, (N' p hp).2⟩⟩
  by_cases hlt : i < n
  · refine W.item i _ _ _ hlt hst' fun v g₁ tk₁ hMd hk₁ => ?_
    refine W.go i v _ _ _ hMd fun g₂ hP st₂ hk₂ => ?_
    obtain ⟨F₂, N₂⟩ := up g₂ fun b o hb x => hk₂ b o hb (hk₁ b o hb x)
    have Nown : News h₀ env.locals g₂ (PyProof.Rows.ownOf h₀ fp g₂) := news_ownOf hLf
    refine wpAny_mono (step i v m' nw g₂ tk₁ gs _ hlt hP hJ hG' hnw' ownOf_sub (fun b hb => (hIo _ _ st₂ b hb).imp fun o e => mem_ownOf (W.sub b hb) (hwr b hb) e) F₂ (Nown.append N₂)) (fun _ s₃ h₃ => wpAny_mono h₃ (fun f s₄ h₄ => ?_) hE) hE
    have back : ∀ h₅ (own' : News h₀ env.locals h₅ (PyProof.Rows.ownOf h₀ fp g₂)), (∀ b o, h₀.get? b = some o → h₅.get? b = some o) → St (i + 1) h₅ := fun h₅ N₅ K₅ => W.frame _ _ _ st₂ fun b hb o e => by
      cases hn : h₀.get? b with
      | some o₀ =>
        have q := F₂.keep b o₀ hn
        rw [e] at q
        cases q
        exact K₅ b o hn
      | none => exact (N₅ _ (mem_ownOf hb hn e)).1
    have next : (∃ h' tk gs m nw, s₄ = { s₂ with heap := h', toks := tk, gens := gs } ∧ AllBare gs ∧ Fr h₀ env.locals h' m ∧ News h₀ env.locals h' (PyProof.Rows.ownOf h₀ fp g₂ ++ nw) ∧ (∀ p ∈ nw, p.1 ∉ wr) ∧ J (i + 1) m nw) →
        ∃ k', k' < n + 1 - i ∧ ∃ h' tk gs m' nw i, s₄ = { s₂ with heap := h', toks := tk, gens := gs } ∧ St i h' ∧ AllBare gs ∧ Fr h₀ env.locals h' m' ∧ News h₀ env.locals h' nw ∧ (∀ p ∈ nw, p.1 ∉ wr) ∧ J i m' nw ∧ i ≤ n ∧ k' = n + 1 - i := by
      rintro ⟨h₅, tk₅, gs₅, m₅, nw₅, rfl, G₅, F₅, N₅, off₅, J₅⟩
      exact ⟨n + 1 - (i + 1), by omega, h₅, tk₅, gs₅, m₅, nw₅, i + 1, rfl, back h₅ (fun p hp => N₅ p (List.mem_append_left _ hp)) F₅.keep, G₅, F₅, fun p hp => N₅ p (List.mem_append_right _ hp), off₅, J₅, hlt, rfl⟩
    cases f with
    | ret v => exact h₄
    | brk => exact h₄
    | next => exact next h₄
    | cont => exact next h₄
  · obtain rfl : i = n := Nat.le_antisymm hi (Nat.not_lt.mp hlt)
    refine W.done _ _ _ hst' fun g₁ tk₁ hk₁ => wpAny_execs_nil ?_
    obtain ⟨F₁, N₁⟩ := up g₁ hk₁
    exact hQ g₁ tk₁ gs m' nw hG' F₁ N₁ hnw' hJ
end
section
variable {prog : Program} {w : World} {A : Around} {E : Value → Shared → Prop} {s : Shared} {h₀ : Heap} {env : Env} {target : Expr} {body : List Stmt} {Q : Flow → Shared → Prop}
theorem turns_list_g {ax : Addr} {vs : List Value} {k n : Nat} {m₀ : Str → Option Value} {news : List (Addr × Obj)} (xs : List Str) (hh : A.handled = none) (G : AllBare s.gens) (F : Fr h₀ env.locals s.heap m₀) (N : News h₀ env.locals s.heap news)
    (hm : (ax, W.listOf vs.toArray k) ∈ news) (hn : vs.length = n) (J : Nat → List (Addr × Obj) → Prop) (h0 : J 0 news)
    (turn : ∀ i v u nw h tk gs own I, i < n → vs[i]? = some v → J i nw → AllBare gs → (∀ p ∈ nw, p.1 ∉ [I]) → (∀ p ∈ own, p.1 = I ∨ p.1 = ax) → (∃ o, (I, o) ∈ own) → Fr h₀ env.locals h (over xs u m₀) → News h₀ env.locals h (own ++ nw) →
      wpAny (model prog w) A (assign target env v) (fun _ s₃ => wpAny (model prog w) A (execs body env)
        (GEnd h₀ env.locals [I] own (fun m' nw' => Over xs m₀ m' ∧ J (i + 1) nw') s (fun v s' => Q (.ret v) s') fun s' => Q .next s') E s₃) E { s with heap := h, toks := tk, gens := gs })
    (done : ∀ h tk gs u nw, AllBare gs → Fr h₀ env.locals h (over xs u m₀) → News h₀ env.locals h nw → J n nw → Q .next { s with heap := h, toks := tk, gens := gs }) :
    wpAny (model prog w) A (pyIter (.ref ax)) (fun it s₂ => TurnsG prog w A h₀ env target body Q E it s₂) E s := by
  have hax := N _ hm
  have hl : s.heap.IsList ax vs.toArray := ⟨_, hax.1, rfl, _, rfl⟩
  have hlt : ax < s.heap.objs.size := Heap.lt_size hax.1
  have hne : ax ≠ s.heap.objs.size := Nat.ne_of_lt hlt
  refine wpAny_pyIter_list hl ?_
  have W := KTurns.ofWalks (target := target) (Walks.list (prog := prog) (w := w) hh s.heap.objs.size ax hne vs.toArray) fun i v s Q E st q => letGo_listiter st.1 q
  have hz : vs.toArray.size = n := by rw [List.size_toArray]; exact hn
  rw [hz] at W
  have hLs : env.locals < s.heap.objs.size := F.ns.lt
  refine ⟨s.heap.objs.size, _, _, n, _, _, _, m₀, news, fun i m nw => Over xs m₀ m ∧ J i nw, rfl, W, ?_, ?_, ?_, ?_, (fun i h st b hb => by
      rw [List.mem_singleton.mp hb]
      obtain ⟨⟨o, e, _⟩, _⟩ := st
      exact ⟨o, e⟩), G, F.push _, fun p hp => ⟨Heap.get?_push_of_some _ (N p hp).1, (N p hp).2⟩, ⟨Over.refl, h0⟩, ?_, ?_⟩
  · intro hc
    rcases List.mem_cons.mp hc with e | hc
    · exact absurd e (Nat.ne_of_lt hLs)
    · exact hax.2.1 (List.mem_singleton.mp hc).symm
  · intro b hb
    rw [List.mem_singleton.mp hb]
    exact ktu_new F (Nat.le_refl _)
  · intro p hp hc
    exact absurd (List.mem_singleton.mp hc) (Nat.ne_of_lt (Heap.lt_size (N p hp).1))
  · exact ⟨⟨_, Heap.get?_push_size _ rfl, rfl, rfl⟩, hl.at fun o e => Heap.get?_push_of_some _ e⟩
  · rintro i v m₁ nw h tk gs own hi hv ⟨ho, hJ⟩ hG hoff hown hget F₁ N₁
    rw [ho.eq] at F₁
    refine turn i v _ nw h tk gs own _ hi (by simpa using hv) hJ hG hoff (fun p hp => ?_) (hget _ (List.mem_singleton.mpr rfl)) F₁ N₁
    rcases List.mem_cons.mp (hown p hp) with e | e
    · exact .inl e
    · exact .inr (List.mem_singleton.mp e)
  · rintro h tk gs m' nw hG F' N' _ ⟨ho, hJ⟩
    rw [ho.eq] at F'
    exact done h tk gs _ nw hG F' N' hJ
theorem turns_tup_g {ax : Addr} {vs : List Value} {n : Nat} {m₀ : Str → Option Value} {news : List (Addr × Obj)} (xs : List Str) (hh : A.handled = none) (G : AllBare s.gens) (F : Fr h₀ env.locals s.heap m₀) (N : News h₀ env.locals s.heap news)
    (hm : (ax, tupV vs) ∈ news) (hn : vs.length = n) (J : Nat → List (Addr × Obj) → Prop) (h0 : J 0 news)
    (turn : ∀ i v u nw h tk gs own I, i < n → vs[i]? = some v → J i nw → AllBare gs → (∀ p ∈ nw, p.1 ∉ [I]) → (∀ p ∈ own, p.1 = I ∨ p.1 = ax) → (∃ o, (I, o) ∈ own) → Fr h₀ env.locals h (over xs u m₀) → News h₀ env.locals h (own ++ nw) →
      wpAny (model prog w) A (assign target env v) (fun _ s₃ => wpAny (model prog w) A (execs body env)
        (GEnd h₀ env.locals [I] own (fun m' nw' => Over xs m₀ m' ∧ J (i + 1) nw') s (fun v s' => Q (.ret v) s') fun s' => Q .next s') E s₃) E { s with heap := h, toks := tk, gens := gs })
    (done : ∀ h tk gs u nw, AllBare gs → Fr h₀ env.locals h (over xs u m₀) → News h₀ env.locals h nw → J n nw → Q .next { s with heap := h, toks := tk, gens := gs }) :
    wpAny (model prog w) A (pyIter (.ref ax)) (fun it s₂ => TurnsG prog w A h₀ env target body Q E it s₂) E s := by
  have hax := N _ hm
  have hl : s.heap.IsTuple ax vs.toArray := ⟨_, hax.1, rfl, _, rfl⟩
  have hlt : ax < s.heap.objs.size := Heap.lt_size hax.1
  have hne : ax ≠ s.heap.objs.size := Nat.ne_of_lt hlt
  refine wpAny_pyIter_tuple hl ?_
  have W := KTurns.ofWalks (target := target) (Walks.tuple (prog := prog) (w := w) (A := A) hh s.heap.objs.size ax hne vs.toArray) fun i v s Q E st q => letGo_tupleiter st.1 q
  have hz : vs.toArray.size = n := by rw [List.size_toArray]; exact hn
  rw [hz] at W
  have hLs : env.locals < s.heap.objs.size := F.ns.lt
  refine ⟨s.heap.objs.size, _, _, n, _, _, _, m₀, news, fun i m nw => Over xs m₀ m ∧ J i nw, rfl, W, ?_, ?_, ?_, ?_, (fun i h st b hb => by
      rw [List.mem_singleton.mp hb]
      obtain ⟨⟨o, e, _⟩, _⟩ := st
      exact ⟨o, e⟩), G, F.push _, fun p hp => ⟨Heap.get?_push_of_some _ (N p hp).1, (N p hp).2⟩, ⟨Over.refl, h0⟩, ?_, ?_⟩
  · intro hc
    rcases List.mem_cons.mp hc with e | hc
    · exact absurd e (Nat.ne_of_lt hLs)
    · exact hax.2.1 (List.mem_singleton.mp hc).symm
  · intro b hb
    rw [List.mem_singleton.mp hb]
    exact ktu_new F (Nat.le_refl _)
  · intro p hp hc
    exact absurd (List.mem_singleton.mp hc) (Nat.ne_of_lt (Heap.lt_size (N p hp).1))
  · exact ⟨⟨_, Heap.get?_push_size _ rfl, rfl, rfl⟩, hl.at fun o e => Heap.get?_push_of_some _ e⟩
  · rintro i v m₁ nw h tk gs own hi hv ⟨ho, hJ⟩ hG hoff hown hget F₁ N₁
    rw [ho.eq] at F₁
    refine turn i v _ nw h tk gs own _ hi (by simpa using hv) hJ hG hoff (fun p hp => ?_) (hget _ (List.mem_singleton.mpr rfl)) F₁ N₁
    rcases List.mem_cons.mp (hown p hp) with e | e
    · exact .inl e
    · exact .inr (List.mem_singleton.mp e)
  · rintro h tk gs m' nw hG F' N' _ ⟨ho, hJ⟩
    rw [ho.eq] at F'
    exact done h tk gs _ nw hG F' N' hJ
end
theorem For_g' {prog : Program} {w : World} {A : Around} {E : Value → Shared → Prop} {s : Shared} {env : Env} {h₀ : Heap} {target : Expr} {body : List Stmt} {Q : Flow → Shared → Prop} {iter : Expr} {pos : Pos} {m : Str → Option Value} (_F : Fr h₀ env.locals s.heap m)
    (h : wpAny (model prog w) A (eval iter env) (fun xv s₁ => wpAny (model prog w) A (pyIter xv) (fun it s₂ => TurnsG prog w A h₀ env target body Q E it s₂) E s₁) E s)
    (hs : ∀ x, foldedSetIterable iter env x = pure x := by intro _; rfl)
    (hE : PassesOwn (model prog w) A env E := by passes_own) :
    wpAny (model prog w) A (exec (.For target iter body [] pos) env) Q E s := For_g h hs hE
/-- the rows that the law keeps -/
inductive RowsJ (w : World) (M : Addr) (ma mb p sh : Int) (B : Nat) (Dr : Addr) (NN : List (Addr × Obj)) (n : Nat) (nw : List (Addr × Obj)) : Prop
  | mk (ps : _) (vs : _) (k : _) (tl : _) (h1 : nw = (44, tabO ps) :: (Dr, W.listOf (List.toArray vs) k) :: (tl ++ NN)) (h2 : TriplesOk ps.toList) (h3 : @Ne Nat Dr 44) (h4 : ∀ q ∈ tl ++ NN, q.1 ≠ Dr) (h5 : ∀ q ∈ tl ++ NN, q.1 ≠ 44) (h6 : vs.length = n) (h7 : ∀ j, j < n → ∃ v, vs[j]? = some v ∧ RowOk w (tl ++ NN) M ma mb p sh B v) : RowsJ w M ma mb p sh B Dr NN n nw
theorem law_led {h₀ h : Heap} {L T Dr l1 Dg cc : Addr} {oT oR o1 og oc o4 : Obj} {tl1 : List (Addr × Obj)} (N : News h₀ L h ((T, oT) :: (Dr, oR) :: (l1, o1) :: (tl1 ++ [(Dg, og), (cc, oc), (44, o4)])))
    (a1 : @LT.lt Nat _ Dr T ∧ @LT.lt Nat _ l1 T ∧ AllLt T (tl1 ++ [(Dg, og), (cc, oc), (44, o4)])) (a2 : @LT.lt Nat _ l1 Dr ∧ AllLt Dr (tl1 ++ [(Dg, og), (cc, oc), (44, o4)])) (a3 : AllLt l1 (tl1 ++ [(Dg, og), (cc, oc), (44, o4)]))
    (A : Above tl1 [(Dg, og), (cc, oc), (44, o4)]) (off : LCg.Off1 Dg [(cc, oc), (44, o4)]) (hc : @Ne Nat cc 44) :
    Y7 (fun (NN : List (Addr × Obj)) => NN = (T, oT) :: (l1, o1) :: (tl1 ++ [(Dg, og), (cc, oc)])) (fun (NN : List (Addr × Obj)) => News h₀ L h ((44, o4) :: (Dr, oR) :: NN)) (fun (NN : List (Addr × Obj)) => @Ne Nat Dr 44) (fun (NN : List (Addr × Obj)) => ∀ q ∈ NN, q.1 ≠ Dr) (fun (NN : List (Addr × Obj)) => ∀ q ∈ NN, q.1 ≠ 44) (fun (NN : List (Addr × Obj)) => (T, oT) ∈ NN) (fun (NN : List (Addr × Obj)) => (Dg, og) ∈ NN) := by
  have m44 : (44, o4) ∈ tl1 ++ [(Dg, og), (cc, oc), (44, o4)] := List.mem_append_right _ (by simp)
  have sub : ∀ q ∈ tl1 ++ [(Dg, og), (cc, oc)], q ∈ tl1 ++ [(Dg, og), (cc, oc), (44, o4)] := by repeat' (first | exact sub_nil | exact fun _ h => h | exact subL | exact List.Mem.head _ | refine sub_cons ?_ ?_ | refine sub_app ?_ ?_ | refine subT ?_ | refine subR ?_ | refine List.Mem.tail _ ?_ | refine List.mem_append_right _ ?_)
  have t44 : @LT.lt Nat _ 44 T := allLt_mem a1.2.2 _ m44
  have r44 : @LT.lt Nat _ 44 Dr := allLt_mem a2.2 _ m44
  have l44 : @LT.lt Nat _ 44 l1 := allLt_mem a3 _ m44
  refine ⟨_, rfl, fun p hp => N p ?_, Nat.ne_of_gt r44, all_cons (Nat.ne_of_gt a1.1) (all_cons (Nat.ne_of_lt a2.1) fun q hq => Nat.ne_of_lt (allLt_mem a2.2 q (sub q hq))),
    all_cons (Nat.ne_of_gt t44) (all_cons (Nat.ne_of_gt l44) fun q hq => ?_), List.Mem.head _, List.mem_cons_of_mem _ (List.mem_cons_of_mem _ (List.mem_append_right _ List.mem_cons_self))⟩
  · revert p; repeat' (first | exact sub_nil | exact fun _ h => h | exact subL | exact List.Mem.head _ | refine sub_cons ?_ ?_ | refine sub_app ?_ ?_ | refine subT ?_ | refine subR ?_ | refine List.Mem.tail _ ?_ | refine List.mem_append_right _ ?_)
  · rcases List.mem_append.mp hq with hq | hq
    · exact A q hq (44, o4) (by simp)
    · simp only [List.mem_cons, List.not_mem_nil, or_false] at hq
      rcases hq with rfl | rfl
      · exact fun e => off.2.1 e.symm
      · exact hc
theorem pick3 {t1 t2 t3 : Tok} {i : Nat} {v : Value} (h : [Value.int 5 t1, .int 17 t2, .int 29 t3][i]? = some v) : Yb2 (fun (k : Nat) (t : Tok) => v = .int (k : Int) t) (fun (k : Nat) (t : Tok) => k = 5 ∨ k = 17 ∨ k = 29) := by
  match i, h with
  | 0, h => exact ⟨5, t1, (Option.some.inj h).symm, .inl rfl⟩
  | 1, h => exact ⟨17, t2, (Option.some.inj h).symm, .inr (.inl rfl)⟩
  | 2, h => exact ⟨29, t3, (Option.some.inj h).symm, .inr (.inr rfl)⟩
  | n + 3, h => simp at h
/-- a turn's ledger: the table and the rows first -/
theorem turn_led {h₀ h : Heap} {L I T Dr : Addr} {o4 oR : Obj} {own R : List (Addr × Obj)} (N : News h₀ L h (own ++ (44, o4) :: (Dr, oR) :: R)) (hoff : ∀ p ∈ (44, o4) :: (Dr, oR) :: R, p.1 ∉ [I]) (hown : ∀ p ∈ own, p.1 = I ∨ p.1 = T) (t4 : T ≠ 44) (tD : T ≠ Dr)
    (hD : ∀ q ∈ R, q.1 ≠ Dr) (h4 : ∀ q ∈ R, q.1 ≠ 44) :
    Y6 (fun (R1 : List (Addr × Obj)) => R1 = own ++ R) (fun (R1 : List (Addr × Obj)) => News h₀ L h ((44, o4) :: (Dr, oR) :: R1)) (fun (R1 : List (Addr × Obj)) => ∀ q ∈ R1, q.1 ≠ Dr) (fun (R1 : List (Addr × Obj)) => ∀ q ∈ R1, q.1 ≠ 44) (fun (R1 : List (Addr × Obj)) => ∀ q ∈ own, q ∈ R1) (fun (R1 : List (Addr × Obj)) => ∀ q ∈ R, q ∈ R1) := by
  have i4 : I ≠ 44 := fun e => hoff (44, o4) List.mem_cons_self (by simp [e])
  have iD : I ≠ Dr := fun e => hoff (Dr, oR) (by simp) (by simp [e])
  refine ⟨_, rfl, fun p hp => N p ?_, fun q hq => ?_, fun q hq => ?_, fun q hq => List.mem_append_left _ hq, fun q hq => List.mem_append_right _ hq⟩
  · revert p; repeat' (first | exact sub_nil | exact fun _ h => h | exact subL | exact List.Mem.head _ | refine sub_cons ?_ ?_ | refine sub_app ?_ ?_ | refine subT ?_ | refine subR ?_ | refine List.Mem.tail _ ?_ | refine List.mem_append_right _ ?_)
  · rcases List.mem_append.mp hq with hq | hq
    · rcases hown q hq with e | e <;> rw [e] <;> assumption
    · exact hD q hq
  · rcases List.mem_append.mp hq with hq | hq
    · rcases hown q hq with e | e <;> rw [e] <;> assumption
    · exact h4 q hq
/-- behind the pairs: the table first again -/
theorem turn_led2 {h₀ h : Heap} {L Dr Dd : Addr} {o4 oR od : Obj} {tl2 R1 : List (Addr × Obj)} (N : News h₀ L h (tl2 ++ (Dd, od) :: (44, o4) :: (Dr, oR) :: R1)) (A : Above tl2 ((Dd, od) :: (44, o4) :: (Dr, oR) :: R1))
    (l : @LT.lt Nat _ 44 Dd ∧ @LT.lt Nat _ Dr Dd ∧ AllLt Dd R1) (hr : @Ne Nat Dr 44) (h4 : ∀ q ∈ R1, q.1 ≠ 44) (hD : ∀ q ∈ R1, q.1 ≠ Dr) :
    Y7 (fun (R2 : List (Addr × Obj)) => R2 = tl2 ++ (Dd, od) :: R1) (fun (R2 : List (Addr × Obj)) => News h₀ L h ((44, o4) :: (Dr, oR) :: R2)) (fun (R2 : List (Addr × Obj)) => ∀ q ∈ (Dr, oR) :: R2, q.1 ≠ 44) (fun (R2 : List (Addr × Obj)) => ∀ q ∈ R2, q.1 ≠ Dr) (fun (R2 : List (Addr × Obj)) => (Dd, od) ∈ R2) (fun (R2 : List (Addr × Obj)) => ∀ q ∈ tl2, q ∈ R2) (fun (R2 : List (Addr × Obj)) => ∀ q ∈ R1, q ∈ R2) := by
  refine ⟨_, rfl, fun p hp => N p ?_, all_cons hr fun q hq => ?_, fun q hq => ?_, List.mem_append_right _ List.mem_cons_self, fun q hq => List.mem_append_left _ hq, fun q hq => List.mem_append_right _ (List.mem_cons_of_mem _ hq)⟩
  · revert p; repeat' (first | exact sub_nil | exact fun _ h => h | exact subL | exact List.Mem.head _ | refine sub_cons ?_ ?_ | refine sub_app ?_ ?_ | refine subT ?_ | refine subR ?_ | refine List.Mem.tail _ ?_ | refine List.mem_append_right _ ?_)
  · rcases List.mem_append.mp hq with hq | hq
    · exact A q hq (44, o4) (by simp)
    · rcases List.mem_cons.mp hq with rfl | hq
      · exact Nat.ne_of_gt l.1
      · exact h4 q hq
  · rcases List.mem_append.mp hq with hq | hq
    · exact A q hq (Dr, oR) (by simp)
    · rcases List.mem_cons.mp hq with rfl | hq
      · exact Nat.ne_of_gt l.2.1
      · exact hD q hq
theorem swap_mid {h₀ h : Heap} {L : Addr} {a b : Addr × Obj} {tl R : List (Addr × Obj)} (N : News h₀ L h (a :: (tl ++ b :: R))) : News h₀ L h (a :: b :: (tl ++ R)) := news_of N (by repeat' (first | exact sub_nil | exact fun _ h => h | exact subL | exact List.Mem.head _ | refine sub_cons ?_ ?_ | refine sub_app ?_ ?_ | refine subT ?_ | refine subR ?_ | refine List.Mem.tail _ ?_ | refine List.mem_append_right _ ?_))
theorem turn1_end {w : World} {h₀ h' : Heap} {L I t Dr Dd r7 x8 M : Addr} {m m₀ : Str → Option Value} {xs : List Str} {s : Shared} {tk i B kk kk' k7 : Nat} {gs : Array GenState} {ps8 : Array Value} {o4 oR od oI : Obj} {own tl tl7 tl8 R1 R2 NN : List (Addr × Obj)} {vs y7 : List Value} {ma mb p sh : Int} {a b c : Nat → Int}
    {Qr : Value → Shared → Prop} {Qb : Shared → Prop} (F : Fr h₀ L h' m) (G : AllBare gs) (N : News h₀ L h' ((t, tup2 (.ref r7) (.ref x8)) :: (44, tabO ps8) :: (Dr, W.listOf (vs.toArray.push (.ref t)) kk') :: (tl8 ++ R2)))
    (l : @LT.lt Nat _ 44 t ∧ @LT.lt Nat _ Dr t ∧ AllLt t (tl8 ++ R2)) (A8 : Above tl8 ((44, tabO ps8) :: (Dr, W.listOf vs.toArray kk) :: R2)) (A7 : Above tl7 ((Dd, od) :: (44, o4) :: (Dr, oR) :: R1)) (lD : @LT.lt Nat _ 44 Dd ∧ @LT.lt Nat _ Dr Dd ∧ AllLt Dd R1)
    (hR1 : R1 = own ++ (tl ++ NN)) (hR2 : R2 = tl7 ++ (Dd, od) :: R1) (hoff : ∀ q ∈ (44, o4) :: (Dr, oR) :: (tl ++ NN), q.1 ∉ [I]) (hI : (I, oI) ∈ own) (hD8 : ∀ q ∈ tl8 ++ R2, q.1 ≠ Dr) (h47 : ∀ q ∈ (Dr, oR) :: R2, q.1 ≠ 44) (hr : @Ne Nat Dr 44) (ht : TriplesOk ps8.toList)
    (hlen : vs.length = i) (hrow : ∀ j, j < i → ∃ v, vs[j]? = some v ∧ RowOk w (tl ++ NN) M ma mb p sh B v) (m7 : (r7, W.listOf y7.toArray k7) ∈ tl7) (p7 : Prs tl7 y7 6 a b) (f8 : Fq w tl8 M ma mb p x8 c) (rel : Rel sh p a b c) (bd : Bd B a b) (sm : Sm c) (ov : Over xs m₀ m) :
    GEnd h₀ L [I] own (fun m nw => Over xs m₀ m ∧ RowsJ w M ma mb p sh B Dr NN (i + 1) nw) s Qr Qb .next { s with heap := h', toks := tk, gens := gs } := by
  subst hR2 hR1
  have e : vs.toArray.push (Value.ref t) = (vs ++ [Value.ref t]).toArray := by simp
  rw [e] at N
  have hIR : (I, oI) ∈ tl7 ++ (Dd, od) :: (own ++ (tl ++ NN)) := List.mem_append_right _ (List.mem_cons_of_mem _ (List.mem_append_left _ hI))
  have sub : ∀ q ∈ (t, tup2 (.ref r7) (.ref x8)) :: (tl8 ++ (tl7 ++ (Dd, od) :: tl)) ++ NN, q ∈ (t, tup2 (.ref r7) (.ref x8)) :: (tl8 ++ (tl7 ++ (Dd, od) :: (own ++ (tl ++ NN)))) := by repeat' (first | exact sub_nil | exact fun _ h => h | exact subL | exact List.Mem.head _ | refine sub_cons ?_ ?_ | refine sub_app ?_ ?_ | refine subT ?_ | refine subR ?_ | refine List.Mem.tail _ ?_ | refine List.mem_append_right _ ?_)
  have offI : ∀ q ∈ (t, tup2 (.ref r7) (.ref x8)) :: (tl8 ++ (tl7 ++ (Dd, od) :: tl)) ++ NN, q.1 ≠ I := fun q hq => by
    simp only [List.mem_cons, List.mem_append, List.cons_append] at hq
    rcases hq with rfl | (hq | hq | rfl | hq) | hq
    · exact Nat.ne_of_gt (allLt_mem l.2.2 _ (List.mem_append_right _ hIR))
    · exact A8 q hq (I, oI) (List.mem_cons_of_mem _ (List.mem_cons_of_mem _ hIR))
    · exact A7 q hq (I, oI) (List.mem_cons_of_mem _ (List.mem_cons_of_mem _ (List.mem_cons_of_mem _ (List.mem_append_left _ hI))))
    · exact Nat.ne_of_gt (allLt_mem lD.2.2 (I, oI) (List.mem_append_left _ hI))
    · exact fun e => hoff q (List.mem_cons_of_mem _ (List.mem_cons_of_mem _ (List.mem_append_left _ hq))) (List.mem_singleton.mpr e)
    · exact fun e => hoff q (List.mem_cons_of_mem _ (List.mem_cons_of_mem _ (List.mem_append_right _ hq))) (List.mem_singleton.mpr e)
  refine GEnd.of ((44, tabO ps8) :: (Dr, W.listOf (vs ++ [Value.ref t]).toArray kk') :: ((t, tup2 (.ref r7) (.ref x8)) :: (tl8 ++ (tl7 ++ (Dd, od) :: tl)) ++ NN)) G F N ?_ ?_ ?_ ⟨ov, ps8, _, _, _, rfl, ht, hr, ?_, ?_, by simp [hlen], ?_⟩
  · exact fun q hq => List.mem_cons_of_mem _ (List.mem_cons_of_mem _ (List.mem_cons_of_mem _ (List.mem_append_right _ (List.mem_append_right _ (List.mem_cons_of_mem _ (List.mem_append_left _ hq))))))
  · intro q hq
    rcases List.mem_cons.mp hq with rfl | hq
    · exact List.Mem.tail _ (List.Mem.head _)
    · rcases List.mem_cons.mp hq with rfl | hq
      · exact List.Mem.tail _ (List.Mem.tail _ (List.Mem.head _))
      · rcases List.mem_cons.mp (sub q hq) with rfl | hq
        · exact List.Mem.head _
        · exact List.Mem.tail _ (List.Mem.tail _ (List.Mem.tail _ hq))
  · intro q hq
    rcases List.mem_cons.mp hq with rfl | hq
    · exact hoff (44, o4) List.mem_cons_self
    · rcases List.mem_cons.mp hq with rfl | hq
      · exact hoff (Dr, oR) (by simp)
      · exact fun e => offI q hq (List.mem_singleton.mp e)
  · intro q hq
    rcases List.mem_cons.mp (sub q hq) with rfl | hq
    · exact Nat.ne_of_gt l.2.1
    · exact hD8 q hq
  · intro q hq
    rcases List.mem_cons.mp (sub q hq) with rfl | hq
    · exact Nat.ne_of_gt l.1
    · rcases List.mem_append.mp hq with hq | hq
      · exact A8 q hq (44, tabO ps8) List.mem_cons_self
      · exact h47 q (List.mem_cons_of_mem _ hq)
  · intro j hj
    by_cases h : j < i
    · obtain ⟨v, hv, hR⟩ := hrow j h
      refine ⟨v, by rw [List.getElem?_append_left (by omega)]; exact hv, hR.mono fun q hq => ?_⟩
      simp only [List.mem_cons, List.mem_append, List.cons_append] at hq ⊢
      rcases hq with h | h <;> simp [h]
    · have hj' : j = i := by omega
      subst hj'
      refine ⟨.ref t, by rw [← hlen]; simp, t, a, b, c, rfl, ⟨r7, x8, y7, k7, List.Mem.head _, ?_, p7.mono fun q hq => ?_, f8.mono fun q hq => ?_⟩, rel, bd, sm⟩
      · exact List.mem_append_left _ (List.mem_cons_of_mem _ (List.mem_append_right _ (List.mem_append_left _ m7)))
      · exact List.mem_append_left _ (List.mem_cons_of_mem _ (List.mem_append_right _ (List.mem_append_left _ hq)))
      · exact List.mem_append_left _ (List.mem_cons_of_mem _ (List.mem_append_left _ hq))
theorem RowOk.up {w : World} {nw : List (Addr × Obj)} {M : Addr} {ma mb p sh : Int} {B B' : Nat} {v : Value} (h : RowOk w nw M ma mb p sh B v) (k : B ≤ B') : RowOk w nw M ma mb p sh B' v :=
  let ⟨r, a, b, c, e, h1, h2, h3, h4⟩ := h
  ⟨r, a, b, c, e, h1, h2, fun i hi => ⟨Nat.le_trans (h3 i hi).1 k, Nat.le_trans (h3 i hi).2 k⟩, h4⟩
/-- a new object set behind the rows -/
theorem rows_led {w : World} {h₀ h : Heap} {L Dr Dd M : Addr} {od : Obj} {ps : Array Value} {vs : List Value} {kk B n : Nat} {tl NN : List (Addr × Obj)} {ma mb p sh : Int} (N : News h₀ L h ((Dd, od) :: (44, tabO ps) :: (Dr, W.listOf vs.toArray kk) :: (tl ++ NN)))
    (l : @LT.lt Nat _ 44 Dd ∧ @LT.lt Nat _ Dr Dd ∧ AllLt Dd (tl ++ NN)) (ht : TriplesOk ps.toList) (hr : @Ne Nat Dr 44) (hD : ∀ q ∈ tl ++ NN, q.1 ≠ Dr) (h4 : ∀ q ∈ tl ++ NN, q.1 ≠ 44) (hlen : vs.length = n)
    (hrow : ∀ j, j < n → ∃ v, vs[j]? = some v ∧ RowOk w (tl ++ NN) M ma mb p sh B v) :
    News h₀ L h ((44, tabO ps) :: (Dr, W.listOf vs.toArray kk) :: (tl ++ (Dd, od) :: NN)) ∧ RowsJ w M ma mb p sh B Dr ((Dd, od) :: NN) n ((44, tabO ps) :: (Dr, W.listOf vs.toArray kk) :: (tl ++ (Dd, od) :: NN)) := by
  have sub : ∀ q ∈ tl ++ (Dd, od) :: NN, q = (Dd, od) ∨ q ∈ tl ++ NN := fun q hq => by
    simp only [List.mem_append, List.mem_cons] at hq ⊢
    rcases hq with h | h | h <;> simp [h]
  refine ⟨fun p hp => N p ?_, ps, vs, kk, tl, rfl, ht, hr, fun q hq => ?_, fun q hq => ?_, hlen, fun j hj => ?_⟩
  · revert p; repeat' (first | exact sub_nil | exact fun _ h => h | exact subL | exact List.Mem.head _ | refine sub_cons ?_ ?_ | refine sub_app ?_ ?_ | refine subT ?_ | refine subR ?_ | refine List.Mem.tail _ ?_ | refine List.mem_append_right _ ?_)
  · rcases sub q hq with rfl | hq
    · exact Nat.ne_of_gt l.2.1
    · exact hD q hq
  · rcases sub q hq with rfl | hq
    · exact Nat.ne_of_gt l.1
    · exact h4 q hq
  · obtain ⟨v, e, h⟩ := hrow j hj
    exact ⟨v, e, h.mono fun q hq => sub_into q hq⟩
end Mine
open PySem PySem.Spec PySem.Calls PyProof.Rows PySem.W
set_option Elab.async false
set_option autoImplicit false
set_option maxRecDepth 100000
set_option maxHeartbeats 8000000
set_option linter.unusedSimpArgs false
namespace Mine
section
variable {p : Int}
theorem rowT_cg {v v' : Nat → Int} {j : Nat} {f g : Nat → Int} (hv : ∀ k, k < 6 → Cg p (v k) (v' k)) (hf : ∀ k, Cg p (f k) (g k)) : ∀ n, n ≤ 6 → ∀ k, Cg p (rowT v j f n k) (rowT v' j g n k)
  | 0, _ => hf
  | n + 1, h => upd_cg (rowT_cg hv hf n (by omega)) ((rowT_cg hv hf n (by omega) _).add (hv n (by omega)))
theorem rowsT_cg {V V' : Nat → Nat → Int} (hv : ∀ j k, j < 6 → k < 6 → Cg p (V j k) (V' j k)) : ∀ n, n ≤ 6 → ∀ k, Cg p (rowsT V n k) (rowsT V' n k)
  | 0, _ => fun _ => Cg.refl
  | n + 1, h => rowT_cg (fun k hk => hv n k (by omega) hk) (rowsT_cg hv n (by omega)) 6 (Nat.le_refl _)
theorem fd_cg {sh : Int} {f g f' g' : Nat → Int} (hf : ∀ k, Cg p (f k) (f' k)) (hg : ∀ k, Cg p (g k) (g' k)) (t k : Nat) : Cg p (fdR sh f g t k) (fdR sh f' g' t k) ∧ Cg p (fdI sh f g t k) (fdI sh f' g' t k) := by
  unfold fdR fdI
  by_cases h : k < t
  · simp only [if_pos h]
    exact ⟨((hf _).add (Cg.refl.mul (hf _))).sub (hg _), ((hg _).add (hf _)).add (Cg.refl.mul (hg _))⟩
  · simp only [if_neg h]
    exact ⟨hf _, hg _⟩
/-- the product of pairs behind the prime -/
theorem prod_cg {sh : Int} {a b u v a' b' u' v' : Nat → Int} (ha : ∀ k, k < 6 → Cg p (a k) (a' k)) (hb : ∀ k, k < 6 → Cg p (b k) (b' k)) (hu : ∀ k, k < 6 → Cg p (u k) (u' k)) (hv : ∀ k, k < 6 → Cg p (v k) (v' k)) (k : Nat) :
    Cg p (fdR sh (tmR a b u v) (tmI a b u v) 5 k) (fdR sh (tmR a' b' u' v') (tmI a' b' u' v') 5 k) ∧ Cg p (fdI sh (tmR a b u v) (tmI a b u v) 5 k) (fdI sh (tmR a' b' u' v') (tmI a' b' u' v') 5 k) :=
  fd_cg (rowsT_cg (fun j k hj hk => ((ha j hj).mul (hu k hk)).sub ((hb j hj).mul (hv k hk))) 6 (Nat.le_refl _)) (rowsT_cg (fun j k hj hk => ((ha j hj).mul (hv k hk)).add ((hb j hj).mul (hu k hk))) 6 (Nat.le_refl _)) 5 k
end
/-- the one, as pairs -/
def oneA : Nat → Int := fun i => if i = 0 then 1 else 0
def zeroB : Nat → Int := fun _ => 0
theorem rowT_zero {v : Nat → Int} (hv : ∀ k, v k = 0) (j : Nat) (f : Nat → Int) : ∀ n k, rowT v j f n k = f k
  | 0, _ => rfl
  | n + 1, k => by
    unfold rowT upd
    by_cases e : k = j + n
    · rw [if_pos e, hv, Int.add_zero, rowT_zero hv j f n, e]
    · rw [if_neg e, rowT_zero hv j f n]
theorem rowsT_first {V : Nat → Nat → Int} (hV : ∀ j k, V (j + 1) k = 0) : ∀ n k, rowsT V (n + 1) k = rowT (V 0) 0 (fun _ => 0) 6 k
  | 0, _ => rfl
  | n + 1, k => (rowT_zero (hV n) (n + 1) _ 6 k).trans (rowsT_first hV n k)
theorem rowT_first (v : Nat → Int) : ∀ k, k < 6 → rowT v 0 (fun _ => 0) 6 k = v k ∧ rowT v 0 (fun _ => 0) 6 (k + 6) = 0 := fun k h => by
  have e : ∀ k, k < 6 → rowT v 0 (fun _ => 0) 6 k = 0 + v k := fun k h => by
    match k, h with
    | 0, _ | 1, _ | 2, _ | 3, _ | 4, _ | 5, _ => kernel_rfl
  refine ⟨(e k h).trans (Int.zero_add _), ?_⟩
  match k, h with
  | 0, _ | 1, _ | 2, _ | 3, _ | 4, _ | 5, _ => kernel_rfl
theorem prod_one (sh : Int) (a b : Nat → Int) (k : Nat) (h : k < 6) : fdR sh (tmR oneA zeroB a b) (tmI oneA zeroB a b) 5 k = a k ∧ fdI sh (tmR oneA zeroB a b) (tmI oneA zeroB a b) 5 k = b k := by
  have V0 : ∀ u v : Nat → Int, ∀ k, oneA 0 * u k - zeroB 0 * v k = u k := fun u v k => by show 1 * u k - 0 * v k = u k; rw [Int.one_mul, Int.zero_mul, Int.sub_zero]
  have V1 : ∀ u v : Nat → Int, ∀ k, oneA 0 * u k + zeroB 0 * v k = u k := fun u v k => by show 1 * u k + 0 * v k = u k; rw [Int.one_mul, Int.zero_mul, Int.add_zero]
  have r : ∀ k, k < 6 → tmR oneA zeroB a b k = a k ∧ tmR oneA zeroB a b (k + 6) = 0 := fun k h => by
    have f := rowsT_first (V := fun j k => oneA j * a k - zeroB j * b k) (fun j k => by show 0 * a k - 0 * b k = 0; rw [Int.zero_mul, Int.zero_mul]; rfl) 5
    exact ⟨(f k).trans ((rowT_first _ k h).1.trans (V0 a b k)), (f _).trans (rowT_first _ k h).2⟩
  have q : ∀ k, k < 6 → tmI oneA zeroB a b k = b k ∧ tmI oneA zeroB a b (k + 6) = 0 := fun k h => by
    have f := rowsT_first (V := fun j k => oneA j * b k + zeroB j * a k) (fun j k => by show 0 * b k + 0 * a k = 0; rw [Int.zero_mul, Int.zero_mul]; rfl) 5
    exact ⟨(f k).trans ((rowT_first _ k h).1.trans (V1 b a k)), (f _).trans (rowT_first _ k h).2⟩
  unfold fdR fdI
  rw [(r k h).1, (r k h).2, (q k h).1, (q k h).2, Int.mul_zero, Int.add_zero, Int.sub_zero, Int.add_zero, Int.add_zero]
  exact ⟨ite_self _, ite_self _⟩
noncomputable def pwP (sh p : Int) (a b : Nat → Int) : Nat → (Nat → Int) × (Nat → Int)
  | 0 => (oneA, zeroB)
  | n + 1 => (fun i => (fdR sh (tmR (pwP sh p a b n).1 (pwP sh p a b n).2 a b) (tmI (pwP sh p a b n).1 (pwP sh p a b n).2 a b) 5 i).fmod p,
      fun i => (fdI sh (tmR (pwP sh p a b n).1 (pwP sh p a b n).2 a b) (tmI (pwP sh p a b n).1 (pwP sh p a b n).2 a b) 5 i).fmod p)
theorem pwP_sp {sh p : Int} (hp : 0 < p) (hb : Builtin.Int.intBits p ≤ 1000000) (a b : Nat → Int) : ∀ n, Sp (pwP sh p a b n).1 (pwP sh p a b n).2
  | 0 => fun i _ => ⟨by show Builtin.Int.intBits (if i = 0 then 1 else 0) ≤ _; split <;> exact Nat.le_trans (intBits_le_64 (by decide) (by decide)) (by decide), Nat.le_trans (intBits_le_64 (k := 0) (by decide) (by decide)) (by decide)⟩
  | _ + 1 => (Bd.init hp hb).sp (by decide)
section
variable {sh p ma mb : Int} {a b c a' b' : Nat → Int}
theorem Rel.cg (hp : 0 < p) (h : Rel sh p a b c) (ha : ∀ i, i < 6 → Cg p (a' i) (a i)) (hb : ∀ i, i < 6 → Cg p (b' i) (b i)) : Rel sh p a' b' c := fun i hi =>
  ⟨(h i hi).1.trans (Cg.eq hp ((ha i hi).sub (Cg.refl.mul (hb i hi)))).symm, (h i hi).2.trans (Cg.eq hp (hb i hi)).symm⟩
theorem rel_const {e : List Int} {u v : Nat → Int} (h : ∀ i, i < 6 → e.getD i 0 = u i - sh * v i ∧ e.getD (i + 6) 0 = v i) : Rel sh p u v (fun i => (e.getD i 0).fmod p) := fun i hi =>
  ⟨congrArg (Int.fmod · p) (h i hi).1, congrArg (Int.fmod · p) (h i hi).2⟩
theorem sub_mul0 (x y : Int) : x = x - y * 0 := by rw [Int.mul_zero, Int.sub_zero]
theorem rel_one : Rel sh p oneA zeroB (oneC p) := rel_const fun i hi => by
  match i, hi with
  | 0, _ | 1, _ | 2, _ | 3, _ | 4, _ | 5, _ => exact ⟨sub_mul0 _ sh, rfl⟩
theorem rel_pw (hp : 0 < p) (ha : ma = sh * sh + 1) (hb : mb = -2 * sh) (h : Rel sh p a b c) {n : Nat} (hn : n ≤ 2) : Rel sh p (pwP sh p a b n).1 (pwP sh p a b n).2 (powG ma mb p n (oneC p) c) := by
  obtain rfl | rfl | rfl : n = 0 ∨ n = 1 ∨ n = 2 := by omega
  · exact rel_one
  · exact rel_mul hp ha hb rel_one h
  · have h2 := rel_mul hp ha hb rel_one (rel_mul hp ha hb h h)
    refine Rel.cg hp h2 (fun i hi => ?_) fun i hi => ?_
    · refine (Cg.mod hp).trans (Cg.trans ?_ (Cg.mod hp).symm)
      refine ((prod_cg (a' := a) (b' := b) (fun k hk => ?_) (fun k hk => ?_) (fun _ _ => Cg.refl) (fun _ _ => Cg.refl) i).1).trans ?_
      · exact (Cg.mod hp).trans (Cg.of_eq (prod_one sh a b k hk).1)
      · exact (Cg.mod hp).trans (Cg.of_eq (prod_one sh a b k hk).2)
      · exact ((Cg.of_eq (prod_one sh _ _ i hi).1).trans (Cg.mod hp)).symm
    · refine (Cg.mod hp).trans (Cg.trans ?_ (Cg.mod hp).symm)
      refine ((prod_cg (a' := a) (b' := b) (fun k hk => ?_) (fun k hk => ?_) (fun _ _ => Cg.refl) (fun _ _ => Cg.refl) i).2).trans ?_
      · exact (Cg.mod hp).trans (Cg.of_eq (prod_one sh a b k hk).1)
      · exact (Cg.mod hp).trans (Cg.of_eq (prod_one sh a b k hk).2)
      · exact ((Cg.of_eq (prod_one sh _ _ i hi).2).trans (Cg.mod hp)).symm
/-- the root, as pairs -/
def rootC (sh p : Int) : Nat → Int := fun i => (([-sh, 0, 0, 0, 0, 0, 1, 0, 0, 0, 0, 0] : List Int).getD i 0).fmod p
theorem rel_root : Rel sh p zeroB oneA (rootC sh p) := rel_const fun i hi => by
  match i, hi with
  | 0, _ => exact ⟨by show -sh = 0 - sh * 1; rw [Int.mul_one, Int.zero_sub], rfl⟩
  | 1, _ | 2, _ | 3, _ | 4, _ | 5, _ => exact ⟨sub_mul0 0 sh, rfl⟩
theorem root_dec : ∀ k, k < 6 → tmR zeroB oneA zeroB oneA k = (if k = 0 then -1 else 0) ∧ tmR zeroB oneA zeroB oneA (k + 6) = 0 ∧ tmI zeroB oneA zeroB oneA k = 0 ∧ tmI zeroB oneA zeroB oneA (k + 6) = 0 := by decide +kernel
theorem root_sq (sh : Int) (k : Nat) (h : k < 6) : fdR sh (tmR zeroB oneA zeroB oneA) (tmI zeroB oneA zeroB oneA) 5 k = (if k = 0 then -1 else 0) ∧ fdI sh (tmR zeroB oneA zeroB oneA) (tmI zeroB oneA zeroB oneA) 5 k = 0 := by
  obtain ⟨e1, e2, e3, e4⟩ := root_dec k h
  unfold fdR fdI
  rw [e1, e2, e3, e4, Int.mul_zero, Int.add_zero, Int.sub_zero]
  exact ⟨ite_self _, ite_self _⟩
theorem tab_of_rel (h : Rel sh p a b c) : tab 12 c = tab 6 (fun i => (a i - sh * b i).fmod p) ++ tab 6 (fun i => (b i).fmod p) := by
  have e : ∀ f : Nat → Int, tab 6 f = [f 0, f 1, f 2, f 3, f 4, f 5] := fun _ => rfl
  have e2 : tab 12 c = [c 0, c 1, c 2, c 3, c 4, c 5, c 6, c 7, c 8, c 9, c 10, c 11] := rfl
  have h0 := h 0 (by decide); have h1 := h 1 (by decide); have h2 := h 2 (by decide); have h3 := h 3 (by decide); have h4 := h 4 (by decide); have h5 := h 5 (by decide)
  simp only [Nat.reduceAdd] at h0 h1 h2 h3 h4 h5
  rw [e, e, e2]
  simp only [List.cons_append, List.nil_append, h0.1, h0.2, h1.1, h1.2, h2.1, h2.2, h3.1, h3.2, h4.1, h4.2, h5.1, h5.2]
theorem root_tab (hp : 0 < p) (ha : ma = sh * sh + 1) (hb : mb = -2 * sh) : tab 12 (fun i => (mulF ma mb (rootC sh p) (rootC sh p) i).fmod p) = [(p - 1).fmod p] ++ [0, 0, 0, 0, 0, 0, 0, 0, 0, 0, 0] := by
  have r : Rel sh p (fun i => if i = 0 then -1 else 0) (fun _ => 0) (fun i => (mulF ma mb (rootC sh p) (rootC sh p) i).fmod p) := Rel.cg hp (rel_mul hp ha hb rel_root rel_root)
    (fun i hi => ((Cg.mod hp).trans (Cg.of_eq (root_sq sh i hi).1)).symm) (fun i hi => ((Cg.mod hp).trans (Cg.of_eq (root_sq sh i hi).2)).symm)
  rw [tab_of_rel r]
  have q : (-1 - sh * 0 : Int).fmod p = (p - 1).fmod p := Cg.eq hp ⟨-1, by omega⟩
  have z : (0 - sh * 0 : Int).fmod p = 0 := by rw [Int.mul_zero, Int.sub_zero, Int.zero_fmod]
  show [(-1 - sh * 0 : Int).fmod p, (0 - sh * 0 : Int).fmod p, (0 - sh * 0 : Int).fmod p, (0 - sh * 0 : Int).fmod p, (0 - sh * 0 : Int).fmod p, (0 - sh * 0 : Int).fmod p, (0 : Int).fmod p, (0 : Int).fmod p, (0 : Int).fmod p, (0 : Int).fmod p, (0 : Int).fmod p, (0 : Int).fmod p] = _
  rw [q, z, Int.zero_fmod]
  rfl
end
end Mine
open PySem PySem.Spec PySem.Calls PyProof.Rows PySem.W
set_option Elab.async false
set_option autoImplicit false
set_option maxRecDepth 100000
set_option maxHeartbeats 8000000
namespace Mine
/-- the second loop: a deed set behind the rows -/
theorem turn2_end {w : World} {h₀ h' : Heap} {L I t Dr M : Addr} {m m₀ : Str → Option Value} {xs : List Str} {s : Shared} {tk n B B' kk kk' : Nat} {gs : Array GenState} {ps8 : Array Value} {o4 o4' oR oI : Obj} {own tl tl8 R1 NN : List (Addr × Obj)} {vs : List Value} {ma mb p sh : Int}
    {Qr : Value → Shared → Prop} {Qb : Shared → Prop} (F : Fr h₀ L h' m) (G : AllBare gs) (N : News h₀ L h' ((44, tabO ps8) :: (Dr, W.listOf (vs.toArray.push (.ref t)) kk') :: (tl8 ++ R1)))
    (A8 : Above tl8 ((44, o4') :: (Dr, W.listOf vs.toArray kk) :: R1)) (hR1 : R1 = own ++ (tl ++ NN)) (hoff : ∀ q ∈ (44, o4) :: (Dr, oR) :: (tl ++ NN), q.1 ∉ [I]) (hI : (I, oI) ∈ own) (hD1 : ∀ q ∈ R1, q.1 ≠ Dr) (h41 : ∀ q ∈ R1, q.1 ≠ 44) (hr : @Ne Nat Dr 44) (ht : TriplesOk ps8.toList)
    (hlen : vs.length = n) (hrow : ∀ j, j < n → ∃ v, vs[j]? = some v ∧ RowOk w (tl ++ NN) M ma mb p sh B v) (hB : B ≤ B') (row : RowOk w tl8 M ma mb p sh B' (.ref t)) (ov : Over xs m₀ m) :
    GEnd h₀ L [I] own (fun m nw => Over xs m₀ m ∧ RowsJ w M ma mb p sh B' Dr NN (n + 1) nw) s Qr Qb .next { s with heap := h', toks := tk, gens := gs } := by
  subst hR1
  have e : vs.toArray.push (Value.ref t) = (vs ++ [Value.ref t]).toArray := by simp
  rw [e] at N
  have sub : ∀ q ∈ (tl8 ++ tl) ++ NN, q ∈ tl8 ++ (own ++ (tl ++ NN)) := by repeat' (first | exact sub_nil | exact fun _ h => h | exact subL | exact List.Mem.head _ | refine sub_cons ?_ ?_ | refine sub_app ?_ ?_ | refine subT ?_ | refine subR ?_ | refine List.Mem.tail _ ?_ | refine List.mem_append_right _ ?_)
  have offI : ∀ q ∈ (tl8 ++ tl) ++ NN, q.1 ≠ I := fun q hq => by
    rcases List.mem_append.mp hq with hq | hq
    · rcases List.mem_append.mp hq with hq | hq
      · exact A8 q hq (I, oI) (List.mem_cons_of_mem _ (List.mem_cons_of_mem _ (List.mem_append_left _ hI)))
      · exact fun e => hoff q (List.mem_cons_of_mem _ (List.mem_cons_of_mem _ (List.mem_append_left _ hq))) (List.mem_singleton.mpr e)
    · exact fun e => hoff q (List.mem_cons_of_mem _ (List.mem_cons_of_mem _ (List.mem_append_right _ hq))) (List.mem_singleton.mpr e)
  refine GEnd.of ((44, tabO ps8) :: (Dr, W.listOf (vs ++ [Value.ref t]).toArray kk') :: ((tl8 ++ tl) ++ NN)) G F N ?_ ?_ ?_ ⟨ov, ps8, _, _, _, rfl, ht, hr, ?_, ?_, by simp [hlen], ?_⟩
  · exact fun q hq => List.mem_cons_of_mem _ (List.mem_cons_of_mem _ (List.mem_append_right _ (List.mem_append_left _ hq)))
  · intro q hq
    rcases List.mem_cons.mp hq with rfl | hq
    · exact List.Mem.head _
    · rcases List.mem_cons.mp hq with rfl | hq
      · exact List.Mem.tail _ (List.Mem.head _)
      · exact List.Mem.tail _ (List.Mem.tail _ (sub q hq))
  · intro q hq
    rcases List.mem_cons.mp hq with rfl | hq
    · exact hoff (44, o4) List.mem_cons_self
    · rcases List.mem_cons.mp hq with rfl | hq
      · exact hoff (Dr, oR) (by simp)
      · exact fun e => offI q hq (List.mem_singleton.mp e)
  · intro q hq
    rcases List.mem_append.mp (sub q hq) with hq | hq
    · exact A8 q hq (Dr, _) (List.mem_cons_of_mem _ List.mem_cons_self)
    · exact hD1 q hq
  · intro q hq
    rcases List.mem_append.mp (sub q hq) with hq | hq
    · exact A8 q hq (44, _) List.mem_cons_self
    · exact h41 q hq
  · intro j hj
    by_cases h : j < n
    · obtain ⟨v, hv, hR⟩ := hrow j h
      refine ⟨v, by rw [List.getElem?_append_left (by omega)]; exact hv, (hR.up hB).mono fun q hq => ?_⟩
      simp only [List.mem_append] at hq ⊢
      rcases hq with h | h <;> simp [h]
    · have hj' : j = n := by omega
      subst hj'
      refine ⟨.ref t, by rw [← hlen]; simp, row.mono fun q hq => ?_⟩
      simp only [List.mem_append]
      exact .inl (.inl hq)
/-- the third loop: nothing stays -/
theorem turn3_end {h₀ h' : Heap} {L I : Addr} {m m₀ : Str → Option Value} {xs : List Str} {s : Shared} {tk : Nat} {gs : Array GenState} {own LED l : List (Addr × Obj)} {Qr : Value → Shared → Prop} {Qb : Shared → Prop}
    (F : Fr h₀ L h' m) (G : AllBare gs) (N : News h₀ L h' l) (so : ∀ q ∈ own ++ LED, q ∈ l) (hoff : ∀ q ∈ LED, q.1 ∉ [I]) (ov : Over xs m₀ m) :
    GEnd h₀ L [I] own (fun m nw => Over xs m₀ m ∧ nw = LED) s Qr Qb .next { s with heap := h', toks := tk, gens := gs } :=
  GEnd.of LED G F N (fun q hq => so q (List.mem_append_left _ hq)) (fun q hq => so q (List.mem_append_right _ hq)) hoff ⟨ov, rfl⟩
section
variable {prog : Program} {w : World} {A : Around} {E : Value → Shared → Prop} {s : Shared} {env : Env} {h₀ : Heap} {x : Str} {body : List Stmt} {Q : Flow → Shared → Prop}
/-- range_inv, the frame told too -/
theorem range_invM {I : Addr} {a : Int} {n : Nat} {m₀ : Str → Option Value} {news : List (Addr × Obj)} (J : Nat → (Str → Option Value) → List (Addr × Obj) → Prop) (h0 : J 0 m₀ news) (off0 : ∀ p ∈ news, p.1 ≠ I)
    (turn : ∀ i m nw t h tk, i < n → J i m nw → (∀ p ∈ nw, p.1 ≠ I) → Fr h₀ env.locals h (fun y => if y = x then some (.int (a + (i : Int)) t) else m y) →
      News h₀ env.locals h ((I, itR (a + ((i + 1 : Nat) : Int)) ((n : Int) - ((i + 1 : Nat) : Int))) :: nw) →
      wpAny (model prog w) A (execs body env) (UnrPost h₀ env.locals { s with heap := h, toks := tk } I (itR (a + ((i + 1 : Nat) : Int)) ((n : Int) - ((i + 1 : Nat) : Int))) (J (i + 1)) Q) E { s with heap := h, toks := tk })
    (done : ∀ m nw h tk, J n m nw → Fr h₀ env.locals h m → News h₀ env.locals h nw → Q .next { s with heap := h, toks := tk }) :
    RangeRest prog w A E h₀ env x body Q s I a n n 0 m₀ news := by
  have all : ∀ k i m' nw, i + k = n → J i m' nw → (∀ p ∈ nw, p.1 ≠ I) → RangeRest prog w A E h₀ env x body Q s I a n k i m' nw := by
    intro k
    induction k with
    | zero => intro i m' nw e hj off
              have : i = n := by omega
              subst this
              exact RangeRest.zero fun h tk F N => done _ _ h tk hj F N
    | succ k ih =>
      intro i m' nw e hj off
      refine RangeRest.succ fun t h tk F N => ?_
      exact wpAny_mono (turn i _ nw t h tk (by omega) hj off F N) (fun f s₂ hf => unrPost_mono hf fun m'' nw' off' hr => ih (i + 1) m'' nw' (by omega) hr off') fun _ _ e => e
  exact all n 0 m₀ news (by omega) h0 off0
theorem range_loopM {r : Addr} {a₀ b₀ : Int} {t₀ u₀ v₀ : Tok} (n : Nat) {m₀ : Str → Option Value} {news : List (Addr × Obj)}
    (hh : A.handled = none) (hr : IsRange s.heap r a₀ b₀ 1 t₀ u₀ v₀) (hsmall : Builtin.Range.small a₀ b₀ 1 = true) (hn : Builtin.Range.rangeSize a₀ b₀ 1 = (n : Int)) (F : Fr h₀ env.locals s.heap m₀) (N : News h₀ env.locals s.heap news)
    (J : Nat → (Str → Option Value) → List (Addr × Obj) → Prop) (h0 : J 0 m₀ news)
    (turn : ∀ I i m nw t h tk, (∀ p ∈ news, p.1 < I) → i < n → J i m nw → (∀ p ∈ nw, p.1 ≠ I) → Fr h₀ env.locals h (fun y => if y = x then some (.int (a₀ + (i : Int)) t) else m y) →
      News h₀ env.locals h ((I, itR (a₀ + ((i + 1 : Nat) : Int)) ((n : Int) - ((i + 1 : Nat) : Int))) :: nw) →
      wpAny (model prog w) A (execs body env) (UnrPost h₀ env.locals { s with heap := h, toks := tk } I (itR (a₀ + ((i + 1 : Nat) : Int)) ((n : Int) - ((i + 1 : Nat) : Int))) (J (i + 1)) Q) E { s with heap := h, toks := tk })
    (done : ∀ m nw h tk, J n m nw → Fr h₀ env.locals h m → News h₀ env.locals h nw → Q .next { s with heap := h, toks := tk }) :
    wpAny (model prog w) A (pyIter (.ref r)) (fun it s₂ => LoopAtV prog w A h₀ env x body Q E it s₂) E s :=
  iter_rangeUnr hh hr hsmall hn F N fun I hI => range_invM J h0 (fun p hp => Nat.ne_of_lt (hI p hp)) (fun i m nw t h tk => turn I i m nw t h tk hI) done
end
theorem Over.one {xs : List Str} {a : Str} {v : Option Value} {m m' : Str → Option Value} (h : Over xs m m') (ha : m' a = v) : m' = fun y => if y = a then v else Mine.over xs m' m y := by
  funext y
  by_cases h1 : y = a
  · subst h1; simp [ha]
  · simp only [if_neg h1]
    exact congrFun h.eq y
section
variable {prog : Program} {w : World} {A : Around} {E : Value → Shared → Prop} {s : Shared} {h₀ : Heap} {L D : Addr} {m : Str → Option Value} {news : List (Addr × Obj)}
/-- list(t) of a ledger tuple of twelve ints -/
theorem list_tup12 {T : Addr} {ys : List Value} {c : Nat → Int} {Q : Value → Shared → Prop} (F : Fr h₀ L s.heap m) (N : News h₀ L s.heap news) (hm : (T, tupV ys) ∈ news) (hi : IntsAre ys (tab 12 c))
    (h : ∀ D k h', Fr h₀ L h' m → News h₀ L h' ((D, W.listOf ys.toArray k) :: news) → (∀ q ∈ news, q.1 < D) → Q (.ref D) { s with heap := h' }) : wpAny (model prog w) A (call (.type "list") [.ref T]) Q E s := by
  have hl : ys.length = 12 := by rw [hi.length, tab_length]
  exact kup_listOfT F N hm (zs := ys) (by simp) h (by show ys.length ≤ sizeLine; rw [hl]; decide)
theorem cmp_ne_same {a b : Addr} {k k' : Nat} {xs ys : List Value} {ns ms : List Int} {Q : Value → Shared → Prop} (N : News h₀ L s.heap news) (ha : (a, W.listOf xs.toArray k) ∈ news) (hb : (b, W.listOf ys.toArray k') ∈ news) (hi : IntsAre xs ns) (hj : IntsAre ys ms) (e : ns = ms) (hu : A.units + 64 < cLine)
    (h : Q (.bool false) s) : wpAny (model prog w) A (compareOp .NotEq (.ref a) (.ref b)) Q E s :=
  ke_ne_ints ⟨_, (N _ ha).1, rfl, _, rfl⟩ ⟨_, (N _ hb).1, rfl, _, rfl⟩ hi hj hu (by rw [decide_eq_true e]; exact h)
theorem cmp_eq_same {a b : Addr} {k k' : Nat} {xs ys : List Value} {ns ms : List Int} {Q : Value → Shared → Prop} (N : News h₀ L s.heap news) (ha : (a, W.listOf xs.toArray k) ∈ news) (hb : (b, W.listOf ys.toArray k') ∈ news) (hi : IntsAre xs ns) (hj : IntsAre ys ms) (e : ns = ms) (hu : A.units + 64 < cLine)
    (h : Q (.bool true) s) : wpAny (model prog w) A (compareOp .Eq (.ref a) (.ref b)) Q E s :=
  ke_eq_ints ⟨_, (N _ ha).1, rfl, _, rfl⟩ ⟨_, (N _ hb).1, rfl, _, rfl⟩ hi hj hu (by rw [decide_eq_true e]; exact h)
/-- the last item of a ledger list -/
theorem last_item {vs : List Value} {k n : Nat} {t : Tok} {v : Value} {value slice : PySem.Expr} {Q : Value → Shared → Prop} (N : News h₀ L s.heap news) (hm : (D, W.listOf vs.toArray k) ∈ news) (hn : vs.length = n + 1) (hx : vs[n]? = some v) (h : Q v s)
    (hs : subscripted slice false (.ref D) (.int (-1) t) = operate [.ref D, .int (-1) t] (getItem (.ref D) (.int (-1) t)) := by with_unfolding_all rfl) :
    wpAny (model prog w) A (subscriptTail value slice (.ref D) (.int (-1) t)) Q E s := by
  have hl : s.heap.IsList D vs.toArray := ⟨_, (N _ hm).1, rfl, _, rfl⟩
  have hz : vs.toArray.size = n + 1 := by rw [List.size_toArray]; exact hn
  refine tail_any hl.typeIs PySem.F.slot_list_getitem.lookup (wpAny_getItem_list_neg hl (by omega) (by rw [hz]; omega) (by decide) (x := v) ?_ h) hs
  rw [hz]
  have : ((-1 : Int) + ((n + 1 : Nat) : Int)).toNat = n := by omega
  rw [this]
  simpa using hx
def Le2 (n : Nat) : Prop := n ≤ 2
theorem mod3 {x : Int} {t u : Tok} {Q : Value → Shared → Prop} (h : ∀ (n : Nat) t' tk, Le2 n → Q (.int (n : Int) t') { s with toks := tk }) : wpAny (model prog w) A (binaryOp .Mod (.int x t) (.int 3 u)) Q E s := by
  refine AutoIntOps.mod_1 (by decide) ?_
  have h1 := Int.fmod_nonneg_of_pos x (show (0 : Int) < 3 by decide)
  have h2 := Int.fmod_lt_of_pos x (show (0 : Int) < 3 by decide)
  obtain ⟨n, hn⟩ := Int.eq_ofNat_of_zero_le h1
  rw [hn]
  exact h n _ _ (show n ≤ 2 by omega)
end
theorem slice_bits {ns : List Int} (h : PyData.layable0 (.list (ns.map .int)) = true) {i : Nat} (hi : i < 2) :
    Builtin.Int.intBits (List.getD (List.take (min 4 (tab 41 (gv ns)).length - 2) (List.drop 2 (tab 41 (gv ns)))) i 0) ≤ 1048576 := by
  rw [tab_length]
  match i, hi with
  | 0, _ => exact gv_bits h (k := 2) (by decide)
  | 1, _ => exact gv_bits h (k := 3) (by decide)
theorem nat_bits {z : Int} {n : Nat} (h : Builtin.Int.intBits z ≤ n) : Builtin.Int.intBits (z.natAbs : Int) ≤ n := intBits_le_of_natAbs (by omega) h
/-- the rows' ledger, its parts named -/
theorem rows_name {w : World} {h₀ h : Heap} {L Dr M : Addr} {a x : Addr × Obj} {R NN : List (Addr × Obj)} {vs : List Value} {ma mb p sh : Int} {B n kk : Nat} {ps : Array Value} (N : News h₀ L h ((44, tabO ps) :: (Dr, W.listOf vs.toArray kk) :: (R ++ a :: NN))) (hD : ∀ q ∈ R ++ a :: NN, q.1 ≠ Dr) (h4 : ∀ q ∈ R ++ a :: NN, q.1 ≠ 44)
    (hrow : ∀ j, j < n → ∃ v, vs[j]? = some v ∧ RowOk w (R ++ a :: NN) M ma mb p sh B v) (g : x ∈ NN) :
    Yb6 (fun (D : Addr) (R' : List (Addr × Obj)) => D = Dr) (fun (D : Addr) (R' : List (Addr × Obj)) => News h₀ L h ((44, tabO ps) :: (D, W.listOf vs.toArray kk) :: R')) (fun (D : Addr) (R' : List (Addr × Obj)) => ∀ q ∈ R', q.1 ≠ D) (fun (D : Addr) (R' : List (Addr × Obj)) => ∀ q ∈ R', q.1 ≠ 44) (fun (D : Addr) (R' : List (Addr × Obj)) => ∀ j, j < n → ∃ v, vs[j]? = some v ∧ RowOk w R' M ma mb p sh B v) (fun (D : Addr) (R' : List (Addr × Obj)) => x ∈ R') :=
  ⟨_, _, rfl, N, hD, h4, hrow, List.mem_append_right _ (List.mem_cons_of_mem _ g)⟩
/-- ahead of the power's loop: the table first -/
theorem pow_led {h₀ h : Heap} {L P a1 a2 z a3 e Dr : Addr} {oP o1 o2 oz o3 oe o4 oR : Obj} {R5 : List (Addr × Obj)} (N : News h₀ L h ((P, oP) :: (a1, o1) :: (a2, o2) :: (z, oz) :: (a3, o3) :: (e, oe) :: (44, o4) :: (Dr, oR) :: R5))
    (nP : @Ne Nat P 44) (n1 : @Ne Nat a1 44) (n2 : @Ne Nat a2 44) (nz : @Ne Nat z 44) (n3 : @Ne Nat a3 44) (ne : @Ne Nat e 44) (nr : @Ne Nat Dr 44) (h5 : ∀ q ∈ R5, q.1 ≠ 44) :
    Y8 (fun (LED : List (Addr × Obj)) => LED = (P, oP) :: (a1, o1) :: (a2, o2) :: (z, oz) :: (a3, o3) :: (e, oe) :: (Dr, oR) :: R5) (fun (LED : List (Addr × Obj)) => News h₀ L h ((44, o4) :: LED)) (fun (LED : List (Addr × Obj)) => ∀ q ∈ LED, q.1 ≠ 44) (fun (LED : List (Addr × Obj)) => (P, oP) ∈ LED) (fun (LED : List (Addr × Obj)) => (z, oz) ∈ LED) (fun (LED : List (Addr × Obj)) => (e, oe) ∈ LED) (fun (LED : List (Addr × Obj)) => (Dr, oR) ∈ LED) (fun (LED : List (Addr × Obj)) => ∀ q ∈ R5, q ∈ LED) := by
  refine ⟨_, rfl, fun p hp => N p ?_, all_cons nP (all_cons n1 (all_cons n2 (all_cons nz (all_cons n3 (all_cons ne (all_cons nr h5)))))), by simp, by simp, by simp, by simp, fun q hq => by simp [hq]⟩
  revert p; repeat' (first | exact sub_nil | exact fun _ h => h | exact subL | exact List.Mem.head _ | refine sub_cons ?_ ?_ | refine sub_app ?_ ?_ | refine subT ?_ | refine subR ?_ | refine List.Mem.tail _ ?_ | refine List.mem_append_right _ ?_)
theorem prs_pow {LED : List (Addr × Obj)} {e z : Addr} {u1 u2 u3 u4 : Tok} (he : (e, tupO 1 u1 0 u2) ∈ LED) (hz : (z, tupO 0 u3 0 u4) ∈ LED) : Prs LED [.ref e, .ref z, .ref z, .ref z, .ref z, .ref z] 6 oneA zeroB := by
  refine ⟨rfl, fun j hj => ?_⟩
  match j, hj with
  | 0, _ => exact ⟨e, u1, u2, rfl, he⟩
  | 1, _ | 2, _ | 3, _ | 4, _ | 5, _ => exact ⟨z, u3, u4, rfl, hz⟩
/-- the power's loop, between its turns -/
inductive PowJ (sh p : Int) (a b : Nat → Int) (x : Str) (xs : List Str) (m₀ : Str → Option Value) (o4 : Obj) (LED : List (Addr × Obj)) (i : Nat) (m : Str → Option Value) (nw : List (Addr × Obj)) : Prop
  | mk (l : Addr) (ys : List Value) (k : Nat) (tl : List (Addr × Obj)) (u : Str → Option Value) (h1 : m = (fun y => if y = x then some (.ref l) else over xs u m₀ y)) (h2 : nw = (44, o4) :: (tl ++ LED)) (h3 : ∀ q ∈ tl ++ LED, q.1 ≠ 44) (h4 : (l, W.listOf ys.toArray k) ∈ tl ++ LED) (h5 : Prs (tl ++ LED) ys 6 (pwP sh p a b i).1 (pwP sh p a b i).2) : PowJ sh p a b x xs m₀ o4 LED i m nw
theorem pow_turn_end {h₀ h' : Heap} {L I r : Addr} {m m₀ : Str → Option Value} {x : Str} {xs : List Str} {s₁ : Shared} {tk i k : Nat} {it o4 : Obj} {tl tl' LED : List (Addr × Obj)} {ys : List Value} {sh p : Int} {a b : Nat → Int}
    (F : Fr h₀ L h' m) (N : News h₀ L h' (tl' ++ (I, it) :: (44, o4) :: (tl ++ LED))) (A : Above tl' ((I, it) :: (44, o4) :: (tl ++ LED))) (off : ∀ q ∈ (44, o4) :: (tl ++ LED), q.1 ≠ I) (h44 : ∀ q ∈ tl ++ LED, q.1 ≠ 44) (m8 : (r, W.listOf ys.toArray k) ∈ tl')
    (P8 : Prs tl' ys 6 (pwP sh p a b (i + 1)).1 (pwP sh p a b (i + 1)).2) (ov : Over xs m₀ m) (hm : m x = some (.ref r)) : UnrEnd h₀ L s₁ I it (PowJ sh p a b x xs m₀ o4 LED (i + 1)) { s₁ with heap := h', toks := tk } := by
  refine unr_end ((44, o4) :: ((tl' ++ tl) ++ LED)) F N (List.mem_append_right _ List.mem_cons_self) (fun q hq => ?_) (fun q hq => ?_) ⟨r, ys, k, tl' ++ tl, m, Over.one ov hm, rfl, fun q hq => ?_, List.mem_append_left _ (List.mem_append_left _ m8), P8.mono fun q hq => List.mem_append_left _ (List.mem_append_left _ hq)⟩
  · revert q; repeat' (first | exact sub_nil | exact fun _ h => h | exact subL | exact List.Mem.head _ | refine sub_cons ?_ ?_ | refine sub_app ?_ ?_ | refine subT ?_ | refine subR ?_ | refine List.Mem.tail _ ?_ | refine List.mem_append_right _ ?_)
  · rcases List.mem_cons.mp hq with rfl | hq
    · exact off _ List.mem_cons_self
    · rw [List.append_assoc] at hq
      rcases List.mem_append.mp hq with hq | hq
      · exact A q hq _ List.mem_cons_self
      · exact off q (List.mem_cons_of_mem _ hq)
  · rw [List.append_assoc] at hq
    rcases List.mem_append.mp hq with hq | hq
    · exact A q hq (44, o4) (List.mem_cons_of_mem _ List.mem_cons_self)
    · exact h44 q hq
theorem small_le2 {n : Nat} (h : Le2 n) : Builtin.Range.small 0 (n : Int) 1 = true := small_one (by decide) (by decide) (by have : n ≤ 2 := h; omega) (by have : n ≤ 2 := h; omega)
theorem size_le2 (n : Nat) : Builtin.Range.rangeSize 0 (n : Int) 1 = (n : Int) := by
  rw [rangeSize_nat]
  omega
theorem root_led {h₀ h : Heap} {L l : Addr} {o o4 : Obj} {d : Addr × Obj} {tl R : List (Addr × Obj)} (N : News h₀ L h ((l, o) :: (tl ++ d :: (44, o4) :: R))) (lt : ∀ q ∈ tl ++ d :: (44, o4) :: R, q.1 < l) : News h₀ L h [(44, o4), (l, o)] ∧ ∀ q ∈ [(l, o)], q.1 ≠ 44 :=
  ⟨news_of N (by repeat' (first | exact sub_nil | exact fun _ h => h | exact subL | exact List.Mem.head _ | refine sub_cons ?_ ?_ | refine sub_app ?_ ?_ | refine subT ?_ | refine subR ?_ | refine List.Mem.tail _ ?_ | refine List.mem_append_right _ ?_)), all_cons (Nat.ne_of_gt (lt (44, o4) (by simp))) fun _ h => absurd h List.not_mem_nil⟩
theorem post_true (ns : List Int) : PySem.Challenge.rw_kh0011_01.row.claim.post [ofPy (PyData.list (List.map PyData.int ns))] (WData.bool true) [ofPy (PyData.list (List.map PyData.int ns))] = true := by
  wrow_post
theorem abs_eq (z : Int) : (if z < 0 then -z else z) = (z.natAbs : Int) := by split <;> omega
end Mine
open PySem PySem.Spec PySem.Calls PyProof.Rows PySem.W
set_option Elab.async false
set_option autoImplicit false
set_option maxRecDepth 100000
set_option maxHeartbeats 8000000
namespace Mine
/-- a postcondition behind a letter -/
def Hid {α β : Type} (Q Q' : α → β → Prop) : Prop := Q = Q'
theorem Hid.of {α β : Type} {Q Q' : α → β → Prop} {f : α} {s : β} (h : Hid Q Q') (k : Q f s) : Q' f s := (show Q = Q' from h) ▸ k
section
variable {M : Model} {A : Around} {st : Stmt} {rest : List Stmt} {env : Env} {Q : Flow → Shared → Prop} {E : Value → Shared → Prop} {s : Shared}
/-- what is wanted behind a statement, behind a letter -/
def HidS (M : Model) (A : Around) (rest : List Stmt) (env : Env) (Q : Flow → Shared → Prop) (E : Value → Shared → Prop) (Q' : Flow → Shared → Prop) : Prop := (fun f s' => match f with | .next => wpAny M A (execs rest env) Q E s' | f => Q f s') = Q'
theorem execs_hide (h : ∀ Q' : Flow → Shared → Prop, HidS M A rest env Q E Q' → wpAny M A (exec st env) Q' E s) : wpAny M A (execs (st :: rest) env) Q E s :=
  wpAny_execs_cons (h _ rfl)
theorem HidS.next {Q' : Flow → Shared → Prop} (h : HidS M A rest env Q E Q') (k : wpAny M A (execs rest env) Q E s) : Q' .next s := (show _ = Q' from h) ▸ k
theorem HidS.ret {Q' : Flow → Shared → Prop} {v : Value} (h : HidS M A rest env Q E Q') (k : Q (.ret v) s) : Q' (.ret v) s := (show _ = Q' from h) ▸ k
theorem HidS.brk {Q' : Flow → Shared → Prop} (h : HidS M A rest env Q E Q') (k : Q .brk s) : Q' .brk s := (show _ = Q' from h) ▸ k
theorem HidS.cont {Q' : Flow → Shared → Prop} (h : HidS M A rest env Q E Q') (k : Q .cont s) : Q' .cont s := (show _ = Q' from h) ▸ k
theorem eval_hide {α : Type} {t : Sem α} {Q : α → Shared → Prop} (h : ∀ Q' : α → Shared → Prop, Hid Q Q' → wpAny M A t Q' E s) : wpAny M A t Q E s := h Q rfl
theorem hid_seen {α : Type} {t : Sem α} {Q₀ Q : α → Shared → Prop} (_h : Hid Q₀ Q) (k : wpAny M A t Q E s) : wpAny M A t Q E s := k
end
end Mine
open PySem PySem.Spec PySem.Calls PyProof.Rows PySem.W
set_option Elab.async false
set_option autoImplicit false
set_option maxRecDepth 100000
set_option maxHeartbeats 8000000
set_option pp.deepTerms false
set_option pp.maxSteps 3000
namespace Mine
local macro_rules | `(tactic| walk_at $s:str) => `(tactic| first | k_extra $s | fail "none")
local macro_rules | `(tactic| k_all) => `(tactic| first | k_extra "k_all" | fail "none")
local macro_rules | `(tactic| k_mem) => `(tactic| first | k_extra "k_mem" | fail "none")
local macro_rules | `(tactic| news_mem) => `(tactic| first | k_extra "news_mem" | fail "none")
local macro_rules | `(tactic| k_ne) => `(tactic| first | k_extra "k_ne" | fail "none")
local macro_rules | `(tactic| leave1) => `(tactic| (first | refine HidS.next (by assumption) ?_ | refine HidS.ret (by assumption) ?_ | refine HidS.brk (by assumption) ?_ | refine HidS.cont (by assumption) ?_ | refine Hid.of (by assumption) ?_))
section
theorem c_init {w : World} {loose : List Str} {mean : ExcName → Option Value} {mg mb : Str → Option Value} :
  ∀ (M : Addr) (ma mb' : Int) (l : Addr) (vs : List Value) (k : Nat) (ns : List Int) (p : Int) (t2 : Tok) (ps : Array Value)
  (dp un : Nat) (gd : Option (List Code)) (cn : Str) (cs : Scope) (a : Addr) (ccd : Value) (cl : List (Str × Addr)) (outer : List Env) (A₀ : Around) (base h₀ : Heap) (L : Addr) (m : Str → Option Value) (news : List (Addr × Obj)) (s : Shared) (Q E : Value → Shared → Prop),
    Below A₀ base outer h₀ → Fr h₀ L s.heap m → (kfrag w.params).In h₀ → News h₀ L s.heap ((44, tabO ps) :: news) → (∀ q ∈ news, q.1 ≠ 44) → TriplesOk ps.toList → Top topProg loose mean mg mb h₀ → cs.kind = .function →
    AllBare s.gens → Mod M ma mb' → (l, W.listOf vs.toArray k) ∈ news → IntsAre vs ns → ns.length = 12 → 0 < p → dp + 20 < recursionLimit → un + 100 < cLine →
    (∀ x tl h' tk gs (ps' : Array Value), TriplesOk ps'.toList → AllBare gs → Fr h₀ L h' m → News h₀ L h' ((44, tabO ps') :: (tl ++ news)) → Above tl ((44, tabO ps') :: news) → Fq w tl M ma mb' p x (fun i => (ns.getD i 0).fmod p) → Q (.ref x) { s with heap := h', toks := tk, gens := gs }) →
      wpAny (model PySem.Challenge.pw_kh0011_01 w) (ktrTop dp un gd cn cs L a ccd cl outer) (call (.ref 156) [.ref l, .ref M, .int p t2]) Q E s := by
  have _kf : PySem.Challenge.rw_kh0011_01 = PySem.Challenge.rw_kh0011_01 ∧ kfrag = kfrag := by (k_fill; exact ⟨rfl, rfl⟩)
  clear _kf
  w_top off
  k_with_none
  (k_with "execs cons" => ((try k_gentoks); (first | (with_reducible show wpAny _ _ _ _ (fun _ _ => False) _) | (refine wpAny_noRaise ?_)); refine execs_hide ?_; intro Q9x hQ9x))
  (k_with "k_all" => first | assumption | exact allNe_of (by assumption) | exact allNe_of (allLt_of (by assumption)))
  (k_with "k_mem" => (first | assumption | (refine' List.mem_cons_of_mem _ ?_; k_mem)))
  (k_with "news_mem" => k_mem)
  (k_with "my enter" => k_dflt (first | (refine' code_def ?k1q4 ?k2q4 ?k3q4 ?k4q4 ?k5q4 ?kAq4 ?kFq4 ?kKq4 ?k6q4 ?k7q4 ?k8q4 ?k9q4 ?kBq4 ?_ ?c2q4 ?c3q4 ?c4q4 ?c5q4; (case kAq4 => exact rfl); (case kFq4 => exact rfl); (case kKq4 => first | exact rfl | assumption); (case k1q4 => k_asm); (case k2q4 => k_asm); (case k3q4 => k_asm); (case k4q4 => k_asm); (case k5q4 => k_asm); (case k6q4 => k_is); (case k7q4 => k_is); (case k8q4 => ktr_room); (case k9q4 => exact BindsTo.of_eq rfl); (case c5q4 => decide); (case kBq4 => exact locs rfl); (case c2q4 => exact rfl); (case c3q4 => exact rfl); (case c4q4 => exact rfl); k_whole; intro g' L' h' FG' F' N' B' X' T'; (try dsimp only); (try k_fold)) | (refine' code_defC ?k1q4 ?k2q4 ?k3q4 ?k4q4 ?k5q4 ?kAq4 ?kFq4 ?kKq4 ?k6q4 ?k7q4 ?k8q4 ?k9q4 ?kBq4 ?kDq4 ?_ ?c2q4 ?c3q4 ?c4q4; (case kAq4 => exact rfl); (case kFq4 => exact rfl); (case kKq4 => first | exact rfl | assumption); (case k1q4 => k_asm); (case k2q4 => k_asm); (case k3q4 => k_asm); (case k4q4 => k_asm); (case k5q4 => k_asm); (case k6q4 => k_is); (case k7q4 => k_is); (case k8q4 => ktr_room); (case k9q4 => exact BindsTo.of_eq rfl); (case kBq4 => exact rfl); (case kDq4 => decide +kernel); (case c2q4 => exact rfl); (case c3q4 => exact rfl); (case c4q4 => exact rfl); k_whole; intro g' L' h' tk' cells' FG' F' N' Y' B' X' T' l1; (first | k_lt l1 | replace l1 := allLt_of l1); k_cells Y'; (try simp only [List.cons_append, List.nil_append] at N'); (try dsimp only); (try k_fold))))
  (k_with "my sup" => (intro p hp; repeat (first | exact hp | refine List.mem_cons_of_mem _ ?_ | refine List.mem_append_right _ ?_)))
  (k_with "my sub" => repeat (first | exact sub_nil | refine sub_cons (by k_mem) ?_ | (refine sub_app ?_ ?_)))
  (k_with "my and" => first | assumption | exact And.right (by assumption) | exact And.right (And.right (by assumption)) | exact And.right (And.right (And.right (by assumption))) | exact And.right (And.right (And.right (And.right (by assumption)))) | exact And.right (And.right (And.right (And.right (And.right (by assumption))))) | exact And.right (And.right (And.right (And.right (And.right (And.right (by assumption)))))))
  (k_with "my lt" => first | assumption | exact And.left (by assumption) | exact And.left (And.right (by assumption)) | exact And.left (And.right (And.right (by assumption))) | exact And.left (And.right (And.right (And.right (by assumption)))) | exact And.left (And.right (And.right (And.right (And.right (by assumption))))) | exact And.left (And.right (And.right (And.right (And.right (And.right (by assumption)))))) | exact And.left (And.right (And.right (And.right (And.right (And.right (And.right (by assumption))))))) | exact And.left (And.right (And.right (And.right (And.right (And.right (And.right (And.right (by assumption)))))))))
  (k_with "my neq" => ((refine neN ?_); (try dsimp only); first | assumption | exact Ne.symm (by assumption) | exact Nat.ne_of_gt (by walk_at "my lt") | exact Nat.ne_of_lt (by walk_at "my lt") | omega))
  (k_with "my apart" => first | assumption | exact off1_mem (by walk_at "my and") | exact allNe_of (by walk_at "my and") | exact allNe_of (allLt_of (by walk_at "my and")) | exact allNe_of (allLt_app (by walk_at "my and")).2 | exact allNe_of (allLt_app (by walk_at "my and")).1 | exact allNe1 (by walk_at "my and") | exact allNe2 (by walk_at "my and"))
  (k_with "k_ne" => ((refine neN ?_); (try dsimp only); first | assumption | exact Ne.symm (by assumption) | exact Nat.ne_of_gt (by walk_at "my lt") | exact Nat.ne_of_lt (by walk_at "my lt") | fail "k_ne"))
  (k_with "eval ListComp" => (k_here; k_dflt (refine listComp_it rfl rfl (by decide) ?_)))
  (k_with "ite" => (k_dflt (first | (refine ite_neg (by first | omega | (simp only [decide_eq_true_eq]; omega) | (simp; omega)) ?_) | (refine ite_pos (by first | omega | (simp only [decide_eq_true_eq]; omega) | (simp; omega)) ?_))))
  (k_with "call builtin:len" => (k_here; k_dflt (refine len_base (by k_asm) (by assumption) (by assumption) ?_); intro u9'))
  (k_with "call type:tuple" => (k_here; k_dflt (refine tup_base (by k_asm) (by assumption) ?_)))
  intro M ma mb' l vs k ns p t2 ps dp un gd cn cs a ccd cl outer A₀ base h₀ L m news s Q E B F X N H44 htr T hcs hG hM hl hi hn hp0 hd0 hu0 ret
  have hvs : vs.toArray.size = 12 := by rw [List.size_toArray]; have := hi.length; omega
  k_here; k_dflt (refine' call_cls ?k1 ?k2 ?k3 ?k4 ?k5 ?k6 ?_; (case k1 => k_asm); (case k2 => k_asm); (case k3 => k_asm); (case k4 => k_is); (case k5 => k_is); (case k6 => k_is); k_whole; intro x' d' h' F' N' l1 l2; (try replace l1 := allLt_of l1); (try k_lt2 l2); (try k_sweep); have l44 : @LT.lt Nat _ 44 d' := l1.1; have l45 : AllLt d' news := l1.2; walk_at "my enter")
  k_steps
  obtain ⟨xs, ht, hxs, hxv⟩ := mod_tup hM (p := w.params) (by assumption)
  obtain ⟨nn, hnn, NN⟩ : ∃ nn, nn = _ ∧ News _ _ _ nn := ⟨_, rfl, by k_asm⟩
  refine enum_src (n := 12) (pz := fun i => i == 0 || i == 6) rfl (by k_asm) NN ht hxs (by decide) ?pz (by decide) rfl rfl rfl (by decide) (fun _ => rfl) rfl (fun i ys nw => Y3 (fun (tl : List (Addr × Obj)) => nw = tl ++ nn) (fun tl => Above tl nn) (fun tl => Mct ma mb' i ys tl)) ⟨[], rfl, .nil, .nil⟩ ?len ?skip ?turn ?fin
  case pz =>
    intro i y h
    obtain ⟨t, rfl⟩ := hxv i y h
    refine ⟨_, _, rfl, ?_⟩
    have := hM.ne
    by_cases h0 : i = 0
    · subst h0; simp [this.1]
    · by_cases h6 : i = 6
      · subst h6; simp [this.2]
      · simp [h0, h6]
  case len => rintro i ys nw ⟨tl, _, _, h⟩; exact h.len
  case skip =>
    rintro i ys nw _ ⟨tl, e, ha, h⟩ hz
    simp at hz
    exact ⟨tl, e, ha, h.skip hz.1 hz.2⟩
  case turn =>
    rintro i zs nw y u C oC D m₂ h tk own wr E' hi12 ⟨tl, rfl, ha, hmc⟩ hy hz hC hma hmb F' N' hw off hne
    obtain ⟨t, rfl⟩ := hxv i y hy
    replace N' := news_mid N'
    subst hnn
    clear NN
    k_steps
    rename_i F9 N9 l9
    refine pairEnd_new F9 N9 off hw (all_cons (by walk_at "my neq") (all_cons (by walk_at "my neq") (allNe_of l9.2.2))) ⟨_ :: tl, rfl, Above.cons (allNe_of (allLt_app (allLt_app l9.2.2).2).2) ha, hmc.add (fun _ h => List.mem_cons_of_mem _ h) (by simpa using hz) (List.Mem.head _) rfl rfl⟩
  case fin =>
    rintro D h tk zs nw F' N' off ⟨tl, rfl, ha, hmc⟩
    clear NN
    obtain ⟨g1, g2, u1, v1, u2, v2, rfl, m1, m2⟩ := hmc.fin
    have a1 := above_at ha m1
    have a2 := above_at ha m2
    have d1 := off _ (List.mem_append_left _ m1)
    have d2 := off _ (List.mem_append_left _ m2)
    have a0 : ∀ p ∈ nn, p.1 ≠ D := fun p hp => off p (List.mem_append_right _ hp)
    clear off ha
    replace N' : News _ _ h ((D, LCg.lst [.ref g1, .ref g2]) :: (g1, tupO 0 u1 ma v1) :: (g2, tupO 6 u2 mb' v2) :: nn) := fun p hp => N' p (by
      rcases List.mem_cons.mp hp with rfl | hp
      · exact List.mem_cons_self
      · rcases List.mem_cons.mp hp with rfl | hp
        · exact List.mem_cons_of_mem _ (List.mem_append_left _ m1)
        · rcases List.mem_cons.mp hp with rfl | hp
          · exact List.mem_cons_of_mem _ (List.mem_append_left _ m2)
          · exact List.mem_cons_of_mem _ (List.mem_append_right _ hp))
    subst hnn
    have a01 := (ne_spread a0).1
    replace a0 := (ne_spread a0).2
    have a02 := (ne_spread a0).1
    replace a0 := (ne_spread a0).2
    have a03 := (ne_spread a0).1
    replace a0 := (ne_spread a0).2
    have a04 := (ne_spread a0).1
    replace a0 := (ne_spread a0).2
    have a11 := (ne_spread a1).1
    replace a1 := (ne_spread a1).2
    have a12 := (ne_spread a1).1
    replace a1 := (ne_spread a1).2
    have a13 := (ne_spread a1).1
    replace a1 := (ne_spread a1).2
    have a14 := (ne_spread a1).1
    replace a1 := (ne_spread a1).2
    have a21 := (ne_spread a2).1
    replace a2 := (ne_spread a2).2
    have a22 := (ne_spread a2).1
    replace a2 := (ne_spread a2).2
    have a23 := (ne_spread a2).1
    replace a2 := (ne_spread a2).2
    have a24 := (ne_spread a2).1
    replace a2 := (ne_spread a2).2
    replace d1 : @Ne Nat g1 D := d1
    replace d2 : @Ne Nat g2 D := d2
    k_steps
    rename Fr _ _ _ _ => F9
    rename News _ _ _ _ => N9
    obtain ⟨bm, ob, hb1, hb2, hb3, hb4, hb5, hb6⟩ := (‹Top topProg loose mean mg mb _›).bmain
    refine gen_make (c := 46) (P := 44) (ps := ps) (l := l) (F' := fun i v => ∃ u, v = .int ((ns.getD i 0).fmod p) u) F9 (news_rot6 N9) ?apart (by assumption) (Top.nolimit (by assumption)) ⟨Top.g (by assumption), hb1, hb2, hb3, hb4, hb5, hb6⟩ (tab46 (by assumption)) htr rfl rfl rfl rfl (by decide) rfl rfl rfl ?room (by k_mem) rfl rfl ?hit ?elem ?fin (fun _ => rfl)
    case apart => exact all_cons (by walk_at "my neq") (all_cons (by walk_at "my neq") (all_cons (by walk_at "my neq") (all_cons (by walk_at "my neq") (all_cons (by walk_at "my neq") (all_cons (by walk_at "my neq") (by assumption))))))
    case room => ktr_room
    case hit => intro Q' hq'; k_steps; exact hq'
    case elem =>
      intro code C A' E' i v t m₂ hA hv hn' hm' hk'
      obtain ⟨u, rfl⟩ := ints_at hi (i := i) (v := v) (by simpa using hv)
      rename (_ : Obj).data = Data.cell _ => d9
      have F7 := fr_off F9 (news_rot6 N9) hk'
      have N7 := news_off (news_rot6 N9) (all_cons (by walk_at "my neq") (all_cons (by walk_at "my neq") (all_cons (by walk_at "my neq") (all_cons (by walk_at "my neq") (all_cons (by walk_at "my neq") (all_cons (by walk_at "my neq") (by assumption))))))) hk'
      have I7 := InstAt.of_news (x := x') (dx := d') (C := 156) N7 (List.Mem.tail _ (List.Mem.tail _ (List.Mem.tail _ (List.Mem.tail _ (List.Mem.head _))))) (List.Mem.tail _ (List.Mem.tail _ (List.Mem.tail _ (List.Mem.tail _ (List.Mem.tail _ (List.Mem.head _))))))
      have C7 := (N7 _ (List.Mem.tail _ (List.Mem.tail _ (List.Mem.tail _ (List.Mem.head _))))).1
      refine' elem_mod (W := fun i v => ∃ u : Tok, v = Value.int ((ns.getD i 0).fmod p) u) (i := i) F7 (by assumption) I7 ?e1 ?e2 ?e3 hn' hm' hp0 ?e6 ?e4 ?e5 ?e7
      case e6 => exact rfl
      case e7 => exact fun u => ⟨u, rfl⟩
      case e1 => exact rfl
      case e2 => exact ⟨_, C7, d9⟩
      case e3 => exact rfl
      case e4 => exact rfl
      case e5 => exact rfl
    case fin =>
      clear N9 F9
      intro a9 h9 tk9 gs9 ps9 htr9 F9 N9 G9 hL9 hN9 Gn9
      k_steps
      rw [hvs] at Gn9
      refine gen_tup F9 N9 G9 Gn9 hL9 hN9 (by decide) ?_
      clear N9 F9 G9 hL9 hN9 Gn9
      intro T9 h9 tk9 gs9 ys9 F9 N9 G9 off9 hlen9 hf9
      have t01 := (ne_spread off9).1
      replace off9 := (ne_spread off9).2
      have t02 := (ne_spread off9).1
      replace off9 := (ne_spread off9).2
      have t03 := (ne_spread off9).1
      replace off9 := (ne_spread off9).2
      have t04 := (ne_spread off9).1
      replace off9 := (ne_spread off9).2
      have t05 := (ne_spread off9).1
      replace off9 := (ne_spread off9).2
      have t06 := (ne_spread off9).1
      replace off9 := (ne_spread off9).2
      have t07 := (ne_spread off9).1
      replace off9 := (ne_spread off9).2
      k_steps
      k_steps
      rename Fr h₀ L _ m => F8
      rename News h₀ L _ _ => N8
      exact ret x' [(T9, _), (D, _), (g1, _), (g2, _), (x', _), (d', _)] _ _ gs9 ps9 htr9 G9 F8 (fun q hq => N8 q (by
          revert q
          exact sub_cons (List.Mem.tail _ (List.Mem.head _)) (sub_cons (List.Mem.head _) (sub_cons (by k_mem) (sub_cons (by k_mem) (sub_cons (by k_mem) (sub_cons (by k_mem) (sub_cons (by k_mem) (by walk_at "my sup")))))))))
        (.cons (all_cons (by walk_at "my neq") off9) (.cons (all_cons (by walk_at "my neq") a0) (.cons (all_cons (by walk_at "my neq") a1) (.cons (all_cons (by walk_at "my neq") a2) (.cons (all_cons (by walk_at "my neq") fun q hq => Nat.ne_of_lt (Nat.lt_trans (allLt_mem l45 q hq) l2)) (.cons (all_cons (by walk_at "my neq") (allNe_of l45)) .nil))))))
        ⟨d', D, g1, g2, T9, u1, v1, u2, v2, _, _, _, _, _, _, _, ys9, by k_mem, by k_mem, by k_mem, by k_mem, by k_mem, List.Mem.head _, ints_of_all hlen9 hf9⟩
end
theorem c_flat {w : World} {loose : List Str} {mean : ExcName → Option Value} {mg mb : Str → Option Value} :
  ∀ (l : Addr) (ys : List Value) (k : Nat) (av bv : Nat → Int) (sh p : Int) (t1 t2 : Tok)
  (dp un : Nat) (gd : Option (List Code)) (cn : Str) (cs : Scope) (a : Addr) (ccd : Value) (cl : List (Str × Addr)) (outer : List Env) (A₀ : Around) (base h₀ : Heap) (L : Addr) (m : Str → Option Value) (news : List (Addr × Obj)) (s : Shared) (Q E : Value → Shared → Prop),
    Below A₀ base outer h₀ → Fr h₀ L s.heap m → (kfrag w.params).In h₀ → News h₀ L s.heap news → Top topProg loose mean mg mb h₀ → cs.kind = .function →
    (l, W.listOf ys.toArray k) ∈ news → Prs news ys 6 av bv → 0 < p → 0 < sh → sh < 10 → dp + 20 < recursionLimit → un + 100 < cLine →
    (∀ v tl h' tk', Fr h₀ L h' m → News h₀ L h' (tl ++ news) → Above tl news → (LstI v tl (tab 6 (fun i => (av i - sh * bv i).fmod p) ++ tab 6 (fun i => (bv i).fmod p))) → Q v { s with heap := h', toks := tk' }) →
      wpAny (model PySem.Challenge.pw_kh0011_01 w) (ktrTop dp un gd cn cs L a ccd cl outer) (call (.ref 186) [.ref l, .int sh t1, .int p t2]) Q E s := by
  have _kf : PySem.Challenge.rw_kh0011_01 = PySem.Challenge.rw_kh0011_01 ∧ kfrag = kfrag := by (k_fill; exact ⟨rfl, rfl⟩)
  clear _kf
  w_top off
  k_with_none
  (k_with "execs cons" => ((try k_gentoks); (first | (with_reducible show wpAny _ _ _ _ (fun _ _ => False) _) | (refine wpAny_noRaise ?_)); refine execs_hide ?_; intro Q9x hQ9x))
  (k_with "k_all" => first | assumption | exact allNe_of (by assumption) | exact allNe_of (allLt_of (by assumption)))
  (k_with "k_mem" => (first | assumption | (refine' List.mem_cons_of_mem _ ?_; k_mem)))
  (k_with "news_mem" => k_mem)
  (k_with "my enter" => k_dflt (first | (refine' code_def ?k1q4 ?k2q4 ?k3q4 ?k4q4 ?k5q4 ?kAq4 ?kFq4 ?kKq4 ?k6q4 ?k7q4 ?k8q4 ?k9q4 ?kBq4 ?_ ?c2q4 ?c3q4 ?c4q4 ?c5q4; (case kAq4 => exact rfl); (case kFq4 => exact rfl); (case kKq4 => first | exact rfl | assumption); (case k1q4 => k_asm); (case k2q4 => k_asm); (case k3q4 => k_asm); (case k4q4 => k_asm); (case k5q4 => k_asm); (case k6q4 => k_is); (case k7q4 => k_is); (case k8q4 => ktr_room); (case k9q4 => exact BindsTo.of_eq rfl); (case c5q4 => decide); (case kBq4 => exact locs rfl); (case c2q4 => exact rfl); (case c3q4 => exact rfl); (case c4q4 => exact rfl); k_whole; intro g' L' h' FG' F' N' B' X' T'; (try dsimp only); (try k_fold)) | (refine' code_defC ?k1q4 ?k2q4 ?k3q4 ?k4q4 ?k5q4 ?kAq4 ?kFq4 ?kKq4 ?k6q4 ?k7q4 ?k8q4 ?k9q4 ?kBq4 ?kDq4 ?_ ?c2q4 ?c3q4 ?c4q4; (case kAq4 => exact rfl); (case kFq4 => exact rfl); (case kKq4 => first | exact rfl | assumption); (case k1q4 => k_asm); (case k2q4 => k_asm); (case k3q4 => k_asm); (case k4q4 => k_asm); (case k5q4 => k_asm); (case k6q4 => k_is); (case k7q4 => k_is); (case k8q4 => ktr_room); (case k9q4 => exact BindsTo.of_eq rfl); (case kBq4 => exact rfl); (case kDq4 => decide +kernel); (case c2q4 => exact rfl); (case c3q4 => exact rfl); (case c4q4 => exact rfl); k_whole; intro g' L' h' tk' cells' FG' F' N' Y' B' X' T' l1; (first | k_lt l1 | replace l1 := allLt_of l1); k_cells Y'; (try simp only [List.cons_append, List.nil_append] at N'); (try dsimp only); (try k_fold))))
  (k_with "my sup" => (intro p hp; repeat (first | exact hp | refine List.mem_cons_of_mem _ ?_ | refine List.mem_append_right _ ?_)))
  (k_with "my sub" => repeat (first | exact sub_nil | refine sub_cons (by k_mem) ?_ | (refine sub_app ?_ ?_)))
  (k_with "my and" => first | assumption | exact And.right (by assumption) | exact And.right (And.right (by assumption)) | exact And.right (And.right (And.right (by assumption))) | exact And.right (And.right (And.right (And.right (by assumption)))) | exact And.right (And.right (And.right (And.right (And.right (by assumption))))) | exact And.right (And.right (And.right (And.right (And.right (And.right (by assumption)))))))
  (k_with "my lt" => first | assumption | exact And.left (by assumption) | exact And.left (And.right (by assumption)) | exact And.left (And.right (And.right (by assumption))) | exact And.left (And.right (And.right (And.right (by assumption)))) | exact And.left (And.right (And.right (And.right (And.right (by assumption))))) | exact And.left (And.right (And.right (And.right (And.right (And.right (by assumption)))))) | exact And.left (And.right (And.right (And.right (And.right (And.right (And.right (by assumption))))))) | exact And.left (And.right (And.right (And.right (And.right (And.right (And.right (And.right (by assumption)))))))))
  (k_with "my neq" => ((refine neN ?_); (try dsimp only); first | assumption | exact Ne.symm (by assumption) | exact Nat.ne_of_gt (by walk_at "my lt") | exact Nat.ne_of_lt (by walk_at "my lt") | omega))
  (k_with "my apart" => first | assumption | exact off1_mem (by walk_at "my and") | exact allNe_of (by walk_at "my and") | exact allNe_of (allLt_of (by walk_at "my and")) | exact allNe_of (allLt_app (by walk_at "my and")).2 | exact allNe_of (allLt_app (by walk_at "my and")).1 | exact allNe1 (by walk_at "my and") | exact allNe2 (by walk_at "my and"))
  (k_with "k_ne" => ((refine neN ?_); (try dsimp only); first | assumption | exact Ne.symm (by assumption) | exact Nat.ne_of_gt (by walk_at "my lt") | exact Nat.ne_of_lt (by walk_at "my lt") | fail "k_ne"))
  intro l ys k av bv sh p t1 t2 dp un gd cn cs a ccd cl outer A₀ base h₀ L m news s Q E B F X N T hcs hl hp hp0 hs0 hs1 hd0 hu0 ret
  have hsz : ys.toArray.size = 6 := by rw [List.size_toArray]; exact hp.1
  refine wpAny_call ?_
  walk_at "my enter"
  k_steps
  refine LCg.CompSrc.ledger (by rfl) (by k_asm) (by k_asm) (by k_mem) (by rw [hsz]; exact Nat.le_of_ble_eq_true rfl) ?_
  intro g1
  rw [hsz]
  refine compRest_inv (fun i zs nw => nw = _ ∧ IntsAre zs (tab i (fun i => (av i - sh * bv i).fmod p))) ⟨rfl, IntsAre.nil⟩ ?_ ?_
  · rintro i zs nw hi ⟨rfl, hz⟩ v I oI C oC D m₂ h tk E' hv hC hx F' N' off ne
    obtain ⟨t, u, u', he, hm⟩ := hp.2 i hi
    have hv' : v = .ref t := by
      have := hv.symm.trans (by simpa using he)
      exact Option.some.inj this
    subst hv'
    k_steps
    exact compEnd_same (by k_asm) (by k_asm) (by assumption) (srcAt_mem (k := k) (by k_mem)) ⟨rfl, ints_snoc hz rfl⟩
  · rintro zs nw ⟨rfl, hz⟩
    k_steps
    refine LCg.CompSrc.ledger (by rfl) (by k_asm) (by k_asm) (by k_mem) (by rw [hsz]; exact Nat.le_of_ble_eq_true rfl) ?_
    intro g2
    rw [hsz]
    refine compRest_inv (fun i zs nw => nw = _ ∧ IntsAre zs (tab i (fun i => (bv i).fmod p))) ⟨rfl, IntsAre.nil⟩ ?_ ?_
    · rintro i zs nw hi ⟨rfl, hz⟩ v I oI C oC D m₂ h tk E' hv hC hx F' N' off ne
      obtain ⟨t, u, u', he, hm⟩ := hp.2 i hi
      have hv' : v = .ref t := by
        have := hv.symm.trans (by simpa using he)
        exact Option.some.inj this
      subst hv'
      k_steps
      exact compEnd_same (by k_asm) (by k_asm) (by assumption) (srcAt_mem (k := k) (by k_mem)) ⟨rfl, ints_snoc hz rfl⟩
    · rintro zs2 nw ⟨rfl, hz2⟩
      k_steps
      exact ret _ [(_, W.listOf _ _)] _ _ (by k_asm) (news_pick (by k_asm) (by walk_at "my sub") (by walk_at "my sup")) (Above.cons (by walk_at "my apart") .nil) ⟨_, _, _, rfl, List.Mem.head _, by assumption⟩
section
theorem c_pairs {w : World} {loose : List Str} {mean : ExcName → Option Value} {mg mb : Str → Option Value} :
  ∀ (l : Addr) (vs : List Value) (k : Nat) (ns : List Int) (sh p : Int) (t1 t2 : Tok)
  (dp un : Nat) (gd : Option (List Code)) (cn : Str) (cs : Scope) (a : Addr) (ccd : Value) (cl : List (Str × Addr)) (outer : List Env) (A₀ : Around) (base h₀ : Heap) (L : Addr) (m : Str → Option Value) (news : List (Addr × Obj)) (s : Shared) (Q E : Value → Shared → Prop),
    Below A₀ base outer h₀ → Fr h₀ L s.heap m → (kfrag w.params).In h₀ → News h₀ L s.heap news → Top topProg loose mean mg mb h₀ → cs.kind = .function →
    (l, W.listOf vs.toArray k) ∈ news → IntsAre vs ns → ns.length = 12 → 0 < p → 0 < sh → sh < 10 → dp + 20 < recursionLimit → un + 100 < cLine →
    (∀ v tl h' tk', Fr h₀ L h' m → News h₀ L h' (tl ++ news) → Above tl news → (LstP v tl (fun i => (ns.getD i 0 + sh * ns.getD (i + 6) 0).fmod p) (fun i => (ns.getD (i + 6) 0).fmod p)) → Q v { s with heap := h', toks := tk' }) →
      wpAny (model PySem.Challenge.pw_kh0011_01 w) (ktrTop dp un gd cn cs L a ccd cl outer) (call (.ref 181) [.ref l, .int sh t1, .int p t2]) Q E s := by
  have _kf : PySem.Challenge.rw_kh0011_01 = PySem.Challenge.rw_kh0011_01 ∧ kfrag = kfrag := by (k_fill; exact ⟨rfl, rfl⟩)
  clear _kf
  w_top off
  k_with_none
  (k_with "execs cons" => ((try k_gentoks); (first | (with_reducible show wpAny _ _ _ _ (fun _ _ => False) _) | (refine wpAny_noRaise ?_)); refine execs_hide ?_; intro Q9x hQ9x))
  (k_with "k_all" => first | assumption | exact allNe_of (by assumption) | exact allNe_of (allLt_of (by assumption)))
  (k_with "k_mem" => (first | assumption | (refine' List.mem_cons_of_mem _ ?_; k_mem)))
  (k_with "news_mem" => k_mem)
  (k_with "my enter" => k_dflt (first | (refine' code_def ?k1q4 ?k2q4 ?k3q4 ?k4q4 ?k5q4 ?kAq4 ?kFq4 ?kKq4 ?k6q4 ?k7q4 ?k8q4 ?k9q4 ?kBq4 ?_ ?c2q4 ?c3q4 ?c4q4 ?c5q4; (case kAq4 => exact rfl); (case kFq4 => exact rfl); (case kKq4 => first | exact rfl | assumption); (case k1q4 => k_asm); (case k2q4 => k_asm); (case k3q4 => k_asm); (case k4q4 => k_asm); (case k5q4 => k_asm); (case k6q4 => k_is); (case k7q4 => k_is); (case k8q4 => ktr_room); (case k9q4 => exact BindsTo.of_eq rfl); (case c5q4 => decide); (case kBq4 => exact locs rfl); (case c2q4 => exact rfl); (case c3q4 => exact rfl); (case c4q4 => exact rfl); k_whole; intro g' L' h' FG' F' N' B' X' T'; (try dsimp only); (try k_fold)) | (refine' code_defC ?k1q4 ?k2q4 ?k3q4 ?k4q4 ?k5q4 ?kAq4 ?kFq4 ?kKq4 ?k6q4 ?k7q4 ?k8q4 ?k9q4 ?kBq4 ?kDq4 ?_ ?c2q4 ?c3q4 ?c4q4; (case kAq4 => exact rfl); (case kFq4 => exact rfl); (case kKq4 => first | exact rfl | assumption); (case k1q4 => k_asm); (case k2q4 => k_asm); (case k3q4 => k_asm); (case k4q4 => k_asm); (case k5q4 => k_asm); (case k6q4 => k_is); (case k7q4 => k_is); (case k8q4 => ktr_room); (case k9q4 => exact BindsTo.of_eq rfl); (case kBq4 => exact rfl); (case kDq4 => decide +kernel); (case c2q4 => exact rfl); (case c3q4 => exact rfl); (case c4q4 => exact rfl); k_whole; intro g' L' h' tk' cells' FG' F' N' Y' B' X' T' l1; (first | k_lt l1 | replace l1 := allLt_of l1); k_cells Y'; (try simp only [List.cons_append, List.nil_append] at N'); (try dsimp only); (try k_fold))))
  (k_with "my sup" => (intro p hp; repeat (first | exact hp | refine List.mem_cons_of_mem _ ?_ | refine List.mem_append_right _ ?_)))
  (k_with "my sub" => repeat (first | exact sub_nil | refine sub_cons (by k_mem) ?_ | (refine sub_app ?_ ?_)))
  (k_with "my and" => first | assumption | exact And.right (by assumption) | exact And.right (And.right (by assumption)) | exact And.right (And.right (And.right (by assumption))) | exact And.right (And.right (And.right (And.right (by assumption)))) | exact And.right (And.right (And.right (And.right (And.right (by assumption))))) | exact And.right (And.right (And.right (And.right (And.right (And.right (by assumption)))))))
  (k_with "my lt" => first | assumption | exact And.left (by assumption) | exact And.left (And.right (by assumption)) | exact And.left (And.right (And.right (by assumption))) | exact And.left (And.right (And.right (And.right (by assumption)))) | exact And.left (And.right (And.right (And.right (And.right (by assumption))))) | exact And.left (And.right (And.right (And.right (And.right (And.right (by assumption)))))) | exact And.left (And.right (And.right (And.right (And.right (And.right (And.right (by assumption))))))) | exact And.left (And.right (And.right (And.right (And.right (And.right (And.right (And.right (by assumption)))))))))
  (k_with "my neq" => ((refine neN ?_); (try dsimp only); first | assumption | exact Ne.symm (by assumption) | exact Nat.ne_of_gt (by walk_at "my lt") | exact Nat.ne_of_lt (by walk_at "my lt") | omega))
  (k_with "my apart" => first | assumption | exact off1_mem (by walk_at "my and") | exact allNe_of (by walk_at "my and") | exact allNe_of (allLt_of (by walk_at "my and")) | exact allNe_of (allLt_app (by walk_at "my and")).2 | exact allNe_of (allLt_app (by walk_at "my and")).1 | exact allNe1 (by walk_at "my and") | exact allNe2 (by walk_at "my and"))
  (k_with "k_ne" => ((refine neN ?_); (try dsimp only); first | assumption | exact Ne.symm (by assumption) | exact Nat.ne_of_gt (by walk_at "my lt") | exact Nat.ne_of_lt (by walk_at "my lt") | fail "k_ne"))
  (k_with "pyIter ref" => ((with_reducible show wpAny _ _ (pyIter (Value.ref _)) (fun it s₂ => LoopAtV _ _ _ _ _ _ _ _ _ it s₂) _ _); k_rangeUnr; refine Halt.of ?_))
  intro l vs k ns sh p t1 t2 dp un gd cn cs a ccd cl outer A₀ base h₀ L m news s Q E B F X N T hcs hl hi hn hp0 hs0 hs1 hd0 hu0 ret
  refine wpAny_call ?_
  walk_at "my enter"
  k_steps
  rename_i l9 _ _ _ _ _ _ _ _ _ _ _ _ i9 _
  refine Halt.mk (range_inv [Str.ofString "k"] (fun i nw => Yc4 (fun (its : Array Value) (k : Nat) (tl : List (Addr × Obj)) => nw = (l9, W.listOf its k) :: (tl ++ news)) (fun (its : Array Value) (k : Nat) (tl : List (Addr × Obj)) => ∀ q ∈ tl ++ news, q.1 ≠ l9) (fun (its : Array Value) (k : Nat) (tl : List (Addr × Obj)) => Above tl news) (fun (its : Array Value) (k : Nat) (tl : List (Addr × Obj)) => Prs tl its.toList i (fun i => (ns.getD i 0 + sh * ns.getD (i + 6) 0).fmod p) (fun i => (ns.getD (i + 6) 0).fmod p))) ⟨#[], 0, [], rfl, by walk_at "my apart", .nil, ⟨rfl, fun j hj => absurd hj (Nat.not_lt_zero _)⟩⟩ (all_cons (by walk_at "my neq") (by walk_at "my apart")) ?_ ?_)
  · rintro i u nw t h tk hi6 ⟨its, k', tl, rfl, ho, ha, hP⟩ off F' N'
    have hz2 : its.size ≤ 6 := by have := hP.1; rw [Array.length_toList] at this; omega
    k_steps
    have e1 : (0 + (i : Int)).toNat = i := by omega
    have e2 : (0 + (i : Int) + 6).toNat = i + 6 := by omega
    rename_i D9 _ lD _ F9 N9
    refine unr_end ((l9, W.listOf _ _) :: (D9, tupO _ _ _ _) :: (tl ++ news)) F9 N9 (by k_mem) (sub_cons (by k_mem) (sub_cons (by k_mem) (by walk_at "my sup"))) (all_cons (by walk_at "my neq") (all_cons (by walk_at "my neq") (fun q hq => off q (List.mem_cons_of_mem _ hq)))) ⟨?_, _, _, _ :: tl, rfl, all_cons (by walk_at "my neq") ho, ha.cons (by walk_at "my apart"), ?_⟩
    · exact Over.set Over.over rfl
    · rw [Array.toList_push]
      exact hP.snoc (by walk_at "my sup") (List.Mem.head _) (by rw [e1, e2]) (by rw [e2])
  · rintro u nw h tk ⟨its, k', tl, rfl, ho, ha, hP⟩ F' N'
    k_steps
    exact ret _ ((_, W.listOf its.toList.toArray _) :: tl) _ _ (by k_asm) (by rw [Array.toArray_toList]; k_asm) (Above.cons (by walk_at "my apart") ha) ⟨_, _, _, rfl, List.Mem.head _, hP.mono fun _ h => List.Mem.tail _ h⟩
end
section
theorem c_made {w : World} {loose : List Str} {mean : ExcName → Option Value} {mg mb : Str → Option Value} :
  ∀ (x l : Addr) (vs : List Value) (k : Nat) (ns : List Int) (c : Nat → Int) (M : Addr) (ma mb' p : Int) (ps : Array Value) (dp un : Nat) (gd : Option (List Code)) (cn : Str) (cs : Scope) (a : Addr) (ccd : Value) (cl : List (Str × Addr)) (outer : List Env) (A₀ : Around) (base h₀ : Heap) (L : Addr) (m : Str → Option Value) (news : List (Addr × Obj)) (s : Shared) (Q E : Value → Shared → Prop),
    Below A₀ base outer h₀ → Fr h₀ L s.heap m → (kfrag w.params).In h₀ → News h₀ L s.heap ((44, tabO ps) :: news) → (∀ q ∈ news, q.1 ≠ 44) → TriplesOk ps.toList → Top topProg loose mean mg mb h₀ → cs.kind = .function →
    AllBare s.gens → Mod M ma mb' → 0 < p → Fq w news M ma mb' p x c → (l, W.listOf vs.toArray k) ∈ news → IntsAre vs ns → ns.length = 12 → dp + 40 < recursionLimit → un + 200 < cLine →
    (∀ x tl h' tk gs (ps' : Array Value), TriplesOk ps'.toList → AllBare gs → Fr h₀ L h' m → News h₀ L h' ((44, tabO ps') :: (tl ++ news)) → Above tl ((44, tabO ps') :: news) → Fq w tl M ma mb' p x (fun i => (ns.getD i 0).fmod p) → Q (.ref x) { s with heap := h', toks := tk, gens := gs }) →
      wpAny (model PySem.Challenge.pw_kh0011_01 w) (ktrTop dp un gd cn cs L a ccd cl outer) (call (.ref 54) [.ref x, .ref l]) Q E s := by
  have _kf : PySem.Challenge.rw_kh0011_01 = PySem.Challenge.rw_kh0011_01 ∧ kfrag = kfrag := by (k_fill; exact ⟨rfl, rfl⟩)
  clear _kf
  w_top off
  k_with_none
  (k_with "execs cons" => ((try k_gentoks); (first | (with_reducible show wpAny _ _ _ _ (fun _ _ => False) _) | (refine wpAny_noRaise ?_)); refine execs_hide ?_; intro Q9x hQ9x))
  (k_with "k_all" => first | assumption | exact allNe_of (by assumption) | exact allNe_of (allLt_of (by assumption)))
  (k_with "k_mem" => (first | assumption | (refine' List.mem_cons_of_mem _ ?_; k_mem)))
  (k_with "news_mem" => k_mem)
  (k_with "my enter" => k_dflt (first | (refine' code_def ?k1q4 ?k2q4 ?k3q4 ?k4q4 ?k5q4 ?kAq4 ?kFq4 ?kKq4 ?k6q4 ?k7q4 ?k8q4 ?k9q4 ?kBq4 ?_ ?c2q4 ?c3q4 ?c4q4 ?c5q4; (case kAq4 => exact rfl); (case kFq4 => exact rfl); (case kKq4 => first | exact rfl | assumption); (case k1q4 => k_asm); (case k2q4 => k_asm); (case k3q4 => k_asm); (case k4q4 => k_asm); (case k5q4 => k_asm); (case k6q4 => k_is); (case k7q4 => k_is); (case k8q4 => ktr_room); (case k9q4 => exact BindsTo.of_eq rfl); (case c5q4 => decide); (case kBq4 => exact locs rfl); (case c2q4 => exact rfl); (case c3q4 => exact rfl); (case c4q4 => exact rfl); k_whole; intro g' L' h' FG' F' N' B' X' T'; (try dsimp only); (try k_fold)) | (refine' code_defC ?k1q4 ?k2q4 ?k3q4 ?k4q4 ?k5q4 ?kAq4 ?kFq4 ?kKq4 ?k6q4 ?k7q4 ?k8q4 ?k9q4 ?kBq4 ?kDq4 ?_ ?c2q4 ?c3q4 ?c4q4; (case kAq4 => exact rfl); (case kFq4 => exact rfl); (case kKq4 => first | exact rfl | assumption); (case k1q4 => k_asm); (case k2q4 => k_asm); (case k3q4 => k_asm); (case k4q4 => k_asm); (case k5q4 => k_asm); (case k6q4 => k_is); (case k7q4 => k_is); (case k8q4 => ktr_room); (case k9q4 => exact BindsTo.of_eq rfl); (case kBq4 => exact rfl); (case kDq4 => decide +kernel); (case c2q4 => exact rfl); (case c3q4 => exact rfl); (case c4q4 => exact rfl); k_whole; intro g' L' h' tk' cells' FG' F' N' Y' B' X' T' l1; (first | k_lt l1 | replace l1 := allLt_of l1); k_cells Y'; (try simp only [List.cons_append, List.nil_append] at N'); (try dsimp only); (try k_fold))))
  (k_with "my sup" => (intro p hp; repeat (first | exact hp | refine List.mem_cons_of_mem _ ?_ | refine List.mem_append_right _ ?_)))
  (k_with "my sub" => repeat (first | exact sub_nil | refine sub_cons (by k_mem) ?_ | (refine sub_app ?_ ?_)))
  (k_with "my and" => first | assumption | exact And.right (by assumption) | exact And.right (And.right (by assumption)) | exact And.right (And.right (And.right (by assumption))) | exact And.right (And.right (And.right (And.right (by assumption)))) | exact And.right (And.right (And.right (And.right (And.right (by assumption))))) | exact And.right (And.right (And.right (And.right (And.right (And.right (by assumption)))))))
  (k_with "my lt" => first | assumption | exact And.left (by assumption) | exact And.left (And.right (by assumption)) | exact And.left (And.right (And.right (by assumption))) | exact And.left (And.right (And.right (And.right (by assumption)))) | exact And.left (And.right (And.right (And.right (And.right (by assumption))))) | exact And.left (And.right (And.right (And.right (And.right (And.right (by assumption)))))) | exact And.left (And.right (And.right (And.right (And.right (And.right (And.right (by assumption))))))) | exact And.left (And.right (And.right (And.right (And.right (And.right (And.right (And.right (by assumption)))))))))
  (k_with "my neq" => ((refine neN ?_); (try dsimp only); first | assumption | exact Ne.symm (by assumption) | exact Nat.ne_of_gt (by walk_at "my lt") | exact Nat.ne_of_lt (by walk_at "my lt") | omega))
  (k_with "my apart" => first | assumption | exact off1_mem (by walk_at "my and") | exact allNe_of (by walk_at "my and") | exact allNe_of (allLt_of (by walk_at "my and")) | exact allNe_of (allLt_app (by walk_at "my and")).2 | exact allNe_of (allLt_app (by walk_at "my and")).1 | exact allNe1 (by walk_at "my and") | exact allNe2 (by walk_at "my and"))
  (k_with "k_ne" => ((refine neN ?_); (try dsimp only); first | assumption | exact Ne.symm (by assumption) | exact Nat.ne_of_gt (by walk_at "my lt") | exact Nat.ne_of_lt (by walk_at "my lt") | fail "k_ne"))
  (k_with "call ref" => (k_here; k_dflt (refine' c_init _ _ _ _ _ _ _ _ _ _ _ _ _ _ _ _ _ _ _ _ _ _ _ _ _ _ _ _ ?cBq12 ?cFq12 ?cXq12 ?cNq12 ?cHq12 ?ctq12 ?cTq12 ?ckq12 ?cGq12 ?cMq12 ?clq12 ?ciq12 ?cnq12 ?cpq12 ?cdq12 ?cuq12 ?_; (case cBq12 => k_asm); (case cFq12 => k_asm); (case cXq12 => k_asm); (case cNq12 => first | k_asm | exact news_rot1 (by k_asm)); (case ctq12 => assumption); (case cTq12 => k_asm); (case ckq12 => rfl); (case cGq12 => assumption); (case cMq12 => assumption); (case clq12 => k_mem); (case ciq12 => assumption); (case cnq12 => assumption); (case cHq12 => k_all); (case cpq12 => assumption); (case cdq12 => ktr_room); (case cuq12 => ktr_room); intro x' tl' h' tk' gs' ps' ht' G' F' N' a' f')))
  intro x l vs k ns c M ma mb' p ps dp un gd cn cs a ccd cl outer A₀ base h₀ L m news s Q E B F X N H44 htr T hcs hG hM hp0 hx hl hi hn hd0 hu0 ret
  obtain ⟨d, D, g1, g2, T1, u1, v1, u2, v2, k1, k2, k3, k4, k5, tp, t12, ys, m1, m2, m3, m4, m5, m6, m7⟩ := hx
  refine wpAny_call ?_
  walk_at "my enter"
  k_steps
  rename News h₀ L _ _ => N9
  rename Fr h₀ L _ _ => F9
  rename Above _ _ => a9
  rename Fq _ _ _ _ _ _ _ _ => f9
  rename TriplesOk _ => t9
  exact ret _ _ _ _ _ _ t9 (by assumption) F9 N9 a9 f9

end
section

theorem c_times {w : World} {loose : List Str} {mean : ExcName → Option Value} {mg mb : Str → Option Value} :
  ∀ (l1 l2 : Addr) (ys1 ys2 : List Value) (k1 k2 : Nat) (av bv av' bv' : Nat → Int) (sh p : Int) (t1 t2 : Tok) (dp un : Nat) (gd : Option (List Code)) (cn : Str) (cs : Scope) (a : Addr) (ccd : Value) (cl : List (Str × Addr)) (outer : List Env) (A₀ : Around) (base h₀ : Heap) (L : Addr) (m : Str → Option Value) (news : List (Addr × Obj)) (s : Shared) (Q E : Value → Shared → Prop),
    Below A₀ base outer h₀ → Fr h₀ L s.heap m → (kfrag w.params).In h₀ → News h₀ L s.heap news → Top topProg loose mean mg mb h₀ → cs.kind = .function →
    (l1, W.listOf ys1.toArray k1) ∈ news → Prs news ys1 6 av bv → (l2, W.listOf ys2.toArray k2) ∈ news → Prs news ys2 6 av' bv' → Sp av bv → Sp av' bv' → 0 < p → 0 < sh → sh < 10 → dp + 20 < recursionLimit → un + 100 < cLine →
    (∀ v tl h' tk', Fr h₀ L h' m → News h₀ L h' (tl ++ news) → Above tl news → (LstP v tl (fun i => (fdR sh (tmR av bv av' bv') (tmI av bv av' bv') 5 i).fmod p) (fun i => (fdI sh (tmR av bv av' bv') (tmI av bv av' bv') 5 i).fmod p)) → Q v { s with heap := h', toks := tk' }) →
      wpAny (model PySem.Challenge.pw_kh0011_01 w) (ktrTop dp un gd cn cs L a ccd cl outer) (call (.ref 191) [.ref l1, .ref l2, .int sh t1, .int p t2]) Q E s := by
  have _kf : PySem.Challenge.rw_kh0011_01 = PySem.Challenge.rw_kh0011_01 ∧ kfrag = kfrag := by (k_fill; exact ⟨rfl, rfl⟩)
  clear _kf
  w_top off
  k_with_none
  (k_with "execs cons" => ((try k_gentoks); (first | (with_reducible show wpAny _ _ _ _ (fun _ _ => False) _) | (refine wpAny_noRaise ?_)); refine execs_hide ?_; intro Q9x hQ9x))
  (k_with "k_all" => first | assumption | exact allNe_of (by assumption) | exact allNe_of (allLt_of (by assumption)))
  (k_with "k_mem" => (first | assumption | (refine' List.mem_cons_of_mem _ ?_; k_mem)))
  (k_with "news_mem" => k_mem)
  (k_with "my enter" => k_dflt (first | (refine' code_def ?k1q4 ?k2q4 ?k3q4 ?k4q4 ?k5q4 ?kAq4 ?kFq4 ?kKq4 ?k6q4 ?k7q4 ?k8q4 ?k9q4 ?kBq4 ?_ ?c2q4 ?c3q4 ?c4q4 ?c5q4; (case kAq4 => exact rfl); (case kFq4 => exact rfl); (case kKq4 => first | exact rfl | assumption); (case k1q4 => k_asm); (case k2q4 => k_asm); (case k3q4 => k_asm); (case k4q4 => k_asm); (case k5q4 => k_asm); (case k6q4 => k_is); (case k7q4 => k_is); (case k8q4 => ktr_room); (case k9q4 => exact BindsTo.of_eq rfl); (case c5q4 => decide); (case kBq4 => exact locs rfl); (case c2q4 => exact rfl); (case c3q4 => exact rfl); (case c4q4 => exact rfl); k_whole; intro g' L' h' FG' F' N' B' X' T'; (try dsimp only); (try k_fold)) | (refine' code_defC ?k1q4 ?k2q4 ?k3q4 ?k4q4 ?k5q4 ?kAq4 ?kFq4 ?kKq4 ?k6q4 ?k7q4 ?k8q4 ?k9q4 ?kBq4 ?kDq4 ?_ ?c2q4 ?c3q4 ?c4q4; (case kAq4 => exact rfl); (case kFq4 => exact rfl); (case kKq4 => first | exact rfl | assumption); (case k1q4 => k_asm); (case k2q4 => k_asm); (case k3q4 => k_asm); (case k4q4 => k_asm); (case k5q4 => k_asm); (case k6q4 => k_is); (case k7q4 => k_is); (case k8q4 => ktr_room); (case k9q4 => exact BindsTo.of_eq rfl); (case kBq4 => exact rfl); (case kDq4 => decide +kernel); (case c2q4 => exact rfl); (case c3q4 => exact rfl); (case c4q4 => exact rfl); k_whole; intro g' L' h' tk' cells' FG' F' N' Y' B' X' T' l1; (first | k_lt l1 | replace l1 := allLt_of l1); k_cells Y'; (try simp only [List.cons_append, List.nil_append] at N'); (try dsimp only); (try k_fold))))
  (k_with "my sup" => (intro p hp; repeat (first | exact hp | refine List.mem_cons_of_mem _ ?_ | refine List.mem_append_right _ ?_)))
  (k_with "my sub" => repeat (first | exact sub_nil | refine sub_cons (by k_mem) ?_ | (refine sub_app ?_ ?_)))
  (k_with "my and" => first | assumption | exact And.right (by assumption) | exact And.right (And.right (by assumption)) | exact And.right (And.right (And.right (by assumption))) | exact And.right (And.right (And.right (And.right (by assumption)))) | exact And.right (And.right (And.right (And.right (And.right (by assumption))))) | exact And.right (And.right (And.right (And.right (And.right (And.right (by assumption)))))))
  (k_with "my lt" => first | assumption | exact And.left (by assumption) | exact And.left (And.right (by assumption)) | exact And.left (And.right (And.right (by assumption))) | exact And.left (And.right (And.right (And.right (by assumption)))) | exact And.left (And.right (And.right (And.right (And.right (by assumption))))) | exact And.left (And.right (And.right (And.right (And.right (And.right (by assumption)))))) | exact And.left (And.right (And.right (And.right (And.right (And.right (And.right (by assumption))))))) | exact And.left (And.right (And.right (And.right (And.right (And.right (And.right (And.right (by assumption)))))))))
  (k_with "my neq" => ((refine neN ?_); (try dsimp only); first | assumption | exact Ne.symm (by assumption) | exact Nat.ne_of_gt (by walk_at "my lt") | exact Nat.ne_of_lt (by walk_at "my lt") | omega))
  (k_with "my apart" => first | assumption | exact off1_mem (by walk_at "my and") | exact allNe_of (by walk_at "my and") | exact allNe_of (allLt_of (by walk_at "my and")) | exact allNe_of (allLt_app (by walk_at "my and")).2 | exact allNe_of (allLt_app (by walk_at "my and")).1 | exact allNe1 (by walk_at "my and") | exact allNe2 (by walk_at "my and"))
  (k_with "k_ne" => ((refine neN ?_); (try dsimp only); first | assumption | exact Ne.symm (by assumption) | exact Nat.ne_of_gt (by walk_at "my lt") | exact Nat.ne_of_lt (by walk_at "my lt") | fail "k_ne"))
  (k_with "k_all" => first | assumption | exact allNe_of (by assumption) | exact allNe_of (allLt_of (by assumption)) | exact allNe_cell (by assumption) | exact allNe1 (by assumption) | exact allNe2 (by assumption))
  (k_with "k_mem" => (first | with_reducible assumption | with_reducible exact List.Mem.head _ | ((with_reducible refine' List.mem_cons_of_mem _ ?_); k_mem) | ((with_reducible refine' List.mem_append_left _ ?_); with_reducible assumption) | ((with_reducible refine' List.mem_append_right _ ?_); k_mem) | assumption))
  (k_with "eval ListComp" => (k_here; k_dflt (refine listComp_it rfl rfl (by decide) ?_)))
  (k_with "pyIter ref" => (refine Halt.of ?_))
  (k_with "subscriptTail Name Name ref int" => (k_here; (with_reducible show wpAny _ _ (subscriptTail _ _ (Value.ref _) (Value.int _ _)) _ _ _); k_dflt (refine' item_at ?k1q16 ?k2q16 ?k3q16 ?_ ?k6q16; (case k1q16 => k_asm); (case k2q16 => k_mem); (case k3q16 => assumption); (case k6q16 => with_unfolding_all rfl); k_whole); (try dsimp only)))
  (k_with "subscriptTail Name BinOp ref int" => (k_here; (with_reducible show wpAny _ _ (subscriptTail _ _ (Value.ref _) (Value.int _ _)) _ _ _); k_dflt (refine' item_at ?k1q17 ?k2q17 ?k3q17 ?_ ?k6q17; (case k1q17 => k_asm); (case k2q17 => k_mem); (case k3q17 => assumption); (case k6q17 => with_unfolding_all rfl); k_whole); (try dsimp only)))
  (k_with "subscriptTail Name Constant ref int" => (k_here; (with_reducible show wpAny _ _ (subscriptTail _ _ (Value.ref _) (Value.int _ _)) _ _ _); k_dflt (refine' item_at ?k1q18 ?k2q18 ?k3q18 ?_ ?k6q18; (case k1q18 => k_asm); (case k2q18 => k_mem); (case k3q18 => assumption); (case k6q18 => with_unfolding_all rfl); k_whole); (try dsimp only)))
  (k_with "subscriptTail Subscript Name Constant Name ref int" => (k_here; (with_reducible show wpAny _ _ (subscriptTail _ _ (Value.ref _) (Value.int _ _)) _ _ _); k_dflt (refine' item_at ?k1q19 ?k2q19 ?k3q19 ?_ ?k6q19; (case k1q19 => k_asm); (case k2q19 => k_mem); (case k3q19 => assumption); (case k6q19 => with_unfolding_all rfl); k_whole); (try dsimp only)))
  (k_with "setItem ref int ref" => (k_here; (with_reducible show wpAny _ _ (setItem (Value.ref _) (Value.int _ _) (Value.ref _)) _ _ _); k_dflt (refine' ref_set ?k1q20 ?k2q20 ?k3q20 ?k4q20 ?k5q20 ?k6q20 ?_; (case k1q20 => k_asm); (case k2q20 => k_asm); (case k3q20 => k_upd); (case k4q20 => assumption); (case k5q20 => assumption); (case k6q20 => omega); k_whole); intro h' F' N'))
  (k_with "binaryOp Mult ref int" => (k_here; (with_reducible show wpAny _ _ (binaryOp Operator.Mult (Value.ref _) (Value.int _ _)) _ _ _); k_dflt (refine' KMa.mul ?Fq21 ?Nq21 ?lq21 ?loq21 ?hiq21 ?zq21 ?eq21 ?_; (case Fq21 => k_asm); (case Nq21 => k_asm); (case lq21 => exact ⟨_, News.get (by k_asm) (List.Mem.head _), rfl, _, rfl⟩); (case loq21 => decide); (case hiq21 => decide); (case zq21 => exact Nat.le_of_ble_eq_true rfl); (case eq21 => exact rfl); k_whole); intro D' h' F' N' l1; (try k_lt l1)))
  (k_with "subscriptTail Subscript Name Name Constant ref int" => (k_here; (with_reducible show wpAny _ _ (subscriptTail _ _ (Value.ref _) (Value.int 0 _)) _ _ _); k_dflt (refine' pair_fst ?k1q22 ?k2q22 ?_ ?k6q22; (case k1q22 => k_asm); (case k2q22 => k_mem); (case k6q22 => with_unfolding_all rfl); k_whole); (try dsimp only)))
  (k_with "subscriptTail Subscript Name Name Constant ref int" => (k_here; (with_reducible show wpAny _ _ (subscriptTail _ _ (Value.ref _) (Value.int 1 _)) _ _ _); k_dflt (refine' pair_snd ?k1q23 ?k2q23 ?_ ?k6q23; (case k1q23 => k_asm); (case k2q23 => k_mem); (case k6q23 => with_unfolding_all rfl); k_whole); (try dsimp only)))
  (k_with "subscriptTail Subscript Name BinOp Constant ref int" => (k_here; (with_reducible show wpAny _ _ (subscriptTail _ _ (Value.ref _) (Value.int 0 _)) _ _ _); k_dflt (refine' pair_fst ?k1q24 ?k2q24 ?_ ?k6q24; (case k1q24 => k_asm); (case k2q24 => k_mem); (case k6q24 => with_unfolding_all rfl); k_whole); (try dsimp only)))
  (k_with "subscriptTail Subscript Name BinOp Constant ref int" => (k_here; (with_reducible show wpAny _ _ (subscriptTail _ _ (Value.ref _) (Value.int 1 _)) _ _ _); k_dflt (refine' pair_snd ?k1q25 ?k2q25 ?_ ?k6q25; (case k1q25 => k_asm); (case k2q25 => k_mem); (case k6q25 => with_unfolding_all rfl); k_whole); (try dsimp only)))
  (k_with "subscriptTail Name Constant ref int" => (k_here; (with_reducible show wpAny _ _ (subscriptTail _ _ (Value.ref _) (Value.int 0 _)) _ _ _); k_dflt (refine' pair_fst ?k1q26 ?k2q26 ?_ ?k6q26; (case k1q26 => k_asm); (case k2q26 => k_mem); (case k6q26 => with_unfolding_all rfl); k_whole); (try dsimp only)))
  (k_with "subscriptTail Name Constant ref int" => (k_here; (with_reducible show wpAny _ _ (subscriptTail _ _ (Value.ref _) (Value.int 1 _)) _ _ _); k_dflt (refine' pair_snd ?k1q27 ?k2q27 ?_ ?k6q27; (case k1q27 => k_asm); (case k2q27 => k_mem); (case k6q27 => with_unfolding_all rfl); k_whole); (try dsimp only)))
  (k_with "subscriptTail Subscript Subscript Name Constant ref int" => (k_here; (with_reducible show wpAny _ _ (subscriptTail _ _ (Value.ref _) (Value.int 0 _)) _ _ _); k_dflt (refine' pair_fst ?k1q28 ?k2q28 ?_ ?k6q28; (case k1q28 => k_asm); (case k2q28 => k_mem); (case k6q28 => with_unfolding_all rfl); k_whole); (try dsimp only)))
  (k_with "subscriptTail Subscript Subscript Name Constant ref int" => (k_here; (with_reducible show wpAny _ _ (subscriptTail _ _ (Value.ref _) (Value.int 1 _)) _ _ _); k_dflt (refine' pair_snd ?k1q29 ?k2q29 ?_ ?k6q29; (case k1q29 => k_asm); (case k2q29 => k_mem); (case k6q29 => with_unfolding_all rfl); k_whole); (try dsimp only)))
  (k_with "subscriptTail Subscript Subscript Name Constant Constant ref int" => (k_here; (with_reducible show wpAny _ _ (subscriptTail _ _ (Value.ref _) (Value.int 0 _)) _ _ _); k_dflt (refine' pair_fst ?k1q30 ?k2q30 ?_ ?k6q30; (case k1q30 => k_asm); (case k2q30 => k_mem); (case k6q30 => with_unfolding_all rfl); k_whole); (try dsimp only)))
  (k_with "subscriptTail Subscript Subscript Name Constant Constant ref int" => (k_here; (with_reducible show wpAny _ _ (subscriptTail _ _ (Value.ref _) (Value.int 1 _)) _ _ _); k_dflt (refine' pair_snd ?k1q31 ?k2q31 ?_ ?k6q31; (case k1q31 => k_asm); (case k2q31 => k_mem); (case k6q31 => with_unfolding_all rfl); k_whole); (try dsimp only)))
  (k_with "subscriptTail Subscript Subscript Name Name Constant ref int" => (k_here; (with_reducible show wpAny _ _ (subscriptTail _ _ (Value.ref _) (Value.int 0 _)) _ _ _); k_dflt (refine' pair_fst ?k1q32 ?k2q32 ?_ ?k6q32; (case k1q32 => k_asm); (case k2q32 => k_mem); (case k6q32 => with_unfolding_all rfl); k_whole); (try dsimp only)))
  (k_with "subscriptTail Subscript Subscript Name Name Constant ref int" => (k_here; (with_reducible show wpAny _ _ (subscriptTail _ _ (Value.ref _) (Value.int 1 _)) _ _ _); k_dflt (refine' pair_snd ?k1q33 ?k2q33 ?_ ?k6q33; (case k1q33 => k_asm); (case k2q33 => k_mem); (case k6q33 => with_unfolding_all rfl); k_whole); (try dsimp only)))
  intro l1 l2 ys1 ys2 k1 k2 av bv av' bv' sh p t1 t2 dp un gd cn cs a ccd cl outer A₀ base h₀ L m news s Q E B F X N T hcs hl1 hp1 hl2 hp2 hs1 hs2 hp0 hs0 hs10 hd0 hu0 ret
  refine wpAny_call ?_
  walk_at "my enter"
  k_steps
  rename IsRange _ _ _ _ _ _ _ _ => r9
  rename Fr _ _ _ _ => F9
  rename News _ _ _ _ => N9
  rename_i lD _ _ _ _ _ _ _ _
  obtain ⟨R0, hR0, N8, hD0, hs0⟩ := led_cut N9 (by k_all)
  have hz0 := hs0 _ (List.mem_cons_of_mem _ (List.Mem.head _))
  have hc2 := hs0 _ (List.mem_cons_of_mem _ (List.mem_cons_of_mem _ (List.Mem.head _)))
  have hc1 := hs0 _ (List.mem_cons_of_mem _ (List.mem_cons_of_mem _ (List.mem_cons_of_mem _ (List.Mem.head _))))
  have hn0 := fun q hq => hs0 q (List.mem_cons_of_mem _ (List.mem_cons_of_mem _ (List.mem_cons_of_mem _ (List.mem_cons_of_mem _ hq))))
  refine Halt.mk (range_loop 6 [Str.ofString "j", Str.ofString "k", Str.ofString "first", Str.ofString "second"] rfl r9 rfl rfl F9 N8 (fun j nw => TotJ _ R0 (rowsT (fun j k => av j * av' k - bv j * bv' k) j) (rowsT (fun j k => av j * bv' k + bv j * av' k) j) nw) ⟨_, _, [], rfl, hD0, Above.nil, prs_zero hz0⟩ ?turn ?done)
  case turn =>
    clear N9 F9 N8 r9
    rintro I j u nw tt h tk hI hj ⟨ts, k, tl, rfl, hD, hA, hP⟩ off F' N'
    obtain ⟨t1', q1, q2, hx1, hm1⟩ := prs_at hp1 hj (by decide) (k := 0 + (j : Int)) (by omega)
    have o01 := (ne_spread off).1
    replace off := (ne_spread off).2
    k_steps
    rename IsRange _ _ _ _ _ _ _ _ => r8
    rename Fr _ _ _ _ => F8
    rename News _ _ _ _ => N8
    replace N8 := led_into N8
    have hD' := ne_into (oI := itR (0 + ((j + 1 : Nat) : Int)) (((6 : Nat) : Int) - ((j + 1 : Nat) : Int))) hD o01.symm
    refine Halt.mk (range_loop 6 [Str.ofString "k", Str.ofString "first", Str.ofString "second"] rfl r8 rfl rfl F8 N8 (fun kk nw => TotJ _ ((I, _) :: R0) (rowT (fun k => av j * av' k - bv j * bv' k) j (rowsT (fun j k => av j * av' k - bv j * bv' k) j) kk) (rowT (fun k => av j * bv' k + bv j * av' k) j (rowsT (fun j k => av j * bv' k + bv j * av' k) j) kk) nw) ⟨_, _, _, rfl, hD', above_into hA off, hP.mono sub_into⟩ ?turn2 ?done2)
    case turn2 =>
      clear N8 F8 r8
      rintro I2 kk u2 nw2 tt2 h2 tk2 hI2 hk ⟨ts2, k2', tl2, rfl, hD2, hA2, hP2⟩ off2 F2 N2
      obtain ⟨t2', q3, q4, hx2, hm2⟩ := prs_at hp2 hk (by decide) (k := 0 + (kk : Int)) (by omega)
      obtain ⟨t3', q5, q6, hx3, hm3⟩ := prs_at hP2 (i := j + kk) (by omega) (by decide) (k := 0 + (j : Int) + (0 + (kk : Int))) (by omega)
      obtain ⟨w1, w2, w3, w4⟩ := hs1.mul hs2 hj hk
      have up : ∀ q ∈ R0, q ∈ tl2 ++ (I, itR (0 + ((j + 1 : Nat) : Int)) (((6 : Nat) : Int) - ((j + 1 : Nat) : Int))) :: R0 := fun q hq => List.mem_append_right _ (List.mem_cons_of_mem _ hq)
      have e1 := up _ (hn0 _ hl1)
      have e2 := up _ (hn0 _ hl2)
      have e3 := up _ (hn0 _ hm1)
      have e4 := up _ (hn0 _ hm2)
      have c1 := up _ hc1
      have c2 := up _ hc2
      have hkj : 0 + (j : Int) + (0 + (kk : Int)) = ((j + kk : Nat) : Int) := by omega
      have hlt : j + kk < ts2.length := by rw [hP2.1]; omega
      have o21 := (ne_spread off2).1
      replace off2 := (ne_spread off2).2
      k_steps
      rename News _ _ _ _ => N5
      rename Fr _ _ _ _ => F5
      exact tot_end F5 N5 (by assumption) o21 off2 hP2 (by omega) hA2 hD2 rfl rfl (Over.set (Over.set (Over.set Over.over rfl) rfl) rfl)
    case done2 =>
      clear N8 F8 r8
      rintro u3 nw3 h3 tk3 ⟨ts3, k3, tl3, rfl, hD3, hA3, hP3⟩ F3 N3
      k_steps
      exact unr_end _ F3 N3 (by k_mem) sub_out (off_out hA3 off o01) ⟨Over.sub (Over.set Over.over rfl) rfl, ts3, k3, tl3, rfl, fun q hq => hD3 q (sub_into q hq), hA3.sub fun q hq => List.mem_cons_of_mem _ hq, hP3.drop⟩
  case done =>
    clear N9 F9 N8 r9
    rintro u nw h tk ⟨ts, k, tl, rfl, hD, hA, hP⟩ F' N'
    k_steps
    rename IsRange _ _ _ _ _ _ _ _ => r7
    rename Fr _ _ _ _ => F7
    rename News _ _ _ _ => N7
    refine Halt.mk (range_loop 5 [Str.ofString "k", Str.ofString "first", Str.ofString "second"] rfl r7 rfl rfl F7 N7 (fun t nw => TotJ _ R0 (fdR sh (tmR av bv av' bv') (tmI av bv av' bv') t) (fdI sh (tmR av bv av' bv') (tmI av bv av' bv') t) nw) ⟨_, _, _, rfl, hD, hA, (by rw [fdR_zero, fdI_zero]; exact hP)⟩ ?turn3 ?done3)
    case turn3 =>
      clear N7 F7 r7 hP hA hD
      rintro I t u nw tt h tk hI ht ⟨ts, k, tl, rfl, hD, hA, hP⟩ off F' N'
      obtain ⟨a1, q1, q2, hx1, hm1⟩ := prs_at hP (i := t + 6) (by omega) (by decide) (k := 0 + (t : Int) + 6) (by omega)
      obtain ⟨a2, q3, q4, hx2, hm2⟩ := prs_at hP (i := t) (by omega) (by decide) (k := 0 + (t : Int)) (by omega)
      have hsb : Builtin.Int.intBits sh ≤ 64 := intBits_le_64 (by omega) (by omega)
      have c1 : _ ∈ tl ++ R0 := List.mem_append_right _ hc1
      have c2 : _ ∈ tl ++ R0 := List.mem_append_right _ hc2
      have hkt : 0 + (t : Int) = ((t : Nat) : Int) := by omega
      have hlt : t < ts.length := by rw [hP.1]; omega
      have o01 := (ne_spread off).1
      replace off := (ne_spread off).2
      k_steps
      rename News _ _ _ _ => N5
      rename Fr _ _ _ _ => F5
      exact tot_end F5 N5 (by assumption) o01 off hP (by omega) hA hD (fdR_step ht) (fdI_step ht) (Over.set (Over.set (Over.set Over.over rfl) rfl) rfl)
    case done3 =>
      clear N7 F7 r7 hP hA hD
      rintro u nw h tk ⟨ts, k, tl, rfl, hD, hA, hP⟩ F' N'
      have c1 : _ ∈ tl ++ R0 := List.mem_append_right _ hc1
      have c2 : _ ∈ tl ++ R0 := List.mem_append_right _ hc2
      k_steps
      rename IsRange _ _ _ _ _ _ _ _ => r6
      rename Fr _ _ _ _ => F6
      rename News _ _ _ _ => N6
      obtain ⟨NN, hNN, N6, d1, d2⟩ := led_name N6
      have d3 := fun q hq => d2 q (List.mem_append_right _ (hn0 q hq))
      refine Halt.mk (range_src (n := 6) rfl F6 N6 r6 rfl rfl (by decide) (by decide) rfl rfl (fun i zs nw => TlP NN nw zs i (fun i => (fdR sh (tmR av bv av' bv') (tmI av bv av' bv') 5 i).fmod p) (fun i => (fdI sh (tmR av bv av' bv') (tmI av bv av' bv') 5 i).fmod p)) ⟨[], rfl, Above.nil, rfl, fun j hj => absurd hj (Nat.not_lt_zero _)⟩ ?len ?turn4 ?fin)
      case len => rintro i ys nw ⟨tl', _, _, h⟩; rw [h.1]; exact Nat.le_refl _
      case turn4 =>
        clear N6 F6 r6
        rintro i zs nw u C oC D m₂ h tk own wr E' hi ⟨tl', rfl, hA', hP'⟩ hC hma F' N' hw off hne
        obtain ⟨a1, q1, q2, hx1, hm1⟩ := prs_at hP (i := i) (by omega) (by decide) (k := 0 + (i : Int)) (by omega)
        replace N' := news_mid N'
        have g1 := mem_own (own := own) (tl := tl') d1
        have g2 := mem_own (own := own) (tl := tl') (d2 _ c1)
        have g3 := mem_own (own := own) (tl := tl') (d2 _ c2)
        have g4 := mem_own (own := own) (tl := tl') (d2 _ hm1)
        k_steps
        rename News _ _ _ _ => N5
        rename Fr _ _ _ _ => F5
        exact pair_end F5 N5 (by assumption) off hw hA' hP' rfl rfl
      case fin =>
        clear N6 F6 r6
        rintro Dl h tk zs nw F' N' off ⟨tl', rfl, hA', hP'⟩
        k_steps
        rename News h₀ L _ _ => N5
        rename Fr h₀ L _ _ => F5
        exact ret _ _ _ _ F5 (news_lst N5 d3) (above_lst off hA' d3) ⟨_, _, _, rfl, List.Mem.head _, hP'.mono fun _ h => List.mem_cons_of_mem _ h⟩

end
def primesL : List Int := [2, 3, 5, 7, 11, 13, 17, 19, 23, 29, 31, 4002409555221667393417789825735904156556882819939007885332058136124031650490837864442687629129015664037894272559787, 21888242871839275222246405745257275088696311157297823662689037894645226208583]
theorem primes_ok {i : Nat} (h : i < 13) : 0 < primesL.getD i 0 ∧ Builtin.Int.intBits (primesL.getD i 0) ≤ 1000000 := by
  match i, h with
  | 0, _ => decide +kernel
  | 1, _ => decide +kernel
  | 2, _ => decide +kernel
  | 3, _ => decide +kernel
  | 4, _ => decide +kernel
  | 5, _ => decide +kernel
  | 6, _ => decide +kernel
  | 7, _ => decide +kernel
  | 8, _ => decide +kernel
  | 9, _ => decide +kernel
  | 10, _ => decide +kernel
  | 11, _ => decide +kernel
  | 12, _ => decide +kernel
section

theorem c_primes {w : World} {loose : List Str} {mean : ExcName → Option Value} {mg mb : Str → Option Value} :
  ∀ (_u : Unit) (dp un : Nat) (gd : Option (List Code)) (cn : Str) (cs : Scope) (a : Addr) (ccd : Value) (cl : List (Str × Addr)) (outer : List Env) (A₀ : Around) (base h₀ : Heap) (L : Addr) (m : Str → Option Value) (news : List (Addr × Obj)) (s : Shared) (Q E : Value → Shared → Prop),
    Below A₀ base outer h₀ → Fr h₀ L s.heap m → (kfrag w.params).In h₀ → News h₀ L s.heap news → Top topProg loose mean mg mb h₀ → cs.kind = .function →
    dp + 20 < recursionLimit → un + 100 < cLine →
    (∀ v tl h' tk', Fr h₀ L h' m → News h₀ L h' (tl ++ news) → Above tl news → (LstI v tl primesL) → Q v { s with heap := h', toks := tk' }) →
      wpAny (model PySem.Challenge.pw_kh0011_01 w) (ktrTop dp un gd cn cs L a ccd cl outer) (call (.ref 174) []) Q E s := by
  have _kf : PySem.Challenge.rw_kh0011_01 = PySem.Challenge.rw_kh0011_01 ∧ kfrag = kfrag := by (k_fill; exact ⟨rfl, rfl⟩)
  clear _kf
  w_top off
  k_with_none
  (k_with "execs cons" => ((try k_gentoks); (first | (with_reducible show wpAny _ _ _ _ (fun _ _ => False) _) | (refine wpAny_noRaise ?_)); refine execs_hide ?_; intro Q9x hQ9x))
  (k_with "k_all" => first | assumption | exact allNe_of (by assumption) | exact allNe_of (allLt_of (by assumption)))
  (k_with "k_mem" => (first | assumption | (refine' List.mem_cons_of_mem _ ?_; k_mem)))
  (k_with "news_mem" => k_mem)
  (k_with "my enter" => k_dflt (first | (refine' code_def ?k1q4 ?k2q4 ?k3q4 ?k4q4 ?k5q4 ?kAq4 ?kFq4 ?kKq4 ?k6q4 ?k7q4 ?k8q4 ?k9q4 ?kBq4 ?_ ?c2q4 ?c3q4 ?c4q4 ?c5q4; (case kAq4 => exact rfl); (case kFq4 => exact rfl); (case kKq4 => first | exact rfl | assumption); (case k1q4 => k_asm); (case k2q4 => k_asm); (case k3q4 => k_asm); (case k4q4 => k_asm); (case k5q4 => k_asm); (case k6q4 => k_is); (case k7q4 => k_is); (case k8q4 => ktr_room); (case k9q4 => exact BindsTo.of_eq rfl); (case c5q4 => decide); (case kBq4 => exact locs rfl); (case c2q4 => exact rfl); (case c3q4 => exact rfl); (case c4q4 => exact rfl); k_whole; intro g' L' h' FG' F' N' B' X' T'; (try dsimp only); (try k_fold)) | (refine' code_defC ?k1q4 ?k2q4 ?k3q4 ?k4q4 ?k5q4 ?kAq4 ?kFq4 ?kKq4 ?k6q4 ?k7q4 ?k8q4 ?k9q4 ?kBq4 ?kDq4 ?_ ?c2q4 ?c3q4 ?c4q4; (case kAq4 => exact rfl); (case kFq4 => exact rfl); (case kKq4 => first | exact rfl | assumption); (case k1q4 => k_asm); (case k2q4 => k_asm); (case k3q4 => k_asm); (case k4q4 => k_asm); (case k5q4 => k_asm); (case k6q4 => k_is); (case k7q4 => k_is); (case k8q4 => ktr_room); (case k9q4 => exact BindsTo.of_eq rfl); (case kBq4 => exact rfl); (case kDq4 => decide +kernel); (case c2q4 => exact rfl); (case c3q4 => exact rfl); (case c4q4 => exact rfl); k_whole; intro g' L' h' tk' cells' FG' F' N' Y' B' X' T' l1; (first | k_lt l1 | replace l1 := allLt_of l1); k_cells Y'; (try simp only [List.cons_append, List.nil_append] at N'); (try dsimp only); (try k_fold))))
  (k_with "my sup" => (intro p hp; repeat (first | exact hp | refine List.mem_cons_of_mem _ ?_ | refine List.mem_append_right _ ?_)))
  (k_with "my sub" => repeat (first | exact sub_nil | refine sub_cons (by k_mem) ?_ | (refine sub_app ?_ ?_)))
  (k_with "my and" => first | assumption | exact And.right (by assumption) | exact And.right (And.right (by assumption)) | exact And.right (And.right (And.right (by assumption))) | exact And.right (And.right (And.right (And.right (by assumption)))) | exact And.right (And.right (And.right (And.right (And.right (by assumption))))) | exact And.right (And.right (And.right (And.right (And.right (And.right (by assumption)))))))
  (k_with "my lt" => first | assumption | exact And.left (by assumption) | exact And.left (And.right (by assumption)) | exact And.left (And.right (And.right (by assumption))) | exact And.left (And.right (And.right (And.right (by assumption)))) | exact And.left (And.right (And.right (And.right (And.right (by assumption))))) | exact And.left (And.right (And.right (And.right (And.right (And.right (by assumption)))))) | exact And.left (And.right (And.right (And.right (And.right (And.right (And.right (by assumption))))))) | exact And.left (And.right (And.right (And.right (And.right (And.right (And.right (And.right (by assumption)))))))))
  (k_with "my neq" => ((refine neN ?_); (try dsimp only); first | assumption | exact Ne.symm (by assumption) | exact Nat.ne_of_gt (by walk_at "my lt") | exact Nat.ne_of_lt (by walk_at "my lt") | omega))
  (k_with "my apart" => first | assumption | exact off1_mem (by walk_at "my and") | exact allNe_of (by walk_at "my and") | exact allNe_of (allLt_of (by walk_at "my and")) | exact allNe_of (allLt_app (by walk_at "my and")).2 | exact allNe_of (allLt_app (by walk_at "my and")).1 | exact allNe1 (by walk_at "my and") | exact allNe2 (by walk_at "my and"))
  (k_with "k_ne" => ((refine neN ?_); (try dsimp only); first | assumption | exact Ne.symm (by assumption) | exact Nat.ne_of_gt (by walk_at "my lt") | exact Nat.ne_of_lt (by walk_at "my lt") | fail "k_ne"))
  intro _u dp un gd cn cs a ccd cl outer A₀ base h₀ L m news s Q E B F X N T hcs  hd0 hu0 ret
  refine wpAny_call ?_
  walk_at "my enter"
  k_steps
  rename News h₀ L _ _ => N5
  rename Fr h₀ L _ _ => F5
  exact ret _ [(_, W.listOf _ _)] _ _ F5 N5 (Above.cons (by walk_at "my apart") .nil) ⟨_, _, _, rfl, List.Mem.head _, .cons _ _ (.cons _ _ (.cons _ _ (.cons _ _ (.cons _ _ (.cons _ _ (.cons _ _ (.cons _ _ (.cons _ _ (.cons _ _ (.cons _ _ (.cons _ _ (.cons _ _ .nil))))))))))))⟩

end
section

theorem c_add {w : World} {loose : List Str} {mean : ExcName → Option Value} {mg mb : Str → Option Value} :
  ∀ (x y : Addr) (c c' : Nat → Int) (M : Addr) (ma mb' p : Int) (ps : Array Value) (dp un : Nat) (gd : Option (List Code)) (cn : Str) (cs : Scope) (a : Addr) (ccd : Value) (cl : List (Str × Addr)) (outer : List Env) (A₀ : Around) (base h₀ : Heap) (L : Addr) (m : Str → Option Value) (news : List (Addr × Obj)) (s : Shared) (Q E : Value → Shared → Prop),
    Below A₀ base outer h₀ → Fr h₀ L s.heap m → (kfrag w.params).In h₀ → News h₀ L s.heap ((44, tabO ps) :: news) → (∀ q ∈ news, q.1 ≠ 44) → TriplesOk ps.toList → Top topProg loose mean mg mb h₀ → cs.kind = .function →
    AllBare s.gens → Mod M ma mb' → 0 < p → Fq w news M ma mb' p x c → Fq w news M ma mb' p y c' → dp + 60 < recursionLimit → un + 300 < cLine →
    (∀ x_ tl h' tk gs (ps' : Array Value), TriplesOk ps'.toList → AllBare gs → Fr h₀ L h' m → News h₀ L h' ((44, tabO ps') :: (tl ++ news)) → Above tl ((44, tabO ps') :: news) → Fq w tl M ma mb' p x_ (fun i => (c i + c' i).fmod p) → Q (.ref x_) { s with heap := h', toks := tk, gens := gs }) →
      wpAny (model PySem.Challenge.pw_kh0011_01 w) (ktrTop dp un gd cn cs L a ccd cl outer) (call (.ref 59) [.ref x, .ref y]) Q E s := by
  have _kf : PySem.Challenge.rw_kh0011_01 = PySem.Challenge.rw_kh0011_01 ∧ kfrag = kfrag := by (k_fill; exact ⟨rfl, rfl⟩)
  clear _kf
  w_top off
  k_with_none
  (k_with "execs cons" => ((try k_gentoks); (first | (with_reducible show wpAny _ _ _ _ (fun _ _ => False) _) | (refine wpAny_noRaise ?_)); refine execs_hide ?_; intro Q9x hQ9x))
  (k_with "k_all" => first | assumption | exact allNe_of (by assumption) | exact allNe_of (allLt_of (by assumption)))
  (k_with "k_mem" => (first | assumption | (refine' List.mem_cons_of_mem _ ?_; k_mem)))
  (k_with "news_mem" => k_mem)
  (k_with "my enter" => k_dflt (first | (refine' code_def ?k1q4 ?k2q4 ?k3q4 ?k4q4 ?k5q4 ?kAq4 ?kFq4 ?kKq4 ?k6q4 ?k7q4 ?k8q4 ?k9q4 ?kBq4 ?_ ?c2q4 ?c3q4 ?c4q4 ?c5q4; (case kAq4 => exact rfl); (case kFq4 => exact rfl); (case kKq4 => first | exact rfl | assumption); (case k1q4 => k_asm); (case k2q4 => k_asm); (case k3q4 => k_asm); (case k4q4 => k_asm); (case k5q4 => k_asm); (case k6q4 => k_is); (case k7q4 => k_is); (case k8q4 => ktr_room); (case k9q4 => exact BindsTo.of_eq rfl); (case c5q4 => decide); (case kBq4 => exact locs rfl); (case c2q4 => exact rfl); (case c3q4 => exact rfl); (case c4q4 => exact rfl); k_whole; intro g' L' h' FG' F' N' B' X' T'; (try dsimp only); (try k_fold)) | (refine' code_defC ?k1q4 ?k2q4 ?k3q4 ?k4q4 ?k5q4 ?kAq4 ?kFq4 ?kKq4 ?k6q4 ?k7q4 ?k8q4 ?k9q4 ?kBq4 ?kDq4 ?_ ?c2q4 ?c3q4 ?c4q4; (case kAq4 => exact rfl); (case kFq4 => exact rfl); (case kKq4 => first | exact rfl | assumption); (case k1q4 => k_asm); (case k2q4 => k_asm); (case k3q4 => k_asm); (case k4q4 => k_asm); (case k5q4 => k_asm); (case k6q4 => k_is); (case k7q4 => k_is); (case k8q4 => ktr_room); (case k9q4 => exact BindsTo.of_eq rfl); (case kBq4 => exact rfl); (case kDq4 => decide +kernel); (case c2q4 => exact rfl); (case c3q4 => exact rfl); (case c4q4 => exact rfl); k_whole; intro g' L' h' tk' cells' FG' F' N' Y' B' X' T' l1; (first | k_lt l1 | replace l1 := allLt_of l1); k_cells Y'; (try simp only [List.cons_append, List.nil_append] at N'); (try dsimp only); (try k_fold))))
  (k_with "my sup" => (intro p hp; repeat (first | exact hp | refine List.mem_cons_of_mem _ ?_ | refine List.mem_append_right _ ?_)))
  (k_with "my sub" => repeat (first | exact sub_nil | refine sub_cons (by k_mem) ?_ | (refine sub_app ?_ ?_)))
  (k_with "my and" => first | assumption | exact And.right (by assumption) | exact And.right (And.right (by assumption)) | exact And.right (And.right (And.right (by assumption))) | exact And.right (And.right (And.right (And.right (by assumption)))) | exact And.right (And.right (And.right (And.right (And.right (by assumption))))) | exact And.right (And.right (And.right (And.right (And.right (And.right (by assumption)))))))
  (k_with "my lt" => first | assumption | exact And.left (by assumption) | exact And.left (And.right (by assumption)) | exact And.left (And.right (And.right (by assumption))) | exact And.left (And.right (And.right (And.right (by assumption)))) | exact And.left (And.right (And.right (And.right (And.right (by assumption))))) | exact And.left (And.right (And.right (And.right (And.right (And.right (by assumption)))))) | exact And.left (And.right (And.right (And.right (And.right (And.right (And.right (by assumption))))))) | exact And.left (And.right (And.right (And.right (And.right (And.right (And.right (And.right (by assumption)))))))))
  (k_with "my neq" => ((refine neN ?_); (try dsimp only); first | assumption | exact Ne.symm (by assumption) | exact Nat.ne_of_gt (by walk_at "my lt") | exact Nat.ne_of_lt (by walk_at "my lt") | omega))
  (k_with "my apart" => first | assumption | exact off1_mem (by walk_at "my and") | exact allNe_of (by walk_at "my and") | exact allNe_of (allLt_of (by walk_at "my and")) | exact allNe_of (allLt_app (by walk_at "my and")).2 | exact allNe_of (allLt_app (by walk_at "my and")).1 | exact allNe1 (by walk_at "my and") | exact allNe2 (by walk_at "my and"))
  (k_with "k_ne" => ((refine neN ?_); (try dsimp only); first | assumption | exact Ne.symm (by assumption) | exact Nat.ne_of_gt (by walk_at "my lt") | exact Nat.ne_of_lt (by walk_at "my lt") | fail "k_ne"))
  (k_with "eval ListComp" => (k_here; k_dflt (refine listComp_it rfl rfl (by decide) ?_)))
  (k_with "call ref" => (k_here; k_dflt (refine' c_made _ _ _ _ _ _ _ _ _ _ _ _ _ _ _ _ _ _ _ _ _ _ _ _ _ _ _ _ _ ?cBq13 ?cFq13 ?cXq13 ?cNq13 ?cHq13 ?ctq13 ?cTq13 ?ckq13 ?cGq13 ?cMq13 ?cpq13 ?cfq13 ?clq13 ?ciq13 ?cnq13 ?cdq13 ?cuq13 ?_; (case cBq13 => k_asm); (case cFq13 => k_asm); (case cXq13 => k_asm); (case cNq13 => first | exact news_rot2 (by k_asm) | exact news_rot1 (by k_asm) | k_asm); (case ctq13 => assumption); (case cTq13 => k_asm); (case ckq13 => rfl); (case cGq13 => assumption); (case cfq13 => exact Fq.mono (by assumption) (by walk_at "my sup")); (case cMq13 => assumption); (case clq13 => first | exact List.Mem.head _ | k_mem); (case ciq13 => assumption); (case cnq13 => exact tab_length _ _); (case cHq13 => exact all_cons (by walk_at "my neq") (all_cons (by walk_at "my neq") (by assumption))); (case cpq13 => assumption); (case cdq13 => ktr_room); (case cuq13 => ktr_room); intro x' tl' h' tk' gs' ps' ht' G' F' N' a' f'; (try dsimp only [CmpBack]))))
  (k_with "call type:zip" => fail)
  intro x y c c' M ma mb' p ps dp un gd cn cs a ccd cl outer A₀ base h₀ L m news s Q E B F X N H44 htr T hcs hG hM hp0 hx hy hd0 hu0 ret
  have hx0 := hx
  have hy0 := hy
  obtain ⟨d, D, g1, g2, T1, u1, v1, u2, v2, k1, k2, k3, k4, k5, tp, t12, ys, m1, m2, m3, m4, m5, m6, m7⟩ := hx
  obtain ⟨e, De, e1, e2, T2, w1, z1, w2, z2, j1, j2, j3, j4, j5, jp, j12, zs, n1, n2, n3, n4, n5, n6, n7⟩ := hy
  refine wpAny_call ?_
  walk_at "my enter"
  k_steps
  obtain ⟨nn, hnn, NN⟩ : ∃ nn, nn = _ ∧ News _ _ _ nn := ⟨_, rfl, by k_asm⟩
  refine zip_src (n := 12) rfl (by k_asm) NN (by rw [hnn]; k_mem) rfl rfl (by rw [hnn]; k_mem) rfl rfl (ints_size m7) (ints_size n7) (by decide) (by decide) rfl rfl rfl (by decide) (fun i ys nw => nw = nn ∧ IntsAre ys (tab i fun i => (c i + c' i).fmod p)) ⟨rfl, .nil⟩ ?len ?turn ?fin
  case len => rintro i ys nw ⟨_, h⟩; rw [h.length, tab_length]; exact Nat.le_refl _
  case turn =>
    rintro i rs nw va vb C oC Dl m₂ h tk own wr E' hi12 ⟨rfl, hr⟩ hva hvb hC hma hmb F' N' hw off hne
    obtain ⟨q1, rfl⟩ := ints_at m7 (i := i) (v := va) (by simpa using hva)
    obtain ⟨q2, rfl⟩ := ints_at n7 (i := i) (v := vb) (by simpa using hvb)
    rw [tab_getD _ _ _ hi12] at hma hmb
    replace N' := news_mid N'
    subst hnn
    clear NN
    k_steps
    exact pairEnd_same (by k_asm) (by k_asm) off ⟨rfl, ints_snoc hr rfl⟩
  case fin =>
    rintro Dl h tk rs nw F' N' off ⟨rfl, hr⟩
    subst hnn
    clear NN
    have o01 := (ne_spread off).1
    replace off := (ne_spread off).2
    have o02 := (ne_spread off).1
    replace off := (ne_spread off).2
    k_steps
    rename News h₀ L _ _ => N9
    rename Fr h₀ L _ _ => F9
    rename Above _ _ => a9
    rename Fq _ _ _ _ _ _ _ _ => f9
    rename TriplesOk _ => t9
    exact ret _ _ _ _ _ _ t9 (by assumption) F9 (fun q hq => N9 q (drop_mid [_, _] q hq)) (a9.sub fun q hq => drop_top [_, _] q hq) (Fq.tabm hp0 f9)

end
section

theorem c_sub {w : World} {loose : List Str} {mean : ExcName → Option Value} {mg mb : Str → Option Value} :
  ∀ (x y : Addr) (c c' : Nat → Int) (M : Addr) (ma mb' p : Int) (ps : Array Value) (dp un : Nat) (gd : Option (List Code)) (cn : Str) (cs : Scope) (a : Addr) (ccd : Value) (cl : List (Str × Addr)) (outer : List Env) (A₀ : Around) (base h₀ : Heap) (L : Addr) (m : Str → Option Value) (news : List (Addr × Obj)) (s : Shared) (Q E : Value → Shared → Prop),
    Below A₀ base outer h₀ → Fr h₀ L s.heap m → (kfrag w.params).In h₀ → News h₀ L s.heap ((44, tabO ps) :: news) → (∀ q ∈ news, q.1 ≠ 44) → TriplesOk ps.toList → Top topProg loose mean mg mb h₀ → cs.kind = .function →
    AllBare s.gens → Mod M ma mb' → 0 < p → Fq w news M ma mb' p x c → Fq w news M ma mb' p y c' → dp + 60 < recursionLimit → un + 300 < cLine →
    (∀ x_ tl h' tk gs (ps' : Array Value), TriplesOk ps'.toList → AllBare gs → Fr h₀ L h' m → News h₀ L h' ((44, tabO ps') :: (tl ++ news)) → Above tl ((44, tabO ps') :: news) → Fq w tl M ma mb' p x_ (fun i => (c i - c' i).fmod p) → Q (.ref x_) { s with heap := h', toks := tk, gens := gs }) →
      wpAny (model PySem.Challenge.pw_kh0011_01 w) (ktrTop dp un gd cn cs L a ccd cl outer) (call (.ref 64) [.ref x, .ref y]) Q E s := by
  have _kf : PySem.Challenge.rw_kh0011_01 = PySem.Challenge.rw_kh0011_01 ∧ kfrag = kfrag := by (k_fill; exact ⟨rfl, rfl⟩)
  clear _kf
  w_top off
  k_with_none
  (k_with "execs cons" => ((try k_gentoks); (first | (with_reducible show wpAny _ _ _ _ (fun _ _ => False) _) | (refine wpAny_noRaise ?_)); refine execs_hide ?_; intro Q9x hQ9x))
  (k_with "k_all" => first | assumption | exact allNe_of (by assumption) | exact allNe_of (allLt_of (by assumption)))
  (k_with "k_mem" => (first | assumption | (refine' List.mem_cons_of_mem _ ?_; k_mem)))
  (k_with "news_mem" => k_mem)
  (k_with "my enter" => k_dflt (first | (refine' code_def ?k1q4 ?k2q4 ?k3q4 ?k4q4 ?k5q4 ?kAq4 ?kFq4 ?kKq4 ?k6q4 ?k7q4 ?k8q4 ?k9q4 ?kBq4 ?_ ?c2q4 ?c3q4 ?c4q4 ?c5q4; (case kAq4 => exact rfl); (case kFq4 => exact rfl); (case kKq4 => first | exact rfl | assumption); (case k1q4 => k_asm); (case k2q4 => k_asm); (case k3q4 => k_asm); (case k4q4 => k_asm); (case k5q4 => k_asm); (case k6q4 => k_is); (case k7q4 => k_is); (case k8q4 => ktr_room); (case k9q4 => exact BindsTo.of_eq rfl); (case c5q4 => decide); (case kBq4 => exact locs rfl); (case c2q4 => exact rfl); (case c3q4 => exact rfl); (case c4q4 => exact rfl); k_whole; intro g' L' h' FG' F' N' B' X' T'; (try dsimp only); (try k_fold)) | (refine' code_defC ?k1q4 ?k2q4 ?k3q4 ?k4q4 ?k5q4 ?kAq4 ?kFq4 ?kKq4 ?k6q4 ?k7q4 ?k8q4 ?k9q4 ?kBq4 ?kDq4 ?_ ?c2q4 ?c3q4 ?c4q4; (case kAq4 => exact rfl); (case kFq4 => exact rfl); (case kKq4 => first | exact rfl | assumption); (case k1q4 => k_asm); (case k2q4 => k_asm); (case k3q4 => k_asm); (case k4q4 => k_asm); (case k5q4 => k_asm); (case k6q4 => k_is); (case k7q4 => k_is); (case k8q4 => ktr_room); (case k9q4 => exact BindsTo.of_eq rfl); (case kBq4 => exact rfl); (case kDq4 => decide +kernel); (case c2q4 => exact rfl); (case c3q4 => exact rfl); (case c4q4 => exact rfl); k_whole; intro g' L' h' tk' cells' FG' F' N' Y' B' X' T' l1; (first | k_lt l1 | replace l1 := allLt_of l1); k_cells Y'; (try simp only [List.cons_append, List.nil_append] at N'); (try dsimp only); (try k_fold))))
  (k_with "my sup" => (intro p hp; repeat (first | exact hp | refine List.mem_cons_of_mem _ ?_ | refine List.mem_append_right _ ?_)))
  (k_with "my sub" => repeat (first | exact sub_nil | refine sub_cons (by k_mem) ?_ | (refine sub_app ?_ ?_)))
  (k_with "my and" => first | assumption | exact And.right (by assumption) | exact And.right (And.right (by assumption)) | exact And.right (And.right (And.right (by assumption))) | exact And.right (And.right (And.right (And.right (by assumption)))) | exact And.right (And.right (And.right (And.right (And.right (by assumption))))) | exact And.right (And.right (And.right (And.right (And.right (And.right (by assumption)))))))
  (k_with "my lt" => first | assumption | exact And.left (by assumption) | exact And.left (And.right (by assumption)) | exact And.left (And.right (And.right (by assumption))) | exact And.left (And.right (And.right (And.right (by assumption)))) | exact And.left (And.right (And.right (And.right (And.right (by assumption))))) | exact And.left (And.right (And.right (And.right (And.right (And.right (by assumption)))))) | exact And.left (And.right (And.right (And.right (And.right (And.right (And.right (by assumption))))))) | exact And.left (And.right (And.right (And.right (And.right (And.right (And.right (And.right (by assumption)))))))))
  (k_with "my neq" => ((refine neN ?_); (try dsimp only); first | assumption | exact Ne.symm (by assumption) | exact Nat.ne_of_gt (by walk_at "my lt") | exact Nat.ne_of_lt (by walk_at "my lt") | omega))
  (k_with "my apart" => first | assumption | exact off1_mem (by walk_at "my and") | exact allNe_of (by walk_at "my and") | exact allNe_of (allLt_of (by walk_at "my and")) | exact allNe_of (allLt_app (by walk_at "my and")).2 | exact allNe_of (allLt_app (by walk_at "my and")).1 | exact allNe1 (by walk_at "my and") | exact allNe2 (by walk_at "my and"))
  (k_with "k_ne" => ((refine neN ?_); (try dsimp only); first | assumption | exact Ne.symm (by assumption) | exact Nat.ne_of_gt (by walk_at "my lt") | exact Nat.ne_of_lt (by walk_at "my lt") | fail "k_ne"))
  (k_with "eval ListComp" => (k_here; k_dflt (refine listComp_it rfl rfl (by decide) ?_)))
  (k_with "call ref" => (k_here; k_dflt (refine' c_made _ _ _ _ _ _ _ _ _ _ _ _ _ _ _ _ _ _ _ _ _ _ _ _ _ _ _ _ _ ?cBq13 ?cFq13 ?cXq13 ?cNq13 ?cHq13 ?ctq13 ?cTq13 ?ckq13 ?cGq13 ?cMq13 ?cpq13 ?cfq13 ?clq13 ?ciq13 ?cnq13 ?cdq13 ?cuq13 ?_; (case cBq13 => k_asm); (case cFq13 => k_asm); (case cXq13 => k_asm); (case cNq13 => first | exact news_rot2 (by k_asm) | exact news_rot1 (by k_asm) | k_asm); (case ctq13 => assumption); (case cTq13 => k_asm); (case ckq13 => rfl); (case cGq13 => assumption); (case cfq13 => exact Fq.mono (by assumption) (by walk_at "my sup")); (case cMq13 => assumption); (case clq13 => first | exact List.Mem.head _ | k_mem); (case ciq13 => assumption); (case cnq13 => exact tab_length _ _); (case cHq13 => exact all_cons (by walk_at "my neq") (all_cons (by walk_at "my neq") (by assumption))); (case cpq13 => assumption); (case cdq13 => ktr_room); (case cuq13 => ktr_room); intro x' tl' h' tk' gs' ps' ht' G' F' N' a' f'; (try dsimp only [CmpBack]))))
  (k_with "call type:zip" => fail)
  intro x y c c' M ma mb' p ps dp un gd cn cs a ccd cl outer A₀ base h₀ L m news s Q E B F X N H44 htr T hcs hG hM hp0 hx hy hd0 hu0 ret
  have hx0 := hx
  have hy0 := hy
  obtain ⟨d, D, g1, g2, T1, u1, v1, u2, v2, k1, k2, k3, k4, k5, tp, t12, ys, m1, m2, m3, m4, m5, m6, m7⟩ := hx
  obtain ⟨e, De, e1, e2, T2, w1, z1, w2, z2, j1, j2, j3, j4, j5, jp, j12, zs, n1, n2, n3, n4, n5, n6, n7⟩ := hy
  refine wpAny_call ?_
  walk_at "my enter"
  k_steps
  obtain ⟨nn, hnn, NN⟩ : ∃ nn, nn = _ ∧ News _ _ _ nn := ⟨_, rfl, by k_asm⟩
  refine zip_src (n := 12) rfl (by k_asm) NN (by rw [hnn]; k_mem) rfl rfl (by rw [hnn]; k_mem) rfl rfl (ints_size m7) (ints_size n7) (by decide) (by decide) rfl rfl rfl (by decide) (fun i ys nw => nw = nn ∧ IntsAre ys (tab i fun i => (c i - c' i).fmod p)) ⟨rfl, .nil⟩ ?len ?turn ?fin
  case len => rintro i ys nw ⟨_, h⟩; rw [h.length, tab_length]; exact Nat.le_refl _
  case turn =>
    rintro i rs nw va vb C oC Dl m₂ h tk own wr E' hi12 ⟨rfl, hr⟩ hva hvb hC hma hmb F' N' hw off hne
    obtain ⟨q1, rfl⟩ := ints_at m7 (i := i) (v := va) (by simpa using hva)
    obtain ⟨q2, rfl⟩ := ints_at n7 (i := i) (v := vb) (by simpa using hvb)
    rw [tab_getD _ _ _ hi12] at hma hmb
    replace N' := news_mid N'
    subst hnn
    clear NN
    k_steps
    exact pairEnd_same (by k_asm) (by k_asm) off ⟨rfl, ints_snoc hr rfl⟩
  case fin =>
    rintro Dl h tk rs nw F' N' off ⟨rfl, hr⟩
    subst hnn
    clear NN
    have o01 := (ne_spread off).1
    replace off := (ne_spread off).2
    have o02 := (ne_spread off).1
    replace off := (ne_spread off).2
    k_steps
    rename News h₀ L _ _ => N9
    rename Fr h₀ L _ _ => F9
    rename Above _ _ => a9
    rename Fq _ _ _ _ _ _ _ _ => f9
    rename TriplesOk _ => t9
    exact ret _ _ _ _ _ _ t9 (by assumption) F9 (fun q hq => N9 q (drop_mid [_, _] q hq)) (a9.sub fun q hq => drop_top [_, _] q hq) (Fq.tabm hp0 f9)

end
section

theorem c_neg {w : World} {loose : List Str} {mean : ExcName → Option Value} {mg mb : Str → Option Value} :
  ∀ (x : Addr) (c : Nat → Int) (M : Addr) (ma mb' p : Int) (ps : Array Value) (dp un : Nat) (gd : Option (List Code)) (cn : Str) (cs : Scope) (a : Addr) (ccd : Value) (cl : List (Str × Addr)) (outer : List Env) (A₀ : Around) (base h₀ : Heap) (L : Addr) (m : Str → Option Value) (news : List (Addr × Obj)) (s : Shared) (Q E : Value → Shared → Prop),
    Below A₀ base outer h₀ → Fr h₀ L s.heap m → (kfrag w.params).In h₀ → News h₀ L s.heap ((44, tabO ps) :: news) → (∀ q ∈ news, q.1 ≠ 44) → TriplesOk ps.toList → Top topProg loose mean mg mb h₀ → cs.kind = .function →
    AllBare s.gens → Mod M ma mb' → 0 < p → Fq w news M ma mb' p x c → dp + 60 < recursionLimit → un + 300 < cLine →
    (∀ x_ tl h' tk gs (ps' : Array Value), TriplesOk ps'.toList → AllBare gs → Fr h₀ L h' m → News h₀ L h' ((44, tabO ps') :: (tl ++ news)) → Above tl ((44, tabO ps') :: news) → Fq w tl M ma mb' p x_ (fun i => (-(c i)).fmod p) → Q (.ref x_) { s with heap := h', toks := tk, gens := gs }) →
      wpAny (model PySem.Challenge.pw_kh0011_01 w) (ktrTop dp un gd cn cs L a ccd cl outer) (call (.ref 131) [.ref x]) Q E s := by
  have _kf : PySem.Challenge.rw_kh0011_01 = PySem.Challenge.rw_kh0011_01 ∧ kfrag = kfrag := by (k_fill; exact ⟨rfl, rfl⟩)
  clear _kf
  w_top off
  k_with_none
  (k_with "execs cons" => ((try k_gentoks); (first | (with_reducible show wpAny _ _ _ _ (fun _ _ => False) _) | (refine wpAny_noRaise ?_)); refine execs_hide ?_; intro Q9x hQ9x))
  (k_with "k_all" => first | assumption | exact allNe_of (by assumption) | exact allNe_of (allLt_of (by assumption)))
  (k_with "k_mem" => (first | assumption | (refine' List.mem_cons_of_mem _ ?_; k_mem)))
  (k_with "news_mem" => k_mem)
  (k_with "my enter" => k_dflt (first | (refine' code_def ?k1q4 ?k2q4 ?k3q4 ?k4q4 ?k5q4 ?kAq4 ?kFq4 ?kKq4 ?k6q4 ?k7q4 ?k8q4 ?k9q4 ?kBq4 ?_ ?c2q4 ?c3q4 ?c4q4 ?c5q4; (case kAq4 => exact rfl); (case kFq4 => exact rfl); (case kKq4 => first | exact rfl | assumption); (case k1q4 => k_asm); (case k2q4 => k_asm); (case k3q4 => k_asm); (case k4q4 => k_asm); (case k5q4 => k_asm); (case k6q4 => k_is); (case k7q4 => k_is); (case k8q4 => ktr_room); (case k9q4 => exact BindsTo.of_eq rfl); (case c5q4 => decide); (case kBq4 => exact locs rfl); (case c2q4 => exact rfl); (case c3q4 => exact rfl); (case c4q4 => exact rfl); k_whole; intro g' L' h' FG' F' N' B' X' T'; (try dsimp only); (try k_fold)) | (refine' code_defC ?k1q4 ?k2q4 ?k3q4 ?k4q4 ?k5q4 ?kAq4 ?kFq4 ?kKq4 ?k6q4 ?k7q4 ?k8q4 ?k9q4 ?kBq4 ?kDq4 ?_ ?c2q4 ?c3q4 ?c4q4; (case kAq4 => exact rfl); (case kFq4 => exact rfl); (case kKq4 => first | exact rfl | assumption); (case k1q4 => k_asm); (case k2q4 => k_asm); (case k3q4 => k_asm); (case k4q4 => k_asm); (case k5q4 => k_asm); (case k6q4 => k_is); (case k7q4 => k_is); (case k8q4 => ktr_room); (case k9q4 => exact BindsTo.of_eq rfl); (case kBq4 => exact rfl); (case kDq4 => decide +kernel); (case c2q4 => exact rfl); (case c3q4 => exact rfl); (case c4q4 => exact rfl); k_whole; intro g' L' h' tk' cells' FG' F' N' Y' B' X' T' l1; (first | k_lt l1 | replace l1 := allLt_of l1); k_cells Y'; (try simp only [List.cons_append, List.nil_append] at N'); (try dsimp only); (try k_fold))))
  (k_with "my sup" => (intro p hp; repeat (first | exact hp | refine List.mem_cons_of_mem _ ?_ | refine List.mem_append_right _ ?_)))
  (k_with "my sub" => repeat (first | exact sub_nil | refine sub_cons (by k_mem) ?_ | (refine sub_app ?_ ?_)))
  (k_with "my and" => first | assumption | exact And.right (by assumption) | exact And.right (And.right (by assumption)) | exact And.right (And.right (And.right (by assumption))) | exact And.right (And.right (And.right (And.right (by assumption)))) | exact And.right (And.right (And.right (And.right (And.right (by assumption))))) | exact And.right (And.right (And.right (And.right (And.right (And.right (by assumption)))))))
  (k_with "my lt" => first | assumption | exact And.left (by assumption) | exact And.left (And.right (by assumption)) | exact And.left (And.right (And.right (by assumption))) | exact And.left (And.right (And.right (And.right (by assumption)))) | exact And.left (And.right (And.right (And.right (And.right (by assumption))))) | exact And.left (And.right (And.right (And.right (And.right (And.right (by assumption)))))) | exact And.left (And.right (And.right (And.right (And.right (And.right (And.right (by assumption))))))) | exact And.left (And.right (And.right (And.right (And.right (And.right (And.right (And.right (by assumption)))))))))
  (k_with "my neq" => ((refine neN ?_); (try dsimp only); first | assumption | exact Ne.symm (by assumption) | exact Nat.ne_of_gt (by walk_at "my lt") | exact Nat.ne_of_lt (by walk_at "my lt") | omega))
  (k_with "my apart" => first | assumption | exact off1_mem (by walk_at "my and") | exact allNe_of (by walk_at "my and") | exact allNe_of (allLt_of (by walk_at "my and")) | exact allNe_of (allLt_app (by walk_at "my and")).2 | exact allNe_of (allLt_app (by walk_at "my and")).1 | exact allNe1 (by walk_at "my and") | exact allNe2 (by walk_at "my and"))
  (k_with "k_ne" => ((refine neN ?_); (try dsimp only); first | assumption | exact Ne.symm (by assumption) | exact Nat.ne_of_gt (by walk_at "my lt") | exact Nat.ne_of_lt (by walk_at "my lt") | fail "k_ne"))
  (k_with "eval ListComp" => (k_here; k_dflt (refine listComp_it rfl rfl (by decide) ?_)))
  (k_with "call ref" => (k_here; k_dflt (refine' c_made _ _ _ _ _ _ _ _ _ _ _ _ _ _ _ _ _ _ _ _ _ _ _ _ _ _ _ _ _ ?cBq13 ?cFq13 ?cXq13 ?cNq13 ?cHq13 ?ctq13 ?cTq13 ?ckq13 ?cGq13 ?cMq13 ?cpq13 ?cfq13 ?clq13 ?ciq13 ?cnq13 ?cdq13 ?cuq13 ?_; (case cBq13 => k_asm); (case cFq13 => k_asm); (case cXq13 => k_asm); (case cNq13 => first | exact news_rot3 (by k_asm) | exact news_rot2 (by k_asm) | exact news_rot1 (by k_asm) | k_asm); (case ctq13 => assumption); (case cTq13 => k_asm); (case ckq13 => rfl); (case cGq13 => assumption); (case cfq13 => exact Fq.mono (by assumption) (by walk_at "my sup")); (case cMq13 => assumption); (case clq13 => first | exact List.Mem.head _ | k_mem); (case ciq13 => assumption); (case cnq13 => exact tab_length _ _); (case cHq13 => first | exact all_cons (by walk_at "my neq") (all_cons (by walk_at "my neq") (all_cons (by walk_at "my neq") (by assumption))) | exact all_cons (by walk_at "my neq") (all_cons (by walk_at "my neq") (by assumption)) | exact all_cons (by walk_at "my neq") (by assumption)); (case cpq13 => assumption); (case cdq13 => ktr_room); (case cuq13 => ktr_room); intro x' tl' h' tk' gs' ps' ht' G' F' N' a' f'; (try dsimp only [PySem.W.CmpBack]))))
  (k_with "pyIter ref" => (refine Halt.of ?_))
  intro x c M ma mb' p ps dp un gd cn cs a ccd cl outer A₀ base h₀ L m news s Q E B F X N H44 htr T hcs hG hM hp0 hx hd0 hu0 ret
  have hx0 := hx
  obtain ⟨d, D, g1, g2, T1, u1, v1, u2, v2, k1, k2, k3, k4, k5, tp, t12, ys, m1, m2, m3, m4, m5, m6, m7⟩ := hx
  refine wpAny_call ?_
  walk_at "my enter"
  k_steps
  obtain ⟨nn, hnn, NN⟩ : ∃ nn, nn = _ ∧ News _ _ _ nn := ⟨_, rfl, by k_asm⟩
  refine Halt.mk (tup_src (n := 12) rfl (by k_asm) NN (by rw [hnn]; k_mem) rfl rfl (ints_size m7) (by decide) (by decide) rfl rfl (fun i ys nw => nw = nn ∧ IntsAre ys (tab i fun i => -(c i))) ⟨rfl, .nil⟩ ?len ?turn ?fin)
  case len => rintro i ys nw ⟨_, h⟩; rw [h.length, tab_length]; exact Nat.le_refl _
  case turn =>
    rintro i rs nw va C oC Dl m₂ h tk own wr E' hi12 ⟨rfl, hr⟩ hva hC hma F' N' hw off hne
    obtain ⟨q1, rfl⟩ := ints_at m7 (i := i) (v := va) (by simpa using hva)
    rw [tab_getD _ _ _ hi12] at hma
    replace N' := news_mid N'
    subst hnn
    clear NN
    k_steps
    exact pairEnd_same (by k_asm) (by k_asm) off ⟨rfl, ints_snoc hr rfl⟩
  case fin =>
    rintro Dl h tk rs nw F' N' off ⟨rfl, hr⟩
    subst hnn
    clear NN
    obtain ⟨o02, off⟩ := ne_spread off
    k_steps
    rename News h₀ L _ _ => N9
    rename Fr h₀ L _ _ => F9
    rename Above _ _ => a9
    rename Fq _ _ _ _ _ _ _ _ => f9
    rename TriplesOk _ => t9
    exact ret _ _ _ _ _ _ t9 (by assumption) F9 (fun q hq => N9 q (drop_mid [_] q hq)) (a9.sub fun q hq => drop_top [_] q hq) (Fq.tab f9)

end
section

theorem c_muli {w : World} {loose : List Str} {mean : ExcName → Option Value} {mg mb : Str → Option Value} :
  ∀ (x : Addr) (c : Nat → Int) (z : Int) (tz : Tok) (M : Addr) (ma mb' p : Int) (ps : Array Value) (dp un : Nat) (gd : Option (List Code)) (cn : Str) (cs : Scope) (a : Addr) (ccd : Value) (cl : List (Str × Addr)) (outer : List Env) (A₀ : Around) (base h₀ : Heap) (L : Addr) (m : Str → Option Value) (news : List (Addr × Obj)) (s : Shared) (Q E : Value → Shared → Prop),
    Below A₀ base outer h₀ → Fr h₀ L s.heap m → (kfrag w.params).In h₀ → News h₀ L s.heap ((44, tabO ps) :: news) → (∀ q ∈ news, q.1 ≠ 44) → TriplesOk ps.toList → Top topProg loose mean mg mb h₀ → cs.kind = .function →
    AllBare s.gens → Mod M ma mb' → 0 < p → Fq w news M ma mb' p x c → (∀ i, i < 12 → IntMulOk (c i) z) → dp + 60 < recursionLimit → un + 300 < cLine →
    (∀ x_ tl h' tk gs (ps' : Array Value), TriplesOk ps'.toList → AllBare gs → Fr h₀ L h' m → News h₀ L h' ((44, tabO ps') :: (tl ++ news)) → Above tl ((44, tabO ps') :: news) → Fq w tl M ma mb' p x_ (fun i => (c i * z).fmod p) → Q (.ref x_) { s with heap := h', toks := tk, gens := gs }) →
      wpAny (model PySem.Challenge.pw_kh0011_01 w) (ktrTop dp un gd cn cs L a ccd cl outer) (call (.ref 76) [.ref x, .int z tz]) Q E s := by
  have _kf : PySem.Challenge.rw_kh0011_01 = PySem.Challenge.rw_kh0011_01 ∧ kfrag = kfrag := by (k_fill; exact ⟨rfl, rfl⟩)
  clear _kf
  w_top off
  k_with_none
  (k_with "execs cons" => ((try k_gentoks); (first | (with_reducible show wpAny _ _ _ _ (fun _ _ => False) _) | (refine wpAny_noRaise ?_)); refine execs_hide ?_; intro Q9x hQ9x))
  (k_with "k_all" => first | assumption | exact allNe_of (by assumption) | exact allNe_of (allLt_of (by assumption)))
  (k_with "k_mem" => (first | assumption | (refine' List.mem_cons_of_mem _ ?_; k_mem)))
  (k_with "news_mem" => k_mem)
  (k_with "my enter" => k_dflt (first | (refine' code_def ?k1q4 ?k2q4 ?k3q4 ?k4q4 ?k5q4 ?kAq4 ?kFq4 ?kKq4 ?k6q4 ?k7q4 ?k8q4 ?k9q4 ?kBq4 ?_ ?c2q4 ?c3q4 ?c4q4 ?c5q4; (case kAq4 => exact rfl); (case kFq4 => exact rfl); (case kKq4 => first | exact rfl | assumption); (case k1q4 => k_asm); (case k2q4 => k_asm); (case k3q4 => k_asm); (case k4q4 => k_asm); (case k5q4 => k_asm); (case k6q4 => k_is); (case k7q4 => k_is); (case k8q4 => ktr_room); (case k9q4 => exact BindsTo.of_eq rfl); (case c5q4 => decide); (case kBq4 => exact locs rfl); (case c2q4 => exact rfl); (case c3q4 => exact rfl); (case c4q4 => exact rfl); k_whole; intro g' L' h' FG' F' N' B' X' T'; (try dsimp only); (try k_fold)) | (refine' code_defC ?k1q4 ?k2q4 ?k3q4 ?k4q4 ?k5q4 ?kAq4 ?kFq4 ?kKq4 ?k6q4 ?k7q4 ?k8q4 ?k9q4 ?kBq4 ?kDq4 ?_ ?c2q4 ?c3q4 ?c4q4; (case kAq4 => exact rfl); (case kFq4 => exact rfl); (case kKq4 => first | exact rfl | assumption); (case k1q4 => k_asm); (case k2q4 => k_asm); (case k3q4 => k_asm); (case k4q4 => k_asm); (case k5q4 => k_asm); (case k6q4 => k_is); (case k7q4 => k_is); (case k8q4 => ktr_room); (case k9q4 => exact BindsTo.of_eq rfl); (case kBq4 => exact rfl); (case kDq4 => decide +kernel); (case c2q4 => exact rfl); (case c3q4 => exact rfl); (case c4q4 => exact rfl); k_whole; intro g' L' h' tk' cells' FG' F' N' Y' B' X' T' l1; (first | k_lt l1 | replace l1 := allLt_of l1); k_cells Y'; (try simp only [List.cons_append, List.nil_append] at N'); (try dsimp only); (try k_fold))))
  (k_with "my sup" => (intro p hp; repeat (first | exact hp | refine List.mem_cons_of_mem _ ?_ | refine List.mem_append_right _ ?_)))
  (k_with "my sub" => repeat (first | exact sub_nil | refine sub_cons (by k_mem) ?_ | (refine sub_app ?_ ?_)))
  (k_with "my and" => first | assumption | exact And.right (by assumption) | exact And.right (And.right (by assumption)) | exact And.right (And.right (And.right (by assumption))) | exact And.right (And.right (And.right (And.right (by assumption)))) | exact And.right (And.right (And.right (And.right (And.right (by assumption))))) | exact And.right (And.right (And.right (And.right (And.right (And.right (by assumption)))))))
  (k_with "my lt" => first | assumption | exact And.left (by assumption) | exact And.left (And.right (by assumption)) | exact And.left (And.right (And.right (by assumption))) | exact And.left (And.right (And.right (And.right (by assumption)))) | exact And.left (And.right (And.right (And.right (And.right (by assumption))))) | exact And.left (And.right (And.right (And.right (And.right (And.right (by assumption)))))) | exact And.left (And.right (And.right (And.right (And.right (And.right (And.right (by assumption))))))) | exact And.left (And.right (And.right (And.right (And.right (And.right (And.right (And.right (by assumption)))))))))
  (k_with "my neq" => ((refine neN ?_); (try dsimp only); first | assumption | exact Ne.symm (by assumption) | exact Nat.ne_of_gt (by walk_at "my lt") | exact Nat.ne_of_lt (by walk_at "my lt") | omega))
  (k_with "my apart" => first | assumption | exact off1_mem (by walk_at "my and") | exact allNe_of (by walk_at "my and") | exact allNe_of (allLt_of (by walk_at "my and")) | exact allNe_of (allLt_app (by walk_at "my and")).2 | exact allNe_of (allLt_app (by walk_at "my and")).1 | exact allNe1 (by walk_at "my and") | exact allNe2 (by walk_at "my and"))
  (k_with "k_ne" => ((refine neN ?_); (try dsimp only); first | assumption | exact Ne.symm (by assumption) | exact Nat.ne_of_gt (by walk_at "my lt") | exact Nat.ne_of_lt (by walk_at "my lt") | fail "k_ne"))
  (k_with "eval ListComp" => (k_here; k_dflt (refine listComp_it rfl rfl (by decide) ?_)))
  (k_with "call ref" => (k_here; k_dflt (refine' c_made _ _ _ _ _ _ _ _ _ _ _ _ _ _ _ _ _ _ _ _ _ _ _ _ _ _ _ _ _ ?cBq13 ?cFq13 ?cXq13 ?cNq13 ?cHq13 ?ctq13 ?cTq13 ?ckq13 ?cGq13 ?cMq13 ?cpq13 ?cfq13 ?clq13 ?ciq13 ?cnq13 ?cdq13 ?cuq13 ?_; (case cBq13 => k_asm); (case cFq13 => k_asm); (case cXq13 => k_asm); (case cNq13 => first | exact news_rot3 (by k_asm) | exact news_rot2 (by k_asm) | exact news_rot1 (by k_asm) | k_asm); (case ctq13 => assumption); (case cTq13 => k_asm); (case ckq13 => rfl); (case cGq13 => assumption); (case cfq13 => exact Fq.mono (by assumption) (by walk_at "my sup")); (case cMq13 => assumption); (case clq13 => first | exact List.Mem.head _ | k_mem); (case ciq13 => assumption); (case cnq13 => exact tab_length _ _); (case cHq13 => first | exact all_cons (by walk_at "my neq") (all_cons (by walk_at "my neq") (all_cons (by walk_at "my neq") (by assumption))) | exact all_cons (by walk_at "my neq") (all_cons (by walk_at "my neq") (by assumption)) | exact all_cons (by walk_at "my neq") (by assumption)); (case cpq13 => assumption); (case cdq13 => ktr_room); (case cuq13 => ktr_room); intro x' tl' h' tk' gs' ps' ht' G' F' N' a' f'; (try dsimp only [PySem.W.CmpBack]))))
  (k_with "pyIter ref" => (refine Halt.of ?_))
  intro x c z tz M ma mb' p ps dp un gd cn cs a ccd cl outer A₀ base h₀ L m news s Q E B F X N H44 htr T hcs hG hM hp0 hx hz hd0 hu0 ret
  have hx0 := hx
  obtain ⟨d, D, g1, g2, T1, u1, v1, u2, v2, k1, k2, k3, k4, k5, tp, t12, ys, m1, m2, m3, m4, m5, m6, m7⟩ := hx
  refine wpAny_call ?_
  walk_at "my enter"
  k_steps
  obtain ⟨nn, hnn, NN⟩ : ∃ nn, nn = _ ∧ News _ _ _ nn := ⟨_, rfl, by k_asm⟩
  refine Halt.mk (tup_src (n := 12) rfl (by k_asm) NN (by rw [hnn]; k_mem) rfl rfl (ints_size m7) (by decide) (by decide) rfl rfl (fun i ys nw => nw = nn ∧ IntsAre ys (tab i fun i => (c i * z).fmod p)) ⟨rfl, .nil⟩ ?len ?turn ?fin)
  case len => rintro i ys nw ⟨_, h⟩; rw [h.length, tab_length]; exact Nat.le_refl _
  case turn =>
    rintro i rs nw va C oC Dl m₂ h tk own wr E' hi12 ⟨rfl, hr⟩ hva hC hma F' N' hw off hne
    obtain ⟨q1, rfl⟩ := ints_at m7 (i := i) (v := va) (by simpa using hva)
    rw [tab_getD _ _ _ hi12] at hma
    replace N' := news_mid N'
    subst hnn
    clear NN
    have hz0 := hz i hi12
    k_steps
    exact pairEnd_same (by k_asm) (by k_asm) off ⟨rfl, ints_snoc hr rfl⟩
  case fin =>
    rintro Dl h tk rs nw F' N' off ⟨rfl, hr⟩
    subst hnn
    clear NN
    obtain ⟨o02, off⟩ := ne_spread off
    obtain ⟨o02, off⟩ := ne_spread off
    obtain ⟨o02, off⟩ := ne_spread off
    k_steps
    rename News h₀ L _ _ => N9
    rename Fr h₀ L _ _ => F9
    rename Above _ _ => a9
    rename Fq _ _ _ _ _ _ _ _ => f9
    rename TriplesOk _ => t9
    exact ret _ _ _ _ _ _ t9 (by assumption) F9 (fun q hq => N9 q (drop_mid [_, _, _] q hq)) (a9.sub fun q hq => drop_top [_, _, _] q hq) (Fq.tabm hp0 f9)

end
section

theorem c_mulf {w : World} {loose : List Str} {mean : ExcName → Option Value} {mg mb : Str → Option Value} :
  ∀ (x y : Addr) (c c' : Nat → Int) (M : Addr) (ma mb' p : Int) (ps : Array Value) (dp un : Nat) (gd : Option (List Code)) (cn : Str) (cs : Scope) (a : Addr) (ccd : Value) (cl : List (Str × Addr)) (outer : List Env) (A₀ : Around) (base h₀ : Heap) (L : Addr) (m : Str → Option Value) (news : List (Addr × Obj)) (s : Shared) (Q E : Value → Shared → Prop),
    Below A₀ base outer h₀ → Fr h₀ L s.heap m → (kfrag w.params).In h₀ → News h₀ L s.heap ((44, tabO ps) :: news) → (∀ q ∈ news, q.1 ≠ 44) → TriplesOk ps.toList → Top topProg loose mean mg mb h₀ → cs.kind = .function →
    AllBare s.gens → Mod M ma mb' → 0 < p → Fq w news M ma mb' p x c → Fq w news M ma mb' p y c' → (∀ i j, i < 12 → j < 12 → IntMulOk (c i) (c' j)) → dp + 60 < recursionLimit → un + 300 < cLine →
    (∀ x_ tl h' tk gs (ps' : Array Value), TriplesOk ps'.toList → AllBare gs → Fr h₀ L h' m → News h₀ L h' ((44, tabO ps') :: (tl ++ news)) → Above tl ((44, tabO ps') :: news) → Fq w tl M ma mb' p x_ (fun i => (mulF ma mb' c c' i).fmod p) → Q (.ref x_) { s with heap := h', toks := tk, gens := gs }) →
      wpAny (model PySem.Challenge.pw_kh0011_01 w) (ktrTop dp un gd cn cs L a ccd cl outer) (call (.ref 76) [.ref x, .ref y]) Q E s := by
  have _kf : PySem.Challenge.rw_kh0011_01 = PySem.Challenge.rw_kh0011_01 ∧ kfrag = kfrag := by (k_fill; exact ⟨rfl, rfl⟩)
  clear _kf
  w_top off
  k_with_none
  (k_with "execs cons" => ((try k_gentoks); (first | (with_reducible show wpAny _ _ _ _ (fun _ _ => False) _) | (refine wpAny_noRaise ?_)); refine execs_hide ?_; intro Q9x hQ9x))
  (k_with "k_all" => first | assumption | exact allNe_of (by assumption) | exact allNe_of (allLt_of (by assumption)))
  (k_with "k_mem" => (first | assumption | (refine' List.mem_cons_of_mem _ ?_; k_mem)))
  (k_with "news_mem" => k_mem)
  (k_with "my enter" => k_dflt (first | (refine' code_def ?k1q4 ?k2q4 ?k3q4 ?k4q4 ?k5q4 ?kAq4 ?kFq4 ?kKq4 ?k6q4 ?k7q4 ?k8q4 ?k9q4 ?kBq4 ?_ ?c2q4 ?c3q4 ?c4q4 ?c5q4; (case kAq4 => exact rfl); (case kFq4 => exact rfl); (case kKq4 => first | exact rfl | assumption); (case k1q4 => k_asm); (case k2q4 => k_asm); (case k3q4 => k_asm); (case k4q4 => k_asm); (case k5q4 => k_asm); (case k6q4 => k_is); (case k7q4 => k_is); (case k8q4 => ktr_room); (case k9q4 => exact BindsTo.of_eq rfl); (case c5q4 => decide); (case kBq4 => exact locs rfl); (case c2q4 => exact rfl); (case c3q4 => exact rfl); (case c4q4 => exact rfl); k_whole; intro g' L' h' FG' F' N' B' X' T'; (try dsimp only); (try k_fold)) | (refine' code_defC ?k1q4 ?k2q4 ?k3q4 ?k4q4 ?k5q4 ?kAq4 ?kFq4 ?kKq4 ?k6q4 ?k7q4 ?k8q4 ?k9q4 ?kBq4 ?kDq4 ?_ ?c2q4 ?c3q4 ?c4q4; (case kAq4 => exact rfl); (case kFq4 => exact rfl); (case kKq4 => first | exact rfl | assumption); (case k1q4 => k_asm); (case k2q4 => k_asm); (case k3q4 => k_asm); (case k4q4 => k_asm); (case k5q4 => k_asm); (case k6q4 => k_is); (case k7q4 => k_is); (case k8q4 => ktr_room); (case k9q4 => exact BindsTo.of_eq rfl); (case kBq4 => exact rfl); (case kDq4 => decide +kernel); (case c2q4 => exact rfl); (case c3q4 => exact rfl); (case c4q4 => exact rfl); k_whole; intro g' L' h' tk' cells' FG' F' N' Y' B' X' T' l1; (first | k_lt l1 | replace l1 := allLt_of l1); k_cells Y'; (try simp only [List.cons_append, List.nil_append] at N'); (try dsimp only); (try k_fold))))
  (k_with "my sup" => (intro p hp; repeat (first | exact hp | refine List.mem_cons_of_mem _ ?_ | refine List.mem_append_right _ ?_)))
  (k_with "my sub" => repeat (first | exact sub_nil | refine sub_cons (by k_mem) ?_ | (refine sub_app ?_ ?_)))
  (k_with "my and" => first | assumption | exact And.right (by assumption) | exact And.right (And.right (by assumption)) | exact And.right (And.right (And.right (by assumption))) | exact And.right (And.right (And.right (And.right (by assumption)))) | exact And.right (And.right (And.right (And.right (And.right (by assumption))))) | exact And.right (And.right (And.right (And.right (And.right (And.right (by assumption)))))))
  (k_with "my lt" => first | assumption | exact And.left (by assumption) | exact And.left (And.right (by assumption)) | exact And.left (And.right (And.right (by assumption))) | exact And.left (And.right (And.right (And.right (by assumption)))) | exact And.left (And.right (And.right (And.right (And.right (by assumption))))) | exact And.left (And.right (And.right (And.right (And.right (And.right (by assumption)))))) | exact And.left (And.right (And.right (And.right (And.right (And.right (And.right (by assumption))))))) | exact And.left (And.right (And.right (And.right (And.right (And.right (And.right (And.right (by assumption)))))))))
  (k_with "my neq" => ((refine neN ?_); (try dsimp only); first | assumption | exact Ne.symm (by assumption) | exact Nat.ne_of_gt (by walk_at "my lt") | exact Nat.ne_of_lt (by walk_at "my lt") | omega))
  (k_with "my apart" => first | assumption | exact off1_mem (by walk_at "my and") | exact allNe_of (by walk_at "my and") | exact allNe_of (allLt_of (by walk_at "my and")) | exact allNe_of (allLt_app (by walk_at "my and")).2 | exact allNe_of (allLt_app (by walk_at "my and")).1 | exact allNe1 (by walk_at "my and") | exact allNe2 (by walk_at "my and"))
  (k_with "k_ne" => ((refine neN ?_); (try dsimp only); first | assumption | exact Ne.symm (by assumption) | exact Nat.ne_of_gt (by walk_at "my lt") | exact Nat.ne_of_lt (by walk_at "my lt") | fail "k_ne"))
  (k_with "eval ListComp" => (k_here; k_dflt (refine listComp_it rfl rfl (by decide) ?_)))
  (k_with "call ref" => (k_here; k_dflt (refine' c_made _ _ _ _ _ _ _ _ _ _ _ _ _ _ _ _ _ _ _ _ _ _ _ _ _ _ _ _ _ ?cBq13 ?cFq13 ?cXq13 ?cNq13 ?cHq13 ?ctq13 ?cTq13 ?ckq13 ?cGq13 ?cMq13 ?cpq13 ?cfq13 ?clq13 ?ciq13 ?cnq13 ?cdq13 ?cuq13 ?_; (case cBq13 => k_asm); (case cFq13 => k_asm); (case cXq13 => k_asm); (case cNq13 => first | exact news_rot5 (by k_asm) | exact news_rot3 (by k_asm) | exact news_rot2 (by k_asm) | exact news_rot1 (by k_asm) | k_asm); (case ctq13 => assumption); (case cTq13 => k_asm); (case ckq13 => rfl); (case cGq13 => assumption); (case cfq13 => exact Fq.mono (by assumption) (by walk_at "my sup")); (case cMq13 => assumption); (case clq13 => first | exact List.Mem.head _ | k_mem); (case ciq13 => assumption); (case cnq13 => exact tab_length _ _); (case cHq13 => first | exact (all_cons (by walk_at "my neq") (all_cons (by walk_at "my neq") (all_cons (by walk_at "my neq") (all_cons (by walk_at "my neq") (all_cons (by walk_at "my neq") (by assumption)))))) | exact all_cons (by walk_at "my neq") (all_cons (by walk_at "my neq") (all_cons (by walk_at "my neq") (by assumption))) | exact all_cons (by walk_at "my neq") (all_cons (by walk_at "my neq") (by assumption)) | exact all_cons (by walk_at "my neq") (by assumption)); (case cpq13 => assumption); (case cdq13 => ktr_room); (case cuq13 => ktr_room); intro x' tl' h' tk' gs' ps' ht' G' F' N' a' f'; (try dsimp only [PySem.W.CmpBack]))))
  (k_with "pyIter ref" => (refine Halt.of ?_))
  (k_with "call type:enumerate" => (k_here; k_dflt (refine enum_led (by k_asm) (by k_asm) (by k_mem) ?_); intro e9' i9' o9' h9' F' N' t9' lt9 ie9))
  (k_with "call type:list" => (k_here; k_dflt (refine list_en_led (n := 12) rfl (by k_asm) (by k_asm) (by assumption) (by assumption) (by assumption) (by k_mem) (by assumption) (by decide) ?_); intro S9' h9' tk9' zs9' tl9' k9' F' N' a9' b9' p9'))
  (k_with "exec For Tuple Attribute" => (k_here; (rename Fr _ _ _ _ => lF'); (with_unfolding_all refine' For_turns lF' ?_); k_whole))
  (k_with "exec For Tuple Name" => (k_here; (rename Fr _ _ _ _ => lF'); (with_unfolding_all refine' For_turns lF' ?_); k_whole))
  intro x y c c' M ma mb' p ps dp un gd cn cs a ccd cl outer A₀ base h₀ L m news s Q E B F X N H44 htr T hcs hG hM hp0 hx hy hz hd0 hu0 ret
  have hx0 := hx
  have hy0 := hy
  obtain ⟨d, D, g1, g2, T1, u1, v1, u2, v2, k1, k2, k3, k4, k5, tp, t12, ys, m1, m2, m3, m4, m5, m6, m7⟩ := hx
  obtain ⟨e, De, e1, e2, T2, w1, z1, w2, z2, j1, j2, j3, j4, j5, jp, j12, zs, n1, n2, n3, n4, n5, n6, n7⟩ := hy
  refine wpAny_call ?_
  walk_at "my enter"
  k_steps
  rename Prs _ _ _ _ _ => p9
  rename Above _ _ => a9
  rename Heap.IsTupleIter _ _ _ _ => t9
  rename News _ _ _ _ => N9
  rename Fr _ _ _ _ => F9
  obtain ⟨R, hR, N8, hDR, hRs, hcR, htR, hrR⟩ := mid_outS N9 (by assumption) a9 (by k_all)
  clear N9
  have hb0 := ints_cast (‹IntsAre (List.flatten (List.replicate _ _)) _›) (show _ = tab 23 (rowsF c c' 0) from rfl)
  have hmT : (T1, tupV ys) ∈ R := hrR _ (by k_mem)
  have hTD := hDR _ hmT
  have hlt8 := fun q hq => lt9 q (hRs q hq)
  have hDi := hlt8 _ (List.Mem.head _)
  rename_i SA kA _ _ _ _ _ eA iA _ _
  refine Halt.mk (pair_enum_o (n := 12) [Str.ofString "i", Str.ofString "eli", Str.ofString "j", Str.ofString "elj"] rfl F9 N8 t9 hlt8 ie9 (List.mem_cons_of_mem _ hmT) m7 (fun i nw => BsJ _ R 23 (rowsF c c' i) nw) ⟨_, _, rfl, hb0⟩ ?turn ?done)
  case turn =>
    clear N8 F9
    rintro i u u' um nw h tk own hi ⟨bs, k, rfl, hb⟩ hmap hown F' N'
    obtain ⟨R2, hR2, N2, hD2, ho2, hs2⟩ := led_first N' (own3_ne hown hDi ie9 hTD) hDR
    clear N'
    k_steps
    rename Fr _ _ _ _ => F2
    refine Halt.mk (turns_list_o [Str.ofString "j", Str.ofString "elj"] rfl F2 N2 (List.mem_cons_of_mem _ (hs2 _ hcR)) p9.1 (fun j nw => BsJ _ R2 23 (rowF c' (c i) i (rowsF c c' i) j) nw) ⟨_, _, rfl, hb⟩ ?keep ?turn2 ?done2)
    case keep =>
      rintro j nw ⟨bs3, k3, rfl, _⟩
      exact List.mem_cons_of_mem _ (hs2 _ hcR)
    case turn2 =>
      clear N2 F2
      rintro j v u3 nw h3 tk3 own3 I3 hj hv ⟨bs3, k3, rfl, hb3⟩ hoff hown3 F3 N3
      obtain ⟨t, q1, q2, he, hmem⟩ := p9.2 j hj
      obtain rfl : Value.ref t = v := Option.some.inj (he.symm.trans hv)
      have hm2 := hs2 _ (htR _ hmem)
      obtain ⟨R3, hR3, N4, hD3, ho3, hs3⟩ := led_first N3 (own1_ne hown3 hoff (hDR _ hcR)) hD2
      have hm3 := hs3 _ hm2
      have hl3 : bs3.length = 23 := by rw [hb3.length, tab_length]
      have hz3 := hz i j hi hj
      clear N3
      k_steps
      rename Fr _ _ _ _ => F5
      rename News _ _ _ _ => N5
      rename IntsAre (List.set _ _ _) _ => i5
      exact stepU_end ((_, W.listOf _ _) :: R2) F5 N5 (sub_tail ho3) (sub_head hs3) (off_new hoff) ⟨Over.set (Over.set Over.over rfl) rfl, _, _, rfl, row_step hi hj i5⟩
    case done2 =>
      clear N2 F2
      rintro h3 tk3 u3 nw F3 N3 ⟨bs3, k3, rfl, hb3⟩
      k_steps
      exact step3_end ((_, W.listOf _ _) :: R) F3 N3 (sub_tail ho2) (sub_head hs2) rfl ⟨Over.sub (Over.set (Over.set Over.over rfl) rfl) rfl, _, _, rfl, hb3⟩
  case done =>
    clear N8 F9
    rintro h3 tk3 u3 nw F3 N3 ⟨bs3, k3, rfl, hb3⟩
    replace N3 := news_subM N3 (sub_head hrR)
    k_steps
    rename Fr _ _ _ _ => F4
    rename News _ _ _ _ => N4
    rename IsRange _ _ _ _ _ _ _ _ => r4
    have hb3' : IntsAre bs3 (tab (23 - 0) (popF ma mb' (rowsF c c' 12) 0)) := hb3
    refine Halt.mk (krs_loop 11 [Str.ofString "exp", Str.ofString "top", Str.ofString "i", Str.ofString "c"] rfl r4 (by decide) (by decide) F4 N4 (fun t nw => BsJ _ _ (23 - t) (popF ma mb' (rowsF c c' 12) t) nw) ⟨_, _, rfl, hb3'⟩ ?turn ?done)
    case turn =>
      clear r4 F4 N4
      rintro I t u nw tt h tk hI ht ⟨bs, k, rfl, hb⟩ off F' N'
      have hl : bs.length = 23 - t := by rw [hb.length, tab_length]
      have o01 := (ne_spread off).1
      replace off := (ne_spread off).2
      have o02 := (ne_spread off).1
      replace off := (ne_spread off).2
      have o03 := (ne_spread off).1
      replace off := (ne_spread off).2
      have o04 := (ne_spread off).1
      replace off := (ne_spread off).2
      have o05 := (ne_spread off).1
      replace off := (ne_spread off).2
      k_steps
      rename Fr _ _ _ _ => F4
      rename News _ _ _ _ => N4
      rename IntsAre (List.dropLast _) _ => i4
      replace i4 := ints_cast i4 (tab_drop t _ ht)
      have hlast := tab_lastD t (popF ma mb' (rowsF c c' 12) t) ht
      have hbits := hM.bits
      replace N4 := news_rot1 N4
      have hDR := off_of N4 (by assumption) o01
      refine Halt.mk (turns_list_o (n := 2) [Str.ofString "i", Str.ofString "c"] rfl F4 N4 (vs := [.ref g1, .ref g2]) (by k_mem) rfl (fun j nw => BsJ _ _ (22 - t) (popIn ma mb' (popF ma mb' (rowsF c c' 12) t) t j) nw) ⟨_, _, rfl, i4⟩ ?keep ?turn2 ?done2)
      case keep =>
        rintro j nw ⟨bs4, k4, rfl, _⟩
        k_mem
      case turn2 =>
        have hm4 := mct_at m4 m5
        clear F4
        rintro j v u3 nw h3 tk3 own3 I3 hj hv ⟨bs4, k4, rfl, hb4⟩ hoff hown3 F3 N3
        obtain ⟨t4, q1, q2, he, hmem⟩ := hm4 j hj
        obtain rfl : Value.ref t4 = v := Option.some.inj (he.symm.trans hv)
        obtain ⟨R3, hR3, N5, hD3, ho3, hs3⟩ := led_first N3 (own1_ne hown3 hoff (hDR _ (mem5 m3))) hDR
        have hm3 := hs3 _ (mem5 hmem)
        have hl4 : bs4.length = 22 - t := by rw [hb4.length, tab_length]
        have hbj := hbits j
        clear N3 N4
        k_steps
        rename Fr _ _ _ _ => F5
        rename News _ _ _ _ => N6
        rename IntsAre (List.set _ _ _) _ => i5
        exact stepU_end ((_, W.listOf _ _) :: _) F5 N6 (sub_tail ho3) (sub_head hs3) (off_new hoff) ⟨Over.set (Over.set Over.over rfl) rfl, _, _, rfl, ints_cast i5 (pop_eq ht hj)⟩
      case done2 =>
        clear F4 N4
        rintro h3 tk3 u3 nw F3 N3 ⟨bs4, k4, rfl, hb4⟩
        k_steps
        exact unr_end ((_, W.listOf _ _) :: _) F3 N3 (by k_mem) (sub_head fun q hq => List.mem_cons_of_mem _ hq) (all_cons o01 (by k_all)) ⟨Over.sub (Over.set (Over.set Over.over rfl) rfl) rfl, _, _, rfl, pop_next hb4⟩
    case done =>
      clear r4 F4 N4
      rintro u nw h tk ⟨bs, k, rfl, hb⟩ F4 N4
      k_steps
      have hbt : IntsAre bs (tab 12 (mulF ma mb' c c')) := by rw [mulF_eq]; exact hb
      obtain ⟨nn, hnn, NN⟩ : ∃ nn, nn = _ ∧ News _ _ _ nn := ⟨_, rfl, N4⟩
      refine Halt.mk (list_src (n := 12) rfl F4 NN (by rw [hnn]; k_mem) (ints_size hbt) (by decide) (by decide) rfl rfl (fun i ys nw => nw = nn ∧ IntsAre ys (tab i fun i => (mulF ma mb' c c' i).fmod p)) ⟨rfl, .nil⟩ ?len ?turn2 ?fin)
      case len => rintro i ys nw ⟨_, h⟩; rw [h.length, tab_length]; exact Nat.le_refl _
      case turn2 =>
        rintro i rs nw va C oC Dl m₂ h tk own wr E' hi12 ⟨rfl, hr⟩ hva hC hma F' N' hw off hne
        obtain ⟨q1, rfl⟩ := ints_at hbt (i := i) (v := va) (by simpa using hva)
        rw [tab_getD _ _ _ hi12] at hma
        replace N' := news_mid N'
        subst hnn
        clear NN
        k_steps
        exact pairEnd_same (by k_asm) (by k_asm) off ⟨rfl, ints_snoc hr rfl⟩
      case fin =>
        rintro Dl h tk rs nw F' N' off ⟨rfl, hr⟩
        subst hnn
        clear NN
        have o11 := (ne_spread off).1
        replace off := (ne_spread off).2
        have o12 := (ne_spread off).1
        replace off := (ne_spread off).2
        have o13 := (ne_spread off).1
        replace off := (ne_spread off).2
        have o14 := (ne_spread off).1
        replace off := (ne_spread off).2
        have o15 := (ne_spread off).1
        replace off := (ne_spread off).2
        k_steps
        rename News h₀ L _ _ => N9
        rename Fr h₀ L _ _ => F9
        rename Above _ _ => a9
        rename Fq _ _ _ _ _ _ _ _ => f9
        rename TriplesOk _ => t9
        exact ret _ _ _ _ _ _ t9 (by assumption) F9 (fun q hq => N9 q (drop_mid [_, _, _, _, _] q hq)) (a9.sub fun q hq => drop_top [_, _, _, _, _] q hq) (Fq.tabm hp0 f9)

end
section

theorem c_pow {w : World} {loose : List Str} {mean : ExcName → Option Value} {mg mb : Str → Option Value} :
  ∀ (x : Addr) (c : Nat → Int) (n : Nat) (tn : Tok) (M : Addr) (ma mb' p : Int) (ps : Array Value) (dp un : Nat) (gd : Option (List Code)) (cn : Str) (cs : Scope) (a : Addr) (ccd : Value) (cl : List (Str × Addr)) (outer : List Env) (A₀ : Around) (base h₀ : Heap) (L : Addr) (m : Str → Option Value) (news : List (Addr × Obj)) (s : Shared) (Q E : Value → Shared → Prop),
    Below A₀ base outer h₀ → Fr h₀ L s.heap m → (kfrag w.params).In h₀ → News h₀ L s.heap ((44, tabO ps) :: news) → (∀ q ∈ news, q.1 ≠ 44) → TriplesOk ps.toList → Top topProg loose mean mg mb h₀ → cs.kind = .function →
    AllBare s.gens → Mod M ma mb' → 0 < p → Fq w news M ma mb' p x c → Sm c → Builtin.Int.intBits p ≤ 1000000 → n ≤ 2 → dp + 80 < recursionLimit → un + 400 < cLine →
    (∀ x_ tl h' tk gs (ps' : Array Value), TriplesOk ps'.toList → AllBare gs → Fr h₀ L h' m → News h₀ L h' ((44, tabO ps') :: (tl ++ news)) → Above tl ((44, tabO ps') :: news) → Fq w tl M ma mb' p x_ (powG ma mb' p n (oneC p) c) → Q (.ref x_) { s with heap := h', toks := tk, gens := gs }) →
      wpAny (model PySem.Challenge.pw_kh0011_01 w) (ktrTop dp un gd cn cs L a ccd cl outer) (call (.ref 95) [.ref x, .int (n : Int) tn]) Q E s := by
  have _kf : PySem.Challenge.rw_kh0011_01 = PySem.Challenge.rw_kh0011_01 ∧ kfrag = kfrag := by (k_fill; exact ⟨rfl, rfl⟩)
  clear _kf
  w_top off
  k_with_none
  (k_with "execs cons" => ((try k_gentoks); (first | (with_reducible show wpAny _ _ _ _ (fun _ _ => False) _) | (refine wpAny_noRaise ?_)); refine execs_hide ?_; intro Q9x hQ9x))
  (k_with "k_all" => first | assumption | exact allNe_of (by assumption) | exact allNe_of (allLt_of (by assumption)))
  (k_with "k_mem" => (first | assumption | (refine' List.mem_cons_of_mem _ ?_; k_mem)))
  (k_with "news_mem" => k_mem)
  (k_with "my enter" => k_dflt (first | (refine' code_def ?k1q4 ?k2q4 ?k3q4 ?k4q4 ?k5q4 ?kAq4 ?kFq4 ?kKq4 ?k6q4 ?k7q4 ?k8q4 ?k9q4 ?kBq4 ?_ ?c2q4 ?c3q4 ?c4q4 ?c5q4; (case kAq4 => exact rfl); (case kFq4 => exact rfl); (case kKq4 => first | exact rfl | assumption); (case k1q4 => k_asm); (case k2q4 => k_asm); (case k3q4 => k_asm); (case k4q4 => k_asm); (case k5q4 => k_asm); (case k6q4 => k_is); (case k7q4 => k_is); (case k8q4 => ktr_room); (case k9q4 => exact BindsTo.of_eq rfl); (case c5q4 => decide); (case kBq4 => exact locs rfl); (case c2q4 => exact rfl); (case c3q4 => exact rfl); (case c4q4 => exact rfl); k_whole; intro g' L' h' FG' F' N' B' X' T'; (try dsimp only); (try k_fold)) | (refine' code_defC ?k1q4 ?k2q4 ?k3q4 ?k4q4 ?k5q4 ?kAq4 ?kFq4 ?kKq4 ?k6q4 ?k7q4 ?k8q4 ?k9q4 ?kBq4 ?kDq4 ?_ ?c2q4 ?c3q4 ?c4q4; (case kAq4 => exact rfl); (case kFq4 => exact rfl); (case kKq4 => first | exact rfl | assumption); (case k1q4 => k_asm); (case k2q4 => k_asm); (case k3q4 => k_asm); (case k4q4 => k_asm); (case k5q4 => k_asm); (case k6q4 => k_is); (case k7q4 => k_is); (case k8q4 => ktr_room); (case k9q4 => exact BindsTo.of_eq rfl); (case kBq4 => exact rfl); (case kDq4 => decide +kernel); (case c2q4 => exact rfl); (case c3q4 => exact rfl); (case c4q4 => exact rfl); k_whole; intro g' L' h' tk' cells' FG' F' N' Y' B' X' T' l1; (first | k_lt l1 | replace l1 := allLt_of l1); k_cells Y'; (try simp only [List.cons_append, List.nil_append] at N'); (try dsimp only); (try k_fold))))
  (k_with "my sup" => (intro p hp; repeat (first | exact hp | refine List.mem_cons_of_mem _ ?_ | refine List.mem_append_right _ ?_)))
  (k_with "my sub" => repeat (first | exact sub_nil | refine sub_cons (by k_mem) ?_ | (refine sub_app ?_ ?_)))
  (k_with "my and" => first | assumption | exact And.right (by assumption) | exact And.right (And.right (by assumption)) | exact And.right (And.right (And.right (by assumption))) | exact And.right (And.right (And.right (And.right (by assumption)))) | exact And.right (And.right (And.right (And.right (And.right (by assumption))))) | exact And.right (And.right (And.right (And.right (And.right (And.right (by assumption)))))))
  (k_with "my lt" => first | assumption | exact And.left (by assumption) | exact And.left (And.right (by assumption)) | exact And.left (And.right (And.right (by assumption))) | exact And.left (And.right (And.right (And.right (by assumption)))) | exact And.left (And.right (And.right (And.right (And.right (by assumption))))) | exact And.left (And.right (And.right (And.right (And.right (And.right (by assumption)))))) | exact And.left (And.right (And.right (And.right (And.right (And.right (And.right (by assumption))))))) | exact And.left (And.right (And.right (And.right (And.right (And.right (And.right (And.right (by assumption)))))))))
  (k_with "my neq" => ((refine neN ?_); (try dsimp only); first | assumption | exact Ne.symm (by assumption) | exact Nat.ne_of_gt (by walk_at "my lt") | exact Nat.ne_of_lt (by walk_at "my lt") | omega))
  (k_with "my apart" => first | assumption | exact off1_mem (by walk_at "my and") | exact allNe_of (by walk_at "my and") | exact allNe_of (allLt_of (by walk_at "my and")) | exact allNe_of (allLt_app (by walk_at "my and")).2 | exact allNe_of (allLt_app (by walk_at "my and")).1 | exact allNe1 (by walk_at "my and") | exact allNe2 (by walk_at "my and"))
  (k_with "k_ne" => ((refine neN ?_); (try dsimp only); first | assumption | exact Ne.symm (by assumption) | exact Nat.ne_of_gt (by walk_at "my lt") | exact Nat.ne_of_lt (by walk_at "my lt") | fail "k_ne"))
  (k_with "k_mem" => (first | assumption | (refine' List.mem_append_left _ ?_; assumption) | (refine' List.mem_append_right _ ?_; k_mem) | (refine' List.mem_cons_of_mem _ ?_; k_mem)))
  (k_with "my sup2" => (intro p hp; (try simp only [List.mem_cons, List.mem_append, hp, or_true, true_or])))
  (k_with "eval ListComp" => (k_here; k_dflt (refine listComp_it rfl rfl (by decide) ?_)))
  (k_with "call ref" => (k_here; k_dflt (refine' c_made _ _ _ _ _ _ _ _ _ _ _ _ _ _ _ _ _ _ _ _ _ _ _ _ _ _ _ _ _ ?cBq15 ?cFq15 ?cXq15 ?cNq15 ?cHq15 ?ctq15 ?cTq15 ?ckq15 ?cGq15 ?cMq15 ?cpq15 ?cfq15 ?clq15 ?ciq15 ?cnq15 ?cdq15 ?cuq15 ?_; (case cBq15 => k_asm); (case cFq15 => k_asm); (case cXq15 => k_asm); (case cNq15 => first | exact news_rot3 (by k_asm) | exact news_rot2 (by k_asm) | exact news_rot1 (by k_asm) | k_asm); (case ctq15 => assumption); (case cTq15 => k_asm); (case ckq15 => rfl); (case cGq15 => assumption); (case cfq15 => exact Fq.mono (by assumption) (by walk_at "my sup")); (case cMq15 => assumption); (case clq15 => first | exact List.Mem.head _ | k_mem); (case ciq15 => assumption); (case cnq15 => exact tab_length _ _); (case cHq15 => first | exact all_cons (by walk_at "my neq") (all_cons (by walk_at "my neq") (all_cons (by walk_at "my neq") (by assumption))) | exact all_cons (by walk_at "my neq") (all_cons (by walk_at "my neq") (by assumption)) | exact all_cons (by walk_at "my neq") (by assumption)); (case cpq15 => assumption); (case cdq15 => ktr_room); (case cuq15 => ktr_room); intro x' tl' h' tk' gs' ps' ht' G' F' N' a' f'; (try dsimp only [PySem.W.CmpBack]))))
  (k_with "call ref" => (k_here; k_dflt (refine' c_mulf _ _ _ _ _ _ _ _ _ _ _ _ _ _ _ _ _ _ _ _ _ _ _ _ _ _ _ ?cBq16 ?cFq16 ?cXq16 ?cNq16 ?cHq16 ?ctq16 ?cTq16 ?ckq16 ?cGq16 ?cMq16 ?cpq16 ?cxq16 ?cyq16 ?czq16 ?cdq16 ?cuq16 ?_; (case cBq16 => k_asm); (case cFq16 => k_asm); (case cXq16 => k_asm); (case cNq16 => k_asm); (case ctq16 => assumption); (case cTq16 => k_asm); (case ckq16 => rfl); (case cGq16 => assumption); (case cxq16 => exact Fq.mono (by assumption) (by walk_at "my sup2")); (case cyq16 => exact Fq.mono (by assumption) (by walk_at "my sup2")); (case cMq16 => assumption); (case czq16 => exact Sm.mul (by assumption) (by assumption)); (case cHq16 => first | assumption | exact led44 (by assumption) (by assumption)); (case cpq16 => assumption); (case cdq16 => ktr_room); (case cuq16 => ktr_room); intro x' tl' h' tk' gs' ps' ht' G' F' N' a' f'; (try dsimp only [PySem.W.CmpBack]))))
  (k_with "exec While Compare cons nil" => (refine Halt.of ?_))
  intro x c n tn M ma mb' p ps dp un gd cn cs a ccd cl outer A₀ base h₀ L m news s Q E B F X N H44 htr T hcs hG hM hp0 hx hsm hpb hn hd0 hu0 ret
  have hx0 := hx
  obtain ⟨d, D, g1, g2, T1, u1, v1, u2, v2, k1, k2, k3, k4, k5, tp, t12, ys, m1, m2, m3, m4, m5, m6, m7⟩ := hx
  refine wpAny_call ?_
  walk_at "my enter"
  k_steps
  rename Fr _ _ _ _ => F9
  rename News _ _ _ _ => N9
  refine' c_made _ _ _ _ [1, 0, 0, 0, 0, 0, 0, 0, 0, 0, 0, 0] c _ _ _ p _ _ _ _ _ _ _ _ _ _ _ _ _ _ _ _ _ _ _ ?cB ?cF ?cX ?cN ?cH ?ct ?cT ?ck ?cG ?cM ?cp ?cf ?cl ?ci ?cn ?cd ?cu ?ret
  case cB => k_asm
  case cF => exact F9
  case cX => k_asm
  case cN => exact news_rot4 N9
  case cl => exact List.Mem.head _
  case ci => exact .cons _ _ (.cons _ _ (.cons _ _ (.cons _ _ (.cons _ _ (.cons _ _ (.cons _ _ (.cons _ _ (.cons _ _ (.cons _ _ (.cons _ _ (.cons _ _ .nil)))))))))))
  case cn => rfl
  case cH => exact (all_cons (by walk_at "my neq") (all_cons (by walk_at "my neq") (all_cons (by walk_at "my neq") (all_cons (by walk_at "my neq") (by assumption)))))
  case ct => assumption
  case cT => k_asm
  case ck => rfl
  case cG => assumption
  case cM => assumption
  case cp => assumption
  case cf => exact Fq.mono hx0 (by walk_at "my sup2")
  case cd => ktr_room
  case cu => ktr_room
  clear F9 N9
  intro x5 tl5 h5 tk5 gs5 ps5 ht5 G5 F5 N5 a5 f5
  replace N5 : News _ _ h5 ((44, tabO ps5) :: (tl5 ++ news)) := news_subM N5 (drop_mid [_, _, _, _])
  replace a5 : Above tl5 ((44, tabO ps5) :: news) := (a5.sub (drop_top [_, _, _, _])).obj44
  k_steps
  rename Fr _ _ _ _ => F6
  rename News _ _ _ _ => N6
  have so5 : Sm (oneC p) := Sm.fmod hp0 hpb _
  refine Halt.mk (While_pow (Str.ofString "o") (Str.ofString "t") (Str.ofString "other") news tl5 ht5 G5 F6 N6 a5 rfl rfl rfl f5 (Fq.mono hx0 (by walk_at "my sup2")) so5 hsm hn ?turn)
  clear F6 N6
  rintro k co ct s' hk he ⟨h6, tk6, gs6, ps6, tl6, xo, xt, tn6, rfl, ht6, G6, F6, N6, a6, fo, ft, so, st⟩
  have H6 := led44 a6 H44
  have fo0 := fo
  have ft0 := ft
  obtain ⟨do', Do, o1, o2, To, o3, o4, o5, o6, o7, o8, o9, o10, o11, o12, o13, yo, w1, w2, w3, w4, w5, w6, w7⟩ := fo
  obtain ⟨dt', Dt, p1, p2, Tt, p3, p4, p5, p6, p7, p8, p9, p10, p11, p12, p13, yt, z1, z2, z3, z4, z5, z6, z7⟩ := ft
  obtain rfl | rfl | rfl : k = 0 ∨ k = 1 ∨ k = 2 := by omega
  · k_steps
    rename News h₀ L _ _ => N9
    rename Fr h₀ L _ _ => F9
    exact ret _ _ _ _ _ _ ht6 G6 F9 N9 a6 (he ▸ fo0)
  · k_steps
    rename News _ _ _ _ => N9
    rename Fr _ _ _ _ => F9
    rename TriplesOk _ => t9
    rename AllBare _ => G9
    rename Above _ (_ :: (_ ++ (tl6 ++ news))) => a2
    rename Above _ (_ :: (tl6 ++ news)) => a1
    rename Fq _ _ _ _ _ _ _ (fun i => (mulF _ _ ct ct i).fmod _) => f2
    rename Fq _ _ _ _ _ _ _ (fun i => (mulF _ _ co ct i).fmod _) => f1
    replace N9 := news_assoc2 N9
    replace a2 := above_assoc1 a2
    refine ⟨rfl, 0, mulm ma mb' p co ct, mulm ma mb' p ct ct, Nat.zero_lt_one, rfl, PowI.intro _ t9 G9 F9 N9 (a2.app44 (a1.app44 (o'' := tabO #[]) a6)) (Over.set (Over.set (Over.set Over.three' rfl) rfl) rfl) rfl rfl rfl ?fo ?ft (Sm.fmod hp0 hpb _) (Sm.fmod hp0 hpb _)⟩
    case fo => exact Fq.mono f1 fun q hq => List.mem_append_right _ (List.mem_append_left _ hq)
    case ft => exact Fq.mono f2 fun q hq => List.mem_append_left _ (List.mem_append_left _ hq)
  · k_steps
    rename News _ _ _ _ => N9
    rename Fr _ _ _ _ => F9
    rename TriplesOk _ => t9
    rename AllBare _ => G9
    rename Above _ (_ :: (tl6 ++ news)) => a1
    rename Fq _ _ _ _ _ _ _ (fun i => (mulF _ _ ct ct i).fmod _) => f2
    replace N9 := news_assoc1 N9
    refine ⟨rfl, 1, co, mulm ma mb' p ct ct, Nat.one_lt_two, rfl, PowI.intro _ t9 G9 F9 N9 (a1.app44 a6) (Over.set (Over.set Over.three' rfl) rfl) rfl rfl rfl ?fo1 ?ft1 so (Sm.fmod hp0 hpb _)⟩
    case fo1 => exact Fq.mono fo0 fun q hq => List.mem_append_right _ hq
    case ft1 => exact Fq.mono f2 fun q hq => List.mem_append_left _ (List.mem_append_left _ hq)

end
section

theorem c_deed {w : World} {loose : List Str} {mean : ExcName → Option Value} {mg mb : Str → Option Value} :
  ∀ (lr : Addr) (vs : List Value) (kr n : Nat) (z sh : Int) (t1 t2 t3 : Tok) (Bn : Nat) (M : Addr) (ma mb' p : Int) (ps : Array Value) (dp un : Nat) (gd : Option (List Code)) (cn : Str) (cs : Scope) (a : Addr) (ccd : Value) (cl : List (Str × Addr)) (outer : List Env) (A₀ : Around) (base h₀ : Heap) (L : Addr) (m : Str → Option Value) (news : List (Addr × Obj)) (s : Shared) (Q E : Value → Shared → Prop),
    Below A₀ base outer h₀ → Fr h₀ L s.heap m → (kfrag w.params).In h₀ → News h₀ L s.heap ((44, tabO ps) :: news) → (∀ q ∈ news, q.1 ≠ 44) → TriplesOk ps.toList → Top topProg loose mean mg mb h₀ → cs.kind = .function →
    AllBare s.gens → Mod M ma mb' → 0 < p → (lr, W.listOf vs.toArray kr) ∈ news → vs.length = n → 0 < n → n ≤ 4 → (∀ i, i < n → ∃ v, vs[i]? = some v ∧ RowOk w news M ma mb' p sh Bn v) → 0 ≤ z → Builtin.Int.intBits z ≤ 1048576 → ma = sh * sh + 1 → mb' = -2 * sh → 0 < sh → sh < 10 → Builtin.Int.intBits p ≤ 1000000 → Bn ≤ 3000000 → dp + 120 < recursionLimit → un + 600 < cLine →
    (∀ x_ tl h' tk gs (ps' : Array Value), TriplesOk ps'.toList → AllBare gs → Fr h₀ L h' m → News h₀ L h' ((44, tabO ps') :: (tl ++ news)) → Above tl ((44, tabO ps') :: news) → RowOk w tl M ma mb' p sh (Bn + 1100000) (.ref x_) → Q (.ref x_) { s with heap := h', toks := tk, gens := gs }) →
      wpAny (model PySem.Challenge.pw_kh0011_01 w) (ktrTop dp un gd cn cs L a ccd cl outer) (call (.ref 196) [.ref lr, .int z t1, .int sh t2, .int p t3]) Q E s := by
  have _kf : PySem.Challenge.rw_kh0011_01 = PySem.Challenge.rw_kh0011_01 ∧ kfrag = kfrag := by (k_fill; exact ⟨rfl, rfl⟩)
  clear _kf
  w_top off
  k_with_none
  (k_with "execs cons" => ((try k_gentoks); (first | (with_reducible show wpAny _ _ _ _ (fun _ _ => False) _) | (refine wpAny_noRaise ?_)); refine execs_hide ?_; intro Q9x hQ9x))
  (k_with "k_all" => first | assumption | exact allNe_of (by assumption) | exact allNe_of (allLt_of (by assumption)))
  (k_with "k_mem" => (first | assumption | (refine' List.mem_cons_of_mem _ ?_; k_mem)))
  (k_with "news_mem" => k_mem)
  (k_with "my enter" => k_dflt (first | (refine' code_def ?k1q4 ?k2q4 ?k3q4 ?k4q4 ?k5q4 ?kAq4 ?kFq4 ?kKq4 ?k6q4 ?k7q4 ?k8q4 ?k9q4 ?kBq4 ?_ ?c2q4 ?c3q4 ?c4q4 ?c5q4; (case kAq4 => exact rfl); (case kFq4 => exact rfl); (case kKq4 => first | exact rfl | assumption); (case k1q4 => k_asm); (case k2q4 => k_asm); (case k3q4 => k_asm); (case k4q4 => k_asm); (case k5q4 => k_asm); (case k6q4 => k_is); (case k7q4 => k_is); (case k8q4 => ktr_room); (case k9q4 => exact BindsTo.of_eq rfl); (case c5q4 => decide); (case kBq4 => exact locs rfl); (case c2q4 => exact rfl); (case c3q4 => exact rfl); (case c4q4 => exact rfl); k_whole; intro g' L' h' FG' F' N' B' X' T'; (try dsimp only); (try k_fold)) | (refine' code_defC ?k1q4 ?k2q4 ?k3q4 ?k4q4 ?k5q4 ?kAq4 ?kFq4 ?kKq4 ?k6q4 ?k7q4 ?k8q4 ?k9q4 ?kBq4 ?kDq4 ?_ ?c2q4 ?c3q4 ?c4q4; (case kAq4 => exact rfl); (case kFq4 => exact rfl); (case kKq4 => first | exact rfl | assumption); (case k1q4 => k_asm); (case k2q4 => k_asm); (case k3q4 => k_asm); (case k4q4 => k_asm); (case k5q4 => k_asm); (case k6q4 => k_is); (case k7q4 => k_is); (case k8q4 => ktr_room); (case k9q4 => exact BindsTo.of_eq rfl); (case kBq4 => exact rfl); (case kDq4 => decide +kernel); (case c2q4 => exact rfl); (case c3q4 => exact rfl); (case c4q4 => exact rfl); k_whole; intro g' L' h' tk' cells' FG' F' N' Y' B' X' T' l1; (first | k_lt l1 | replace l1 := allLt_of l1); k_cells Y'; (try simp only [List.cons_append, List.nil_append] at N'); (try dsimp only); (try k_fold))))
  (k_with "my sup" => (intro p hp; repeat (first | exact hp | refine List.mem_cons_of_mem _ ?_ | refine List.mem_append_right _ ?_)))
  (k_with "my sub" => repeat (first | exact sub_nil | refine sub_cons (by k_mem) ?_ | (refine sub_app ?_ ?_)))
  (k_with "my and" => first | assumption | exact And.right (by assumption) | exact And.right (And.right (by assumption)) | exact And.right (And.right (And.right (by assumption))) | exact And.right (And.right (And.right (And.right (by assumption)))) | exact And.right (And.right (And.right (And.right (And.right (by assumption))))) | exact And.right (And.right (And.right (And.right (And.right (And.right (by assumption)))))))
  (k_with "my lt" => first | assumption | exact And.left (by assumption) | exact And.left (And.right (by assumption)) | exact And.left (And.right (And.right (by assumption))) | exact And.left (And.right (And.right (And.right (by assumption)))) | exact And.left (And.right (And.right (And.right (And.right (by assumption))))) | exact And.left (And.right (And.right (And.right (And.right (And.right (by assumption)))))) | exact And.left (And.right (And.right (And.right (And.right (And.right (And.right (by assumption))))))) | exact And.left (And.right (And.right (And.right (And.right (And.right (And.right (And.right (by assumption)))))))))
  (k_with "my neq" => ((refine neN ?_); (try dsimp only); first | assumption | exact Ne.symm (by assumption) | exact Nat.ne_of_gt (by walk_at "my lt") | exact Nat.ne_of_lt (by walk_at "my lt") | omega))
  (k_with "my apart" => first | assumption | exact off1_mem (by walk_at "my and") | exact allNe_of (by walk_at "my and") | exact allNe_of (allLt_of (by walk_at "my and")) | exact allNe_of (allLt_app (by walk_at "my and")).2 | exact allNe_of (allLt_app (by walk_at "my and")).1 | exact allNe1 (by walk_at "my and") | exact allNe2 (by walk_at "my and"))
  (k_with "k_ne" => ((refine neN ?_); (try dsimp only); first | assumption | exact Ne.symm (by assumption) | exact Nat.ne_of_gt (by walk_at "my lt") | exact Nat.ne_of_lt (by walk_at "my lt") | fail "k_ne"))
  (k_with "k_all" => first | assumption | exact allNe_of (by assumption) | exact allNe_of (allLt_of (by assumption)) | exact allNe_cell (by assumption) | exact allNe_cell3 (by assumption) | exact allNe1 (by assumption) | exact allNe2 (by assumption))
  (k_with "k_mem" => (first | with_reducible assumption | with_reducible exact List.Mem.head _ | ((with_reducible refine' List.mem_cons_of_mem _ ?_); k_mem) | ((with_reducible refine' List.mem_append_left _ ?_); with_reducible assumption) | ((with_reducible refine' List.mem_append_right _ ?_); k_mem) | assumption))
  (k_with "my sup2" => (intro p hp; (try simp only [List.mem_cons, List.mem_append, hp, or_true, true_or])))
  (k_with "eval ListComp" => (k_here; k_dflt (refine listComp_it rfl rfl (by decide) ?_)))
  (k_with "pyIter ref" => (refine Halt.of ?_))
  (k_with "ite" => (k_dflt (first | (refine ite_neg (by first | assumption | omega | (simp only [decide_eq_true_eq]; omega) | (simp; omega)) ?_) | (refine ite_pos (by first | assumption | omega | (simp only [decide_eq_true_eq]; omega) | (simp; omega)) ?_))))
  (k_with "exec If" => ((fail_if_success (rename Mark => mk9')); refine Halt.of ?_))
  (k_with "CompSrc" => (refine Halt.of ?_))
  (k_with "call ref cons" => (k_here; k_dflt (refine' c_times _ _ _ _ _ _ _ _ _ _ _ _ _ _ _ _ _ _ _ _ _ _ _ _ _ _ _ _ _ _ _ _ ?cBq20 ?cFq20 ?cXq20 ?cNq20 ?cTq20 ?ckq20 ?d1q20 ?d2q20 ?d3q20 ?d4q20 ?d5q20 ?d6q20 ?d7q20 ?d8q20 ?d9q20 ?cdq20 ?cuq20 ?_; (case cBq20 => k_asm); (case cFq20 => k_asm); (case cXq20 => k_asm); (case cNq20 => k_asm); (case cTq20 => k_asm); (case ckq20 => rfl); (case d1q20 => k_mem); (case d2q20 => assumption); (case d3q20 => k_mem); (case d4q20 => assumption); (case d5q20 => assumption); (case d6q20 => assumption); (case d7q20 => assumption); (case d8q20 => assumption); (case d9q20 => assumption); (case cdq20 => ktr_room); (case cuq20 => ktr_room); intro v' tl' h' tk' F' N' a' ⟨r', ys', k', e', m', p'⟩; subst e')))
  (k_with "call ref cons" => (k_here; k_dflt (refine' c_add _ _ _ _ _ _ _ _ _ _ _ _ _ _ _ _ _ _ _ _ _ _ _ _ _ _ _ ?cBq21 ?cFq21 ?cXq21 ?cNq21 ?cHq21 ?ctq21 ?cTq21 ?ckq21 ?cGq21 ?cMq21 ?cpq21 ?cxq21 ?cyq21 ?cdq21 ?cuq21 ?_; (case cBq21 => k_asm); (case cFq21 => k_asm); (case cXq21 => k_asm); (case cNq21 => k_asm); (case ctq21 => assumption); (case cTq21 => k_asm); (case ckq21 => rfl); (case cGq21 => assumption); (case cxq21 => assumption); (case cyq21 => assumption); (case cMq21 => assumption); (case cHq21 => assumption); (case cpq21 => assumption); (case cdq21 => ktr_room); (case cuq21 => ktr_room); intro x' tl' h' tk' gs' ps' ht' G' F' N' a' f'; (try dsimp only [PySem.W.CmpBack]))))
  (k_with "call ref cons" => (k_here; k_dflt (refine' c_sub _ _ _ _ _ _ _ _ _ _ _ _ _ _ _ _ _ _ _ _ _ _ _ _ _ _ _ ?cBq22 ?cFq22 ?cXq22 ?cNq22 ?cHq22 ?ctq22 ?cTq22 ?ckq22 ?cGq22 ?cMq22 ?cpq22 ?cxq22 ?cyq22 ?cdq22 ?cuq22 ?_; (case cBq22 => k_asm); (case cFq22 => k_asm); (case cXq22 => k_asm); (case cNq22 => k_asm); (case ctq22 => assumption); (case cTq22 => k_asm); (case ckq22 => rfl); (case cGq22 => assumption); (case cxq22 => assumption); (case cyq22 => assumption); (case cMq22 => assumption); (case cHq22 => assumption); (case cpq22 => assumption); (case cdq22 => ktr_room); (case cuq22 => ktr_room); intro x' tl' h' tk' gs' ps' ht' G' F' N' a' f'; (try dsimp only [PySem.W.CmpBack]))))
  (k_with "call ref cons" => (k_here; k_dflt (refine' c_neg _ _ _ _ _ _ _ _ _ _ _ _ _ _ _ _ _ _ _ _ _ _ _ _ _ ?cBq23 ?cFq23 ?cXq23 ?cNq23 ?cHq23 ?ctq23 ?cTq23 ?ckq23 ?cGq23 ?cMq23 ?cpq23 ?cxq23 ?cdq23 ?cuq23 ?_; (case cBq23 => k_asm); (case cFq23 => k_asm); (case cXq23 => k_asm); (case cNq23 => k_asm); (case ctq23 => assumption); (case cTq23 => k_asm); (case ckq23 => rfl); (case cGq23 => assumption); (case cxq23 => assumption); (case cMq23 => assumption); (case cHq23 => assumption); (case cpq23 => assumption); (case cdq23 => ktr_room); (case cuq23 => ktr_room); intro x' tl' h' tk' gs' ps' ht' G' F' N' a' f'; (try dsimp only [PySem.W.CmpBack]))))
  (k_with "call ref cons" => (k_here; k_dflt (refine' c_muli _ _ _ _ _ _ _ _ _ _ _ _ _ _ _ _ _ _ _ _ _ _ _ _ _ _ _ ?cBq24 ?cFq24 ?cXq24 ?cNq24 ?cHq24 ?ctq24 ?cTq24 ?ckq24 ?cGq24 ?cMq24 ?cpq24 ?cxq24 ?czq24 ?cdq24 ?cuq24 ?_; (case cBq24 => k_asm); (case cFq24 => k_asm); (case cXq24 => k_asm); (case cNq24 => k_asm); (case ctq24 => assumption); (case cTq24 => k_asm); (case ckq24 => rfl); (case cGq24 => assumption); (case cxq24 => assumption); (case czq24 => first | exact Sm.mul (by assumption) (by assumption) | assumption); (case cMq24 => assumption); (case cHq24 => assumption); (case cpq24 => assumption); (case cdq24 => ktr_room); (case cuq24 => ktr_room); intro x' tl' h' tk' gs' ps' ht' G' F' N' a' f'; (try dsimp only [PySem.W.CmpBack]))))
  (k_with "call ref cons" => (k_here; k_dflt (refine' c_mulf _ _ _ _ _ _ _ _ _ _ _ _ _ _ _ _ _ _ _ _ _ _ _ _ _ _ _ ?cBq25 ?cFq25 ?cXq25 ?cNq25 ?cHq25 ?ctq25 ?cTq25 ?ckq25 ?cGq25 ?cMq25 ?cpq25 ?cxq25 ?cyq25 ?czq25 ?cdq25 ?cuq25 ?_; (case cBq25 => k_asm); (case cFq25 => k_asm); (case cXq25 => k_asm); (case cNq25 => k_asm); (case ctq25 => assumption); (case cTq25 => k_asm); (case ckq25 => rfl); (case cGq25 => assumption); (case cxq25 => assumption); (case cyq25 => assumption); (case czq25 => first | exact Sm.mul (by assumption) (by assumption) | assumption); (case cMq25 => assumption); (case cHq25 => assumption); (case cpq25 => assumption); (case cdq25 => ktr_room); (case cuq25 => ktr_room); intro x' tl' h' tk' gs' ps' ht' G' F' N' a' f'; (try dsimp only [PySem.W.CmpBack]))))
  (k_with "subscriptTail Name Name ref int" => (k_here; (with_reducible show wpAny _ _ (subscriptTail _ _ (Value.ref _) (Value.int _ _)) _ _ _); k_dflt (refine' item_at ?k1q26 ?k2q26 ?k3q26 ?_ ?k6q26; (case k1q26 => k_asm); (case k2q26 => k_mem); (case k3q26 => assumption); (case k6q26 => with_unfolding_all rfl); k_whole); (try dsimp only)))
  (k_with "subscriptTail Name BinOp ref int" => (k_here; (with_reducible show wpAny _ _ (subscriptTail _ _ (Value.ref _) (Value.int _ _)) _ _ _); k_dflt (refine' item_at ?k1q27 ?k2q27 ?k3q27 ?_ ?k6q27; (case k1q27 => k_asm); (case k2q27 => k_mem); (case k3q27 => assumption); (case k6q27 => with_unfolding_all rfl); k_whole); (try dsimp only)))
  (k_with "subscriptTail Name Constant ref int" => (k_here; (with_reducible show wpAny _ _ (subscriptTail _ _ (Value.ref _) (Value.int _ _)) _ _ _); k_dflt (refine' item_at ?k1q28 ?k2q28 ?k3q28 ?_ ?k6q28; (case k1q28 => k_asm); (case k2q28 => k_mem); (case k3q28 => assumption); (case k6q28 => with_unfolding_all rfl); k_whole); (try dsimp only)))
  (k_with "subscriptTail Subscript Name Constant Name ref int" => (k_here; (with_reducible show wpAny _ _ (subscriptTail _ _ (Value.ref _) (Value.int _ _)) _ _ _); k_dflt (refine' item_at ?k1q29 ?k2q29 ?k3q29 ?_ ?k6q29; (case k1q29 => k_asm); (case k2q29 => k_mem); (case k3q29 => assumption); (case k6q29 => with_unfolding_all rfl); k_whole); (try dsimp only)))
  (k_with "setItem ref int ref" => (k_here; (with_reducible show wpAny _ _ (setItem (Value.ref _) (Value.int _ _) (Value.ref _)) _ _ _); k_dflt (refine' ref_set ?k1q30 ?k2q30 ?k3q30 ?k4q30 ?k5q30 ?k6q30 ?_; (case k1q30 => k_asm); (case k2q30 => k_asm); (case k3q30 => k_upd); (case k4q30 => assumption); (case k5q30 => assumption); (case k6q30 => omega); k_whole); intro h' F' N'))
  (k_with "subscriptTail Name Constant ref int" => (k_here; (with_reducible show wpAny _ _ (subscriptTail _ _ (Value.ref _) (Value.int 0 _)) _ _ _); k_dflt (refine' tup_fst ?k1q31 ?k2q31 ?_ ?k6q31; (case k1q31 => k_asm); (case k2q31 => k_mem); (case k6q31 => with_unfolding_all rfl); k_whole); (try dsimp only)))
  (k_with "subscriptTail Name Constant ref int" => (k_here; (with_reducible show wpAny _ _ (subscriptTail _ _ (Value.ref _) (Value.int 1 _)) _ _ _); k_dflt (refine' tup_snd ?k1q32 ?k2q32 ?_ ?k6q32; (case k1q32 => k_asm); (case k2q32 => k_mem); (case k6q32 => with_unfolding_all rfl); k_whole); (try dsimp only)))
  (k_with "subscriptTail Subscript Name UnaryOp Constant ref int" => (k_here; (with_reducible show wpAny _ _ (subscriptTail _ _ (Value.ref _) (Value.int 0 _)) _ _ _); k_dflt (refine' tup_fst ?k1q33 ?k2q33 ?_ ?k6q33; (case k1q33 => k_asm); (case k2q33 => k_mem); (case k6q33 => with_unfolding_all rfl); k_whole); (try dsimp only)))
  (k_with "subscriptTail Subscript Name UnaryOp Constant ref int" => (k_here; (with_reducible show wpAny _ _ (subscriptTail _ _ (Value.ref _) (Value.int 1 _)) _ _ _); k_dflt (refine' tup_snd ?k1q34 ?k2q34 ?_ ?k6q34; (case k1q34 => k_asm); (case k2q34 => k_mem); (case k6q34 => with_unfolding_all rfl); k_whole); (try dsimp only)))
  (k_with "subscriptTail Subscript Name Name Constant ref int" => (k_here; (with_reducible show wpAny _ _ (subscriptTail _ _ (Value.ref _) (Value.int 0 _)) _ _ _); k_dflt (refine' pair_fst ?k1q35 ?k2q35 ?_ ?k6q35; (case k1q35 => k_asm); (case k2q35 => k_mem); (case k6q35 => with_unfolding_all rfl); k_whole); (try dsimp only)))
  (k_with "subscriptTail Subscript Name Name Constant ref int" => (k_here; (with_reducible show wpAny _ _ (subscriptTail _ _ (Value.ref _) (Value.int 1 _)) _ _ _); k_dflt (refine' pair_snd ?k1q36 ?k2q36 ?_ ?k6q36; (case k1q36 => k_asm); (case k2q36 => k_mem); (case k6q36 => with_unfolding_all rfl); k_whole); (try dsimp only)))
  (k_with "subscriptTail Subscript Name BinOp Constant ref int" => (k_here; (with_reducible show wpAny _ _ (subscriptTail _ _ (Value.ref _) (Value.int 0 _)) _ _ _); k_dflt (refine' pair_fst ?k1q37 ?k2q37 ?_ ?k6q37; (case k1q37 => k_asm); (case k2q37 => k_mem); (case k6q37 => with_unfolding_all rfl); k_whole); (try dsimp only)))
  (k_with "subscriptTail Subscript Name BinOp Constant ref int" => (k_here; (with_reducible show wpAny _ _ (subscriptTail _ _ (Value.ref _) (Value.int 1 _)) _ _ _); k_dflt (refine' pair_snd ?k1q38 ?k2q38 ?_ ?k6q38; (case k1q38 => k_asm); (case k2q38 => k_mem); (case k6q38 => with_unfolding_all rfl); k_whole); (try dsimp only)))
  (k_with "subscriptTail Name Constant ref int" => (k_here; (with_reducible show wpAny _ _ (subscriptTail _ _ (Value.ref _) (Value.int 0 _)) _ _ _); k_dflt (refine' pair_fst ?k1q39 ?k2q39 ?_ ?k6q39; (case k1q39 => k_asm); (case k2q39 => k_mem); (case k6q39 => with_unfolding_all rfl); k_whole); (try dsimp only)))
  (k_with "subscriptTail Name Constant ref int" => (k_here; (with_reducible show wpAny _ _ (subscriptTail _ _ (Value.ref _) (Value.int 1 _)) _ _ _); k_dflt (refine' pair_snd ?k1q40 ?k2q40 ?_ ?k6q40; (case k1q40 => k_asm); (case k2q40 => k_mem); (case k6q40 => with_unfolding_all rfl); k_whole); (try dsimp only)))
  (k_with "subscriptTail Subscript Subscript Name Constant ref int" => (k_here; (with_reducible show wpAny _ _ (subscriptTail _ _ (Value.ref _) (Value.int 0 _)) _ _ _); k_dflt (refine' pair_fst ?k1q41 ?k2q41 ?_ ?k6q41; (case k1q41 => k_asm); (case k2q41 => k_mem); (case k6q41 => with_unfolding_all rfl); k_whole); (try dsimp only)))
  (k_with "subscriptTail Subscript Subscript Name Constant ref int" => (k_here; (with_reducible show wpAny _ _ (subscriptTail _ _ (Value.ref _) (Value.int 1 _)) _ _ _); k_dflt (refine' pair_snd ?k1q42 ?k2q42 ?_ ?k6q42; (case k1q42 => k_asm); (case k2q42 => k_mem); (case k6q42 => with_unfolding_all rfl); k_whole); (try dsimp only)))
  (k_with "subscriptTail Subscript Subscript Name Constant Constant ref int" => (k_here; (with_reducible show wpAny _ _ (subscriptTail _ _ (Value.ref _) (Value.int 0 _)) _ _ _); k_dflt (refine' pair_fst ?k1q43 ?k2q43 ?_ ?k6q43; (case k1q43 => k_asm); (case k2q43 => k_mem); (case k6q43 => with_unfolding_all rfl); k_whole); (try dsimp only)))
  (k_with "subscriptTail Subscript Subscript Name Constant Constant ref int" => (k_here; (with_reducible show wpAny _ _ (subscriptTail _ _ (Value.ref _) (Value.int 1 _)) _ _ _); k_dflt (refine' pair_snd ?k1q44 ?k2q44 ?_ ?k6q44; (case k1q44 => k_asm); (case k2q44 => k_mem); (case k6q44 => with_unfolding_all rfl); k_whole); (try dsimp only)))
  (k_with "subscriptTail Subscript Subscript Name Name Constant ref int" => (k_here; (with_reducible show wpAny _ _ (subscriptTail _ _ (Value.ref _) (Value.int 0 _)) _ _ _); k_dflt (refine' pair_fst ?k1q45 ?k2q45 ?_ ?k6q45; (case k1q45 => k_asm); (case k2q45 => k_mem); (case k6q45 => with_unfolding_all rfl); k_whole); (try dsimp only)))
  (k_with "subscriptTail Subscript Subscript Name Name Constant ref int" => (k_here; (with_reducible show wpAny _ _ (subscriptTail _ _ (Value.ref _) (Value.int 1 _)) _ _ _); k_dflt (refine' pair_snd ?k1q46 ?k2q46 ?_ ?k6q46; (case k1q46 => k_asm); (case k2q46 => k_mem); (case k6q46 => with_unfolding_all rfl); k_whole); (try dsimp only)))
  (k_with "call builtin:len cons" => (k_here; k_dflt (refine' len_led ?k1q47 ?k2q47 ?k3q47 ?k4q47 ?_; (case k1q47 => k_asm); (case k2q47 => k_mem); (case k3q47 => assumption); (case k4q47 => omega); k_whole)))
  intro lr vs kr n z sh t1 t2 t3 Bn M ma mb' p ps dp un gd cn cs a ccd cl outer A₀ base h₀ L m news s Q E B F X N H44 htr T hcs hG hM hp0 hl hlen hn0 hn4 hrow hz0 hzb hma hmb hs0 hs10 hpb hBn hd0 hu0 ret
  refine wpAny_call ?_
  obtain ⟨v1, i1, r1, a1, b1, c1, rfl, ⟨x1, y1, q1, j1, m11, m12, m13, m14⟩, R1, D1, S1⟩ := row_pick hn0 hn4 hrow (z.fdiv 6)
  obtain ⟨v2, i2, r2, a2, b2, c2, rfl, ⟨x2, y2, q2, j2, m21, m22, m23, m24⟩, R2, D2, S2⟩ := row_pick hn0 hn4 hrow (z.fdiv 60)
  walk_at "my enter"
  k_steps
  rename News _ _ _ _ => N9
  rename Fr _ _ _ _ => F9
  obtain ⟨NN, hNN, N9, hc3, hc2, hc1, hn⟩ := name44 N9
  have mk9 : Mark := trivial
  have e1 := hn _ m11
  have e2 := hn _ m12
  have e3 := m14.mono hn
  have e4 := hn _ m21
  have e5 := hn _ m22
  have e6 := m24.mono hn
  have H44 : ∀ q ∈ NN, q.1 ≠ 44 := by
    rw [hNN]
    exact all_cons (by walk_at "my neq") (all_cons (by walk_at "my neq") (all_cons (by walk_at "my neq") (all_cons (by walk_at "my neq") H44)))
  rcases fmod6 z with hw | hw | hw | hw | hw | hw
  all_goals refine Halt.mk ?_
  · k_steps
    rename IsRange _ _ _ _ _ _ _ _ => r9
    rename Fr _ _ _ _ => F9
    rename News _ _ _ _ => N9
    refine Halt.mk (LCg.CompSrc.range (n := 6) rfl F9 N9 r9 rfl rfl (by decide) ?_)
    intro g9
    refine compRest_inv (fun i zs nw => TlP ((44, tabO ps) :: NN) nw zs i (fun i => a1 i + a2 i) (fun i => b1 i + b2 i)) ⟨[], rfl, Above.nil, rfl, fun j hj => absurd hj (Nat.not_lt_zero _)⟩ ?_ ?_
    · clear N9 F9 r9
      rintro i zs nw hi ⟨tl', rfl, hA', hP'⟩ v I oI C oC D m₂ h tk E' ⟨t9, rfl⟩ hC hx F' N' off ne
      obtain ⟨s1, u1, w1, hx1, hm1⟩ := prs_at m13 hi (by decide) (k := 0 + (i : Int)) (by omega)
      obtain ⟨s2, u2, w2, hx2, hm2⟩ := prs_at m23 hi (by decide) (k := 0 + (i : Int)) (by omega)
      have g1 := hn _ hm1
      have g2 := hn _ hm2
      k_steps
      rename News _ _ _ _ => N5
      rename Fr _ _ _ _ => F5
      exact comp_pair_end F5 N5 (by assumption) off hA' hP' rfl rfl
    · clear N9 F9 r9
      rintro zs nw ⟨tl', rfl, hA', hP'⟩
      intro Dl h tk F' N' off1
      have off := off1_all off1
      replace N' := rot44 N'
      have H4 := ne44 (o := LCg.lst zs) off hA' H44
      have j1 := e3.mono (nw' := (Dl, LCg.lst zs) :: (tl' ++ NN)) (fun q hq => List.mem_cons_of_mem _ (List.mem_append_right _ hq))
      have j2 := e6.mono (nw' := (Dl, LCg.lst zs) :: (tl' ++ NN)) (fun q hq => List.mem_cons_of_mem _ (List.mem_append_right _ hq))
      obtain ⟨d1, _, _, _, _, _, _, _, _, _, _, _, _, _, _, _, _, i3, i5, _⟩ := e3
      obtain ⟨d2, _, _, _, _, _, _, _, _, _, _, _, _, _, _, _, _, i4, i6, _⟩ := e6
      k_steps
      rename News h₀ L _ _ => N8
      rename Fr h₀ L _ _ => F8
      rename TriplesOk _ => t8
      rename AllBare _ => G8
      rename Above _ (_ :: _ :: _) => a8
      rename Fq _ _ _ _ _ _ _ (fun i => Int.fmod _ _) => f8
      exact ret _ _ _ _ _ _ t8 G8 F8 (deed_news N8 hn) (deed_above (by assumption) a8 off hA' hn) (deed_row hP' f8 (rel_add hp0 R1 R2) (Bd.add D1 D2) (Sm.fmod hp0 hpb _))
  · k_steps
    rename IsRange _ _ _ _ _ _ _ _ => r9
    rename Fr _ _ _ _ => F9
    rename News _ _ _ _ => N9
    refine Halt.mk (LCg.CompSrc.range (n := 6) rfl F9 N9 r9 rfl rfl (by decide) ?_)
    intro g9
    refine compRest_inv (fun i zs nw => TlP ((44, tabO ps) :: NN) nw zs i (fun i => a1 i - a2 i) (fun i => b1 i - b2 i)) ⟨[], rfl, Above.nil, rfl, fun j hj => absurd hj (Nat.not_lt_zero _)⟩ ?_ ?_
    · clear N9 F9 r9
      rintro i zs nw hi ⟨tl', rfl, hA', hP'⟩ v I oI C oC D m₂ h tk E' ⟨t9, rfl⟩ hC hx F' N' off ne
      obtain ⟨s1, u1, w1, hx1, hm1⟩ := prs_at m13 hi (by decide) (k := 0 + (i : Int)) (by omega)
      obtain ⟨s2, u2, w2, hx2, hm2⟩ := prs_at m23 hi (by decide) (k := 0 + (i : Int)) (by omega)
      have g1 := hn _ hm1
      have g2 := hn _ hm2
      k_steps
      rename News _ _ _ _ => N5
      rename Fr _ _ _ _ => F5
      exact comp_pair_end F5 N5 (by assumption) off hA' hP' rfl rfl
    · clear N9 F9 r9
      rintro zs nw ⟨tl', rfl, hA', hP'⟩
      intro Dl h tk F' N' off1
      have off := off1_all off1
      replace N' := rot44 N'
      have H4 := ne44 (o := LCg.lst zs) off hA' H44
      have j1 := e3.mono (nw' := (Dl, LCg.lst zs) :: (tl' ++ NN)) (fun q hq => List.mem_cons_of_mem _ (List.mem_append_right _ hq))
      have j2 := e6.mono (nw' := (Dl, LCg.lst zs) :: (tl' ++ NN)) (fun q hq => List.mem_cons_of_mem _ (List.mem_append_right _ hq))
      obtain ⟨d1, _, _, _, _, _, _, _, _, _, _, _, _, _, _, _, _, i3, i5, _⟩ := e3
      obtain ⟨d2, _, _, _, _, _, _, _, _, _, _, _, _, _, _, _, _, i4, i6, _⟩ := e6
      k_steps
      rename News h₀ L _ _ => N8
      rename Fr h₀ L _ _ => F8
      rename TriplesOk _ => t8
      rename AllBare _ => G8
      rename Above _ (_ :: _ :: _) => a8
      rename Fq _ _ _ _ _ _ _ (fun i => Int.fmod _ _) => f8
      exact ret _ _ _ _ _ _ t8 G8 F8 (deed_news N8 hn) (deed_above (by assumption) a8 off hA' hn) (deed_row hP' f8 (rel_sub hp0 R1 R2) (Bd.sub D1 D2) (Sm.fmod hp0 hpb _))
  · k_steps
    rename Fr _ _ _ _ => F9
    rename News _ _ _ _ => N9
    have hq1 : q1.toArray.size = 6 := by rw [List.size_toArray]; exact m13.1
    refine Halt.mk (list_src (n := 6) rfl F9 N9 (List.mem_cons_of_mem _ e2) hq1 (by decide) (by decide) rfl rfl (fun i zs nw => TlP ((44, tabO ps) :: NN) nw zs i (fun i => -(a1 i)) (fun i => -(b1 i))) ⟨[], rfl, Above.nil, rfl, fun j hj => absurd hj (Nat.not_lt_zero _)⟩ ?len ?turn ?fin)
    case len => rintro i ys nw ⟨tl', _, _, h⟩; rw [h.1]; exact Nat.le_refl _
    case turn =>
      clear N9 F9
      rintro i zs nw xv C oC D m₂ h tk own wr E' hi ⟨tl', rfl, hA', hP'⟩ hxv hC hma' F' N' hw' off hne
      obtain ⟨s1, u1, w1, he, hm1⟩ := m13.2 i hi
      obtain rfl : Value.ref s1 = xv := Option.some.inj (he.symm.trans (by simpa using hxv))
      replace N' := news_mid N'
      have g1 := mem_own (own := own) (tl := tl') (List.mem_cons_of_mem (44, tabO ps) (hn _ hm1))
      k_steps
      rename News _ _ _ _ => N5
      rename Fr _ _ _ _ => F5
      exact pair_end F5 N5 (by assumption) off hw' hA' hP' rfl rfl
    case fin =>
      clear N9 F9
      rintro Dl h tk zs nw F' N' off ⟨tl', rfl, hA', hP'⟩
      replace N' := rot44 N'
      have H4 := ne44 (o := LCg.lst zs) off hA' H44
      have j1 := e3.mono (nw' := (Dl, LCg.lst zs) :: (tl' ++ NN)) (fun q hq => List.mem_cons_of_mem _ (List.mem_append_right _ hq))
      obtain ⟨d1, _, _, _, _, _, _, _, _, _, _, _, _, _, _, _, _, i3, i5, _⟩ := e3
      k_steps
      rename News h₀ L _ _ => N8
      rename Fr h₀ L _ _ => F8
      rename TriplesOk _ => t8
      rename AllBare _ => G8
      rename Above _ (_ :: _ :: _) => a8
      rename Fq _ _ _ _ _ _ _ (fun i => Int.fmod _ _) => f8
      exact ret _ _ _ _ _ _ t8 G8 F8 (deed_news N8 hn) (deed_above (by assumption) a8 off hA' hn) (deed_row hP' f8 (rel_neg hp0 R1) (Bd.neg D1) (Sm.fmod hp0 hpb _))
  · subst hNN
    replace N9 := unrot44 N9
    k_steps
    rename Fr _ _ _ _ => F9
    rename News _ _ _ _ => N9
    clear e1 e2 e3 e4 e5 e6 hn hc1 hc2 hc3
    obtain ⟨NN, hNN, N9, hc3, hc2, hc1, hn⟩ := name44 N9
    have e1 := hn _ m11
    have e2 := hn _ m12
    have e3 := m14.mono hn
    have H44 : ∀ q ∈ NN, q.1 ≠ 44 := by
      rw [hNN]
      exact all_cons (by walk_at "my neq") (all_cons (by walk_at "my neq") (all_cons (by walk_at "my neq") (all_cons (by walk_at "my neq") (by assumption))))
    have hzt := times_bits hzb
    have hzs := S1.muli hzt
    have hq1 : q1.toArray.size = 6 := by rw [List.size_toArray]; exact m13.1
    refine Halt.mk (list_src (n := 6) rfl F9 N9 (List.mem_cons_of_mem _ e2) hq1 (by decide) (by decide) rfl rfl (fun i zs nw => TlP ((44, tabO ps) :: NN) nw zs i (fun i => a1 i * (z.fdiv 60 - 40)) (fun i => b1 i * (z.fdiv 60 - 40))) ⟨[], rfl, Above.nil, rfl, fun j hj => absurd hj (Nat.not_lt_zero _)⟩ ?len ?turn ?fin)
    case len => rintro i ys nw ⟨tl', _, _, h⟩; rw [h.1]; exact Nat.le_refl _
    case turn =>
      clear N9 F9
      rintro i zs nw xv C oC D m₂ h tk own wr E' hi ⟨tl', rfl, hA', hP'⟩ hxv hC hma' F' N' hw' off hne
      obtain ⟨s1, u1, w1, he, hm1⟩ := m13.2 i hi
      obtain rfl : Value.ref s1 = xv := Option.some.inj (he.symm.trans (by simpa using hxv))
      replace N' := news_mid N'
      have g1 := mem_own (own := own) (tl := tl') (List.mem_cons_of_mem (44, tabO ps) (hn _ hm1))
      obtain ⟨hmz1, hmz2⟩ := mul_z D1 hi hBn hzt
      have g2 := mem_own (own := own) (tl := tl') (List.mem_cons_of_mem (44, tabO ps) hc1)
      have g3 := mem_own (own := own) (tl := tl') (List.mem_cons_of_mem (44, tabO ps) hc2)
      have g4 := mem_own (own := own) (tl := tl') (List.mem_cons_of_mem (44, tabO ps) hc3)
      k_steps
      rename News _ _ _ _ => N5
      rename Fr _ _ _ _ => F5
      exact pair_end F5 N5 (by assumption) off hw' hA' hP' rfl rfl
    case fin =>
      clear N9 F9
      rintro Dl h tk zs nw F' N' off ⟨tl', rfl, hA', hP'⟩
      replace N' := rot44 N'
      have H4 := ne44 (o := LCg.lst zs) off hA' H44
      have j1 := e3.mono (nw' := (Dl, LCg.lst zs) :: (tl' ++ NN)) (fun q hq => List.mem_cons_of_mem _ (List.mem_append_right _ hq))
      obtain ⟨d1, _, _, _, _, _, _, _, _, _, _, _, _, _, _, _, _, i3, i5, _⟩ := e3
      k_steps
      rename News h₀ L _ _ => N8
      rename Fr h₀ L _ _ => F8
      rename TriplesOk _ => t8
      rename AllBare _ => G8
      rename Above _ (_ :: _ :: _) => a8
      rename Fq _ _ _ _ _ _ _ (fun i => Int.fmod _ _) => f8
      exact ret _ _ _ _ _ _ t8 G8 F8 (deed_news N8 hn) (deed_above (by assumption) a8 off hA' hn) (deed_row hP' f8 (rel_muli hp0 R1 _) (Bd.muli D1 (times_bits hzb)) (Sm.fmod hp0 hpb _))
  all_goals (
    have P1 : Prs ((44, tabO ps) :: NN) q1 6 a1 b1 := m13.mono fun q hq => List.mem_cons_of_mem _ (hn q hq)
    have P2 : Prs ((44, tabO ps) :: NN) q2 6 a2 b2 := m23.mono fun q hq => List.mem_cons_of_mem _ (hn q hq)
    have Q1 := D1.sp (by omega)
    have Q2 := D2.sp (by omega)
    k_steps
    rename News _ _ _ _ => N5
    rename Above _ (_ :: NN) => A5
    replace N5 := rot44' N5
    have H4 := ne44' A5 H44
    have j1 := Fq.right A5 e3
    have j2 := Fq.right A5 e6
    obtain ⟨d1, _, _, _, _, _, _, _, _, _, _, _, _, _, _, _, _, i3, i5, _⟩ := e3
    obtain ⟨d2, _, _, _, _, _, _, _, _, _, _, _, _, _, _, _, _, i4, i6, _⟩ := e6
    k_steps
    rename News h₀ L _ _ => N8
    rename Fr h₀ L _ _ => F8
    rename TriplesOk _ => t8
    rename AllBare _ => G8
    rename Above _ (_ :: (_ ++ NN)) => a8
    rename Fq _ _ _ _ _ _ _ (fun i => Int.fmod _ _) => f8
    exact ret _ _ _ _ _ _ t8 G8 F8 (deed_news2 N8 hn) (deed_above2 (by assumption) a8 A5 hn) (deed_row2 (by assumption) (by assumption) f8 (rel_mul hp0 hma hmb R1 R2) (Bd.fmod hp0 hpb) (Sm.fmod hp0 hpb _)))

end
end Mine
section
open Mine PySem.W.X PySem PySem.Spec PySem.Calls PyProof.Rows PySem.W
set_option Elab.async false
set_option autoImplicit false
set_option maxRecDepth 100000
set_option maxHeartbeats 8000000
set_option pp.deepTerms false
set_option pp.maxSteps 3000
local macro_rules | `(tactic| walk_at $s:str) => `(tactic| first | k_extra $s | fail "none")
local macro_rules | `(tactic| k_all) => `(tactic| first | k_extra "k_all" | fail "none")
local macro_rules | `(tactic| k_mem) => `(tactic| first | k_extra "k_mem" | fail "none")
local macro_rules | `(tactic| news_mem) => `(tactic| first | k_extra "news_mem" | fail "none")
local macro_rules | `(tactic| k_ne) => `(tactic| first | k_extra "k_ne" | fail "none")
local macro_rules | `(tactic| leave1) => `(tactic| (first | refine HidS.next (by assumption) ?_ | refine HidS.ret (by assumption) ?_ | refine HidS.brk (by assumption) ?_ | refine HidS.cont (by assumption) ?_ | refine Hid.of (by assumption) ?_))
set_option maxHeartbeats 40000000 in
theorem PySem.Challenge.cw_kh0011_01_holds : PySem.Challenge.rw_kh0011_01.Holds := by
  have _kf : PySem.Challenge.rw_kh0011_01 = PySem.Challenge.rw_kh0011_01 ∧ kfrag = kfrag := by (k_fill; exact ⟨rfl, rfl⟩)
  clear _kf
  k_with_none
  (k_with "execs cons" => ((try k_gentoks); (first | (with_reducible show wpAny _ _ _ _ (fun _ _ => False) _) | (refine wpAny_noRaise ?_)); refine execs_hide ?_; intro Q9x hQ9x))
  (k_with "k_all" => first | assumption | exact allNe_of (by assumption) | exact allNe_of (allLt_of (by assumption)))
  (k_with "k_mem" => (first | assumption | (refine' List.mem_cons_of_mem _ ?_; k_mem)))
  (k_with "news_mem" => k_mem)
  (k_with "my enter" => k_dflt (first | (refine' code_def ?k1q4 ?k2q4 ?k3q4 ?k4q4 ?k5q4 ?kAq4 ?kFq4 ?kKq4 ?k6q4 ?k7q4 ?k8q4 ?k9q4 ?kBq4 ?_ ?c2q4 ?c3q4 ?c4q4 ?c5q4; (case kAq4 => exact rfl); (case kFq4 => exact rfl); (case kKq4 => first | exact rfl | assumption); (case k1q4 => k_asm); (case k2q4 => k_asm); (case k3q4 => k_asm); (case k4q4 => k_asm); (case k5q4 => k_asm); (case k6q4 => k_is); (case k7q4 => k_is); (case k8q4 => ktr_room); (case k9q4 => exact BindsTo.of_eq rfl); (case c5q4 => decide); (case kBq4 => exact locs rfl); (case c2q4 => exact rfl); (case c3q4 => exact rfl); (case c4q4 => exact rfl); k_whole; intro g' L' h' FG' F' N' B' X' T'; (try dsimp only); (try k_fold)) | (refine' code_defC ?k1q4 ?k2q4 ?k3q4 ?k4q4 ?k5q4 ?kAq4 ?kFq4 ?kKq4 ?k6q4 ?k7q4 ?k8q4 ?k9q4 ?kBq4 ?kDq4 ?_ ?c2q4 ?c3q4 ?c4q4; (case kAq4 => exact rfl); (case kFq4 => exact rfl); (case kKq4 => first | exact rfl | assumption); (case k1q4 => k_asm); (case k2q4 => k_asm); (case k3q4 => k_asm); (case k4q4 => k_asm); (case k5q4 => k_asm); (case k6q4 => k_is); (case k7q4 => k_is); (case k8q4 => ktr_room); (case k9q4 => exact BindsTo.of_eq rfl); (case kBq4 => exact rfl); (case kDq4 => decide +kernel); (case c2q4 => exact rfl); (case c3q4 => exact rfl); (case c4q4 => exact rfl); k_whole; intro g' L' h' tk' cells' FG' F' N' Y' B' X' T' l1; (first | k_lt l1 | replace l1 := allLt_of l1); k_cells Y'; (try simp only [List.cons_append, List.nil_append] at N'); (try dsimp only); (try k_fold))))
  (k_with "my sup" => (intro p hp; repeat (first | exact hp | refine List.mem_cons_of_mem _ ?_ | refine List.mem_append_right _ ?_)))
  (k_with "my sub" => repeat (first | exact sub_nil | refine sub_cons (by k_mem) ?_ | (refine sub_app ?_ ?_)))
  (k_with "my and" => first | assumption | exact And.right (by assumption) | exact And.right (And.right (by assumption)) | exact And.right (And.right (And.right (by assumption))) | exact And.right (And.right (And.right (And.right (by assumption)))) | exact And.right (And.right (And.right (And.right (And.right (by assumption))))) | exact And.right (And.right (And.right (And.right (And.right (And.right (by assumption)))))))
  (k_with "my lt" => first | assumption | exact And.left (by assumption) | exact And.left (And.right (by assumption)) | exact And.left (And.right (And.right (by assumption))) | exact And.left (And.right (And.right (And.right (by assumption)))) | exact And.left (And.right (And.right (And.right (And.right (by assumption))))) | exact And.left (And.right (And.right (And.right (And.right (And.right (by assumption)))))) | exact And.left (And.right (And.right (And.right (And.right (And.right (And.right (by assumption))))))) | exact And.left (And.right (And.right (And.right (And.right (And.right (And.right (And.right (by assumption)))))))))
  (k_with "my neq" => ((refine neN ?_); (try dsimp only); first | assumption | exact Ne.symm (by assumption) | exact Nat.ne_of_gt (by walk_at "my lt") | exact Nat.ne_of_lt (by walk_at "my lt") | omega))
  (k_with "my apart" => first | assumption | exact off1_mem (by walk_at "my and") | exact allNe_of (by walk_at "my and") | exact allNe_of (allLt_of (by walk_at "my and")) | exact allNe_of (allLt_app (by walk_at "my and")).2 | exact allNe_of (allLt_app (by walk_at "my and")).1 | exact allNe1 (by walk_at "my and") | exact allNe2 (by walk_at "my and"))
  (k_with "k_ne" => ((refine neN ?_); (try dsimp only); first | assumption | exact Ne.symm (by assumption) | exact Nat.ne_of_gt (by walk_at "my lt") | exact Nat.ne_of_lt (by walk_at "my lt") | fail "k_ne"))
  (k_with "k_mem" => (first | with_reducible assumption | with_reducible exact List.Mem.head _ | ((with_reducible refine' List.mem_cons_of_mem _ ?_); k_mem) | ((with_reducible refine' List.mem_append_left _ ?_); with_reducible assumption) | ((with_reducible refine' List.mem_append_right _ ?_); k_mem) | assumption))
  (k_with "my sup2" => (intro p hp; (try simp only [List.mem_cons, List.mem_append, hp, or_true, true_or])))
  (k_with "CompSrc" => (refine Halt.of ?_))
  (k_with "call ref cons" => (refine Halt.of ?_))
  (k_with "CompEnd" => (refine Halt.of ?_))
  (k_with "pyIter ref" => (refine Halt.of ?_))
  (k_with "exec For Name Tuple cons nil" => (k_here; (rename Fr _ _ _ _ => lF'); (with_unfolding_all refine' For_g' lF' ?_); k_whole))
  (k_with "exec For Name Name cons nil" => (k_here; (rename Fr _ _ _ _ => lF'); (with_unfolding_all refine' For_g' lF' ?_); k_whole))
  (k_with "call type:list" => (k_here; (with_reducible show wpAny _ _ (call (Value.type "list") [Value.ref _]) _ _ _); k_dflt (refine' list_tup12 ?k1q20 ?k2q20 ?k3q20 ?k4q20 ?_; (case k1q20 => k_asm); (case k2q20 => k_asm); (case k3q20 => k_mem); (case k4q20 => assumption); k_whole); intro D' c' h' F' N' l1; (try k_lt l1)))
  (k_with "compareOp NotEq ref ref" => (refine Halt.of ?_))
  (k_with "compareOp Eq ref ref" => (refine Halt.of ?_))
  (k_with "exec For Name Subscript cons nil" => (k_here; (rename Fr _ _ _ _ => lF'); (with_unfolding_all refine' For_g' lF' ?_); k_whole))
  (k_with "ite" => (k_dflt (first | (refine ite_neg (by first | assumption | (simp only [decide_eq_true_eq]; omega)) ?_) | (refine ite_pos (by first | assumption | (simp only [decide_eq_true_eq]; omega)) ?_))))
  (k_with "call builtin:len cons" => (k_here; k_dflt (refine' len_script ?k1q25 ?k2q25 ?k3q25 ?k4q25 ?_; (case k1q25 => k_asm); (case k2q25 => assumption); (case k3q25 => assumption); (case k4q25 => assumption); k_whole)))
  (k_with "subscriptTail Name Constant ref int" => (k_here; k_dflt (refine' tab_item ?k1q26 ?k2q26 ?k3q26 ?k4q26 ?k5q26 ?k6q26 ?_ ?k7q26; (case k1q26 => k_asm); (case k2q26 => k_mem); (case k3q26 => assumption); (case k4q26 => decide); (case k5q26 => decide); (case k6q26 => decide); (case k7q26 => with_unfolding_all rfl); k_whole); intro t9'))
  (k_with "call ref" => (refine Halt.of ?_))
  (k_with "subscriptTail Name IfExp ref str" => (k_here; k_dflt (refine' topItem_K ?Fq28 ?Xq28 ?lq28 ?kq28 ?eq28 ?_; (case Fq28 => k_asm); (case Xq28 => k_asm); (case lq28 => k_is); (case kq28 => k_keys); (case eq28 => k_is))))
  (k_with "subscriptTail Subscript Name IfExp Constant ref str" => (k_here; k_dflt (refine' topItem_K ?Fq29 ?Xq29 ?lq29 ?kq29 ?eq29 ?_; (case Fq29 => k_asm); (case Xq29 => k_asm); (case lq29 => k_is); (case kq29 => k_keys); (case eq29 => k_is))))
  (k_with "exec Assign cons Subscript" => ((rename LMark => mk9'); clear mk9'; refine Halt.of ?_))
  (k_with "subscriptTail Call Name nil nil BinOp ref int" => (k_here; k_dflt (refine' menu_item ?k1q31 ?k2q31 ?k3q31 ?k4q31 ?k5q31 ?k6q31 ?_ ?k7q31; (case k1q31 => k_asm); (case k2q31 => k_mem); (case k3q31 => assumption); (case k4q31 => decide); (case k5q31 => rfl); (case k6q31 => decide); (case k7q31 => with_unfolding_all rfl); k_whole); refine Halt.of ?_))
  (k_with "subscriptTail List cons BinOp ref int" => (k_here; k_dflt (refine' menu_item ?k1q32 ?k2q32 ?k3q32 ?k4q32 ?k5q32 ?k6q32 ?_ ?k7q32; (case k1q32 => k_asm); (case k2q32 => k_mem); (case k3q32 => exact .cons _ _ (.cons _ _ .nil)); (case k4q32 => decide); (case k5q32 => rfl); (case k6q32 => decide); (case k7q32 => with_unfolding_all rfl); k_whole); refine Halt.of ?_))
  (k_with "subscriptTail Name Constant ref int" => (k_here; (with_reducible show wpAny _ _ (subscriptTail _ _ (Value.ref _) (Value.int 0 _)) _ _ _); k_dflt (refine' tup_fst ?k1q33 ?k2q33 ?_ ?k6q33; (case k1q33 => k_asm); (case k2q33 => k_mem); (case k6q33 => with_unfolding_all rfl); k_whole); (try dsimp only)))
  (k_with "subscriptTail Name Constant ref int" => (k_here; (with_reducible show wpAny _ _ (subscriptTail _ _ (Value.ref _) (Value.int 1 _)) _ _ _); k_dflt (refine' tup_snd ?k1q34 ?k2q34 ?_ ?k6q34; (case k1q34 => k_asm); (case k2q34 => k_mem); (case k6q34 => with_unfolding_all rfl); k_whole); (try dsimp only)))
  (k_with "subscriptTail Subscript Name UnaryOp Constant ref int" => (k_here; (with_reducible show wpAny _ _ (subscriptTail _ _ (Value.ref _) (Value.int 0 _)) _ _ _); k_dflt (refine' tup_fst ?k1q35 ?k2q35 ?_ ?k6q35; (case k1q35 => k_asm); (case k2q35 => k_mem); (case k6q35 => with_unfolding_all rfl); k_whole); (try dsimp only)))
  (k_with "subscriptTail Subscript Name UnaryOp Constant ref int" => (k_here; (with_reducible show wpAny _ _ (subscriptTail _ _ (Value.ref _) (Value.int 1 _)) _ _ _); k_dflt (refine' tup_snd ?k1q36 ?k2q36 ?_ ?k6q36; (case k1q36 => k_asm); (case k2q36 => k_mem); (case k6q36 => with_unfolding_all rfl); k_whole); (try dsimp only)))
  (k_with "binaryOp Mult ref int" => (k_here; (with_reducible show wpAny _ _ (binaryOp Operator.Mult (Value.ref _) (Value.int _ _)) _ _ _); k_dflt (refine' KMa.mul ?Fq37 ?Nq37 ?lq37 ?loq37 ?hiq37 ?zq37 ?eq37 ?_; (case Fq37 => k_asm); (case Nq37 => k_asm); (case lq37 => exact ⟨_, News.get (by k_asm) (List.Mem.head _), rfl, _, rfl⟩); (case loq37 => decide); (case hiq37 => decide); (case zq37 => exact Nat.le_of_ble_eq_true rfl); (case eq37 => exact rfl); k_whole); intro D' h' F' N' l1; (try k_lt l1)))
  (k_with "binaryOp Mod int int" => (k_here; (with_reducible show wpAny _ _ (binaryOp Operator.Mod (Value.int _ _) (Value.int 3 _)) _ _ _); k_dflt (refine' mod3 ?_); intro n9' t9' tk9' hn9'))
  (k_with "subscriptTail Name Constant ref int" => (k_here; (with_reducible show wpAny _ _ (subscriptTail _ _ (Value.ref _) (Value.int (-1) _)) _ _ _); k_dflt (refine' last_item ?k1q39 ?k2q39 ?k3q39 ?k4q39 ?_ ?k6q39; (case k1q39 => k_asm); (case k2q39 => k_mem); (case k3q39 => assumption); (case k4q39 => assumption); (case k6q39 => with_unfolding_all rfl); k_whole); (try dsimp only)))
  (k_with "subscriptTail Name UnaryOp ref int" => (k_here; (with_reducible show wpAny _ _ (subscriptTail _ _ (Value.ref _) (Value.int (-1) _)) _ _ _); k_dflt (refine' last_item ?k1q40 ?k2q40 ?k3q40 ?k4q40 ?_ ?k6q40; (case k1q40 => k_asm); (case k2q40 => k_mem); (case k3q40 => assumption); (case k4q40 => assumption); (case k6q40 => with_unfolding_all rfl); k_whole); (try dsimp only)))
  w_on; o_law
  refine holds_openX (q := qv) (loose := lsn) (Xt := xtX) (XP := XL qv []) (Yf := obsZ asL) (Ya := valZ kall 202 468) (N := 2654) left_run (fun s e => xl_of s (Bool.and_eq_true_iff.mp e).1) XL.keeps (by rfl) (by rfl) (by rfl) (fun s e => recFacts_of (Bool.and_eq_true_iff.mp e).2) (by rfl) (by first | assumption | decide +kernel) (by decide +kernel) ⟨rfl, rfl, rfl, rfl, rfl, by decide +kernel⟩ ?hw ?hc
  case hw => w_witness2
  rename _ = true => said; clear said
  k_fill
  intro w s₀ s₁ mg mb G y fa o pm cd doc dV kV ho hdd hcd hD hmg hg args vals as L hpre hlay hrd hwl hlo
  have KX : InK kall w s₁.heap := InK.keeps w _ _ (z_facts head_keys y).2.1 (Laid.keeps L)
  clear y
  have X39 : (kfrag w.params).In s₁.heap := kall_in KX
  have hT9 : TabsAt [(46, 44)] s₁.heap := List.forall_mem_cons.mpr ⟨⟨⟨_, _, _, _, _, _, _, _, _, KX 46 _ rfl, rfl, rfl, rfl, rfl, rfl, rfl, rfl, rfl, by decide⟩, KX 44 _ rfl⟩, fun _ h => absurd h List.not_mem_nil⟩
  clear KX
  have X := (Ground.X G).1
  have V := (Ground.X G).2
  refine Ground.open G ?_
  intro T B D TE TW
  try (refine guard_noD D (by decide +kernel) ?_; clear D)
  obtain ⟨_, _, M⟩ := bmod_of_top T
  have TA := at_of_top T
  try (obtain ⟨_, _, he, B0⟩ := based_of_top T rfl hmg ho hdd; have he' : cd = _ := he; subst he'; clear he)
  clear hmg
  wrow_args hpre hlay hrd hwl hlo
  first | refine callC_kw (enter_call ?_) | refine enter_call ?_
  w_top on
  refine law_post hT9 (fun _ _ => rfl) ?_
  w_call any ho hdd hcd hD T F
  clear hdd TA
  kn_ghosts F T
  k_drop
  k_steps
  rename IsRange _ _ _ _ _ _ _ _ => r1
  rename Fr _ _ _ _ => F1
  rename News _ _ _ _ => N1
  rename IntsAre _ _ => hI
  rename Heap.IsList (ghostOf _ _) _ _ => hsc
  rename PyData.layable0 _ = true => hlay1
  rename List Int => ns
  refine Halt.mk (LCg.CompSrc.range (n := 41) rfl F1 N1 r1 rfl rfl (by decide) ?_)
  intro g1
  refine compRest_inv (fun i zs nw => nw = _ ∧ IntsAre zs (tab i (gv ns))) ⟨rfl, IntsAre.nil⟩ ?_ ?_
  · clear F1 N1 r1
    rintro i zs nw hi ⟨rfl, hz⟩ v I oI C oC D m₂ h tk E' ⟨t, rfl⟩ hC hx F' N' off ne
    by_cases hlt : i < ns.length
    · k_steps
      exact Halt.mk (compEnd_same (by k_asm) (by k_asm) (by assumption) trivial ⟨rfl, ints_snoc hz (gv_lt hlt)⟩)
    · k_steps
      exact Halt.mk (compEnd_same (by k_asm) (by k_asm) (by assumption) trivial ⟨rfl, ints_snoc hz (gv_ge hlt)⟩)
  clear F1 N1 r1
  rintro zs nw ⟨rfl, hz⟩
  intro Dg h1 tk1 F1 N1 off1
  k_steps
  refine Halt.mk ?_
  rename Fr _ _ _ _ => F2
  rename News _ _ _ _ => N2
  refine' c_primes () _ _ _ _ _ _ _ _ _ _ _ _ _ _ _ _ _ _ ?bB ?bF ?bX ?bN ?bT ?bk ?bd ?bu ?_
  case bB => k_asm
  case bF => k_asm
  case bX => k_asm
  case bN => k_asm
  case bT => k_asm
  case bk => rfl
  case bd => ktr_room
  case bu => ktr_room
  clear F2 N2
  intro v' tl1 h2 tk2 F2 N2 A1 ⟨r', ys', k', e', m', p'⟩
  subst e'
  k_steps
  intro t9 j9 hj9
  obtain ⟨hp0, hpb⟩ := primes_ok hj9
  generalize primesL.getD j9 0 = p at hp0 hpb
  clear m' p'
  k_steps
  intro t8 j8 hj8
  obtain ⟨sh, hsh, hS⟩ : ∃ sh : Int, ([9, 1] : List Int).getD j8 0 = sh ∧ (sh = 9 ∨ sh = 1) := ⟨_, rfl, by
    match j8, hj8 with
    | 0, _ => exact .inl rfl
    | 1, _ => exact .inr rfl⟩
  rw [hsh]
  clear hsh hj8 hj9
  have mk9 : LMark := .mk
  k_steps
  refine Halt.mk ?_

  rename Fr _ _ _ _ => F3
  rename News _ _ _ _ => N3
  refine mod_mid (sh := sh) (Str.ofString "modulus") F3 N3 ?st ?rest
  case st =>
    rcases hS with rfl | rfl
    · k_steps
      exact ⟨rfl, 164, 82, -18, _, _, rfl, by k_asm, by k_asm, .inl ⟨rfl, rfl, rfl⟩, by decide, by decide⟩
    · k_steps
      exact ⟨rfl, 167, 2, -2, _, _, rfl, by k_asm, by k_asm, .inr ⟨rfl, rfl, rfl⟩, by decide, by decide⟩
  clear F3 N3
  intro Mo ma mb' h3 tk3 F3 N3 hM hma hmb
  have hs0 : 0 < sh := by omega
  have hs10 : sh < 10 := by omega
  k_steps
  rename Fr _ _ _ _ => F4
  rename News _ _ _ _ => N4
  have hcc : @Ne Nat (s₁.heap.objs.size + 1) 44 := by walk_at "my neq"
  obtain ⟨NN, hNN, N4, hr44, hND, hN4, hmT, hmG⟩ := law_led N4 (by assumption) (by assumption) (by first | assumption | exact allLt_of (by assumption)) A1 off1 hcc
  have hJ0 : RowsJ w Mo ma mb' p sh 1000000 _ NN 0 _ := ⟨#[], [], 0, [], rfl, (by first | exact trivial | simp [TriplesOk]), hr44, hND, hN4, rfl, fun j hj => absurd hj (Nat.not_lt_zero _)⟩
  refine Halt.mk (turns_tup_g (n := 3) [Str.ofString "k", Str.ofString "drawn"] rfl (AllBare.of_eq hg) F4 N4 (List.mem_cons_of_mem _ (List.mem_cons_of_mem _ hmT)) rfl (fun i nw => RowsJ w Mo ma mb' p sh 1000000 _ NN i nw) hJ0 ?turn1 ?done1)
  case turn1 =>
    clear F4 N4 hJ0
    rintro i v u nw h tk gs own I hi hv ⟨ps, vs, kk, tl, rfl, htr, hr4, hD, h44, hlen, hrow⟩ hG hoff hown ⟨oI, hoI⟩ F' N'
    obtain ⟨k0, tk0, rfl, hk0⟩ := pick3 hv
    obtain ⟨R1, hR1, N5, hD5, h45, ho5, hs5⟩ := turn_led N' hoff hown (hN4 _ hmT) (hND _ hmT) hD h44
    clear N'
    have g1 := hs5 _ (List.mem_append_right _ hmG)
    have hk1 : (0 : Int) ≤ (k0 : Int) := by omega
    have hk2 : (k0 : Int) ≤ 29 := by omega
    have hzl : zs.length = 41 := by rw [hz.length, tab_length]
    k_steps
    refine Halt.mk ?_
    rename Fr _ _ _ _ => F6
    rename News _ _ _ _ => N6
    rename IntsAre _ (List.take _ _) => hI6
    obtain ⟨e6, he6, hI6⟩ : ∃ e6, e6 = _ ∧ IntsAre _ e6 := ⟨_, rfl, hI6⟩
    have h12 : e6.length = 12 := by
      rw [he6]
      simp only [List.length_take, List.length_drop, tab_length]
      omega
    refine' c_pairs _ _ _ _ _ _ _ _ _ _ _ _ _ _ _ _ _ _ _ _ _ _ _ _ _ _ ?eB ?eF ?eX ?eN ?eT ?ek ?el ?ei ?en ?ep ?es ?et ?ed ?eu ?_
    case eB => k_asm
    case eF => exact F6
    case eX => k_asm
    case eN => exact N6
    case eT => k_asm
    case ek => rfl
    case el => exact List.Mem.head _
    case ei => exact hI6
    case en => exact h12
    case ep => exact hp0
    case es => exact hs0
    case et => exact hs10
    case ed => ktr_room
    case eu => ktr_room
    clear F6 N6
    intro v7 tl7 h7 tk7 F7 N7 A7 ⟨r7, y7, k7, e7, m7, p7⟩
    subst e7
    obtain ⟨R2, hR2, N7, h47, hD7, hmd, ht7, hs7⟩ := turn_led2 N7 A7 (by assumption) hr4 h45 hD5
    k_steps
    refine Halt.mk ?_
    refine' c_init Mo ma mb' _ _ _ e6 p _ ps _ _ _ _ _ _ _ _ _ _ _ _ _ _ _ _ _ _ ?fB ?fF ?fX ?fN ?fH ?ft ?fT ?fk ?fG ?fM (List.mem_cons_of_mem _ hmd) hI6 ?fn ?fp ?fd ?fu ?_
    case fB => k_asm
    case fF => k_asm
    case fX => k_asm
    case fN => exact N7
    case fH => exact h47
    case ft => exact htr
    case fT => k_asm
    case fk => rfl
    case fG => exact hG
    case fM => exact hM
    case fn => exact h12
    case fp => exact hp0
    case fd => ktr_room
    case fu => ktr_room
    clear F7
    intro x8 tl8 h8 tk8 gs8 ps8 ht8 G8 F8 N8 A8 f8
    have hD8 : ∀ q ∈ tl8 ++ R2, q.1 ≠ _ := fun q hq => (List.mem_append.mp hq).elim (fun hq => A8 q hq _ (List.mem_cons_of_mem _ List.mem_cons_self)) (hD7 q)
    replace N8 := swap_mid N8
    have hl3 : vs.length ≤ 2 := by omega
    k_steps
    rename News _ _ _ _ => N9
    rename Fr _ _ _ _ => F9
    exact turn1_end F9 G8 N9 (by assumption) A8 A7 (by assumption) hR1 hR2 hoff hoI hD8 h47 hr4 ht8 hlen hrow m7 p7 f8 (rel_init hp0 e6) (Bd.init hp0 hpb) (Sm.fmod hp0 hpb _) (Over.set (Over.set Over.over rfl) rfl)
  clear F4 N4 hJ0
  rintro h4 tk4 gs4 u4 nw G4 F4 N4 ⟨ps, vs, kk, tl, rfl, htr, hr4, hD, h44, hlen, hrow⟩
  have g1 := List.mem_append_right tl hmG
  have hzl : zs.length = 41 := by rw [hz.length, tab_length]
  k_steps
  rename Fr _ _ _ _ => F5
  rename News _ _ _ _ => N5
  rename IntsAre _ (List.take _ _) => hI5
  obtain ⟨N5b, hJ5⟩ := rows_led N5 (by assumption) htr hr4 hD h44 hlen hrow
  have hJ6 : RowsJ w Mo ma mb' p sh (1000000 + 0 * 1100000) _ _ (3 + 0) _ := hJ5
  have h5l := hI5.length
  simp only [List.length_take, List.length_drop, tab_length] at h5l
  refine Halt.mk (turns_list_g (n := 2) [Str.ofString "number"] rfl G4 F5 N5b (List.mem_cons_of_mem _ (List.mem_cons_of_mem _ (List.mem_append_right _ List.mem_cons_self))) (by omega) (fun i nw => RowsJ w Mo ma mb' p sh (1000000 + i * 1100000) _ _ (3 + i) nw) hJ6 ?turn2 ?done2)
  case turn2 =>
    clear F5 N5 N5b hJ5 hJ6 hrow hlen htr hD h44
    rintro i2 v2 u2 nw2 h2 tk2 gs2 own2 I2 hi2 hv2 ⟨ps2, vs2, kk2, tl2, rfl, ht2, hr2, hD2, h42, hlen2, hrow2⟩ hG2 hoff2 hown2 ⟨oI2, hoI2⟩ F' N'
    w_top off
    obtain ⟨uz, rfl⟩ := ints_at hI5 hv2
    obtain ⟨z2, hz2, hzb2⟩ : ∃ z2, List.getD (List.take (min 4 (tab 41 (gv ns)).length - 2) (List.drop 2 (tab 41 (gv ns)))) i2 0 = z2 ∧ Builtin.Int.intBits z2 ≤ 1048576 := ⟨_, rfl, slice_bits hlay1 hi2⟩
    rw [hz2]
    clear hz2 hv2
    obtain ⟨R2, hR2, N6, hD6, h46, ho6, hs6⟩ := turn_led N' hoff2 hown2 (h42 _ (List.mem_append_right _ List.mem_cons_self)) (hD2 _ (List.mem_append_right _ List.mem_cons_self)) hD2 h42
    clear N'
    k_steps
    refine Halt.mk ?_
    rename Fr _ _ _ _ => F7
    rename News _ _ _ _ => N7
    rw [abs_eq]
    refine' c_deed _ vs2 _ (3 + i2) (z2.natAbs : Int) sh _ _ _ (1000000 + i2 * 1100000) _ ma mb' p ps2 _ _ _ _ _ _ _ _ _ _ _ _ _ _ _ _ _ _ ?gBw0 ?gFw0 ?gXw0 ?gNw0 ?gHw0 ?gtw0 ?gTw0 ?gkw0 ?gGw0 ?gMw0 ?gpw0 ?glw0 ?gnw0 ?g0w0 ?g4w0 ?grw0 ?gzw0 ?gbw0 ?gaw0 ?gmw0 ?gsw0 ?gSw0 ?gPw0 ?gQw0 ?gdw0 ?guw0 ?_
    case gBw0 => k_asm
    case gFw0 => exact F7
    case gXw0 => k_asm
    case gNw0 => exact N7
    case gHw0 => exact all_cons hr2 h46
    case gtw0 => exact ht2
    case gTw0 => k_asm
    case gkw0 => rfl
    case gGw0 => exact hG2
    case gMw0 => exact hM
    case gpw0 => exact hp0
    case glw0 => exact List.Mem.head _
    case gnw0 => exact hlen2
    case g0w0 => omega
    case g4w0 => omega
    case grw0 =>
      intro j hj
      obtain ⟨v, hv, hR⟩ := hrow2 j hj
      exact ⟨v, hv, hR.mono fun q hq => List.mem_cons_of_mem _ (hs6 q hq)⟩
    case gzw0 => omega
    case gbw0 => exact nat_bits hzb2
    case gaw0 => exact hma
    case gmw0 => exact hmb
    case gsw0 => exact hs0
    case gSw0 => exact hs10
    case gPw0 => exact hpb
    case gQw0 => omega
    case gdw0 => ktr_room
    case guw0 => ktr_room
    clear F7 N7
    intro x8 tl8 h8 tk8 gs8 ps8 ht8 G8 F8 N8 A8 f8
    have hD8 : ∀ q ∈ tl8 ++ R2, q.1 ≠ _ := fun q hq => (List.mem_append.mp hq).elim (fun hq => A8 q hq _ (List.mem_cons_of_mem _ List.mem_cons_self)) (hD6 q)
    replace N8 := swap_mid N8
    have hl3 : vs2.length ≤ 4 := by omega
    k_steps
    rename News _ _ _ _ => N9
    rename Fr _ _ _ _ => F9
    exact turn2_end F9 G8 N9 A8 hR2 hoff2 hoI2 hD6 h46 hr2 ht8 hlen2 hrow2 (by omega) (f8.up (by omega)) (Over.set Over.over rfl)
  clear F5 N5 N5b hJ5 hJ6 hrow hlen htr hD h44
  rintro h5 tk5 gs5 u5 nw5 G5 F5 N5 ⟨ps5, vs5, kk5, tl5, rfl, ht5, hr5, hD5, h45, hlen5, hrow5⟩
  w_top off
  obtain ⟨Dr, R5, hDr, N5b, hD5b, h45b, hrow5b, g5⟩ := rows_name N5 hD5 h45 hrow5 hmG
  clear N5 hD5 h45 hrow5
  revert N5b F5
  repeat (rename News _ _ _ _ => zz; clear zz)
  repeat (rename Fr _ _ _ _ => zz; clear zz)
  repeat (rename Above _ _ => zz; clear zz)
  intro F5 N5b
  subst hDr
  k_steps
  refine Halt.mk ?_
  rename Fr _ _ _ _ => F6
  rename News _ _ _ _ => N6
  refine Halt.mk (turns_list_g (n := 5) [Str.ofString "row"] rfl G5 F6 N6 (List.Mem.tail _ (List.Mem.head _)) hlen5 (fun i nw => nw = (44, tabO ps5) :: (Dr, W.listOf vs5.toArray kk5) :: R5) rfl ?turn3 ?done3)
  case turn3 =>
    clear F6 N6
    rintro i3 v3 u3 nw3 h3t tk3t gs3 own3 I3 hi3 hv3 rfl hG3 hoff3 hown3 ⟨oI3, hoI3⟩ F' N'
    obtain ⟨v3', hv3', r3, a3, b3, c3, rfl, ⟨l3, x3, y3, k3, m31, m32, m33, m34⟩, rel3, bd3, sm3⟩ := hrow5b i3 hi3
    obtain rfl : Value.ref r3 = v3 := Option.some.inj (hv3'.symm.trans hv3)
    clear hv3 hv3'
    obtain ⟨N3, hN3, N', hs3⟩ : ∃ N3, N3 = own3 ++ (44, tabO ps5) :: (Dr, W.listOf vs5.toArray kk5) :: R5 ∧ News _ _ _ N3 ∧ ∀ q ∈ R5, q ∈ N3 := ⟨_, rfl, N', fun q hq => List.mem_append_right _ (List.mem_cons_of_mem _ (List.mem_cons_of_mem _ hq))⟩
    have e31 := hs3 _ m31
    have e32 := hs3 _ m32
    have e33 := m33.mono hs3
    obtain ⟨d3, D3, g31, g32, T3, u31, v31, u32, v32, k31, k32, k33, k34, k35, tp3, t123, ys3, f31, f32, f33, f34, f35, f36, f37⟩ := m34.mono hs3
    k_steps
    refine Halt.mk ?_
    rename Fr _ _ _ _ => F7
    rename News _ _ _ _ => N7
    refine' c_flat _ y3 k3 a3 b3 _ _ _ _ _ _ _ _ _ _ _ _ _ _ _ _ _ _ _ _ _ _ ?gBw1 ?gFw1 ?gXw1 ?gNw1 ?gTw1 ?gkw1 ?glw1 ?gPw1 ?gpw1 ?gsw1 ?gSw1 ?gdw1 ?guw1 ?_
    case gBw1 => k_asm
    case gFw1 => exact F7
    case gXw1 => k_asm
    case gNw1 => exact N7
    case gTw1 => k_asm
    case gkw1 => rfl
    case glw1 => exact List.Mem.tail _ e32
    case gPw1 => exact e33.mono fun q hq => List.Mem.tail _ hq
    case gpw1 => exact hp0
    case gsw1 => exact hs0
    case gSw1 => exact hs10
    case gdw1 => ktr_room
    case guw1 => ktr_room
    clear F7
    intro v8 tl8 h8 tk8 F8 N8 A8 ⟨r8, w8, k8, e8, m8, i8⟩
    subst e8
    k_steps
    refine Halt.mk ?_
    rename Fr _ _ _ _ => F9
    rename News _ _ _ _ => N9
    refine cmp_ne_same N9 (List.mem_append_right _ List.mem_cons_self) (List.mem_append_left _ m8) f37 i8 (tab_of_rel rel3) (by ke_room) ?_
    k_steps
    rename Fr _ _ _ _ => F9
    rename News _ _ _ _ => N9

    exact turn3_end F9 hG3 N9 (fun q hq => List.mem_append_right _ (List.mem_cons_of_mem _ (hN3 ▸ hq))) hoff3 (Over.set Over.over rfl)
  clear F6 N6
  rintro h6 tk6 gs6 u6 nw6 G6 F6 N6 rfl
  k_steps
  refine Halt.mk ?_
  rename Le2 _ => hn9
  rename IsRange _ _ _ _ _ _ _ _ => r7
  rename Fr _ _ _ _ => F7
  rename News _ _ _ _ => N7
  obtain ⟨LED, hLED, N7b, h4L, mP, mz, me, mDr, hsR⟩ := pow_led N7 (by walk_at "my neq") (by walk_at "my neq") (by walk_at "my neq") (by walk_at "my neq") (by walk_at "my neq") (by walk_at "my neq") hr5 h45b
  clear N7 hLED
  obtain ⟨vL, hvL, rL, aL, bL, cL, rfl, ⟨lL, xL, yL, kL, mL1, mL2, mL3, mL4⟩, relL, bdL, smL⟩ := hrow5b 4 (by decide)
  have eL1 := hsR _ mL1
  have eL2 := hsR _ mL2
  have eL3 := mL3.mono hsR
  have eL4 := mL4.mono hsR
  refine range_loopM _ rfl r7 (small_le2 hn9) (size_le2 _) F7 N7b (PowJ sh p aL bL (Str.ofString "power") [Str.ofString "turn", Str.ofString "power"] _ (tabO ps5) LED) ⟨_, _, _, [], _, Over.one Over.refl rfl, rfl, h4L, mP, prs_pow me mz⟩ ?turn4 ?done4
  case turn4 =>
    clear F7 N7b r7
    rintro I4 i4 m4 nw4 t4 h4t tk4t hI4 hi4 ⟨l4, y4, k4, tl4, u4', rfl, rfl, h44', m41, P4⟩ off4 F' N'
    dsimp only at F'
    have o44 := (ne_spread off4).1
    have s41 := pwP_sp (sh := sh) hp0 hpb aL bL i4
    have s42 := bdL.sp (by decide)
    k_steps
    refine Halt.mk ?_
    rename Fr _ _ _ _ => F8
    rename News _ _ _ _ => N8
    refine' c_times _ _ y4 yL k4 kL (pwP sh p aL bL i4).1 (pwP sh p aL bL i4).2 aL bL _ _ _ _ _ _ _ _ _ _ _ _ _ _ _ _ _ _ _ _ _ _ ?gBw2 ?gFw2 ?gXw2 ?gNw2 ?gTw2 ?gkw2 ?glw2 ?gPw2 ?gmw2 ?gQw2 ?gaw2 ?gbw2 ?gpw2 ?gsw2 ?gSw2 ?gdw2 ?guw2 ?_
    case gBw2 => k_asm
    case gFw2 => exact F8
    case gXw2 => k_asm
    case gNw2 => exact N8
    case gTw2 => k_asm
    case gkw2 => rfl
    case glw2 => exact List.Mem.tail _ (List.Mem.tail _ m41)
    case gPw2 => exact P4.mono fun q hq => List.Mem.tail _ (List.Mem.tail _ hq)
    case gmw2 => exact List.Mem.tail _ (List.Mem.tail _ (List.mem_append_right _ eL2))
    case gQw2 => exact eL3.mono fun q hq => List.Mem.tail _ (List.Mem.tail _ (List.mem_append_right _ hq))
    case gaw2 => exact s41
    case gbw2 => exact s42
    case gpw2 => exact hp0
    case gsw2 => exact hs0
    case gSw2 => exact hs10
    case gdw2 => ktr_room
    case guw2 => ktr_room
    clear F8 N8
    intro v8 tl8 h8 tk8 F8 N8 A8 ⟨r8, w8, k8, e8, m8, P8⟩
    subst e8
    k_steps
    rename Fr _ _ _ _ => F9
    rename News _ _ _ _ => N9

    exact pow_turn_end F9 N9 A8 off4 h44' m8 P8 (Over.set (Over.set (Over.set Over.over rfl) rfl) rfl) rfl
  rintro m6 nw7 h7 tk7 ⟨l6, y6, k6, tl6, u6', rfl, rfl, h46', m61, P6⟩ F6 N6
  obtain ⟨dL, DL, gL1, gL2, TL, uL1, vL1, uL2, vL2, kL1, kL2, kL3, kL4, kL5, tpL, t12L, ysL, fL1, fL2, fL3, fL4, fL5, fL6, fL7⟩ := id eL4
  k_steps
  refine Halt.mk ?_
  rename Fr _ _ _ _ => F7
  rename News _ _ _ _ => N7

  refine' c_pow _ cL _ _ _ ma mb' p ps5 _ _ _ _ _ _ _ _ _ _ _ _ _ _ _ _ _ _ ?gBw3 ?gFw3 ?gXw3 ?gNw3 ?gHw3 ?gtw3 ?gTw3 ?gkw3 ?gGw3 ?gMw3 ?gpw3 ?gxw3 ?gsw3 ?gPw3 ?gnw3 ?gdw3 ?guw3 ?_
  case gBw3 => k_asm
  case gFw3 => exact F7
  case gXw3 => k_asm
  case gNw3 => exact N7
  case gHw3 => exact h46'
  case gtw3 => exact ht5
  case gTw3 => k_asm
  case gkw3 => rfl
  case gGw3 => exact G6
  case gMw3 => exact hM
  case gpw3 => exact hp0
  case gxw3 => exact eL4.mono fun q hq => List.mem_append_right _ hq
  case gsw3 => exact smL
  case gPw3 => exact hpb
  case gnw3 => exact hn9
  case gdw3 => ktr_room
  case guw3 => ktr_room
  clear F7 N7 F6 N6
  intro x7 tl7 h7 tk7 gs7 ps7 ht7 G7 F7 N7 A7 f7
  dsimp only [PySem.W.CmpBack]
  have h47' : ∀ q ∈ tl7 ++ (tl6 ++ LED), q.1 ≠ 44 := led44 A7 h46'
  obtain ⟨d7, D7, g71, g72, T7, u71, v71, u72, v72, k71, k72, k73, k74, k75, tp7, t127, ys7, f71, f72, f73, f74, f75, f76, f77⟩ := id f7
  k_steps
  refine Halt.mk ?_
  rename Fr _ _ _ _ => F8
  rename News _ _ _ _ => N8

  refine' c_flat _ y6 k6 (pwP sh p aL bL _).1 (pwP sh p aL bL _).2 _ _ _ _ _ _ _ _ _ _ _ _ _ _ _ _ _ _ _ _ _ _ ?iBw4 ?iFw4 ?iXw4 ?iNw4 ?iTw4 ?ikw4 ?ilw4 ?iPw4 ?ipw4 ?isw4 ?iSw4 ?idw4 ?iuw4 ?_
  case iBw4 => k_asm
  case iFw4 => exact F8
  case iXw4 => k_asm
  case iNw4 => exact N8
  case iTw4 => k_asm
  case ikw4 => rfl
  case ilw4 => exact List.Mem.tail _ (List.Mem.tail _ (List.mem_append_right _ m61))
  case iPw4 => exact P6.mono fun q hq => List.Mem.tail _ (List.Mem.tail _ (List.mem_append_right _ hq))
  case ipw4 => exact hp0
  case isw4 => exact hs0
  case iSw4 => exact hs10
  case idw4 => ktr_room
  case iuw4 => ktr_room
  clear F7 N7 F8
  intro v9 tl9 h9 tk9 F9 N9 A9 ⟨r9, w9, k9, e9, m9, i9⟩
  subst e9
  k_steps
  refine Halt.mk ?_
  rename Fr _ _ _ _ => F10
  rename News _ _ _ _ => N10

  refine cmp_ne_same N10 (List.mem_append_right _ List.mem_cons_self) (List.mem_append_left _ m9) f77 i9 (tab_of_rel (rel_pw hp0 hma hmb relL hn9)) (by ke_room) ?_
  k_steps
  refine Halt.mk ?_
  rename Fr _ _ _ _ => F11
  rename News _ _ _ _ => N11
  obtain ⟨N11b, H11⟩ := root_led N11 (by assumption)
  revert N11b F11
  repeat (rename News _ _ _ _ => zz; clear zz)
  repeat (rename Fr _ _ _ _ => zz; clear zz)
  repeat (rename Above _ _ => zz; clear zz)
  intro F11 N11b
  refine' c_init Mo ma mb' _ _ _ [-sh, 0, 0, 0, 0, 0, 1, 0, 0, 0, 0, 0] p _ ps7 _ _ _ _ _ _ _ _ _ _ _ _ _ _ _ _ _ _ ?jBw5 ?jFw5 ?jXw5 ?jNw5 ?jHw5 ?jtw5 ?jTw5 ?jkw5 ?jGw5 ?jMw5 (List.Mem.head _) ?jiw5 ?jnw5 ?jpw5 ?jdw5 ?juw5 ?_
  case jBw5 => k_asm
  case jFw5 => exact F11
  case jXw5 => k_asm
  case jNw5 => exact N11b
  case jHw5 => exact H11
  case jtw5 => exact ht7
  case jTw5 => k_asm
  case jkw5 => rfl
  case jGw5 => exact G7
  case jMw5 => exact hM
  case jiw5 => exact .cons _ _ (.cons _ _ (.cons _ _ (.cons _ _ (.cons _ _ (.cons _ _ (.cons _ _ (.cons _ _ (.cons _ _ (.cons _ _ (.cons _ _ (.cons _ _ .nil)))))))))))
  case jnw5 => rfl
  case jpw5 => exact hp0
  case jdw5 => ktr_room
  case juw5 => ktr_room
  clear F11 N11b
  intro x12 tl12 h12 tk12 gs12 ps12 ht12 G12 F12 N12 A12 f12
  have H12 := led44 A12 H11
  obtain ⟨d12, D12, g121, g122, T12, u121, v121, u122, v122, k121, k122, k123, k124, k125, tp12, t1212, ys12, f121, f122, f123, f124, f125, f126, f127⟩ := id f12
  replace f12 : Fq w tl12 Mo ma mb' p x12 (rootC sh p) := f12
  have sm12 : Sm (rootC sh p) := Sm.fmod hp0 hpb _
  k_steps
  refine Halt.mk ?_
  rename Fr _ _ _ _ => F13
  rename News _ _ _ _ => N13
  refine' c_mulf _ _ (rootC sh p) (rootC sh p) _ ma mb' p ps12 _ _ _ _ _ _ _ _ _ _ _ _ _ _ _ _ _ _ ?lBw6 ?lFw6 ?lXw6 ?lNw6 ?lHw6 ?ltw6 ?lTw6 ?lkw6 ?lGw6 ?lMw6 ?lpw6 ?lxw6 ?lyw6 ?lzw6 ?ldw6 ?luw6 ?_
  case lBw6 => k_asm
  case lFw6 => exact F13
  case lXw6 => k_asm
  case lNw6 => exact N13
  case lHw6 => exact H12
  case ltw6 => exact ht12
  case lTw6 => k_asm
  case lkw6 => rfl
  case lGw6 => exact G12
  case lMw6 => exact hM
  case lpw6 => exact hp0
  case lxw6 => exact f12.mono fun q hq => List.mem_append_left _ hq
  case lyw6 => exact f12.mono fun q hq => List.mem_append_left _ hq
  case lzw6 => exact sm12.mul sm12
  case ldw6 => ktr_room
  case luw6 => ktr_room
  clear F13 N13
  intro x14 tl14 h14 tk14 gs14 ps14 ht14 G14 F14 N14 A14 f14
  dsimp only [PySem.W.CmpBack]
  obtain ⟨d14, D14, g141, g142, T14, u141, v141, u142, v142, k141, k142, k143, k144, k145, tp14, t1412, ys14, f141, f142, f143, f144, f145, f146, f147⟩ := id f14
  k_steps
  refine Halt.mk ?_
  rename Fr _ _ _ _ => F15
  rename News _ _ _ _ => N15
  refine cmp_eq_same N15 (List.Mem.tail _ (List.Mem.tail _ (List.Mem.tail _ (List.Mem.tail _ (List.Mem.head _))))) (List.Mem.head _) f147 (.cons _ _ (.cons _ _ (.cons _ _ (.cons _ _ (.cons _ _ (.cons _ _ (.cons _ _ (.cons _ _ (.cons _ _ (.cons _ _ (.cons _ _ (.cons _ _ (.nil))))))))))))) (root_tab hp0 hma hmb) (by ke_room) ?_
  repeat leave1
  exact law_end (R := []) F15 (fun q hq => N15 q (by rw [List.mem_singleton.mp hq]; exact List.Mem.tail _ (List.Mem.tail _ (List.Mem.tail _ (List.Mem.tail _ (List.Mem.tail _ (List.Mem.head _))))))) G14 (fun _ => rfl) (post_true _)
end
