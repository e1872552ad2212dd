/-
  What the law's walk asks of its memory, ready to hand. Plain memory, no walk.
-/
import Derived.Test.YbulkarlcModel
namespace Go.Proofs.Ybulkarlc
open Go.RowKit
set_option linter.unusedVariables false

/-- Behind the queue's head and tail. -/
structure S3b (B bg bn nb n : Nat) (W : Nat → Int) (f0 : Int) (w0 w : World) : Prop where
  nums : bg = B + 1 ∧ bn = B + 2 ∧ nb = B + 3
  below : Below B w0 w
  size : w.heap.size = nb + n
  len : (w.cell? ⟨bg, 6, none⟩).isSome = true
  uf : w.frozen? ⟨bg, 6, none⟩ = false
  done : G B bg nb n 0 W f0 [] 0 0 (w.setCell ⟨bg, 6, none⟩ (.int .i64 n)) ∧ Rows2 B bn nb n W (w.setCell ⟨bg, 6, none⟩ (.int .i64 n))

section
variable {B bg bn nb n : Nat} {W : Nat → Int} {f0 : Int} {w0 w : World}

theorem S3b.zero (h : S3 B bg bn nb n W f0 n n w0 w) (hn : ¬ 0 < n) : S3b B bg bn nb n W f0 w0 w := by
  have hu := h.nums
  have h6 : (w.cell? ⟨bg, 6, none⟩).isSome = true := some_of (h.gate 6)
  refine ⟨h.nums, h.below, h.size, h6, h.uf _ _ (by omega), G.start h _ (fun b o hb => ?_) ?_ ?_ ?_ (fun b o => by rw [fs])⟩
  · rw [cs, if_neg (by omega)]
  · rw [cs, if_neg (by omega), if_neg hn, h.gate]; rfl
  · rw [cs, if_neg (by omega), if_neg hn, h.gate]; rfl
  · rw [cs, if_pos (by omega), mp _ h6]; simp

theorem S3b.pos (h : S3 B bg bn nb n W f0 n n w0 w) (hn : 0 < n) : S3b B bg bn nb n W f0 w0 ((w.setCell ⟨bg, 4, none⟩ (.pointer (some ⟨nb, 0, none⟩))).setCell ⟨bg, 5, none⟩ (.pointer (some ⟨nb + (n - 1), 0, none⟩))) := by
  have hu := h.nums
  have h4 : (w.cell? ⟨bg, 4, none⟩).isSome = true := some_of (h.gate 4)
  have h5 : (w.cell? ⟨bg, 5, none⟩).isSome = true := some_of (h.gate 5)
  have h6 : (w.cell? ⟨bg, 6, none⟩).isSome = true := some_of (h.gate 6)
  refine ⟨h.nums, below_set (below_set h.below _ _ (by omega) _) _ _ (by omega) _, by rw [size_set, size_set]; exact h.size, iset _ _ _ _ _ (iset _ _ _ _ _ h6), by rw [fs, fs]; exact h.uf _ _ (by omega), G.start h _ (fun b o hb => ?_) ?_ ?_ ?_ (fun b o => by rw [fs, fs, fs])⟩
  · rw [cs, if_neg (by omega), cs, if_neg (by omega), cs, if_neg (by omega)]
  · rw [cs, if_neg (by omega), cs, if_neg (by omega), cs, if_pos (by omega), mp _ h4, if_pos hn]; rfl
  · rw [cs, if_neg (by omega), cs, if_pos (by omega), mp _ (iset _ _ _ _ _ h5), if_pos hn]; rfl
  · rw [cs, if_pos (by omega), mp _ (iset _ _ _ _ _ (iset _ _ _ _ _ h6))]; simp

theorem ptr_of (x : Option Nat) : ∃ q, ptrOf x = .pointer q := by
  cases x
  · exact ⟨none, rfl⟩
  · exact ⟨_, rfl⟩

theorem pt_one {L : List Nat} (u : Value) (h : u ∈ L.map pt) : u.oneCell' = true := by
  obtain ⟨b, _, rfl⟩ := List.mem_map.1 h
  rfl

/-- The spares' row is full, and stands behind the new row. -/
theorem app_spares {s bs be : Nat} (h : S4 B bg bn nb n s bs W f0 s w0 w) (hsz : (w.setCell ⟨bg, 12, none⟩ (.int .i64 s)).heap.size = be) (hbe : be = bs + 1 + s) (j : Nat) (u : Value) (hj : ((EE bs s).map pt)[j]? = some u) :
    ((w.setCell ⟨bg, 12, none⟩ (.int .i64 s)).alloc (.cells (madeCells #[.pointer none] (s + n)) 37)).cell? ((⟨bs, 0, none⟩ : Addr).add j) = some u := by
  have hu := h.nums
  rw [List.getElem?_map] at hj
  obtain ⟨x, hx, rfl⟩ := Option.map_eq_some_iff.1 hj
  have hm : j < s := by
    have := (List.getElem?_eq_some_iff.1 hx).1
    rw [EE_len] at this; exact this
  have e := EE_get bs s j hm
  rw [hx] at e
  cases e
  rw [add0, ca _ _ _ _ (by omega), cs, if_neg (by omega)]
  have := h.sp (s - 1 - j) (by omega)
  rw [show s - 1 - (s - 1 - j) = j by omega, show bs + 1 + (s - 1 - j) = bs + (s - j) by omega] at this
  exact this

/-- What the two appends of a round ask. -/
theorem push_asks {s bs k be b1 L : Nat} (h : S5 B bg bn nb n s bs W f0 k be w0 w) (hb1 : w.heap.size = b1) (hL : (EL n s nb (EE bs s) k).length = L) :
    (∀ j u, [pt (nb + k)][j]? = some u → ((w.alloc (.cells (madeCells #[.pointer none] (L + 1)) 37)).alloc (.cells #[pt (nb + k)] 37)).cell? ((⟨b1 + 1, 0, none⟩ : Addr).add j) = some u)
    ∧ (∀ j, j < 1 → (((w.alloc (.cells (madeCells #[.pointer none] (L + 1)) 37)).alloc (.cells #[pt (nb + k)] 37)).cell? ⟨b1, 0 + j, none⟩).isSome = true ∧ ((w.alloc (.cells (madeCells #[.pointer none] (L + 1)) 37)).alloc (.cells #[pt (nb + k)] 37)).frozen? ⟨b1, 0 + j, none⟩ = false)
    ∧ (∀ j u, ((EL n s nb (EE bs s) k).map pt)[j]? = some u → (((w.alloc (.cells (madeCells #[.pointer none] (L + 1)) 37)).alloc (.cells #[pt (nb + k)] 37)).setCells b1 0 [pt (nb + k)]).cell? ((⟨be, 0, none⟩ : Addr).add j) = some u)
    ∧ (∀ j, j < L → ((((w.alloc (.cells (madeCells #[.pointer none] (L + 1)) 37)).alloc (.cells #[pt (nb + k)] 37)).setCells b1 0 [pt (nb + k)]).cell? ⟨b1, 1 + j, none⟩).isSome = true ∧ (((w.alloc (.cells (madeCells #[.pointer none] (L + 1)) 37)).alloc (.cells #[pt (nb + k)] 37)).setCells b1 0 [pt (nb + k)]).frozen? ⟨b1, 1 + j, none⟩ = false) := by
  have hbe := h.hbe
  have hu := h.nums
  have base : ∀ j, j < L + 1 → (((w.alloc (.cells (madeCells #[.pointer none] (L + 1)) 37)).alloc (.cells #[pt (nb + k)] 37)).cell? ⟨b1, j, none⟩).isSome = true := fun j hj => by
    rw [ca _ _ _ _ (by simp; omega), cn _ _ _ _ _ hb1.symm, made _ _ _ hj]; rfl
  have zb : ∀ o, ((w.alloc (.cells (madeCells #[.pointer none] (L + 1)) 37)).alloc (.cells #[pt (nb + k)] 37)).frozen? ⟨b1, o, none⟩ = false := fun o => za _ _ _ _ _ (za _ _ _ _ _ (frozen_past _ _ _ (by omega)))
  refine ⟨fun j u hj => ?_, fun j hj => ⟨base _ (by omega), zb _⟩, fun j u hj => ?_, fun j hj => ⟨iset _ _ _ _ _ (base _ (by omega)), by rw [World.frozen?_setCells]; exact zb _⟩⟩
  · rw [add0, cn _ _ _ _ _ (by simp; omega)]
    simpa using hj
  · rw [List.getElem?_map] at hj
    obtain ⟨x, hx, rfl⟩ := Option.map_eq_some_iff.1 hj
    have := h.exp j x hx
    rw [add0, World.cell?_setCells_out b1 _ 0 _ _ (fun e _ => absurd e (by show ¬ be = b1; omega)), ca _ _ _ _ (by simp; omega), ca _ _ _ _ (by omega)]
    exact this

/-- Behind 'admitWaiters': what the checks read. -/
structure Fin6 (B bg bn nb n s bs : Nat) (W : Nat → Int) (f0 : Int) (k be : Nat) (w0 w : World) : Prop where
  g : G B bg nb n s W f0 (EE bs s) k k w
  rows : Rows2 B bn nb n W w
  exp : ∀ m x, (EL n s nb (EE bs s) k)[m]? = some x → w.cell? ⟨be, m, none⟩ = some (pt x)
  below : Below B w0 w

theorem Fin6.of {s bs k be : Nat} {w1 : World} (h : S5 B bg bn nb n s bs W f0 k be w0 w) (hA : At B bg nb n s W f0 (EE bs s) k w w1) : Fin6 B bg bn nb n s bs W f0 k be w0 w1 := by
  have hu := h.nums
  have hb := h.hbe
  refine ⟨hA.g, ⟨fun j hj => ?_, fun j hj => ?_⟩, fun m x hx => ?_, h.below.trans hA.below⟩
  · rw [hA.keep _ _ (by omega) (by omega)]; exact h.rows.ws j hj
  · rw [hA.keep _ _ (by omega) (by omega)]; exact h.rows.row j hj
  · rw [hA.keep _ _ (by omega) (by omega)]; exact h.exp m x hx

theorem Fin6.drew {s bs k be : Nat} (h : Fin6 B bg bn nb n s bs W f0 k be w0 w) : Fin6 B bg bn nb n s bs W f0 k be w0 w.drew :=
  ⟨h.g.of_heap rfl, ⟨h.rows.ws, h.rows.row⟩, h.exp, h.below.drew⟩

/-- The model stops where 'admitWaiters' stops. -/
theorem stop_one {k k' : Nat} (h : Fit n W f0 k) (hs : ¬ (k < n ∧ W k ≤ F W f0 k)) (h' : Fit n W f0 k') (hs' : ¬ (k' < n ∧ W k' ≤ F W f0 k')) : k' = k := by
  rcases Nat.lt_trichotomy k k' with c | c | c
  · exact absurd (h' k c) hs
  · exact c.symm
  · exact absurd (h k' c) hs'

theorem EL_none {L : List Nat} {m : Nat} (h : ¬ m < L.length) : ptrOf L[m]? = .pointer none := by
  rw [List.getElem?_eq_none (by omega)]; rfl
end
end Go.Proofs.Ybulkarlc
