/-
  The law's own model: the row 'expected' as it grows at its head. Plain memory; and 'append' within the capacity.
-/
import Derived.Test.YbulkarlcStage
import Derived.ArgAppend
import Derived.Laws.IdiomCopy
namespace Go.Proofs.Ybulkarlc
open Go.RowKit
set_option linter.unusedVariables false

/-- append of one row of waiters to another that has room. -/
theorem wpList_append43 {ops : Array Oper} {rest : List Oper} {d : Option Tmp} {ty : TypeId} {p : String} {af : Array Edge} {x y : Operand} {a : Act} {w : World} {Q : Exit → Act → World → Prop} (b n cap : Nat) (ad : Addr) (m c : Nat) (news : List Value)
    (hs : a.eval x = .slice (some ⟨b, 0, none⟩) n cap) (hx : a.eval y = .slice (some ad) m c) (hn : news.length = m) (hc : ∀ j u, news[j]? = some u → w.cell? (ad.add j) = some u) (h1c : ∀ u ∈ news, u.oneCell' = true)
    (hroom : n + m ≤ cap) (hsp : ∀ j, j < m → (w.cell? ⟨b, n + j, none⟩).isSome = true ∧ w.frozen? ⟨b, n + j, none⟩ = false)
    (h : wpList Yba.prog ops Q rest (a.put d (.slice (some ⟨b, 0, none⟩) (n + m) cap)) (w.setCells b n news)) :
    wpList Yba.prog ops Q ({ dst := d, op := .call { callee := .builtin .append, args := #[x, y], argTypes := #[43, 43] }, type := ty, pos := p, after := af, guard := none } :: rest) a w :=
  wpList_plain rfl fun K hK => by
    have hi : (Yba.prog.info? 37).map (·.size) = some 1 := by kernel_rfl
    obtain ⟨i, hi1, hi2⟩ := Option.map_eq_some_iff.1 hi
    subst hn
    have hrun := run_append_room_cells (P := Yba.prog) w 43 ty 37 i Yba.underlying43 hi1 b 0 n cap ad news.length c news (by rw [hi2, Nat.mul_one]) hc h1c hroom (fun j hj => by rw [hi2]; simpa using (hsp j hj).1) (fun j hj => by rw [hi2]; simpa using (hsp j hj).2)
    rw [hi2, Nat.mul_one, Nat.zero_add] at hrun
    unfold Oper.wp
    simp [execOp, resolve, invoke, builtin, hs, hx, hrun, Result.andThen]
    exact hK _ _ h

theorem setCells_below {B : Nat} {a : World} (b : Nat) (hb : B ≤ b) : ∀ (vs : List Value) (o : Nat) (w : World), Below B a w → Below B a (w.setCells b o vs)
  | [], _, _, h => h
  | v :: r, o, w, h => setCells_below b hb r (o + 1) _ (below_set h _ _ hb v)

theorem setCells_size (b : Nat) : ∀ (vs : List Value) (o : Nat) (w : World), (w.setCells b o vs).heap.size = w.heap.size
  | [], _, _ => rfl
  | v :: r, o, w => by rw [World.setCells, setCells_size b r]; exact size_set _ _ _

theorem G.setCells {B bg nb n s : Nat} {W : Nat → Int} {f0 : Int} {E0 : List Nat} {k j : Nat} {w : World} (h : G B bg nb n s W f0 E0 k j w) (b o : Nat) (vs : List Value) (h1 : b ≠ bg) (h2 : ¬ (nb ≤ b ∧ b < nb + n)) (h3 : ∀ x, x ∈ EL n s nb E0 j → x ≠ b) :
    G B bg nb n s W f0 E0 k j (w.setCells b o vs) :=
  h.keep (fun b' o' _ hc => World.cell?_setCells_out b vs o w ⟨b', o', none⟩ (fun e _ => by
    exfalso
    have e : b' = b := e
    subst e
    rcases hc with hc | hc | hc
    · exact h1 hc
    · exact h2 hc
    · exact h3 _ hc rfl)) (fun b' o' hb => by rw [World.frozen?_setCells]; exact h.uf b' o' hb)

theorem Rows2.setCells {B bn nb n : Nat} {W : Nat → Int} {w : World} (h : Rows2 B bn nb n W w) (b o : Nat) (vs : List Value) (h1 : b ≠ B) (h2 : b ≠ bn) : Rows2 B bn nb n W (w.setCells b o vs) :=
  ⟨fun j hj => by rw [World.cell?_setCells_out b vs o w _ (fun e _ => absurd e (by show ¬ B = b; omega))]; exact h.ws j hj, fun j hj => by rw [World.cell?_setCells_out b vs o w _ (fun e _ => absurd e (by show ¬ bn = b; omega))]; exact h.row j hj⟩

def pt (b : Nat) : Value := .pointer (some ⟨b, 0, none⟩)

/-- Stage 5: the model has gone k rounds; the row 'expected' lies at be. -/
structure S5 (B bg bn nb n s bs : Nat) (W : Nat → Int) (f0 : Int) (k be : Nat) (w0 w : World) : Prop where
  nums : bg = B + 1 ∧ bn = B + 2 ∧ nb = B + 3 ∧ bs = nb + n
  below : Below B w0 w
  g : G B bg nb n s W f0 (EE bs s) 0 0 w
  rows : Rows2 B bn nb n W w
  hbe : bs + s < be ∧ be < w.heap.size
  exp : ∀ m x, (EL n s nb (EE bs s) k)[m]? = some x → w.cell? ⟨be, m, none⟩ = some (pt x)

theorem EL_len (n s nb : Nat) (E0 : List Nat) : ∀ k, (EL n s nb E0 k).length ≤ E0.length + k
  | 0 => Nat.le_refl _
  | k + 1 => by
    have := EL_len n s nb E0 k
    rw [EL]
    split
    · omega
    · simp; omega

theorem add0 (b j : Nat) : (⟨b, 0, none⟩ : Addr).add j = ⟨b, j, none⟩ := by unfold Addr.add; split <;> simp_all

section
variable {B bg bn nb n s bs : Nat} {W : Nat → Int} {f0 : Int} {k be : Nat} {w0 w : World}

/-- The first row: the spares, in their order. -/
theorem S5.start (h : S4 B bg bn nb n s bs W f0 s w0 w) :
    S5 B bg bn nb n s bs W f0 0 (bs + 1 + s) w0 (((w.setCell ⟨bg, 12, none⟩ (.int .i64 s)).alloc (.cells (madeCells #[.pointer none] (s + n)) 37)).setCells (bs + 1 + s) 0 ((EE bs s).map pt)) := by
  have hu := h.nums
  have hs := h.size
  have hg := h.done
  have hsz : (w.setCell ⟨bg, 12, none⟩ (.int .i64 s)).heap.size = bs + 1 + s := by rw [size_set]; exact hs
  refine ⟨h.nums, setCells_below _ (by omega) _ _ _ ((below_set h.below _ _ (by omega) _).alloc (by omega) _), (hg.alloc _ _).setCells _ _ _ (by omega) (by omega) (fun x hx => ?_), ((h.rows.set _ _ _ (by omega) (by omega)).alloc _).setCells _ _ _ (by omega) (by omega), ⟨by omega, ?_⟩, fun m x hx => ?_⟩
  · have hx : x ∈ EE bs s := hx
    have := EE_mem hx; omega
  · rw [setCells_size]; simp; omega
  · have hx : (EE bs s)[m]? = some x := hx
    have hm : m < s := by
      have := (List.getElem?_eq_some_iff.1 hx).1
      rw [EE_len] at this; exact this
    have := World.cell?_setCells_in (bs + 1 + s) ((EE bs s).map pt) 0 ((w.setCell ⟨bg, 12, none⟩ (.int .i64 s)).alloc (.cells (madeCells #[.pointer none] (s + n)) 37)) (fun j hj => by
      rw [List.length_map, EE_len] at hj
      rw [Nat.zero_add, cn _ _ _ _ _ hsz.symm, made _ _ _ (by omega)]; rfl) m (by rw [List.length_map, EE_len]; exact hm)
    rw [Nat.zero_add] at this
    rw [this, List.getElem_map]
    congr 2
    exact (List.getElem?_eq_some_iff.1 hx).2

theorem S5.skip (h : S5 B bg bn nb n s bs W f0 k be w0 w) (hf : n - (k + 1) < NS n s k) : S5 B bg bn nb n s bs W f0 (k + 1) be w0 w := by
  have e2 : EL n s nb (EE bs s) (k + 1) = EL n s nb (EE bs s) k := by rw [EL, if_pos hf]
  exact ⟨h.nums, h.below, h.g, h.rows, h.hbe, fun m x hx => by rw [e2] at hx; exact h.exp m x hx⟩

theorem S5.push (h : S5 B bg bn nb n s bs W f0 k be w0 w) (hf : ¬ n - (k + 1) < NS n s k) (b1 : Nat) (hb1 : b1 = w.heap.size) :
    S5 B bg bn nb n s bs W f0 (k + 1) b1 w0 ((((w.alloc (.cells (madeCells #[.pointer none] ((EL n s nb (EE bs s) k).length + 1)) 37)).alloc (.cells #[pt (nb + k)] 37)).setCells b1 0 [pt (nb + k)]).setCells b1 1 ((EL n s nb (EE bs s) k).map pt)) := by
  have hu := h.nums
  have hbe := h.hbe
  have e2 : EL n s nb (EE bs s) (k + 1) = (nb + k) :: EL n s nb (EE bs s) k := by rw [EL, if_neg hf]
  have els : ∀ x, x ∈ EL n s nb (EE bs s) 0 → x ≠ b1 := fun x hx => by
    have hx : x ∈ EE bs s := hx
    have := EE_mem hx; omega
  generalize hL : EL n s nb (EE bs s) k = L at *
  have base : ∀ j, j < L.length + 1 → (((w.alloc (.cells (madeCells #[.pointer none] (L.length + 1)) 37)).alloc (.cells #[pt (nb + k)] 37)).cell? ⟨b1, j, none⟩).isSome = true := fun j hj => by
    rw [ca _ _ _ _ (by simp; omega), cn _ _ _ _ _ hb1, made _ _ _ hj]; rfl
  refine ⟨h.nums, setCells_below _ (by omega) _ _ _ (setCells_below _ (by omega) _ _ _ ((h.below.alloc (by omega) _).alloc (by simp; omega) _)), (((h.g.alloc _ _).alloc _ _).setCells _ _ _ (by omega) (by omega) els).setCells _ _ _ (by omega) (by omega) els, (((h.rows.alloc _).alloc _).setCells _ _ _ (by omega) (by omega)).setCells _ _ _ (by omega) (by omega), ⟨by omega, ?_⟩, fun m x hx => ?_⟩
  · rw [setCells_size, setCells_size]; simp; omega
  · rw [e2] at hx
    have some1 : ∀ j, j < L.length + 1 → ((((w.alloc (.cells (madeCells #[.pointer none] (L.length + 1)) 37)).alloc (.cells #[pt (nb + k)] 37)).setCells b1 0 [pt (nb + k)]).cell? ⟨b1, j, none⟩).isSome = true := fun j hj => iset _ _ _ _ _ (base j hj)
    cases m with
    | zero =>
      simp only [List.getElem?_cons_zero, Option.some.injEq] at hx
      subst hx
      rw [World.cell?_setCells_out b1 _ 1 _ _ (fun _ _ => Or.inl (show 0 < 1 by omega))]
      exact World.cell?_setCells_in b1 [pt (nb + k)] 0 _ (fun j hj => by rw [Nat.zero_add]; exact base j (by simp at hj; omega)) 0 (by simp)
    | succ m =>
      simp only [List.getElem?_cons_succ] at hx
      have hm := (List.getElem?_eq_some_iff.1 hx).1
      have := World.cell?_setCells_in b1 (L.map pt) 1 (((w.alloc (.cells (madeCells #[.pointer none] (L.length + 1)) 37)).alloc (.cells #[pt (nb + k)] 37)).setCells b1 0 [pt (nb + k)]) (fun j hj => by
        rw [List.length_map] at hj
        exact some1 (1 + j) (by omega)) m (by rw [List.length_map]; exact hm)
      rw [show m + 1 = 1 + m by omega, this, List.getElem_map]
      congr 2
      exact (List.getElem?_eq_some_iff.1 hx).2
end
end Go.Proofs.Ybulkarlc
