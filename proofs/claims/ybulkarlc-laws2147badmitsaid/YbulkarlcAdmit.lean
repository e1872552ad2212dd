/-
  '(*Gate).admitWaiters' over a gate as 'G' describes it.
-/
import Derived.Test.YbulkarlcGate
import Derived.Test.YbulkarlcRemove
import Derived.LoopTactic
import Derived.WalkSmall
namespace Go.Proofs.Ybulkarlc
open Go.ChangeShapes Go.WideShapes Go.RowKit
set_option linter.unusedVariables false

/-- The first k waiters fit, one behind the other. -/
def Fit (n : Nat) (W : Nat → Int) (f0 : Int) (k : Nat) : Prop := ∀ i, i < k → i < n ∧ W i ≤ F W f0 i

/-- The queue's head when k waiters are out. -/
def hdv (n nb k : Nat) : Value := ptrOf (if k < n then some (nb + k) else none)
theorem hdv_none {n nb k : Nat} (h : ¬ k < n) : hdv n nb k = .pointer none := by unfold hdv; rw [if_neg h]; rfl
theorem hdv_some {n nb k : Nat} (h : k < n) : hdv n nb k = .pointer (some ⟨nb + k, 0, none⟩) := by unfold hdv; rw [if_pos h]; rfl

/-- How many are left, off the gate's own count. -/
def left (bg : Nat) (w : World) : Nat := (intOf ((w.cell? ⟨bg, 6, none⟩).getD undef)).toNat
theorem left_of {B bg nb n s : Nat} {W : Nat → Int} {f0 : Int} {E0 : List Nat} {k j : Nat} {w : World} (h : G B bg nb n s W f0 E0 k j w) : left bg w = n - k := by
  have hk := h.hk
  unfold left
  rw [h.len]
  simp [intOf]

/-- 'G' looks at the heap alone. -/
theorem G.of_heap {B bg nb n s : Nat} {W : Nat → Int} {f0 : Int} {E0 : List Nat} {k j : Nat} {w w' : World} (h : G B bg nb n s W f0 E0 k j w) (hh : w'.heap = w.heap) : G B bg nb n s W f0 E0 k j w' := by
  have hc : ∀ a, w'.cell? a = w.cell? a := fun a => by unfold World.cell?; rw [hh]
  have hz : ∀ a, w'.frozen? a = w.frozen? a := fun a => by unfold World.frozen?; rw [hh]
  obtain ⟨h1, h2, h3, h4, h5, h6, h7, h8, h9, h10, h11, h12, h13, h14, h15, h16, h17, h18, h19, h20, h21, h22, h23, h24⟩ := h
  refine ⟨h1, h2, h3, h4, ?_, ?_, ?_, ?_, ?_, ?_, ?_, ?_, ?_, ?_, ?_, ?_, ?_, ?_, ?_, ?_, ?_, h22, ?_, ?_⟩
  all_goals (intros; simp only [hc, hz])
  · exact h5
  · exact h6
  · exact h7
  · exact h8
  · exact h9
  · exact h10
  · exact h11
  · exact h12
  · exact h13
  · exact h14 _ ‹_›
  · exact h15 _ ‹_›
  · exact h16 _ ‹_›
  · exact h17 _ ‹_› ‹_›
  · exact h18 _ ‹_› ‹_›
  · exact h19 _ ‹_› ‹_›
  · exact h20 _ ‹_› ‹_›
  · exact h21 _ ‹_›
  · exact h23 _ _ ‹_›
  · exact h24 _ _ ‹_›

/-- What the loop carries. -/
structure At (B bg nb n s : Nat) (W : Nat → Int) (f0 : Int) (E0 : List Nat) (k : Nat) (w0 w : World) : Prop where
  g : G B bg nb n s W f0 E0 k k w
  fit : Fit n W f0 k
  below : Below B w0 w
  size : w.heap.size = w0.heap.size
  keep : ∀ b o, b ≠ bg → ¬ (nb ≤ b ∧ b < nb + n) → w.cell? ⟨b, o, none⟩ = w0.cell? ⟨b, o, none⟩

theorem F_range {n : Nat} {W : Nat → Int} {f0 : Int} (hW : ∀ i, i < n → 0 ≤ W i ∧ W i ≤ 9223372036854775807) (hf : -9223372036854775808 ≤ f0 ∧ f0 ≤ 9223372036854775807) (k : Nat) (h : Fit n W f0 k) : -9223372036854775808 ≤ F W f0 k ∧ F W f0 k ≤ 9223372036854775807 := by
  induction k with
  | zero => exact hf
  | succ k ih =>
    have h1 := ih (fun i hi => h i (by omega))
    have h2 := h k (by omega)
    have h3 := hW k h2.1
    show _ ≤ F W f0 k - W k ∧ F W f0 k - W k ≤ _
    omega

section
variable {B bg nb n s : Nat} {W : Nat → Int} {f0 : Int} {E0 : List Nat} {k : Nat}

/-- Behind 'remove' of the head (the free room reckoned down ahead of it). -/
structure Rem (B bg nb n s : Nat) (W : Nat → Int) (f0 : Int) (E0 : List Nat) (k : Nat) (w w' : World) : Prop where
  c2 : w'.cell? ⟨nb + k, 2, none⟩ = some (.chan none)
  c4 : w'.cell? ⟨nb + k, 4, none⟩ = some (.int .u32 0)
  c5 : w'.cell? ⟨nb + k, 5, none⟩ = some (.int .u32 0)
  c9 : w'.cell? ⟨nb + k, 9, none⟩ = some (.int .u64 0)
  z9 : w'.frozen? ⟨nb + k, 9, none⟩ = false
  g : G B bg nb n s W f0 E0 (k + 1) k (w'.setCell ⟨nb + k, 9, none⟩ (.pointer (some ⟨nb + k, 9, none⟩)))
  below : Below B w w'
  size : w'.heap.size = w.heap.size
  hB : B ≤ nb + k
  hk : k < n
  keep : ∀ b o, b ≠ bg → ¬ (nb ≤ b ∧ b < nb + n) → w'.cell? ⟨b, o, none⟩ = w.cell? ⟨b, o, none⟩

theorem hset {w w' : World} (h : w.heap = w'.heap) (a : Addr) (v : Value) : (w.setCell a v).heap = (w'.setCell a v).heap := by
  unfold World.setCell
  simp only [h]
theorem hdr {w w' : World} (h : w.heap = w'.heap) (d : Nat) : (w.drewN d).heap = w'.heap := h

theorem hdr' {w w' : World} (h : w.heap = w'.heap) (d : Nat) : w.heap = (w'.drewN d).heap := h
theorem hdw {w w' : World} (h : w.heap = w'.heap) : w.drew.heap = w'.heap := h

theorem size_set (w : World) (a : Addr) (v : Value) : (w.setCell a v).heap.size = w.heap.size := by simp [World.setCell]

theorem size_dn (w : World) (d : Nat) : (w.drewN d).heap.size = w.heap.size := rfl
theorem size_dw (w : World) : w.drew.heap.size = w.heap.size := rfl

theorem below_set {a w : World} (h : Below B a w) (b o : Nat) (hb : B ≤ b) (v : Value) : Below B a (w.setCell ⟨b, o, none⟩ v) := h.setCell hb v

theorem remove_step (hn : n ≤ 1024) {w : World} (h : G B bg nb n s W f0 E0 k k w) (hk : k < n) :
    Calls Yba.prog 10 #[.pointer (some ⟨bg, 4, none⟩), .pointer (some ⟨nb + k, 0, none⟩)] (w.setCell ⟨bg, 3, none⟩ (.int .i64 (F W f0 k - W k))).drew fun e w' => e = .returned (.tuple #[]) ∧ Rem B bg nb n s W f0 E0 k w w' := by
  have hg := h.hg
  have hB := h.hB
  have keep : ∀ b o, ¬ (bg = b ∧ 3 = o) → ((w.setCell ⟨bg, 3, none⟩ (.int .i64 (F W f0 k - W k))).drew).cell? ⟨b, o, none⟩ = w.cell? ⟨b, o, none⟩ := fun b o hx => by
    show (w.setCell ⟨bg, 3, none⟩ (.int .i64 (F W f0 k - W k))).cell? ⟨b, o, none⟩ = _
    rw [cs, if_neg hx]
  have uf : ∀ b o, B ≤ b → ((w.setCell ⟨bg, 3, none⟩ (.int .i64 (F W f0 k - W k))).drew).frozen? ⟨b, o, none⟩ = false := fun b o hx => by
    show (w.setCell ⟨bg, 3, none⟩ (.int .i64 (F W f0 k - W k))).frozen? ⟨b, o, none⟩ = _
    rw [fs]; exact h.uf b o hx
  have e11 := h.prev k hk
  rw [if_pos (Nat.le_refl _)] at e11
  have e12 := h.next k hk (Nat.le_refl _)
  by_cases c : k + 1 < n
  · rw [if_pos c] at e12
    refine (remove_head bg (nb + k) (nb + (k + 1)) ((n : Int) - k) _ (by omega) (by omega) (by omega) (by omega) (by omega) (by omega) ((keep _ _ (by omega)).trans e11) ((keep _ _ (by omega)).trans e12)
      ⟨_, (keep _ _ (by omega)).trans h.head⟩ ⟨_, (keep _ _ (by omega)).trans (h.prev (k + 1) c)⟩ ((keep _ _ (by omega)).trans h.len) (by omega) (by omega) (fun o => uf bg o hB) (fun o => uf _ o (by omega)) (fun o => uf _ o (by omega))).mono ?_
    rintro e w' ⟨rfl, d, rfl⟩
    have k5 : ∀ o, ¬ o = 11 → ¬ o = 12 → ((((((((w.setCell ⟨bg, 3, none⟩ (.int .i64 (F W f0 k - W k))).drew).setCell ⟨bg, 4, none⟩ (.pointer (some ⟨nb + (k + 1), 0, none⟩))).setCell ⟨nb + (k + 1), 11, none⟩ (.pointer none)).setCell ⟨nb + k, 11, none⟩ (.pointer none)).setCell ⟨nb + k, 12, none⟩ (.pointer none)).setCell ⟨bg, 6, none⟩ (.int .i64 ((n : Int) - k - 1))).drewN d).cell? ⟨nb + k, o, none⟩ = w.cell? ⟨nb + k, o, none⟩ := fun o h1 h2 => by
      rw [cd]; repeat rw [cs, if_neg (by omega)]
      exact keep _ _ (by omega)
    refine ⟨rfl, (k5 2 (by omega) (by omega)).trans (h.ready k hk), (k5 4 (by omega) (by omega)).trans (h.c4 k hk (Nat.le_refl _)), (k5 5 (by omega) (by omega)).trans (h.c5 k hk (Nat.le_refl _)), (k5 9 (by omega) (by omega)).trans (h.c9 k hk (Nat.le_refl _)), ?_, (h.mid c 0).of_heap (hdr' (hset (hdr (hset (hset (hset (hset (hset (hdw rfl) _ _) _ _) _ _) _ _) _ _) d) _ _) 0), ?_, ?_, by omega, hk, ?_⟩
    · rw [fd, fs, fs, fs, fs, fs]; exact uf _ _ (by omega)
    · exact below_drewN (below_set (below_set (below_set (below_set (below_set (below_set (Below.refl B w) bg 3 hB _).drew bg 4 hB _) _ _ (by omega) _) _ _ (by omega) _) _ _ (by omega) _) bg 6 hB _) d
    · rw [size_dn, size_set, size_set, size_set, size_set, size_set, size_dw, size_set]
    · intro b o hb1 hb2
      rw [cd]; repeat rw [cs, if_neg (by omega)]
      exact keep _ _ (by omega)
  · rw [if_neg c] at e12
    refine (remove_last bg (nb + k) _ ((n : Int) - k) _ (by omega) (by omega) ((keep _ _ (by omega)).trans e11) ((keep _ _ (by omega)).trans e12)
      ⟨_, (keep _ _ (by omega)).trans h.head⟩ ((keep _ _ (by omega)).trans h.tail) ((keep _ _ (by omega)).trans h.len) (by omega) (by omega) (fun o => uf bg o hB) (fun o => uf _ o (by omega))).mono ?_
    rintro e w' ⟨rfl, rfl⟩
    have k5 : ∀ o, ¬ o = 11 → ¬ o = 12 → (((((((w.setCell ⟨bg, 3, none⟩ (.int .i64 (F W f0 k - W k))).drew).setCell ⟨bg, 4, none⟩ (.pointer none)).setCell ⟨bg, 5, none⟩ (.pointer none)).setCell ⟨nb + k, 11, none⟩ (.pointer none)).setCell ⟨nb + k, 12, none⟩ (.pointer none)).setCell ⟨bg, 6, none⟩ (.int .i64 ((n : Int) - k - 1))).cell? ⟨nb + k, o, none⟩ = w.cell? ⟨nb + k, o, none⟩ := fun o h1 h2 => by
      repeat rw [cs, if_neg (by omega)]
      exact keep _ _ (by omega)
    refine ⟨rfl, (k5 2 (by omega) (by omega)).trans (h.ready k hk), (k5 4 (by omega) (by omega)).trans (h.c4 k hk (Nat.le_refl _)), (k5 5 (by omega) (by omega)).trans (h.c5 k hk (Nat.le_refl _)), (k5 9 (by omega) (by omega)).trans (h.c9 k hk (Nat.le_refl _)), ?_, (h.last (by omega) 0).of_heap (hdr' (hset (hset (hset (hset (hset (hset (hdw rfl) _ _) _ _) _ _) _ _) _ _) _ _) 0), ?_, ?_, by omega, hk, ?_⟩
    · rw [fs, fs, fs, fs, fs]; exact uf _ _ (by omega)
    · exact below_set (below_set (below_set (below_set (below_set (below_set (Below.refl B w) bg 3 hB _).drew bg 4 hB _) bg 5 hB _) _ _ (by omega) _) _ _ (by omega) _) bg 6 hB _
    · rw [size_set, size_set, size_set, size_set, size_set, size_dw, size_set]
    · intro b o hb1 hb2
      repeat rw [cs, if_neg (by omega)]
      exact keep _ _ (by omega)

/-- Behind 'wake'. -/
structure Mid (B bg nb n s : Nat) (W : Nat → Int) (f0 : Int) (E0 : List Nat) (k : Nat) (w w' : World) : Prop where
  g : G B bg nb n s W f0 E0 (k + 1) k w'
  below : Below B w w'
  size : w'.heap.size = w.heap.size
  keep : ∀ b o, b ≠ bg → ¬ (nb ≤ b ∧ b < nb + n) → w'.cell? ⟨b, o, none⟩ = w.cell? ⟨b, o, none⟩

theorem wake_step {w w' : World} (h : Rem B bg nb n s W f0 E0 k w w') :
    Calls Yba.prog 7 #[.pointer (some ⟨nb + k, 0, none⟩)] w' fun e w'' => e = .returned (.tuple #[]) ∧ Mid B bg nb n s W f0 E0 k w w'' := by
  refine (wake_signal (nb + k) w' h.c2 h.c4 h.c5 h.c9 h.z9).mono ?_
  rintro e w'' ⟨rfl, rfl⟩
  have hk := h.hk
  exact ⟨rfl, h.g, below_set h.below _ _ h.hB _, by rw [size_set]; exact h.size, fun b o hb1 hb2 => by rw [cs, if_neg (by omega)]; exact h.keep b o hb1 hb2⟩

theorem NS_le (n s : Nat) : ∀ k, NS n s k ≤ s + k
  | 0 => Nat.le_refl _
  | k + 1 => by
    have := NS_le n s k
    rw [NS]
    split <;> omega

theorem retire_step (hn : n ≤ 1024) (hs : s ≤ 3) {w : World} (h : G B bg nb n s W f0 E0 (k + 1) k w) :
    Calls Yba.prog 11 #[.pointer (some ⟨bg, 0, none⟩), .pointer (some ⟨nb + k, 0, none⟩)] w fun e w' => e = .returned (.tuple #[]) ∧ G B bg nb n s W f0 E0 (k + 1) (k + 1) w' ∧ Below B w w' ∧ w'.heap.size = w.heap.size ∧ ∀ b o, b ≠ bg → ¬ (nb ≤ b ∧ b < nb + n) → w'.cell? ⟨b, o, none⟩ = w.cell? ⟨b, o, none⟩ := by
  have hg := h.hg
  have hB := h.hB
  have hk := h.hk
  have hl := h.len
  rw [show ((n : Int) - ((k + 1 : Nat) : Int)) = ((n - (k + 1) : Nat) : Int) by omega] at hl
  by_cases c : n - (k + 1) < NS n s k
  · refine (retire_full bg (nb + k) (NS n s k) ((n - (k + 1) : Nat) : Int) w (by omega) (by omega) ⟨_, h.ready k (by omega)⟩ h.nspares hl h.o9 (by omega) (by omega) (by omega) (fun o => h.uf _ o (by omega))).mono ?_
    rintro e w' ⟨rfl, d, rfl⟩
    exact ⟨rfl, h.full c d, below_drewN (below_set (Below.refl _ _) _ _ (by omega) _) d, by rw [size_dn, size_set], fun b o hb1 hb2 => by rw [cd, cs, if_neg (by omega)]⟩
  · obtain ⟨x12, h12⟩ := Option.isSome_iff_exists.1 (h.n12 k (by omega))
    refine (retire_push bg (nb + k) (NS n s k) ((n - (k + 1) : Nat) : Int) (ptrOf (EL n s nb E0 k).head?) (by cases (EL n s nb E0 k).head? <;> simp [ptrOf]) w (by omega) (by omega) ⟨_, h.ready k (by omega)⟩ ⟨_, h12⟩ h.spares h.nspares hl h.o9 (by omega) (by omega) (by omega) (by omega) (fun o => h.uf _ o hB) (fun o => h.uf _ o (by omega))).mono ?_
    rintro e w' ⟨rfl, d, rfl⟩
    refine ⟨rfl, h.push c d, below_drewN (below_set (below_set (below_set (below_set (Below.refl _ _) _ _ (by omega) _) _ _ (by omega) _) _ _ hB _) _ _ hB _) d, ?_, ?_⟩
    · rw [size_dn, size_set, size_set, size_set, size_set]
    · intro b o hb1 hb2
      rw [cd]; repeat rw [cs, if_neg (by omega)]
end

set_option maxHeartbeats 2000000 in
theorem admit_any (B bg nb n s : Nat) (W : Nat → Int) (f0 : Int) (E0 : List Nat) (hn : n ≤ 1024) (hs : s ≤ 3) (hW : ∀ i, i < n → 0 ≤ W i ∧ W i ≤ 9223372036854775807) (hf : -9223372036854775808 ≤ f0 ∧ f0 ≤ 9223372036854775807) (w : World) (h : G B bg nb n s W f0 E0 0 0 w) :
    Calls Yba.prog 6 #[.pointer (some ⟨bg, 0, none⟩)] w fun e w' => e = .returned (.tuple #[]) ∧ ∃ k, At B bg nb n s W f0 E0 k w w' ∧ ¬ (k < n ∧ W k ≤ F W f0 k) := by
  have g4 : w.cell? ⟨bg, 4, none⟩ = some (hdv n nb 0) := h.head
  have HA : Hid (At B bg nb n s W f0 E0 0 w w) := ⟨h, fun i hi => absurd hi (by omega), Below.refl _ _, rfl, fun _ _ _ _ => rfl⟩
  have HW : Hid (∀ i, i < n → 0 ≤ W i ∧ W i ≤ 9223372036854775807) := hW
  clear h hW
  go_enter Yba.func6, Yba.ntmps6
  go_wp2
  go_loopw [2] (fun v w' => ∃ k, v = hdv n nb k ∧ Hid (At B bg nb n s W f0 E0 k w w')) (fun _ w' => left bg w')
  case atStart => exact ⟨0, rfl, HA⟩
  case round =>
    obtain ⟨k, rfl, hA⟩ := hrel
    clear HA g4
    by_cases c1 : k < n
    · have e1 := hA.out.g.val k c1
      have e3 := hA.out.g.free
      rw [hdv_some c1]
      by_cases c2 : W k ≤ F W f0 k
      · have hd : decide (W k ≤ F W f0 k) = true := by simpa using c2
        obtain ⟨r0, r1⟩ := HW.out k c1
        obtain ⟨q0, q1⟩ := F_range HW.out hf k hA.out.fit
        have z3 := hA.out.g.uf bg 3 hA.out.g.hB
        have hbn := hA.out.g.hg
        have nb1 : bg ≠ nb + k := by omega
        go_wp2_with fail
        refine (fits_any bg (W k) (F W f0 k) _ e3).mono ?_
        rintro e w1 ⟨rfl, rfl⟩
        go_wp2_with fail
        have HR : Hid (∀ i, i < n → 0 ≤ W i ∧ W i ≤ 9223372036854775807) := HW
        go_region
        go_wp2_with fail
        refine (remove_step hn hA.out.g c1).mono ?_
        rintro e w2 ⟨rfl, hR⟩
        go_wp2_with fail
        refine (wake_step hR).mono ?_
        rintro e w3 ⟨rfl, hM⟩
        go_wp2_with fail
        refine (retire_step hn hs hM.g).mono ?_
        rintro e w4 ⟨rfl, hG, hbel, hsz, hkp⟩
        have hA' : At B bg nb n s W f0 E0 (k + 1) w w4 := ⟨hG, fun i hi => by
            by_cases c : i = k
            · subst c; exact ⟨c1, c2⟩
            · exact hA.out.fit i (by omega), (hA.out.below.trans hM.below).trans hbel, by rw [hsz, hM.size]; exact hA.out.size, fun b o hb1 hb2 => by rw [hkp b o hb1 hb2, hM.keep b o hb1 hb2]; exact hA.out.keep b o hb1 hb2⟩
        have hl1 := left_of hA.out.g
        have hl2 := left_of hG
        have g4' : w4.cell? ⟨bg, 4, none⟩ = some (hdv n nb (k + 1)) := hG.head
        have HA' : Hid (At B bg nb n s W f0 E0 (k + 1) w w4) := hA'
        have HL : Hid (left bg w4 < left bg w1) := by rw [hl1, hl2]; show n - (k + 1) < n - k; omega
        clear hG hA' hl1 hl2 hM hR hkp
        go_wp2_with fail
        go_roundw
        case rel => exact ⟨k + 1, rfl, HA'⟩
        case measure => exact HL
      · have hd : decide (W k ≤ F W f0 k) = false := by simpa using c2
        go_wp2_with fail
        refine (fits_any bg (W k) (F W f0 k) _ e3).mono ?_
        rintro e w1 ⟨rfl, rfl⟩
        go_wp2_with fail
        go_end0
        exact ⟨rfl, k, hA.out, fun h => absurd h.2 (by omega)⟩
    · rw [hdv_none c1]
      go_wp2_with fail
      go_end0
      exact ⟨rfl, k, hA.out, fun h => absurd h.1 (by omega)⟩
end Go.Proofs.Ybulkarlc
