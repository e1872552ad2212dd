/-
  'libgate.LawS2147BAdmit' walked: true.
-/
import Derived.Test.YbulkarlcMore
import Derived.Deep.DeepCutAuto
import Derived.Deep.CutRange
import Derived.Deep.CutBlock
namespace Go.Proofs.Ybulkarlc
open Go.ChangeShapes Go.WideShapes Go.RowKit
set_option linter.unusedVariables false

theorem make_i64 (n : Nat) (hn : n ≤ 1024) (w : World) : (Instr.makeSlice 22 (.int .i64 (n : Int)) (.int .i64 (n : Int))).run Yba.prog w = .ok (.slice (some ⟨w.heap.size, 0, none⟩) n n) (w.alloc (.cells (madeCells #[.int .i64 0] n) 2)) := by
  have h : (Yba.prog.info? 2).map (fun i => (i.zero, i.size, i.bytes)) = some (some (.int .i64 0), 1, 8) := by kernel_rfl
  obtain ⟨i, hi, he⟩ := Option.map_eq_some_iff.1 h
  simp only [Prod.mk.injEq] at he
  obtain ⟨e1, e2, e3⟩ := he
  have := run_makeSlice (P := Yba.prog) w 22 2 i (.int .i64 0) Yba.underlying22 hi e1 .i64 .i64 n n (by omega) (by omega) (by rw [e2]; omega) (by rw [e3]; omega) (by omega)
  rw [this, e2]
  simp [Value.cells]

theorem make_ptr (l c : Nat) (hl : l ≤ c) (hc : c ≤ 4096) (w : World) : (Instr.makeSlice 43 (.int .i64 (l : Int)) (.int .i64 (c : Int))).run Yba.prog w = .ok (.slice (some ⟨w.heap.size, 0, none⟩) l c) (w.alloc (.cells (madeCells #[.pointer none] c) 37)) := by
  have h : (Yba.prog.info? 37).map (fun i => (i.zero, i.size, i.bytes)) = some (some (.pointer none), 1, 8) := by kernel_rfl
  obtain ⟨i, hi, he⟩ := Option.map_eq_some_iff.1 h
  simp only [Prod.mk.injEq] at he
  obtain ⟨e1, e2, e3⟩ := he
  have := run_makeSlice (P := Yba.prog) w 43 37 i (.pointer none) Yba.underlying43 hi e1 .i64 .i64 l c (by omega) (by omega) (by rw [e2]; omega) (by rw [e3]; omega) (by omega)
  rw [this, e2]
  simp [Value.cells]

theorem neq_ptr_nil (w : World) : (binOp .neq 37 (.pointer none) (.pointer none)).run Yba.prog w = .ok (.bool false) w := by kernel_rfl
theorem eql_ptr_nil (w : World) : (binOp .eql 37 (.pointer none) (.pointer none)).run Yba.prog w = .ok (.bool true) w := by kernel_rfl

set_option maxRecDepth 100000 in
set_option maxHeartbeats 4000000 in
theorem law_main (a0 : Int) (a1 : Option Addr) (n cap : Nat) (zs : List Int) (a2 : Int) (w : World) (B : Nat) (hB : w.heap.size = B) (hn : n ≤ 1024) (h0 : -9223372036854775808 ≤ a0 ∧ a0 ≤ 9223372036854775807) (h2 : 0 ≤ a2 ∧ a2 ≤ 255)
    (hz : ∀ i, i < n → -9223372036854775808 ≤ zs.getD i 0 ∧ zs.getD i 0 ≤ 9223372036854775807)
    (hrow : n = 0 ∨ ∃ b off, a1 = some ⟨b, off, none⟩ ∧ b < w.heap.size ∧ ∀ i, i < n → w.cell? ⟨b, off + i, none⟩ = some (.int .i64 (zs.getD i 0))) :
    Calls Yba.prog 3 #[.int .i64 a0, .slice a1 n cap, .int .u8 a2] w fun e w' => e = .returned (.bool true) ∧ Below B w w' := by
  have hmk := make_i64 n hn
  have hbig : decide ((1024 : Int) < (n : Int)) = false := by simp; omega
  have HZ : Hid (∀ i, i < n → -9223372036854775808 ≤ zs.getD i 0 ∧ zs.getD i 0 ≤ 9223372036854775807) := hz
  have HR : Hid (n = 0 ∨ ∃ b off, a1 = some ⟨b, off, none⟩ ∧ b < B ∧ ∀ i, i < n → w.cell? ⟨b, off + i, none⟩ = some (.int .i64 (zs.getD i 0))) := hB ▸ hrow
  have H1 : Hid (S1 B n (wt zs) 0 w (w.alloc (.cells (madeCells #[.int .i64 0] n) 2))) := hB ▸ S1.start w n (wt zs)
  clear hz hrow
  go_enter Yba.func3, Yba.ntmps3
  go_wp2
  go_loopw [9] (fun i wr => ∃ k : Nat, k ≤ n ∧ i = .int .i64 k ∧ Hid (S1 B n (wt zs) k w wr)) (fun i _ => n - (intOf i).toNat)
  case atStart => exact ⟨0, by omega, rfl, H1⟩
  case round => as_aux_lemma =>
    obtain ⟨k, hk, rfl, hS⟩ := hrel
    clear H1 hmk
    by_cases hlt : k < n
    · as_aux_lemma =>
        obtain ⟨b, off, rfl, hb, hc⟩ := HR.out.resolve_left (by omega)
        have hc1 : wr.cell? ⟨b, off + k, none⟩ = some (.int .i64 (zs.getD k 0)) := (hS.out.below.cell hb).trans (hc k hlt)
        obtain ⟨x, hx⟩ := Option.isSome_iff_exists.1 (hS.out.ex k hlt)
        have hu := hS.out.uf B k (Nat.le_refl _)
        have hzk := HZ.out k hlt
        have hst := hS.out.step hlt
        clear hB hc
        by_cases hneg : zs.getD k 0 < 0
        · have hw : wt zs k = bits .xor .i64 (-1) (zs.getD k 0) := if_pos hneg
          rw [hw] at hst
          have HS : Hid (S1 B n (wt zs) (k + 1) w (wr.setCell ⟨B, k, none⟩ (.int .i64 (bits .xor .i64 (-1) (zs.getD k 0))))) := hst
          clear hst hw
          generalize zs.getD k 0 = z at *
          go_wp2
          go_roundw
          case rel => exact ⟨k + 1, by omega, by simp, HS⟩
          case measure => simp [intOf]; omega
        · have hw : wt zs k = zs.getD k 0 := if_neg hneg
          rw [hw] at hst
          have HS : Hid (S1 B n (wt zs) (k + 1) w (wr.setCell ⟨B, k, none⟩ (.int .i64 (zs.getD k 0)))) := hst
          clear hst hw
          generalize zs.getD k 0 = z at *
          go_wp2
          go_roundw
          case rel => exact ⟨k + 1, by omega, by simp, HS⟩
          case measure => simp [intOf]; omega
    · obtain rfl : n = k := by omega
      obtain ⟨bg, hbg⟩ : ∃ bg, Hid (bg = B + 1) := ⟨_, rfl⟩
      obtain ⟨bn, hbn⟩ : ∃ bn, bg + 1 = bn := ⟨_, rfl⟩
      obtain ⟨nb, hnb⟩ : ∃ nb, Hid (bn + 1 = nb) := ⟨_, rfl⟩
      have hsz : wr.heap.size = bg := by rw [hbg.out]; exact hS.out.size
      have hmk := make_ptr n n (Nat.le_refl _) (by omega)
      have H2 : Hid (S2 B bg bn nb n (wt zs) a0 0 w ((wr.alloc (.cells (gc a0) 42)).alloc (.cells (madeCells #[.pointer none] n) 37))) := by
        obtain rfl := hbg.out
        obtain rfl := hbn
        obtain rfl := hnb.out
        exact S2.start hS.out
      clear hS HR hB
      go_wp2
      clear hmk hsz hk hlt hbn
      go_loopw [13] (fun i wr => ∃ j : Nat, j ≤ n ∧ i = .int .i64 j ∧ Hid (S2 B bg bn nb n (wt zs) a0 j w wr)) (fun i _ => n - (intOf i).toNat)
      case atStart => exact ⟨0, by omega, rfl, H2⟩
      case round => as_aux_lemma =>
        obtain ⟨j, hj, rfl, hS⟩ := hrel
        clear H2
        by_cases hlt : j < n
        · as_aux_lemma =>
            have hc1 := hS.out.ws j hlt
            obtain ⟨x, hx⟩ := Option.isSome_iff_exists.1 (hS.out.exn j hlt)
            have hu := hS.out.uf bn j (by have := hS.out.nums; omega)
            have hsz := hS.out.size
            have hx2 : ∀ c, (wr.alloc (.cells c 56)).cell? ⟨bn, j, none⟩ = some x := fun c => (ca _ _ _ _ (lt_of_some (some_of hx))).trans hx
            have hu2 : ∀ c, (wr.alloc (.cells c 56)).frozen? ⟨bn, j, none⟩ = false := fun c => za _ _ _ _ _ hu
            have HS : Hid (S2 B bg bn nb n (wt zs) a0 (j + 1) w ((wr.alloc (.cells (nc (wt zs j) j (.pointer none)) 56)).setCell ⟨bn, j, none⟩ (.pointer (some ⟨nb + j, 0, none⟩)))) := hS.out.step hlt
            clear hx hu
            go_wp2
            go_roundw
            case rel => exact ⟨j + 1, by omega, by simp, HS⟩
            case measure => simp [intOf]; omega
        · obtain rfl : n = j := by omega
          have H3 : Hid (S3 B bg bn nb n (wt zs) a0 0 0 w wr) := S3.start hS.out
          clear hS hj hlt
          go_wp2
          go_loopw [14] (fun i wr => ∃ k : Nat, k ≤ n ∧ i = .int .i64 k ∧ Hid (S3 B bg bn nb n (wt zs) a0 k k w wr)) (fun i _ => n - (intOf i).toNat)
          case atStart => exact ⟨0, by omega, rfl, H3⟩
          case round => as_aux_lemma =>
            obtain ⟨k, hk, rfl, hS⟩ := hrel
            clear H3
            by_cases hlt : k < n
            · as_aux_lemma =>
                cases k with
                | zero =>
                  have hS1 := hS.out.prev0
                  have HN : Hid (bg = B + 1 ∧ bn = B + 2 ∧ nb = B + 3) := hS1.nums
                  by_cases hl : 0 + 1 < n
                  · have hd : decide ((0 : Int) < (n : Int) - 1) = true := by simp; omega
                    have hl1 : 1 < n := hl
                    have c1 : wr.cell? ⟨bn, 0, none⟩ = some (.pointer (some ⟨nb, 0, none⟩)) := hS1.row 0 hlt
                    have c2 : wr.cell? ⟨bn, 1, none⟩ = some (.pointer (some ⟨nb + 1, 0, none⟩)) := hS1.row 1 hl
                    have c3 : wr.cell? ⟨nb, 12, none⟩ = some _ := hS1.next 0 hlt
                    have u3 := hS1.uf nb 12 (by have := HN.out; omega)
                    have HS : Hid (S3 B bg bn nb n (wt zs) a0 1 1 w ((wr.setCell ⟨nb, 12, none⟩ (.pointer (some ⟨nb + 1, 0, none⟩))).drewN 1)) := (hS1.nextStep hl).draw 1
                    clear hS1 hS
                    go_wp2
                    go_region
                    all_goals go_wp2
                    all_goals go_roundw
                    case rel => exact ⟨1, by omega, by simp, HS⟩
                    case measure => simp [intOf]; omega
                  · have hd : decide ((0 : Int) < (n : Int) - 1) = false := by simp; omega
                    have HS : Hid (S3 B bg bn nb n (wt zs) a0 1 1 w wr) := hS1.nextLast hl
                    clear hS1 hS
                    go_wp2
                    go_roundw
                    case rel => exact ⟨1, by omega, by simp, HS⟩
                    case measure => simp [intOf]; omega
                | succ m =>
                  have hS1 := (hS.out.prevStep hlt (by omega)).draw 1
                  have HN : Hid (bg = B + 1 ∧ bn = B + 2 ∧ nb = B + 3) := hS1.nums
                  have hm : m < n := by omega
                  have d1 : wr.cell? ⟨bn, m, none⟩ = some (.pointer (some ⟨nb + m, 0, none⟩)) := hS.out.row m (by omega)
                  have d2 : wr.cell? ⟨bn, m + 1, none⟩ = some (.pointer (some ⟨nb + (m + 1), 0, none⟩)) := hS.out.row (m + 1) hlt
                  have d3 : wr.cell? ⟨nb + (m + 1), 11, none⟩ = some _ := hS.out.prev (m + 1) hlt
                  have u11 := hS.out.uf (nb + (m + 1)) 11 (by have := HN.out; omega)
                  have hS1 : Hid (S3 B bg bn nb n (wt zs) a0 (m + 1 + 1) (m + 1) w ((wr.setCell ⟨nb + (m + 1), 11, none⟩ (.pointer (some ⟨nb + m, 0, none⟩))).drew)) := hS1
                  have hp : decide ((0 : Int) < ((m + 1 : Nat) : Int)) = true := by simp <;> omega
                  by_cases hl : m + 1 + 1 < n
                  · have hd : decide (((m + 1 : Nat) : Int) < (n : Int) - 1) = true := by simp; omega
                    clear hS
                    go_wp2
                    go_region
                    all_goals go_wp2
                    generalize (wr.setCell ⟨nb + (m + 1), 11, none⟩ (.pointer (some ⟨nb + m, 0, none⟩))).drew = wr2 at *
                    clear d1 d2 d3 u11
                    have c1 : wr2.cell? ⟨bn, m + 1, none⟩ = some (.pointer (some ⟨nb + (m + 1), 0, none⟩)) := hS1.out.row (m + 1) hlt
                    have c2 : wr2.cell? ⟨bn, m + 1 + 1, none⟩ = some (.pointer (some ⟨nb + (m + 1 + 1), 0, none⟩)) := hS1.out.row (m + 1 + 1) hl
                    have c3 : wr2.cell? ⟨nb + (m + 1), 12, none⟩ = some _ := hS1.out.next (m + 1) hlt
                    have u3 := hS1.out.uf (nb + (m + 1)) 12 (by have := HN.out; omega)
                    have HS : Hid (S3 B bg bn nb n (wt zs) a0 (m + 1 + 1) (m + 1 + 1) w ((wr2.setCell ⟨nb + (m + 1), 12, none⟩ (.pointer (some ⟨nb + (m + 1 + 1), 0, none⟩))).drew)) := (hS1.out.nextStep hl).draw 1
                    clear hS1
                    go_region
                    all_goals go_wp2
                    all_goals go_roundw
                    case rel => exact ⟨m + 1 + 1, by omega, by simp, HS⟩
                    case measure => simp [intOf]; omega
                  · have hd : decide (((m + 1 : Nat) : Int) < (n : Int) - 1) = false := by simp; omega
                    clear hS
                    go_wp2
                    go_region
                    all_goals go_wp2
                    go_roundw
                    case rel => exact ⟨m + 1 + 1, by omega, by simp, hS1.out.nextLast hl⟩
                    case measure => simp [intOf]; omega
            · obtain rfl : n = k := by omega
              have HN : Hid (bg = B + 1 ∧ bn = B + 2 ∧ nb = B + 3) := hS.out.nums
              clear hlt hk
              go_upto_if 107 with fail
              go_cut [14] from 108 (fun i wc => i = .int .i64 n ∧ Hid (S3b B bg bn nb n (wt zs) a0 w wc))
              case first =>
                as_aux_lemma =>
                  by_cases hp : 0 < n
                  · have hd : decide ((0 : Int) < (n : Int)) = true := by simpa using hp
                    obtain ⟨m, rfl⟩ : ∃ m, n = m + 1 := ⟨n - 1, by omega⟩
                    have c1 : wr.cell? ⟨bn, 0, none⟩ = some (.pointer (some ⟨nb, 0, none⟩)) := hS.out.row 0 hp
                    have c2 : wr.cell? ⟨bn, m, none⟩ = some (.pointer (some ⟨nb + m, 0, none⟩)) := hS.out.row m (by omega)
                    have c4 : wr.cell? ⟨bg, 4, none⟩ = some _ := hS.out.gate 4
                    have c5 : wr.cell? ⟨bg, 5, none⟩ = some _ := hS.out.gate 5
                    have u4 : ∀ o, wr.frozen? ⟨bg, o, none⟩ = false := fun o => hS.out.uf bg o (by have := HN.out; omega)
                    have hne : bg ≠ bn := by have := HN.out; omega
                    go_wp2
                    go_meet
                    case rel => exact ⟨rfl, S3b.pos hS.out hp⟩
                  · have hd : decide ((0 : Int) < (n : Int)) = false := by simpa using hp
                    go_wp2
                    go_meet
                    case rel => exact ⟨rfl, S3b.zero hS.out hp⟩
              case rest => as_aux_lemma =>
                obtain ⟨rfl, hS⟩ := hcut
                obtain ⟨s, hs4⟩ : ∃ s : Nat, a2.tmod 4 = (s : Int) := ⟨(a2.tmod 4).toNat, by rw [Int.tmod_eq_emod_of_nonneg h2.1]; omega⟩
                have hs3 : s ≤ 3 := by rw [Int.tmod_eq_emod_of_nonneg h2.1] at hs4; omega
                obtain ⟨bs, hbs⟩ : ∃ bs, Hid (bs = nb + n) := ⟨_, rfl⟩
                obtain ⟨x, hx⟩ := Option.isSome_iff_exists.1 hS.out.len
                have hu := hS.out.uf
                have hsz : (wc.setCell ⟨bg, 6, none⟩ (.int .i64 n)).heap.size = bs := by rw [size_set, hbs.out]; exact hS.out.size
                have hmk := make_ptr s s (Nat.le_refl _) (by omega)
                have H4 : Hid (S4 B bg bn nb n s bs (wt zs) a0 0 w ((wc.setCell ⟨bg, 6, none⟩ (.int .i64 n)).alloc (.cells (madeCells #[.pointer none] s) 37))) := by
                  obtain rfl := hbs.out
                  exact S4.start hS.out.nums (below_set hS.out.below _ _ (by have := HN.out; omega) _) hsz hS.out.done.1 hS.out.done.2
                clear hS
                go_wp2
                clear hmk hsz hx hu hs4
                go_loopw [17] (fun i wr => ∃ m t : Nat, Hid (s = t + m) ∧ i = .int .i64 ((t : Int) - 1) ∧ Hid (S4 B bg bn nb n s bs (wt zs) a0 m w wr)) (fun i _ => (intOf i + 1).toNat)
                case atStart => exact ⟨0, s, rfl, rfl, H4⟩
                case round => as_aux_lemma =>
                  obtain ⟨m, t, hst, rfl, hS⟩ := hrel
                  clear H4
                  by_cases ht : 0 < t
                  · as_aux_lemma =>
                      obtain ⟨t, rfl⟩ : ∃ t', t = t' + 1 := ⟨t - 1, by omega⟩
                      obtain ⟨q, hq⟩ := ptr_of (EE bs m).head?
                      have htm : s - 1 - m = t := by have := hst.out; omega
                      have hts : t < s := by have := hst.out; omega
                      have hsz := hS.out.size
                      have HN4 : Hid (bg = B + 1 ∧ bn = B + 2 ∧ nb = B + 3 ∧ bs = nb + n) := hS.out.nums
                      have hsp : wr.cell? ⟨bg, 11, none⟩ = some (.pointer q) := hq ▸ hS.out.g.spares
                      obtain ⟨x, hx⟩ := Option.isSome_iff_exists.1 (hS.out.exs t hts)
                      have hx2 : ∀ c, (wr.alloc (.cells c 56)).cell? ⟨bs, t, none⟩ = some x := fun c => (ca _ _ _ _ (lt_of_some (some_of hx))).trans hx
                      have hu2 : ∀ c, (wr.alloc (.cells c 56)).frozen? ⟨bs, t, none⟩ = false := fun c => za _ _ _ _ _ (hS.out.g.uf _ _ (by have := HN4.out; omega))
                      have hx3 : ∀ c, (wr.alloc (.cells c 56)).cell? ⟨bg, 11, none⟩ = some (.pointer q) := fun c => (ca _ _ _ _ (lt_of_some (some_of hsp))).trans hsp
                      have hu3 : ∀ c, (wr.alloc (.cells c 56)).frozen? ⟨bg, 11, none⟩ = false := fun c => za _ _ _ _ _ (hS.out.g.uf _ _ (by have := HN4.out; omega))
                      have ne1 : bs ≠ bg := by have := HN4.out; omega
                      have ne2 : bg ≠ bs := by have := HN4.out; omega
                      have HS : Hid (S4 B bg bn nb n s bs (wt zs) a0 (m + 1) w (((wr.alloc (.cells (nc 0 0 (.pointer q)) 56)).setCell ⟨bs, t, none⟩ (.pointer (some ⟨bs + 1 + m, 0, none⟩))).setCell ⟨bg, 11, none⟩ (.pointer (some ⟨bs + 1 + m, 0, none⟩)))) := by
                        have := hS.out.step (by have := hst.out; omega)
                        rw [hq, htm] at this
                        exact this
                      clear hx hS htm
                      have hd : decide ((0 : Int) ≤ ((t + 1 : Nat) : Int) - 1) = true := by simp
                      go_wp2
                      go_roundw
                      case rel => exact ⟨m + 1, t, by have := hst.out; show s = _; omega, by simp, HS⟩
                      case measure => simp [intOf]
                  · obtain rfl : t = 0 := by omega
                    obtain rfl : s = m := by have := hst.out; omega
                    obtain ⟨be, hbe⟩ : ∃ be, Hid (be = bs + 1 + s) := ⟨_, rfl⟩
                    have HN4 : Hid (bg = B + 1 ∧ bn = B + 2 ∧ nb = B + 3 ∧ bs = nb + n) := hS.out.nums
                    have hx : wr.cell? ⟨bg, 12, none⟩ = some _ := hS.out.g.nspares
                    have hu : wr.frozen? ⟨bg, 12, none⟩ = false := hS.out.g.uf _ _ (by have := HN4.out; omega)
                    have hsz : (wr.setCell ⟨bg, 12, none⟩ (.int .i64 s)).heap.size = be := by rw [size_set, hbe.out]; exact hS.out.size
                    have hmk : ∀ w : World, (Instr.makeSlice 43 (.int .i64 0) (.int .i64 ((s : Int) + (n : Int)))).run Yba.prog w = .ok (.slice (some ⟨w.heap.size, 0, none⟩) 0 (s + n)) (w.alloc (.cells (madeCells #[.pointer none] (s + n)) 37)) := make_ptr 0 (s + n) (by omega) (by omega)
                    have H5 : Hid (S5 B bg bn nb n s bs (wt zs) a0 0 be w (((wr.setCell ⟨bg, 12, none⟩ (.int .i64 s)).alloc (.cells (madeCells #[.pointer none] (s + n)) 37)).setCells be 0 ((EE bs s).map pt))) := by
                      obtain rfl := hbe.out
                      exact S5.start hS.out
                    have HA : Hid (∀ j u, ((EE bs s).map pt)[j]? = some u → ((wr.setCell ⟨bg, 12, none⟩ (.int .i64 s)).alloc (.cells (madeCells #[.pointer none] (s + n)) 37)).cell? ((⟨bs, 0, none⟩ : Addr).add j) = some u) := by
                      exact app_spares hS.out hsz hbe.out
                    have HB : Hid (∀ j, j < s → (((wr.setCell ⟨bg, 12, none⟩ (.int .i64 s)).alloc (.cells (madeCells #[.pointer none] (s + n)) 37)).cell? ⟨be, 0 + j, none⟩).isSome = true ∧ ((wr.setCell ⟨bg, 12, none⟩ (.int .i64 s)).alloc (.cells (madeCells #[.pointer none] (s + n)) 37)).frozen? ⟨be, 0 + j, none⟩ = false) := fun j hj => by
                      refine ⟨?_, za _ _ _ _ _ (frozen_past _ _ _ (by omega))⟩
                      rw [cn _ _ _ _ _ hsz.symm, made _ _ _ (by omega)]; rfl
                    clear hS
                    go_upto_region 41 with fail
                    go_upto_block 8 with (refine wpList_append43 be 0 (s + n) ⟨bs, 0, none⟩ s s ((EE bs s).map pt) rfl rfl (by rw [List.length_map, EE_len]) HA.out (fun u hu => pt_one u hu) (by omega) HB.out ?_)
                    clear HA HB hmk hsz hu hx hst ht
                    go_cut [18, 19, 20, 21, 22] from 169 to 211 (fun f kk ns ex _ wr => ∃ k be c : Nat, f = .int .i64 (F (wt zs) a0 k) ∧ kk = .int .i64 (k : Nat) ∧ ns = .int .i64 (NS n s k : Nat) ∧ ex = .slice (some ⟨be, 0, none⟩) (EL n s nb (EE bs s) k).length c ∧ Hid (S5 B bg bn nb n s bs (wt zs) a0 k be w wr ∧ Fit n (wt zs) a0 k ∧ k ≤ n ∧ ¬ (k < n ∧ wt zs k ≤ F (wt zs) a0 k)))
                    case first =>
                      as_aux_lemma =>
                        go_wp2_with fail
                        go_loopw [18, 19, 20, 21] (fun f kk ns ex wr => ∃ k be c : Nat, f = .int .i64 (F (wt zs) a0 k) ∧ kk = .int .i64 (k : Nat) ∧ ns = .int .i64 (NS n s k : Nat) ∧ ex = .slice (some ⟨be, 0, none⟩) (EL n s nb (EE bs s) k).length c ∧ Hid (S5 B bg bn nb n s bs (wt zs) a0 k be w wr ∧ Fit n (wt zs) a0 k ∧ k ≤ n)) (fun _ kk _ _ _ => n - (intOf kk).toNat)
                        case atStart => exact ⟨0, be, s + n, rfl, rfl, rfl, by show _ = Value.slice _ (EE bs s).length _; rw [EE_len], H5, fun i hi => absurd hi (by omega), Nat.zero_le _⟩
                        case round => as_aux_lemma =>
                          obtain ⟨k, be5, c5, rfl, rfl, rfl, rfl, hS⟩ := hrel
                          clear H5 hbe
                          by_cases hgo : k < n ∧ wt zs k ≤ F (wt zs) a0 k
                          · obtain ⟨hlt, hle⟩ := hgo
                            have hd : decide (wt zs k ≤ F (wt zs) a0 k) = true := by simpa using hle
                            have c1 := hS.out.1.rows.ws k hlt
                            obtain ⟨r0, r1⟩ := wt_range zs k (HZ.out k hlt)
                            obtain ⟨q0, q1⟩ := F_range (fun i hi => wt_range zs i (HZ.out i hi)) h0 k hS.out.2.1
                            have hNS := NS_le n s k
                            have hFit : Hid (Fit n (wt zs) a0 (k + 1)) := fun i hi => by
                              by_cases c : i = k
                              · subst c; exact ⟨hlt, hle⟩
                              · exact hS.out.2.1 i (by omega)
                            by_cases hf : n - (k + 1) < NS n s k
                            · have hfd : decide ((n : Int) - ((k : Int) + 1) < (NS n s k : Int)) = true := by simp; omega
                              have e1 : NS n s (k + 1) = NS n s k := by rw [NS, if_pos hf]
                              have e2 : EL n s nb (EE bs s) (k + 1) = EL n s nb (EE bs s) k := by rw [EL, if_pos hf]
                              have HS : Hid (S5 B bg bn nb n s bs (wt zs) a0 (k + 1) be5 w wr) := hS.out.1.skip hf
                              have E1 : Hid (NS n s (k + 1) = NS n s k) := e1
                              have E2 : Hid (EL n s nb (EE bs s) (k + 1) = EL n s nb (EE bs s) k) := e2
                              clear e1 e2 hf hS
                              go_wp2
                              go_roundw
                              case rel => exact ⟨k + 1, be5, c5, rfl, rfl, by rw [E1.out], by rw [E2.out], HS, hFit, by omega⟩
                              case measure => simp [intOf]; omega
                            · have hfd : decide ((n : Int) - ((k : Int) + 1) < (NS n s k : Int)) = false := by simp; omega
                              obtain ⟨L, hL⟩ : ∃ L, (EL n s nb (EE bs s) k).length = L := ⟨_, rfl⟩
                              obtain ⟨b1, hb1⟩ : ∃ b1, wr.heap.size = b1 := ⟨_, rfl⟩
                              have hLL : L ≤ 1027 := by have := EL_len n s nb (EE bs s) k; rw [EE_len] at this; omega
                              have hmk : ∀ w : World, (Instr.makeSlice 43 (.int .i64 0) (.int .i64 ((L : Int) + 1))).run Yba.prog w = .ok (.slice (some ⟨w.heap.size, 0, none⟩) 0 (L + 1)) (w.alloc (.cells (madeCells #[.pointer none] (L + 1)) 37)) := make_ptr 0 (L + 1) (by omega) (by omega)
                              have c2 : ∀ o, (wr.alloc o).cell? ⟨bn, k, none⟩ = some (.pointer (some ⟨nb + k, 0, none⟩)) := fun o => (hS.out.1.rows.alloc o).row k hlt
                              have HA : Hid _ := push_asks hS.out.1 hb1 hL
                              have HS := hS.out.1.push hf b1 hb1.symm
                              rw [hL] at HS
                              have HS : Hid (S5 B bg bn nb n s bs (wt zs) a0 (k + 1) b1 w ((((wr.alloc (.cells (madeCells #[.pointer none] (L + 1)) 37)).alloc (.cells #[pt (nb + k)] 37)).setCells b1 0 [pt (nb + k)]).setCells b1 1 ((EL n s nb (EE bs s) k).map pt))) := HS
                              have E1 : Hid (NS n s (k + 1) = NS n s k + 1) := by show _ = _; rw [NS, if_neg hf]
                              have E2 : Hid ((EL n s nb (EE bs s) (k + 1)).length = L + 1) := by show _ = _; rw [EL, if_neg hf, List.length_cons, hL]
                              clear hf hS
                              go_upto_region 47 with fail
                              go_upto_region 48 with (refine wpList_append43 b1 0 (L + 1) ⟨b1 + 1, 0, none⟩ 1 1 [pt (nb + k)] rfl rfl rfl HA.out.1 (fun u hu => pt_one (L := [nb + k]) u hu) (by omega) HA.out.2.1 ?_)
                              go_upto_region 49 with (refine wpList_append43 b1 1 (L + 1) ⟨be5, 0, none⟩ L c5 ((EL n s nb (EE bs s) k).map pt) rfl rfl (by rw [List.length_map, hL]) HA.out.2.2.1 (fun u hu => pt_one u hu) (by omega) HA.out.2.2.2 ?_)
                              go_wp2
                              go_roundw
                              case rel => exact ⟨k + 1, b1, L + 1, rfl, rfl, by rw [E1.out]; rfl, by rw [E2.out, Nat.add_comm], HS, hFit, by omega⟩
                              case measure => simp [intOf]; omega
                          · by_cases hlt : k < n
                            · have hd : decide (wt zs k ≤ F (wt zs) a0 k) = false := by simp; omega
                              have c1 := hS.out.1.rows.ws k hlt
                              go_wp2
                              go_meet
                              case rel => exact ⟨k, be5, c5, rfl, rfl, rfl, rfl, hS.out.1, hS.out.2.1, hS.out.2.2, hgo⟩
                            · go_wp2
                              go_meet
                              case rel => exact ⟨k, be5, c5, rfl, rfl, rfl, rfl, hS.out.1, hS.out.2.1, hS.out.2.2, hgo⟩
                    case rest => as_aux_lemma =>
                      obtain ⟨k, be5, c5, rfl, rfl, rfl, rfl, hS⟩ := hcut
                      have hpp : ∀ w, (binOp .neq 37 (.pointer none) (.pointer none)).run Yba.prog w = .ok (.bool false) w := neq_ptr_nil
                      have hcall : Hid (Calls Yba.prog 6 #[.pointer (some ⟨bg, 0, none⟩)] wc fun e w' => e = .returned (.tuple #[]) ∧ Hid (Fin6 B bg bn nb n s bs (wt zs) a0 k be5 w w')) := by
                        refine (admit_any B bg nb n s (wt zs) a0 (EE bs s) hn hs3 (fun i hi => wt_range zs i (HZ.out i hi)) h0 wc hS.out.1.g).mono ?_
                        rintro e w' ⟨rfl, k', hA, hst'⟩
                        obtain rfl := stop_one hS.out.2.1 hS.out.2.2.2 hA.fit hst'
                        exact ⟨rfl, Fin6.of hS.out.1 hA⟩
                      have hkn := hS.out.2.2.1
                      clear hS H5
                      go_upto_region 51 with fail
                      go_wp2_with fail
                      refine hcall.out.mono ?_
                      rintro e w6 ⟨rfl, h6⟩
                      have c3 := h6.out.g.free
                      have c6 := h6.out.g.len
                      have c7 := h6.out.g.o7
                      have c8 := h6.out.g.o8
                      have c9 := h6.out.g.o9
                      have c12 := h6.out.g.nspares
                      go_upto_if 263 with fail
                      go_cut [14] from 264 (fun i w6 => i = .int .i64 n ∧ Hid (Fin6 B bg bn nb n s bs (wt zs) a0 k be5 w w6))
                      case first =>
                        as_aux_lemma =>
                          have c4 := h6.out.g.head
                          have c5 := h6.out.g.tail
                          by_cases hkk : k < n
                          · rw [if_pos hkk] at c4 c5
                            have hb : ((k : Int) == (n : Int)) = false := by simp; omega
                            obtain ⟨m, rfl⟩ : ∃ m, n = m + 1 := ⟨n - 1, by omega⟩
                            have c5' : w6.cell? ⟨bg, 5, none⟩ = some (.pointer (some ⟨nb + m, 0, none⟩)) := c5
                            have cr : w6.cell? ⟨bn, m, none⟩ = some (.pointer (some ⟨nb + m, 0, none⟩)) := h6.out.rows.row m (by omega)
                            have hsame := neq_same
                            clear c4 c5 c3 c6 c7 c8 c9 c12
                            go_wp2
                            go_region
                            all_goals go_wp2
                            all_goals go_meet
                            case rel => exact ⟨rfl, h6.out.drew⟩
                          · obtain rfl : n = k := by omega
                            have c4' : w6.cell? ⟨bg, 4, none⟩ = some (.pointer none) := by rw [c4, if_neg hkk]; rfl
                            have c5' : w6.cell? ⟨bg, 5, none⟩ = some (.pointer none) := by rw [c5, if_neg hkk]; rfl
                            have hb : ((n : Int) == (n : Int)) = true := by simp
                            clear c4 c5 c3 c6 c7 c8 c9 c12
                            go_wp2
                            go_meet
                            case rel => exact ⟨rfl, h6.out⟩
                      case rest => as_aux_lemma =>
                        obtain ⟨rfl, hF⟩ := hcut
                        clear c3 c6 c7 c8 c9 c12 h6 hcall
                        have c4 : wc.cell? ⟨bg, 4, none⟩ = some (hdv n nb k) := hF.out.g.head
                        go_wp2_with fail
                        clear c4
                        go_loopw [23, 24] (fun p i wr => ∃ j : Nat, p = hdv n nb j ∧ i = .int .i64 j ∧ Hid (k ≤ j ∧ j ≤ n) ∧ Hid (Fin6 B bg bn nb n s bs (wt zs) a0 k be5 w wr)) (fun _ i _ => n - (intOf i).toNat)
                        case atStart => exact ⟨k, rfl, rfl, ⟨Nat.le_refl _, hkn⟩, hF⟩
                        case round => as_aux_lemma =>
                          obtain ⟨j, rfl, rfl, hj, hR⟩ := hrel
                          clear hF
                          by_cases hlt : j < n
                          · as_aux_lemma =>
                              have hsame := neq_same
                              have c1 := hR.out.rows.row j hlt
                              have c12 : wr.cell? ⟨nb + j, 12, none⟩ = some (hdv n nb (j + 1)) := hR.out.g.next j hlt hj.out.1
                              have c11 := hR.out.g.prev j hlt
                              rw [hdv_some hlt]
                              by_cases hjk : j = k
                              · have hb : ((j : Int) == (k : Int)) = true := by simp; omega
                                rw [if_pos (by omega)] at c11
                                have c11' : wr.cell? ⟨nb + j, 11, none⟩ = some (.pointer none) := c11
                                clear c11 hjk
                                go_wp2
                                go_roundw
                                case rel => exact ⟨j + 1, rfl, rfl, ⟨by have := hj.out; omega, by omega⟩, hR⟩
                                case measure => simp [intOf]; omega
                              · have hb : ((j : Int) == (k : Int)) = false := by simp; omega
                                rw [if_neg (by have := hj.out; omega)] at c11
                                obtain ⟨m, rfl⟩ : ∃ m, j = m + 1 := ⟨j - 1, by have := hj.out; omega⟩
                                have c11' : wr.cell? ⟨nb + (m + 1), 11, none⟩ = some (.pointer (some ⟨nb + m, 0, none⟩)) := c11
                                have cm := hR.out.rows.row m (by omega)
                                have hm : m < n := by omega
                                clear c11
                                go_wp2
                                go_region
                                all_goals go_wp2
                                all_goals go_roundw
                                case rel => exact ⟨m + 1 + 1, rfl, rfl, ⟨by have := hj.out; omega, by omega⟩, hR.out.drew⟩
                                case measure => simp [intOf]; omega
                          · obtain rfl : n = j := by have := hj.out; omega
                            rw [hdv_none hlt]
                            go_wp2_with fail
                            go_loopw [25] (fun i wr => ∃ j : Nat, j ≤ k ∧ i = .int .i64 j ∧ Hid (Fin6 B bg bn nb n s bs (wt zs) a0 k be5 w wr)) (fun i _ => k - (intOf i).toNat)
                            case atStart => exact ⟨0, Nat.zero_le _, rfl, hR⟩
                            case round => as_aux_lemma =>
                              obtain ⟨j, hjk, rfl, hQ⟩ := hrel
                              clear hR
                              by_cases hl : j < k
                              · as_aux_lemma =>
                                  have hjn : j < n := by omega
                                  have hnn := neq_nil_nil
                                  have c1 := hQ.out.rows.row j hjn
                                  have c2 := hQ.out.g.ready j hjn
                                  have c11 := hQ.out.g.prev j hjn
                                  rw [if_pos (by omega)] at c11
                                  have c11' : wr.cell? ⟨nb + j, 11, none⟩ = some (.pointer none) := c11
                                  clear c11
                                  go_wp2
                                  go_roundw
                                  case rel => exact ⟨j + 1, by omega, rfl, hQ⟩
                                  case measure => simp [intOf]; omega
                              · have c1 : wr.cell? ⟨bg, 11, none⟩ = some (ptrOf (EL n s nb (EE bs s) k)[0]?) := by rw [← List.head?_eq_getElem?]; exact hQ.out.g.spares
                                go_wp2_with fail
                                clear c1
                                go_loopw [26, 27] (fun q i wr => ∃ m : Nat, q = ptrOf (EL n s nb (EE bs s) k)[m]? ∧ i = .int .i64 m ∧ Hid (m ≤ (EL n s nb (EE bs s) k).length) ∧ Hid (Fin6 B bg bn nb n s bs (wt zs) a0 k be5 w wr)) (fun _ i _ => (EL n s nb (EE bs s) k).length - (intOf i).toNat)
                                case atStart => exact ⟨0, rfl, rfl, Nat.zero_le _, hQ⟩
                                case round => as_aux_lemma =>
                                  obtain ⟨m, rfl, rfl, hm, hT⟩ := hrel
                                  clear hQ
                                  have hLn : (EL n s nb (EE bs s) k).length ≤ 1027 := by have := EL_len n s nb (EE bs s) k; rw [EE_len] at this; omega
                                  by_cases hlm : m < (EL n s nb (EE bs s) k).length
                                  · obtain ⟨x, hx⟩ : ∃ x, (EL n s nb (EE bs s) k)[m]? = some x := ⟨_, List.getElem?_eq_getElem hlm⟩
                                    have hsame := neq_same
                                    have c1 : wr.cell? ⟨be5, m, none⟩ = some (.pointer (some ⟨x, 0, none⟩)) := hT.out.exp m x hx
                                    have c2 := hT.out.g.chain m x hx
                                    rw [show ptrOf (EL n s nb (EE bs s) k)[m]? = Value.pointer (some ⟨x, 0, none⟩) by rw [hx]; rfl]
                                    clear hx
                                    go_wp2
                                    go_roundw
                                    case rel => exact ⟨m + 1, rfl, rfl, hlm, hT⟩
                                    case measure => simp [intOf]; omega
                                  · have he := eql_ptr_nil
                                    rw [EL_none hlm]
                                    go_wp2
                                    go_ret
                                    exact ⟨rfl, hT.out.below⟩
end Go.Proofs.Ybulkarlc
