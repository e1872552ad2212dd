/-
  besselI0 as plain iterates over words of the format 'double': every operation on the way is valid, the loop ends, the sum never falls.
-/
import Derived.Test.YbulkarggFloat
namespace Go.Proofs.Ybulkargg.Fl
open Ieee
set_option exponentiation.threshold 4000

def one : Nat := 4607182418800017408
def c17 : Nat := 4352464011485697175
def den (n : Nat) : Nat := double.nearest false (2 * (n + 1)) 0
def hOf (x n : Nat) : Nat := (double.div x (den n)).getD 0
def hh (x n : Nat) : Nat := (double.mul (hOf x n) (hOf x n)).getD 0
def termOf (x n t : Nat) : Nat := (double.mul t (hh x n)).getD 0
def sumOf (s t : Nat) : Nat := (double.add s t).getD 0
def thr (s : Nat) : Nat := (double.mul s c17).getD 0
def st (x : Nat) : Nat → Nat × Nat
  | 0 => (one, one)
  | n + 1 => (termOf x n (st x n).1, sumOf (st x n).2 (termOf x n (st x n).1))
def testB (p : Nat × Nat) : Bool := double.order p.1 (thr p.2) == some .gt
def Reach (x n : Nat) : Prop := ∀ m, m < n → testB (st x m) = true

theorem hf : 1 ≤ double.exponentBits := by decide
theorem hU : double.leastPlace = -((1074 : Nat) : Int) := by decide
theorem hB : double.binade = 2 ^ 52 := rfl
theorem hinf : double.infRung = 9218868437227405312 := by decide +kernel
theorem hsw : double.signWeight = 9223372036854775808 := by decide +kernel

/-- The rung at which the i-th binade begins. -/
def at2 (i : Nat) : Nat := i * 4503599627370496
theorem val_at2 (i : Nat) : val double (at2 (i + 1)) = 2 ^ (52 + i) := by
  have h := val_at (f := double) i 0 (binade_pos _)
  simp only [Nat.add_zero] at h
  rw [hB, ← Nat.pow_add] at h
  rw [← h]
  congr 1
theorem at2_inf : at2 2047 = double.infRung := by decide +kernel
theorem at2_one : at2 1023 = one := by decide +kernel
theorem at2_le {i j : Nat} (h : i ≤ j) : at2 i ≤ at2 j := Nat.mul_le_mul_right _ h
theorem val_one : val double one = 2 ^ 1074 := by rw [← at2_one]; exact val_at2 1022
theorem c17_fin : c17 < double.infRung := by decide +kernel
theorem c17_lo : at2 966 ≤ c17 := by decide +kernel
theorem one_fin : one < double.infRung := by decide +kernel

theorem log2_le_of_lt {m : Nat} (h : m < 2 ^ 53) : m.log2 ≤ 52 := by
  by_cases h0 : m = 0
  · subst h0; decide
  · have := (Nat.log2_lt h0).2 h; omega

theorem read_log2 : ∀ r m p, double.read r = .number false m p → m.log2 ≤ double.fractionBits := by
  intro r m p h
  have hb : double.binade = 4503599627370496 := rfl
  have hfb : double.fractionBits = 52 := rfl
  rw [hfb]
  apply log2_le_of_lt
  unfold Format.read at h
  dsimp only at h
  split at h
  · simp only [Datum.number.injEq] at h
    omega
  · split at h
    · simp only [Datum.number.injEq] at h
      have := Nat.mod_lt (r % double.signWeight) (binade_pos double)
      omega
    · split at h <;> cases h

/-- A whole number below 2^53 is a word. -/
theorem nearest_whole (m : Nat) (h0 : m ≠ 0) (h : m < 2 ^ 53) : double.nearest false m 0 < double.infRung ∧ double.nearest false m 0 ≠ 0 ∧ val double (double.nearest false m 0) = m * 2 ^ 1074 := by
  have hL := log2_le_of_lt h
  have h1 : 2 ^ m.log2 ≤ m := Nat.log2_self_le h0
  have h2 : m < 2 ^ (m.log2 + 1) := Nat.lt_log2_self
  generalize hl : m.log2 = L at *
  have e52 : 2 ^ L * 2 ^ (52 - L) = 2 ^ 52 := by rw [← Nat.pow_add]; congr 1; omega
  have h3 : 2 ^ L * 2 ^ (52 - L) ≤ m * 2 ^ (52 - L) := Nat.mul_le_mul_right _ h1
  have h4 : m * 2 ^ (52 - L) < 2 ^ (L + 1) * 2 ^ (52 - L) := Nat.mul_lt_mul_of_lt_of_le h2 (Nat.le_refl _) (Nat.two_pow_pos _)
  rw [Nat.pow_succ, Nat.mul_comm (2 ^ L) 2, Nat.mul_assoc, e52] at h4
  rw [e52] at h3
  have hm : m * 2 ^ (52 - L) - 2 ^ 52 < double.binade := by rw [hB]; omega
  have hv := val_at (f := double) (L + 1022) (m * 2 ^ (52 - L) - 2 ^ 52) hm
  have e1 : double.binade + (m * 2 ^ (52 - L) - 2 ^ 52) = m * 2 ^ (52 - L) := by rw [hB]; omega
  rw [e1, Nat.mul_assoc, ← Nat.pow_add] at hv
  have e2 : 52 - L + (L + 1022) = 1074 := by omega
  rw [e2] at hv
  generalize hr : (L + 1022 + 1) * double.binade + (m * 2 ^ (52 - L) - 2 ^ 52) = r at hv
  have hlt : r < double.infRung := by
    rw [hinf, ← hr]
    have : double.binade = 4503599627370496 := rfl
    have h5 : (L + 1022 + 1) * double.binade ≤ 1075 * double.binade := Nat.mul_le_mul_right _ (by omega)
    omega
  have hne : r ≠ 0 := by
    intro h5
    rw [h5, val_small (binade_pos _)] at hv
    have := Nat.mul_pos (Nat.pos_of_ne_zero h0) (Nat.two_pow_pos 1074)
    omega
  have t1 : (double.leastPlace - 0).toNat = 0 := by decide
  have t2 : (0 - double.leastPlace).toNat = 1074 := by decide
  have eq : double.nearest false m 0 = r := by
    apply Nat.le_antisymm
    · apply nearest_le; rw [t1, t2, hv, Nat.pow_zero, Nat.mul_one]; exact Nat.le_refl _
    · apply le_nearest (Nat.le_of_lt hlt); rw [t1, t2, hv, Nat.pow_zero, Nat.mul_one]; exact Nat.le_refl _
  rw [eq]
  exact ⟨hlt, hne, hv⟩

theorem den_ok (n : Nat) (h : n < 1000000) : den n < double.infRung ∧ den n ≠ 0 ∧ val double (den n) = 2 * (n + 1) * 2 ^ 1074 := by
  have h53 : (2 : Nat) ^ 53 = 9007199254740992 := rfl
  exact nearest_whole (2 * (n + 1)) (by omega) (by omega)

theorem word_le (s : Bool) (a : Nat) : double.word s a = if s then double.signWeight + a else a := rfl

/-- h and h * h: valid; h * h does not see the sign; how it stands to 4 and to 1/4. -/
theorem hh_ok (a : Nat) (ha : a ≤ double.infRung) (n : Nat) (hn : n < 1000000) : ∃ H q, q ≤ double.infRung
    ∧ (∀ s, double.div (double.word s a) (den n) = some (double.word s H) ∧ hOf (double.word s a) n = double.word s H ∧ double.mul (double.word s H) (double.word s H) = some q ∧ hh (double.word s a) n = q)
    ∧ (4 * (n + 1) * 2 ^ 1074 ≤ val double a → at2 1025 ≤ q)
    ∧ (val double a ≤ (n + 1) * 2 ^ 1074 → q ≤ at2 1021) := by
  obtain ⟨d1, d2, d3⟩ := den_ok n hn
  have hsq : ∀ H, H ≤ double.infRung → ∃ q, q ≤ double.infRung ∧ (∀ s, double.mul (double.word s H) (double.word s H) = some q) ∧ (at2 1024 ≤ H → at2 1025 ≤ q) ∧ (H ≤ at2 1022 → q ≤ at2 1021) := by
    intro H hH
    by_cases c : H < double.infRung
    · obtain ⟨q, q1, q2, q3, q4⟩ := mul_fin hU c c
      refine ⟨q, q2, fun s => ?_, fun h => ?_, fun h => ?_⟩
      · rw [q1 s s]; cases s <;> rfl
      · refine q4 _ (by rw [hinf]; decide) ?_
        have h1 := val_le_of_le (f := double) h
        rw [val_at2 1023] at h1
        rw [val_at2 1024]
        have h2 := Nat.mul_le_mul h1 h1
        rw [← Nat.pow_add] at h2
        rw [← Nat.pow_add]
        exact h2
      · refine q3 _ ?_
        have h1 := val_le_of_le (f := double) h
        rw [val_at2 1021] at h1
        rw [val_at2 1020]
        have h2 := Nat.mul_le_mul h1 h1
        rw [← Nat.pow_add] at h2
        rw [← Nat.pow_add]
        exact h2
    · have e : H = double.infRung := by omega
      subst e
      refine ⟨double.infRung, Nat.le_refl _, fun s => ?_, fun _ => by rw [hinf]; decide, fun h => ?_⟩
      · rw [mul_inf_inf hf s s]; cases s <;> rfl
      · rw [hinf] at h; exact absurd h (by decide)
  by_cases c : a < double.infRung
  · obtain ⟨H, e1, e2, e3, e4⟩ := div_fin hU read_log2 c d1 d2
    obtain ⟨q, q1, q2, q3, q4⟩ := hsq H e2
    refine ⟨H, q, q1, fun s => ?_, fun h => q3 ?_, fun h => q4 ?_⟩
    · have h1 : hOf (double.word s a) n = double.word s H := by unfold hOf; rw [e1 s]; rfl
      refine ⟨e1 s, h1, q2 s, ?_⟩
      unfold hh; rw [h1, q2 s]; rfl
    · refine e4 _ (52 + 1023) (by rw [hinf]; decide) (val_at2 1023) ?_
      rw [d3]
      have e : 2 * (n + 1) * 2 ^ 1074 * 2 ^ (52 + 1023) = 4 * (n + 1) * 2 ^ 1074 * 2 ^ 1074 := by
        rw [show 52 + 1023 = 1074 + 1 from rfl, Nat.pow_succ 2 1074]
        generalize 2 ^ 1074 = G
        rw [show 4 * (n + 1) = 2 * (n + 1) * 2 by omega]
        simp only [Nat.mul_left_comm, Nat.mul_comm]
      rw [e]
      exact Nat.mul_le_mul_right _ h
    · refine e3 _ (52 + 1021) (val_at2 1021) ?_
      rw [d3]
      have e : 2 * (n + 1) * 2 ^ 1074 * 2 ^ (52 + 1021) = (n + 1) * 2 ^ 1074 * 2 ^ 1074 := by
        rw [show (52 + 1021 : Nat) = 1073 from rfl, show (1074 : Nat) = 1073 + 1 from rfl, Nat.pow_succ 2 1073]
        generalize 2 ^ 1073 = G
        simp only [Nat.mul_left_comm, Nat.mul_comm]
      rw [e]
      exact Nat.mul_le_mul_right _ h
  · have e : a = double.infRung := by omega
    subst e
    obtain ⟨q, q1, q2, q3, q4⟩ := hsq double.infRung (Nat.le_refl _)
    refine ⟨double.infRung, q, q1, fun s => ?_, fun _ => q3 (by rw [hinf]; decide), fun h => ?_⟩
    · have h0 := div_inf_fin (f := double) hf s d1
      have h1 : hOf (double.word s double.infRung) n = double.word s double.infRung := by unfold hOf; rw [h0]; rfl
      refine ⟨h0, h1, q2 s, ?_⟩
      unfold hh; rw [h1, q2 s]; rfl
    · exfalso
      rw [← at2_inf, val_at2 2046] at h
      have h2 : (n + 1) * 2 ^ 1074 < 2 ^ 20 * 2 ^ 1074 := Nat.mul_lt_mul_of_lt_of_le (by have : (2:Nat) ^ 20 = 1048576 := rfl
                                                                                         omega) (Nat.le_refl _) (Nat.two_pow_pos _)
      rw [← Nat.pow_add] at h2
      have h3 : 2 ^ (20 + 1074) ≤ 2 ^ (52 + 2046) := Nat.pow_le_pow_right (by omega) (by omega)
      omega

/-- What holds at the loop's head. -/
structure Head (p : Nat × Nat) : Prop where
  t : p.1 ≤ double.infRung
  s : p.2 ≤ double.infRung
  lo : one ≤ p.2
  inf : p.1 = double.infRung → p.2 = double.infRung

theorem thr_ok {p : Nat × Nat} (h : Head p) : double.mul p.2 c17 = some (thr p.2) ∧ thr p.2 ≤ double.infRung ∧ c17 ≤ thr p.2 := by
  have hc0 : c17 ≠ 0 := by decide
  by_cases c : p.2 < double.infRung
  · obtain ⟨q, q1, q2, q3, q4⟩ := mul_fin hU c c17_fin
    have e := q1 false false
    have e2 : thr p.2 = q := by unfold thr; rw [show p.2 = double.word false p.2 from rfl, show c17 = double.word false c17 from rfl, e]; rfl
    rw [e2]
    refine ⟨e, q2, q4 _ (Nat.le_of_lt c17_fin) ?_⟩
    have h1 := val_le_of_le (f := double) h.lo
    rw [val_one] at h1
    rw [Nat.mul_comm]
    exact Nat.mul_le_mul_right _ h1
  · have e : p.2 = double.infRung := by have := h.s; omega
    have e1 := mul_inf_fin (f := double) hf false false c17_fin hc0
    have e2 : thr p.2 = double.infRung := by
      unfold thr; rw [e]
      rw [show double.mul double.infRung c17 = some double.infRung from e1]; rfl
    rw [e2, e]
    exact ⟨e1, Nat.le_refl _, Nat.le_of_lt c17_fin⟩

theorem test_ok {p : Nat × Nat} (h : Head p) (ht : testB p = true) : p.1 < double.infRung ∧ p.2 < double.infRung ∧ c17 < p.1 := by
  obtain ⟨t1, t2, t3⟩ := thr_ok h
  unfold testB at ht
  rw [order_nonneg hf h.t t2] at ht
  have hgt : thr p.2 < p.1 := by
    simp [compare, compareOfLessAndEq] at ht
    by_cases c1 : p.1 < thr p.2
    · simp [c1] at ht
    · by_cases c2 : p.1 = thr p.2
      · simp [c2] at ht
      · omega
  have ha : p.1 < double.infRung := by
    by_cases c : p.1 = double.infRung
    · have e := h.inf c
      have e2 : thr p.2 = double.infRung := by
        have e1 := mul_inf_fin (f := double) hf false false c17_fin (by decide)
        unfold thr; rw [e]
        rw [show double.mul double.infRung c17 = some double.infRung from e1]; rfl
      have := h.t
      omega
    · have := h.t; omega
  refine ⟨ha, ?_, by omega⟩
  by_cases c : p.2 = double.infRung
  · have e2 : thr p.2 = double.infRung := by
      have e1 := mul_inf_fin (f := double) hf false false c17_fin (by decide)
      unfold thr; rw [c]
      rw [show double.mul double.infRung c17 = some double.infRung from e1]; rfl
    omega
  · have := h.s; omega

/-- One round: all valid; the head's facts hold anew; the sum does not fall; the term against powers of two. -/
theorem round_ok {t s q : Nat} (ht : t < double.infRung) (ht0 : t ≠ 0) (hs : s < double.infRung) (hlo : one ≤ s) (hq : q ≤ double.infRung) :
    ∃ t' s', double.mul t q = some t' ∧ double.add s t' = some s' ∧ Head (t', s') ∧ s ≤ s'
    ∧ (∀ i, at2 (i + 1) ≤ t → at2 1025 ≤ q → i + 3 ≤ 2047 → at2 (i + 3) ≤ t')
    ∧ (∀ i, t ≤ at2 (i + 3) → q ≤ at2 1021 → t' ≤ at2 (i + 1)) := by
  have key : ∃ t', double.mul t q = some t' ∧ t' ≤ double.infRung ∧ (∀ i, at2 (i + 1) ≤ t → at2 1025 ≤ q → i + 3 ≤ 2047 → at2 (i + 3) ≤ t') ∧ (∀ i, t ≤ at2 (i + 3) → q ≤ at2 1021 → t' ≤ at2 (i + 1)) := by
    by_cases c : q < double.infRung
    · obtain ⟨t', q1, q2, q3, q4⟩ := mul_fin hU ht c
      refine ⟨t', q1 false false, q2, fun i h1 h2 h3 => q4 _ ?_ ?_, fun i h1 h2 => q3 _ ?_⟩
      · rw [← at2_inf]; exact at2_le h3
      · have g1 := val_le_of_le (f := double) h1
        have g2 := val_le_of_le (f := double) h2
        rw [val_at2] at g1
        rw [val_at2 1024] at g2
        rw [val_at2 (i + 2)]
        have g3 := Nat.mul_le_mul g1 g2
        rw [← Nat.pow_add] at g3
        rw [← Nat.pow_add]
        rw [show 52 + (i + 2) + 1074 = 52 + i + (52 + 1024) by omega]
        exact g3
      · have g1 := val_le_of_le (f := double) h1
        have g2 := val_le_of_le (f := double) h2
        rw [val_at2 (i + 2)] at g1
        rw [val_at2 1020] at g2
        rw [val_at2 i]
        have g3 := Nat.mul_le_mul g1 g2
        rw [← Nat.pow_add] at g3
        rw [← Nat.pow_add]
        rw [show 52 + i + 1074 = 52 + (i + 2) + (52 + 1020) by omega]
        exact g3
    · have e : q = double.infRung := by omega
      subst e
      refine ⟨double.infRung, mul_fin_inf (f := double) hf false false ht ht0, Nat.le_refl _, fun i _ _ h3 => ?_, fun i _ h2 => ?_⟩
      · rw [← at2_inf]; exact at2_le h3
      · rw [hinf] at h2; exact absurd h2 (by decide)
  obtain ⟨t', e1, e2, e3, e4⟩ := key
  by_cases c : t' < double.infRung
  · obtain ⟨s', s1, s2, _, s4⟩ := add_fin (f := double) hs c
    have hle : s ≤ s' := s4 _ (Nat.le_of_lt hs) (Nat.le_add_right _ _)
    exact ⟨t', s', e1, s1, ⟨e2, s2, Nat.le_trans hlo hle, fun h => by have : t' = double.infRung := h
                                                                      omega⟩, hle, e3, e4⟩
  · have e : t' = double.infRung := by omega
    subst e
    exact ⟨_, _, e1, add_inf_right hf (Nat.le_of_lt hs), ⟨Nat.le_refl _, Nat.le_refl _, Nat.le_of_lt one_fin, fun _ => rfl⟩, Nat.le_of_lt hs, e3, e4⟩

theorem head0 (x : Nat) : Head (st x 0) := ⟨Nat.le_of_lt one_fin, Nat.le_of_lt one_fin, Nat.le_refl _, fun h => absurd (show one = double.infRung from h) (by decide +kernel)⟩

theorem ne_zero_of_c17 {t : Nat} (h : c17 < t) : t ≠ 0 := by omega

/-- A round of the iterates. -/
theorem step_ok (s : Bool) (a : Nat) (ha : a ≤ double.infRung) (n : Nat) (hn : n < 1000000) (h : Head (st (double.word s a) n)) (ht : testB (st (double.word s a) n) = true) :
    double.div (double.word s a) (den n) = some (hOf (double.word s a) n)
    ∧ double.mul (hOf (double.word s a) n) (hOf (double.word s a) n) = some (hh (double.word s a) n)
    ∧ double.mul (st (double.word s a) n).1 (hh (double.word s a) n) = some (st (double.word s a) (n + 1)).1
    ∧ double.add (st (double.word s a) n).2 (st (double.word s a) (n + 1)).1 = some (st (double.word s a) (n + 1)).2
    ∧ Head (st (double.word s a) (n + 1)) ∧ (st (double.word s a) n).2 ≤ (st (double.word s a) (n + 1)).2
    ∧ (4 * (n + 1) * 2 ^ 1074 ≤ val double a → ∀ i, at2 (i + 1) ≤ (st (double.word s a) n).1 → i + 3 ≤ 2047 → at2 (i + 3) ≤ (st (double.word s a) (n + 1)).1)
    ∧ (val double a ≤ (n + 1) * 2 ^ 1074 → ∀ i, (st (double.word s a) n).1 ≤ at2 (i + 3) → (st (double.word s a) (n + 1)).1 ≤ at2 (i + 1)) := by
  obtain ⟨g1, g2, g3⟩ := test_ok h ht
  obtain ⟨H, q, q1, q2, q3, q4⟩ := hh_ok a ha n hn
  obtain ⟨k1, k2, k3, k4⟩ := q2 s
  obtain ⟨t', s', r1, r2, r3, r4, r5, r6⟩ := round_ok g1 (ne_zero_of_c17 g3) g2 h.lo q1
  have e1 : (st (double.word s a) (n + 1)).1 = t' := by
    show termOf _ _ _ = _
    unfold termOf; rw [k4, r1]; rfl
  have e2 : (st (double.word s a) (n + 1)).2 = s' := by
    show sumOf _ (termOf _ _ _) = _
    unfold sumOf termOf; rw [k4, r1]
    simp only [Option.getD_some]
    rw [r2]; rfl
  have e3 : st (double.word s a) (n + 1) = (t', s') := by rw [← e1, ← e2]
  rw [e1, e2, e3, k2, k4]
  exact ⟨k1, k3, r1, r2, r3, r4, fun h1 i h2 h3 => r5 i h2 (q3 h1) h3, fun h1 i h2 => r6 i h2 (q4 h1)⟩

theorem reach_head (s : Bool) (a : Nat) (ha : a ≤ double.infRung) (n : Nat) (hn : n < 1000000) (h : Reach (double.word s a) n) : Head (st (double.word s a) n) := by
  induction n with
  | zero => exact head0 _
  | succ n ih =>
    have h1 := ih (by omega) (fun m hm => h m (by omega))
    exact (step_ok s a ha n (by omega) h1 (h n (by omega))).2.2.2.2.1

theorem grows (s : Bool) (a : Nat) (ha : a ≤ double.infRung) (hbig : 4096 * 2 ^ 1074 ≤ val double a) (n : Nat) (hn : n ≤ 512) (h : Reach (double.word s a) n) : at2 (1023 + 2 * n) ≤ (st (double.word s a) n).1 := by
  induction n with
  | zero => exact Nat.le_of_eq at2_one
  | succ n ih =>
    have h0 : Reach (double.word s a) n := fun m hm => h m (by omega)
    have h1 := ih (by omega) h0
    have h2 := (step_ok s a ha n (by omega) (reach_head s a ha n (by omega) h0) (h n (by omega))).2.2.2.2.2.2.1
      (Nat.le_trans (Nat.mul_le_mul_right _ (by omega)) hbig) (1022 + 2 * n) (by rw [show 1022 + 2 * n + 1 = 1023 + 2 * n by omega]; exact h1) (by omega)
    rw [show 1023 + 2 * (n + 1) = 1022 + 2 * n + 3 by omega]
    exact h2

theorem falls (s : Bool) (a : Nat) (ha : a ≤ double.infRung) (hsm : val double a ≤ 4096 * 2 ^ 1074) (j : Nat) (hj : j ≤ 1000) (h : Reach (double.word s a) (4096 + j)) : (st (double.word s a) (4096 + j)).1 ≤ at2 (2047 - 2 * j) := by
  induction j with
  | zero => rw [show 2047 - 2 * 0 = 2047 from rfl, at2_inf]; exact (reach_head s a ha _ (by omega) h).t
  | succ j ih =>
    have h0 : Reach (double.word s a) (4096 + j) := fun m hm => h m (by omega)
    have h1 := ih (by omega) h0
    have h2 := (step_ok s a ha (4096 + j) (by omega) (reach_head s a ha _ (by omega) h0) (h _ (by omega))).2.2.2.2.2.2.2
      (Nat.le_trans hsm (Nat.mul_le_mul_right _ (by omega))) (2047 - 2 * j - 3) (by rw [show 2047 - 2 * j - 3 + 3 = 2047 - 2 * j by omega]; exact h1)
    rw [show 2047 - 2 * (j + 1) = 2047 - 2 * j - 3 + 1 by omega]
    exact h2

/-- THE LOOP ENDS. -/
theorem ends (s : Bool) (a : Nat) (ha : a ≤ double.infRung) (n : Nat) (h : Reach (double.word s a) n) : n < 5000 := by
  by_cases hlt : n < 5000
  · exact hlt
  exfalso
  by_cases c : 4096 * 2 ^ 1074 ≤ val double a
  · have h0 : Reach (double.word s a) 512 := fun m hm => h m (by omega)
    have h1 := grows s a ha c 512 (by omega) h0
    rw [show 1023 + 2 * 512 = 2047 from rfl, at2_inf] at h1
    have h2 := test_ok (reach_head s a ha 512 (by omega) h0) (h 512 (by omega))
    omega
  · have h0 : Reach (double.word s a) (4096 + 541) := fun m hm => h m (by omega)
    have h1 := falls s a ha (by omega) 541 (by omega) h0
    have h2 := test_ok (reach_head s a ha _ (by omega) h0) (h (4096 + 541) (by omega))
    have h3 : at2 (2047 - 2 * 541) ≤ at2 966 := at2_le (by omega)
    have := c17_lo
    omega

/-- THE SUM NEVER FALLS. -/
theorem sum_mono (s : Bool) (a : Nat) (ha : a ≤ double.infRung) (k n : Nat) (hn : n < 1000000) (hk : k ≤ n) (h : Reach (double.word s a) n) : (st (double.word s a) k).2 ≤ (st (double.word s a) n).2 := by
  induction n with
  | zero => have : k = 0 := by omega
            subst this; exact Nat.le_refl _
  | succ n ih =>
    have h0 : Reach (double.word s a) n := fun m hm => h m (by omega)
    by_cases c : k = n + 1
    · subst c; exact Nat.le_refl _
    · refine Nat.le_trans (ih (by omega) (by omega) h0) ?_
      exact (step_ok s a ha n (by omega) (reach_head s a ha n (by omega) h0) (h n (by omega))).2.2.2.2.2.1

/-- THE SIGN IS NOT SEEN. -/
theorem hh_sign (s t : Bool) (a : Nat) (ha : a ≤ double.infRung) (n : Nat) (hn : n < 1000000) : hh (double.word s a) n = hh (double.word t a) n := by
  obtain ⟨H, q, q1, q2, _⟩ := hh_ok a ha n hn
  rw [(q2 s).2.2.2, (q2 t).2.2.2]

theorem st_sign (s t : Bool) (a : Nat) (ha : a ≤ double.infRung) (n : Nat) (hn : n < 1000000) : st (double.word s a) n = st (double.word t a) n := by
  induction n with
  | zero => rfl
  | succ n ih =>
    have h := ih (by omega)
    unfold st
    unfold termOf
    rw [h, hh_sign s t a ha n (by omega)]

/-- The round at which the loop is left is one. -/
theorem leave_unique {f g : Nat → Bool} {m n : Nat} (hfg : ∀ k, k ≤ m → k ≤ n → f k = g k) (h1 : ∀ k, k < m → f k = true) (h2 : f m = false) (h3 : ∀ k, k < n → g k = true) (h4 : g n = false) : m = n := by
  by_cases c : m < n
  · have := h3 m c; rw [← hfg m (Nat.le_refl _) (by omega), h2] at this; cases this
  · by_cases c2 : n < m
    · have := h1 n c2; rw [hfg n (by omega) (Nat.le_refl _), h4] at this; cases this
    · omega
end Go.Proofs.Ybulkargg.Fl
