/-
  Rounding to nearest, on non-negative words: a word that is no NaN is its rung; 'val' is what a rung stands for, in units of the least place. Two laws carry all else: 'nearest_le' and 'le_nearest'.
-/
import Ieee.Arith
namespace Go.Proofs.Ybulkargg.Fl
open Ieee

/-- What a rung stands for, in units of the least place (infinity: as if the next binade went on). -/
def val (f : Format) (r : Nat) : Nat := if r < f.binade then r else (f.binade + r % f.binade) * 2 ^ (r / f.binade - 1)

theorem binade_pos (f : Format) : 0 < f.binade := Nat.two_pow_pos _

theorem val_small {f : Format} {r : Nat} (h : r < f.binade) : val f r = r := by unfold val; rw [if_pos h]

theorem val_at {f : Format} (q m : Nat) (hm : m < f.binade) : val f ((q + 1) * f.binade + m) = (f.binade + m) * 2 ^ q := by
  have hb := binade_pos f
  unfold val
  have h1 : ¬ ((q + 1) * f.binade + m < f.binade) := by
    rw [Nat.add_mul]; omega
  rw [if_neg h1]
  have h2 : ((q + 1) * f.binade + m) % f.binade = m := by
    rw [Nat.add_comm, Nat.add_mul_mod_self_right, Nat.mod_eq_of_lt hm]
  have h3 : ((q + 1) * f.binade + m) / f.binade = q + 1 := by
    rw [Nat.add_comm, Nat.add_mul_div_right _ _ hb, Nat.div_eq_of_lt hm]; omega
  rw [h2, h3, Nat.add_sub_cancel]

theorem split_rung (f : Format) {r : Nat} (h : f.binade ≤ r) : ∃ q m, m < f.binade ∧ r = (q + 1) * f.binade + m := by
  have hb := binade_pos f
  refine ⟨r / f.binade - 1, r % f.binade, Nat.mod_lt _ hb, ?_⟩
  have h1 : 1 ≤ r / f.binade := (Nat.le_div_iff_mul_le hb).2 (by omega)
  rw [Nat.sub_add_cancel h1]
  have := Nat.div_add_mod r f.binade
  rw [Nat.mul_comm]; omega

theorem val_succ_lt (f : Format) (r : Nat) : val f r < val f (r + 1) := by
  have hb := binade_pos f
  by_cases h : r < f.binade
  · rw [val_small h]
    by_cases h2 : r + 1 < f.binade
    · rw [val_small h2]; omega
    · have e : r + 1 = (0 + 1) * f.binade + 0 := by omega
      rw [e, val_at 0 0 hb]; simp; omega
  · obtain ⟨q, m, hm, e⟩ := split_rung f (by omega : f.binade ≤ r)
    have hp := Nat.two_pow_pos q
    by_cases h2 : m + 1 < f.binade
    · rw [e, Nat.add_assoc, val_at q m hm, val_at q (m + 1) h2]
      exact Nat.mul_lt_mul_of_lt_of_le (by omega) (Nat.le_refl _) hp
    · have e2 : (q + 1) * f.binade + m + 1 = (q + 1 + 1) * f.binade + 0 := by
        rw [Nat.add_mul (q + 1) 1]; omega
      rw [e, e2, val_at q m hm, val_at (q + 1) 0 hb, Nat.pow_succ, Nat.add_zero]
      have : f.binade * (2 ^ q * 2) = (f.binade + f.binade) * 2 ^ q := by
        rw [Nat.mul_comm (2 ^ q) 2, ← Nat.mul_assoc]; congr 1; omega
      rw [this]
      exact Nat.mul_lt_mul_of_lt_of_le (by omega) (Nat.le_refl _) hp

theorem val_lt_of_lt {f : Format} {r s : Nat} (h : r < s) : val f r < val f s := by
  induction s with
  | zero => omega
  | succ s ih =>
    have h1 := val_succ_lt f s
    by_cases h2 : r < s
    · have := ih h2; omega
    · have : r = s := by omega
      subst this; exact h1

theorem val_le_of_le {f : Format} {r s : Nat} (h : r ≤ s) : val f r ≤ val f s := by
  by_cases e : r = s
  · subst e; exact Nat.le_refl _
  · exact Nat.le_of_lt (val_lt_of_lt (by omega))

theorem le_of_val_le {f : Format} {r s : Nat} (h : val f r ≤ val f s) : r ≤ s := by
  by_cases e : s < r
  · have := val_lt_of_lt (f := f) e; omega
  · omega

theorem val_inj {f : Format} {r s : Nat} (h : val f r = val f s) : r = s :=
  Nat.le_antisymm (le_of_val_le (Nat.le_of_eq h)) (le_of_val_le (Nat.le_of_eq h.symm))

/-! ### The cut -/
theorem toNat_le_one (b : Bool) : b.toNat ≤ 1 := by cases b <;> decide

theorem cut_unfold (n drop : Nat) : ∃ g, (g = min drop (n.log2 + 2)) ∧ Toward.even.cut false n drop = n / 2 ^ g + (decide (2 ^ g < 2 * (n % 2 ^ g)) || (2 ^ g == 2 * (n % 2 ^ g) && (n / 2 ^ g) % 2 == 1)).toNat := by
  refine ⟨_, rfl, ?_⟩
  unfold Toward.cut
  simp only [Nat.one_shiftLeft]

theorem cut_exact (n drop : Nat) (hg : drop ≤ n.log2 + 2) : Toward.even.cut false n drop = n / 2 ^ drop + (decide (2 ^ drop < 2 * (n % 2 ^ drop)) || (2 ^ drop == 2 * (n % 2 ^ drop) && (n / 2 ^ drop) % 2 == 1)).toNat := by
  obtain ⟨g, hg', e⟩ := cut_unfold n drop
  rw [e, hg', Nat.min_eq_left hg]

theorem cut_far (n drop : Nat) (hg : n.log2 + 2 ≤ drop) : Toward.even.cut false n drop = 0 := by
  obtain ⟨g, hg', e⟩ := cut_unfold n drop
  rw [Nat.min_eq_right hg] at hg'
  have h1 : n < 2 ^ (n.log2 + 1) := Nat.lt_log2_self
  have h2 : 2 ^ g = 2 * 2 ^ (n.log2 + 1) := by rw [hg', show n.log2 + 2 = (n.log2 + 1) + 1 from rfl, Nat.pow_succ]; omega
  rw [e, Nat.div_eq_of_lt (by omega), Nat.mod_eq_of_lt (by omega)]
  have h3 : ¬ (2 ^ g < 2 * n) := by omega
  simp [h3]

theorem cut_le {n drop m : Nat} (h : n ≤ m * 2 ^ drop) : Toward.even.cut false n drop ≤ m := by
  by_cases hg : drop ≤ n.log2 + 2
  · rw [cut_exact n drop hg]
    have hp := Nat.two_pow_pos drop
    generalize hG : 2 ^ drop = G at *
    have hd := Nat.div_add_mod n G
    have hm := Nat.mod_lt n hp
    by_cases h2 : n / G < m
    · have := toNat_le_one (decide (G < 2 * (n % G)) || (G == 2 * (n % G) && n / G % 2 == 1)); omega
    · have h3 : m ≤ n / G := by omega
      have h4 : G * m ≤ G * (n / G) := Nat.mul_le_mul_left _ h3
      rw [Nat.mul_comm m G] at h
      have h5 : n % G = 0 := by omega
      have h6 : n / G ≤ m := Nat.le_of_mul_le_mul_left (show G * (n / G) ≤ G * m by omega) hp
      rw [h5]
      have h7 : ¬ (G < 2 * 0) := by omega
      have h8 : (G == 2 * 0) = false := by simp; omega
      rw [h8]; simp; exact h6
  · rw [cut_far n drop (by omega)]; exact Nat.zero_le _

theorem le_cut {n drop m : Nat} (h : m * 2 ^ drop ≤ n) : m ≤ Toward.even.cut false n drop := by
  by_cases hg : drop ≤ n.log2 + 2
  · rw [cut_exact n drop hg]
    have hp := Nat.two_pow_pos drop
    have : m ≤ n / 2 ^ drop := (Nat.le_div_iff_mul_le hp).2 h
    omega
  · rw [cut_far n drop (by omega)]
    have h1 : n < 2 ^ (n.log2 + 1) := Nat.lt_log2_self
    have h2 : 2 ^ (n.log2 + 1) ≤ 2 ^ drop := Nat.pow_le_pow_right (by omega) (by omega)
    cases m with
    | zero => omega
    | succ m =>
      rw [Nat.succ_mul] at h
      omega

/-- The numbers of a rounding: 's' up, 't' down, 'e' binades above the least. -/
theorem nearest_form (f : Format) {mag : Nat} (place : Int) (h0 : mag ≠ 0) : ∃ s t e : Nat,
    f.nearest false mag place = min (e * f.binade + Toward.even.cut false (mag * 2 ^ s) t) f.infRung
    ∧ mag * 2 ^ s < 2 * f.binade * 2 ^ t ∧ (e = 0 ∨ f.binade * 2 ^ t ≤ mag * 2 ^ s)
    ∧ (∀ m, mag * 2 ^ s ≤ m * 2 ^ t ↔ mag * 2 ^ (place - f.leastPlace).toNat ≤ m * 2 ^ e * 2 ^ (f.leastPlace - place).toNat)
    ∧ (∀ m, m * 2 ^ t ≤ mag * 2 ^ s ↔ m * 2 ^ e * 2 ^ (f.leastPlace - place).toNat ≤ mag * 2 ^ (place - f.leastPlace).toNat) := by
  generalize hl : max (place + (mag.log2 : Int) - (f.fractionBits : Int)) f.leastPlace = last
  refine ⟨(place - last).toNat, (last - place).toNat, (last - f.leastPlace).toNat, ?_, ?_, ?_, ?_, ?_⟩
  · unfold Format.nearest
    rw [if_neg h0]
    simp only [hl, Format.word, Nat.shiftLeft_eq, Bool.false_eq_true, if_false]
  · have h1 : mag < 2 ^ (mag.log2 + 1) := Nat.lt_log2_self
    have h2 : mag.log2 + 1 + (place - last).toNat ≤ 1 + f.fractionBits + (last - place).toNat := by omega
    have h3 : 2 ^ (mag.log2 + 1 + (place - last).toNat) ≤ 2 ^ (1 + f.fractionBits + (last - place).toNat) := Nat.pow_le_pow_right (by omega) h2
    rw [Nat.pow_add, Nat.pow_add 2 (1 + f.fractionBits), Nat.pow_add 2 1] at h3
    have h4 : mag * 2 ^ (place - last).toNat < 2 ^ (mag.log2 + 1) * 2 ^ (place - last).toNat := Nat.mul_lt_mul_of_lt_of_le h1 (Nat.le_refl _) (Nat.two_pow_pos _)
    unfold Format.binade
    simp only [Nat.pow_one] at h3
    omega
  · by_cases he : last = f.leastPlace
    · left; omega
    · right
      have h1 : 2 ^ mag.log2 ≤ mag := Nat.log2_self_le h0
      have h2 : f.fractionBits + (last - place).toNat = mag.log2 + (place - last).toNat := by omega
      unfold Format.binade
      rw [← Nat.pow_add, h2, Nat.pow_add]
      exact Nat.mul_le_mul_right _ h1
  · intro m
    by_cases c1 : last ≤ place
    · have e1 : (last - place).toNat = 0 := by omega
      have e2 : (f.leastPlace - place).toNat = 0 := by omega
      have e3 : (place - f.leastPlace).toNat = (place - last).toNat + (last - f.leastPlace).toNat := by omega
      rw [e1, e2, e3, Nat.pow_add, ← Nat.mul_assoc, Nat.pow_zero, Nat.mul_one, Nat.mul_one]
      exact ⟨fun h => Nat.mul_le_mul_right _ h, fun h => Nat.le_of_mul_le_mul_right h (Nat.two_pow_pos _)⟩
    · have e1 : (place - last).toNat = 0 := by omega
      by_cases c2 : f.leastPlace ≤ place
      · have e2 : (f.leastPlace - place).toNat = 0 := by omega
        have e3 : (last - f.leastPlace).toNat = (last - place).toNat + (place - f.leastPlace).toNat := by omega
        rw [e1, e2, e3, Nat.pow_add, ← Nat.mul_assoc, Nat.pow_zero, Nat.mul_one, Nat.mul_one]
        exact ⟨fun h => Nat.mul_le_mul_right _ h, fun h => Nat.le_of_mul_le_mul_right h (Nat.two_pow_pos _)⟩
      · have e2 : (place - f.leastPlace).toNat = 0 := by omega
        have e3 : (last - place).toNat = (last - f.leastPlace).toNat + (f.leastPlace - place).toNat := by omega
        rw [e1, e2, e3, Nat.pow_add, ← Nat.mul_assoc, Nat.pow_zero, Nat.mul_one]
  · intro m
    by_cases c1 : last ≤ place
    · have e1 : (last - place).toNat = 0 := by omega
      have e2 : (f.leastPlace - place).toNat = 0 := by omega
      have e3 : (place - f.leastPlace).toNat = (place - last).toNat + (last - f.leastPlace).toNat := by omega
      rw [e1, e2, e3, Nat.pow_add, ← Nat.mul_assoc, Nat.pow_zero, Nat.mul_one, Nat.mul_one]
      exact ⟨fun h => Nat.mul_le_mul_right _ h, fun h => Nat.le_of_mul_le_mul_right h (Nat.two_pow_pos _)⟩
    · have e1 : (place - last).toNat = 0 := by omega
      by_cases c2 : f.leastPlace ≤ place
      · have e2 : (f.leastPlace - place).toNat = 0 := by omega
        have e3 : (last - f.leastPlace).toNat = (last - place).toNat + (place - f.leastPlace).toNat := by omega
        rw [e1, e2, e3, Nat.pow_add, ← Nat.mul_assoc, Nat.pow_zero, Nat.mul_one, Nat.mul_one]
        exact ⟨fun h => Nat.mul_le_mul_right _ h, fun h => Nat.le_of_mul_le_mul_right h (Nat.two_pow_pos _)⟩
      · have e2 : (place - f.leastPlace).toNat = 0 := by omega
        have e3 : (last - place).toNat = (last - f.leastPlace).toNat + (f.leastPlace - place).toNat := by omega
        rw [e1, e2, e3, Nat.pow_add, ← Nat.mul_assoc, Nat.pow_zero, Nat.mul_one]

theorem nearest_zero (f : Format) (place : Int) : f.nearest false 0 place = 0 := by
  unfold Format.nearest; rw [if_pos rfl]; rfl

theorem nearest_inf (f : Format) (mag : Nat) (place : Int) : f.nearest false mag place ≤ f.infRung := by
  by_cases h0 : mag = 0
  · subst h0; rw [nearest_zero]; exact Nat.zero_le _
  · obtain ⟨s, t, e, h, _⟩ := nearest_form f place h0
    rw [h]; exact Nat.min_le_right _ _

/-- What a rung of binade 'e' stands for. -/
theorem val_form {f : Format} {e k : Nat} (h2 : k ≤ 2 * f.binade) (h1 : e = 0 ∨ f.binade ≤ k) : val f (e * f.binade + k) = k * 2 ^ e := by
  have hb := binade_pos f
  by_cases c1 : k < f.binade
  · have : e = 0 := by omega
    subst this
    simp; exact val_small c1
  · by_cases c2 : k = 2 * f.binade
    · have : e * f.binade + k = (e + 1 + 1) * f.binade + 0 := by rw [Nat.add_mul (e + 1), Nat.add_mul e]; omega
      rw [this, val_at (e + 1) 0 hb, c2, Nat.pow_succ, Nat.add_zero, Nat.mul_comm 2 f.binade, Nat.mul_assoc, Nat.mul_comm 2 (2 ^ e)]
    · have : e * f.binade + k = (e + 1) * f.binade + (k - f.binade) := by rw [Nat.add_mul e]; omega
      rw [this, val_at e (k - f.binade) (by omega)]
      congr 1; omega

/-- ROUNDING NEVER PASSES A WORD, DOWNWARDS. -/
theorem nearest_le {f : Format} {mag : Nat} {place : Int} {r : Nat} (h : mag * 2 ^ (place - f.leastPlace).toNat ≤ val f r * 2 ^ (f.leastPlace - place).toNat) : f.nearest false mag place ≤ r := by
  by_cases h0 : mag = 0
  · subst h0; rw [nearest_zero]; exact Nat.zero_le _
  obtain ⟨s, t, e, hn, hlt, he, hle, hge⟩ := nearest_form f place h0
  rw [hn]
  refine Nat.le_trans (Nat.min_le_left _ _) ?_
  have hb := binade_pos f
  have hpt := Nat.two_pow_pos t
  have hpe := Nat.two_pow_pos e
  generalize hk : Toward.even.cut false (mag * 2 ^ s) t = k at *
  have hk2 : k ≤ 2 * f.binade := by rw [← hk]; exact cut_le (Nat.le_of_lt hlt)
  have hk1 : e = 0 ∨ f.binade ≤ k := by
    rcases he with he | he
    · exact .inl he
    · right; rw [← hk]; exact le_cut he
  by_cases hc : e * f.binade + k ≤ r
  · exact hc
  · exfalso
    have hr : r ≤ e * f.binade + k - 1 := by omega
    have hv := val_le_of_le (f := f) hr
    by_cases c1 : e = 0 ∨ f.binade + 1 ≤ k
    · have c2 : 1 ≤ k := by
        rcases c1 with c1 | c1
        · subst c1; omega
        · omega
      have e1 : e * f.binade + k - 1 = e * f.binade + (k - 1) := by omega
      rw [e1, val_form (by omega) (by omega)] at hv
      have h3 : mag * 2 ^ s ≤ (k - 1) * 2 ^ t := by
        rw [hle]
        exact Nat.le_trans h (Nat.mul_le_mul_right _ hv)
      have := cut_le h3
      omega
    · have hkb : k = f.binade := by omega
      have he0 : e ≠ 0 := by omega
      have he' : f.binade * 2 ^ t ≤ mag * 2 ^ s := by omega
      rw [hge] at he'
      have h4 : f.binade * 2 ^ e * 2 ^ (f.leastPlace - place).toNat ≤ val f r * 2 ^ (f.leastPlace - place).toNat := Nat.le_trans he' h
      have h5 := Nat.le_of_mul_le_mul_right h4 (Nat.two_pow_pos _)
      rw [← val_form (f := f) (e := e) (k := f.binade) (by omega) (by omega)] at h5
      have := le_of_val_le h5
      omega

/-- NOR UPWARDS. -/
theorem le_nearest {f : Format} {mag : Nat} {place : Int} {r : Nat} (hr : r ≤ f.infRung) (h : val f r * 2 ^ (f.leastPlace - place).toNat ≤ mag * 2 ^ (place - f.leastPlace).toNat) : r ≤ f.nearest false mag place := by
  by_cases h0 : mag = 0
  · subst h0
    rw [nearest_zero]
    rw [Nat.zero_mul] at h
    have h1 : val f r = 0 := by
      rcases Nat.mul_eq_zero.1 (Nat.le_zero.1 h) with h | h
      · exact h
      · have := Nat.two_pow_pos (f.leastPlace - place).toNat; omega
    have h2 : val f 0 = 0 := val_small (binade_pos f)
    exact le_of_val_le (f := f) (by omega)
  obtain ⟨s, t, e, hn, hlt, he, hle, hge⟩ := nearest_form f place h0
  rw [hn]
  refine Nat.le_min.2 ⟨?_, hr⟩
  have hb := binade_pos f
  generalize hk : Toward.even.cut false (mag * 2 ^ s) t = k at *
  have hk2 : k ≤ 2 * f.binade := by rw [← hk]; exact cut_le (Nat.le_of_lt hlt)
  have hk1 : e = 0 ∨ f.binade ≤ k := by
    rcases he with he | he
    · exact .inl he
    · right; rw [← hk]; exact le_cut he
  by_cases hc : r ≤ e * f.binade + k
  · exact hc
  · exfalso
    by_cases c1 : k + 1 ≤ 2 * f.binade
    · have hv := val_le_of_le (f := f) (show e * f.binade + (k + 1) ≤ r by omega)
      rw [val_form c1 (by omega)] at hv
      have h3 : (k + 1) * 2 ^ t ≤ mag * 2 ^ s := by
        rw [hge]
        exact Nat.le_trans (Nat.mul_le_mul_right _ hv) h
      have := le_cut h3
      omega
    · have hkb : k = 2 * f.binade := by omega
      have hv := val_le_of_le (f := f) (show e * f.binade + k ≤ r by omega)
      rw [val_form hk2 hk1] at hv
      have h3 : k * 2 ^ t ≤ mag * 2 ^ s := by
        rw [hge]
        exact Nat.le_trans (Nat.mul_le_mul_right _ hv) h
      rw [hkb] at h3
      omega
end Go.Proofs.Ybulkargg.Fl
