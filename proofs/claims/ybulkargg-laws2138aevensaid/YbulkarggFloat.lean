/-
  '+', '*', '/', the order, on words that are no NaN, by what the words stand for ('val').
-/
import Derived.Test.YbulkarggRound
namespace Go.Proofs.Ybulkargg.Fl
open Ieee

section
variable {f : Format} {U : Nat}

theorem infRung_lt' (f : Format) : f.infRung < f.signWeight := by
  have hb := binade_pos f
  have h : 0 < 2 ^ f.exponentBits := Nat.two_pow_pos _
  have e : f.infRung + f.binade = f.signWeight := by
    unfold Format.infRung Format.signWeight
    rw [Nat.pow_add, ← Nat.succ_mul]
    exact congrArg (· * f.binade) (by omega)
  omega

theorem word_false (f : Format) (r : Nat) : f.word false r = r := rfl

theorem word_div (f : Format) (s : Bool) {r : Nat} (h : r < f.signWeight) : (f.word s r / f.signWeight % 2 == 1) = s := by
  have hp : 0 < f.signWeight := Nat.two_pow_pos _
  cases s
  · simp [Format.word, Nat.div_eq_of_lt h]
  · have : (f.signWeight + r) / f.signWeight = 1 := by
      rw [Nat.add_comm, Nat.add_div_right _ hp, Nat.div_eq_of_lt h]
    simp [Format.word, this]

theorem word_mod (f : Format) (s : Bool) {r : Nat} (h : r < f.signWeight) : f.word s r % f.signWeight = r := by
  cases s
  · simp [Format.word, Nat.mod_eq_of_lt h]
  · simp [Format.word, Nat.mod_eq_of_lt h]

theorem read_word (f : Format) (s : Bool) {r : Nat} (h : r < f.signWeight) : f.read (f.word s r) =
    if r < f.binade then .number s r f.leastPlace
    else if r < f.infRung then .number s (f.binade + r % f.binade) (f.leastPlace + (r / f.binade - 1 : Nat))
    else if r = f.infRung then .infinity s
    else .nan s (r - f.infRung) := by
  unfold Format.read
  simp only [word_div f s h, word_mod f s h]

theorem read_fin (f : Format) {r : Nat} (h : r < f.infRung) : ∃ m p : Nat, (∀ s, f.read (f.word s r) = .number s m (f.leastPlace + p)) ∧ m * 2 ^ p = val f r ∧ (m = 0 ↔ r = 0) := by
  have hb := binade_pos f
  have hw := infRung_lt' f
  by_cases h1 : r < f.binade
  · refine ⟨r, 0, fun s => ?_, ?_, Iff.rfl⟩
    · rw [read_word f s (by omega), if_pos h1]; simp
    · rw [val_small h1]; simp
  · refine ⟨f.binade + r % f.binade, r / f.binade - 1, fun s => ?_, ?_, ?_⟩
    · rw [read_word f s (by omega), if_neg h1, if_pos h]
    · unfold val; rw [if_neg h1]
    · constructor <;> intro h2 <;> omega

theorem binade_le_inf (f : Format) (hf : 1 ≤ f.exponentBits) : f.binade ≤ f.infRung := by
  unfold Format.infRung
  have h1 : 2 ^ 1 ≤ 2 ^ f.exponentBits := Nat.pow_le_pow_right (by omega) hf
  have : 1 * f.binade ≤ (2 ^ f.exponentBits - 1) * f.binade := Nat.mul_le_mul_right _ (by omega)
  omega

theorem read_inf (f : Format) (hf : 1 ≤ f.exponentBits) (s : Bool) : f.read (f.word s f.infRung) = .infinity s := by
  have hw := infRung_lt' f
  have hb := binade_le_inf f hf
  rw [read_word f s hw, if_neg (by omega), if_neg (by omega), if_pos rfl]

theorem read_nan (f : Format) (hf : 1 ≤ f.exponentBits) (s : Bool) {r : Nat} (h : r < f.signWeight) (h2 : f.infRung < r) : f.read (f.word s r) = .nan s (r - f.infRung) := by
  have hb := binade_le_inf f hf
  rw [read_word f s h, if_neg (by omega), if_neg (by omega), if_neg (by omega)]

theorem cut_sign (s : Bool) (n d : Nat) : Toward.even.cut s n d = Toward.even.cut false n d := rfl

theorem nearest_sign (f : Format) (s : Bool) (mag : Nat) (place : Int) : f.nearest s mag place = f.word s (f.nearest false mag place) := by
  unfold Format.nearest
  by_cases h : mag = 0
  · simp [h, word_false]
  · simp only [if_neg h, cut_sign s, word_false]

/-- A product of two finite numbers. -/
theorem mul_fin (hU : f.leastPlace = -(U : Int)) {a b : Nat} (ha : a < f.infRung) (hb : b < f.infRung) : ∃ c, (∀ s t, f.mul (f.word s a) (f.word t b) = some (f.word (s ^^ t) c)) ∧ c ≤ f.infRung
    ∧ (∀ r, val f a * val f b ≤ val f r * 2 ^ U → c ≤ r) ∧ (∀ r, r ≤ f.infRung → val f r * 2 ^ U ≤ val f a * val f b → r ≤ c) := by
  obtain ⟨m, i, hm, hmv, _⟩ := read_fin f ha
  obtain ⟨n, j, hn, hnv, _⟩ := read_fin f hb
  refine ⟨f.nearest false (m * n) (f.leastPlace + i + (f.leastPlace + j)), fun s t => ?_, nearest_inf f _ _, fun r h => nearest_le ?_, fun r hr h => le_nearest hr ?_⟩
  · unfold Format.mul
    rw [hm s, hn t]
    simp only [Datum.product, Option.map_some, Format.write]
    rw [nearest_sign]
  · rw [← hmv, ← hnv] at h
    have e0 : m * 2 ^ i * (n * 2 ^ j) = m * n * 2 ^ (i + j) := by rw [Nat.pow_add]; simp only [Nat.mul_assoc, Nat.mul_left_comm]
    rw [e0] at h
    by_cases c : U ≤ i + j
    · have e1 : (f.leastPlace - (f.leastPlace + i + (f.leastPlace + j))).toNat = 0 := by omega
      have e2 : (f.leastPlace + i + (f.leastPlace + j) - f.leastPlace).toNat = i + j - U := by omega
      rw [e1, e2, Nat.pow_zero, Nat.mul_one]
      have e3 : i + j = i + j - U + U := by omega
      rw [e3, Nat.pow_add, ← Nat.mul_assoc] at h
      exact Nat.le_of_mul_le_mul_right h (Nat.two_pow_pos _)
    · have e1 : (f.leastPlace - (f.leastPlace + i + (f.leastPlace + j))).toNat = U - (i + j) := by omega
      have e2 : (f.leastPlace + i + (f.leastPlace + j) - f.leastPlace).toNat = 0 := by omega
      rw [e1, e2, Nat.pow_zero, Nat.mul_one]
      have e3 : U = U - (i + j) + (i + j) := by omega
      rw [e3, Nat.pow_add 2 (U - (i + j)), ← Nat.mul_assoc] at h
      exact Nat.le_of_mul_le_mul_right h (Nat.two_pow_pos _)
  · rw [← hmv, ← hnv] at h
    have e0 : m * 2 ^ i * (n * 2 ^ j) = m * n * 2 ^ (i + j) := by rw [Nat.pow_add]; simp only [Nat.mul_assoc, Nat.mul_left_comm]
    rw [e0] at h
    by_cases c : U ≤ i + j
    · have e1 : (f.leastPlace - (f.leastPlace + i + (f.leastPlace + j))).toNat = 0 := by omega
      have e2 : (f.leastPlace + i + (f.leastPlace + j) - f.leastPlace).toNat = i + j - U := by omega
      rw [e1, e2, Nat.pow_zero, Nat.mul_one]
      have e3 : i + j = i + j - U + U := by omega
      rw [e3, Nat.pow_add, ← Nat.mul_assoc] at h
      exact Nat.le_of_mul_le_mul_right h (Nat.two_pow_pos _)
    · have e1 : (f.leastPlace - (f.leastPlace + i + (f.leastPlace + j))).toNat = U - (i + j) := by omega
      have e2 : (f.leastPlace + i + (f.leastPlace + j) - f.leastPlace).toNat = 0 := by omega
      rw [e1, e2, Nat.pow_zero, Nat.mul_one]
      have e3 : U = U - (i + j) + (i + j) := by omega
      rw [e3, Nat.pow_add 2 (U - (i + j)), ← Nat.mul_assoc] at h
      exact Nat.le_of_mul_le_mul_right h (Nat.two_pow_pos _)

theorem mul_inf_inf (hf : 1 ≤ f.exponentBits) (s t : Bool) : f.mul (f.word s f.infRung) (f.word t f.infRung) = some (f.word (s ^^ t) f.infRung) := by
  unfold Format.mul
  rw [read_inf f hf, read_inf f hf]; rfl

theorem mul_inf_fin (hf : 1 ≤ f.exponentBits) (s t : Bool) {b : Nat} (hb : b < f.infRung) (h0 : b ≠ 0) : f.mul (f.word s f.infRung) (f.word t b) = some (f.word (s ^^ t) f.infRung) := by
  obtain ⟨n, j, hn, _, hz⟩ := read_fin f hb
  unfold Format.mul
  rw [read_inf f hf, hn t]
  simp only [Datum.product, if_neg (fun h => h0 (hz.1 h)), Option.map_some, Format.write]

theorem mul_fin_inf (hf : 1 ≤ f.exponentBits) (s t : Bool) {b : Nat} (hb : b < f.infRung) (h0 : b ≠ 0) : f.mul (f.word t b) (f.word s f.infRung) = some (f.word (s ^^ t) f.infRung) := by
  obtain ⟨n, j, hn, _, hz⟩ := read_fin f hb
  unfold Format.mul
  rw [read_inf f hf, hn t]
  simp only [Datum.product, if_neg (fun h => h0 (hz.1 h)), Option.map_some, Format.write]

/-- A sum of two finite numbers, neither negative. -/
theorem add_fin {a b : Nat} (ha : a < f.infRung) (hb : b < f.infRung) : ∃ c, f.add a b = some c ∧ c ≤ f.infRung
    ∧ (∀ r, val f a + val f b ≤ val f r → c ≤ r) ∧ (∀ r, r ≤ f.infRung → val f r ≤ val f a + val f b → r ≤ c) := by
  obtain ⟨m, i, hm, hmv, _⟩ := read_fin f ha
  obtain ⟨n, j, hn, hnv, _⟩ := read_fin f hb
  have hm := hm false
  have hn := hn false
  rw [word_false] at hm hn
  have key : ∃ tot g : Nat, f.add a b = some (f.nearest false tot (f.leastPlace + (g : Int))) ∧ tot * 2 ^ g = val f a + val f b := by
    refine ⟨m * 2 ^ (i - min i j) + n * 2 ^ (j - min i j), min i j, ?_, ?_⟩
    · unfold Format.add
      rw [hm, hn]
      simp only [Datum.sum, signed, Bool.false_eq_true, if_false, Option.map_some, Format.write, Nat.shiftLeft_eq, Bool.and_self]
      have e1 : min (f.leastPlace + (i : Int)) (f.leastPlace + (j : Int)) = f.leastPlace + ((min i j : Nat) : Int) := by omega
      have e2 : (f.leastPlace + (i : Int) - (f.leastPlace + ((min i j : Nat) : Int))).toNat = i - min i j := by omega
      have e3 : (f.leastPlace + (j : Int) - (f.leastPlace + ((min i j : Nat) : Int))).toNat = j - min i j := by omega
      rw [e1, e2, e3]
      generalize m * 2 ^ (i - min i j) = A
      generalize n * 2 ^ (j - min i j) = C
      have e4 : ((A : Int) + (C : Int)) = ((A + C : Nat) : Int) := by omega
      rw [e4]
      have e5 : decide (((A + C : Nat) : Int) < 0) = false := by simp; omega
      rw [Int.natAbs_natCast, e5]
      simp
    · rw [← hmv, ← hnv, Nat.add_mul, Nat.mul_assoc, Nat.mul_assoc, ← Nat.pow_add, ← Nat.pow_add]
      congr 3 <;> omega
  obtain ⟨tot, g, e, hv⟩ := key
  have e1 : (f.leastPlace - (f.leastPlace + (g : Int))).toNat = 0 := by omega
  have e2 : (f.leastPlace + (g : Int) - f.leastPlace).toNat = g := by omega
  refine ⟨_, e, nearest_inf f _ _, fun r h => nearest_le ?_, fun r hr h => le_nearest hr ?_⟩
  · rw [e1, e2, hv]; simpa using h
  · rw [e1, e2, hv]; simpa using h

theorem add_inf_right (hf : 1 ≤ f.exponentBits) {a : Nat} (ha : a ≤ f.infRung) : f.add a f.infRung = some f.infRung := by
  have hi := read_inf f hf false
  rw [word_false] at hi
  by_cases h : a < f.infRung
  · obtain ⟨m, i, hm, _, _⟩ := read_fin f h
    have hm := hm false
    rw [word_false] at hm
    unfold Format.add
    rw [hm, hi]; rfl
  · have : a = f.infRung := by omega
    subst this
    unfold Format.add
    rw [hi]; rfl

theorem order_fin {a b : Nat} (ha : a < f.infRung) (hb : b < f.infRung) : f.order a b = some (compare (val f a) (val f b)) := by
  obtain ⟨m, i, hm, hmv, _⟩ := read_fin f ha
  obtain ⟨n, j, hn, hnv, _⟩ := read_fin f hb
  have hm := hm false
  have hn := hn false
  rw [word_false] at hm hn
  unfold Format.order
  rw [hm, hn]
  simp only [Datum.order, signed, Bool.false_eq_true, if_false, Nat.shiftLeft_eq]
  have e1 : min (f.leastPlace + (i : Int)) (f.leastPlace + (j : Int)) = f.leastPlace + ((min i j : Nat) : Int) := by omega
  have e2 : (f.leastPlace + (i : Int) - (f.leastPlace + ((min i j : Nat) : Int))).toNat = i - min i j := by omega
  have e3 : (f.leastPlace + (j : Int) - (f.leastPlace + ((min i j : Nat) : Int))).toNat = j - min i j := by omega
  rw [e1, e2, e3]
  have h1 : m * 2 ^ (i - min i j) * 2 ^ (min i j) = val f a := by rw [← hmv, Nat.mul_assoc, ← Nat.pow_add]; congr 2; omega
  have h2 : n * 2 ^ (j - min i j) * 2 ^ (min i j) = val f b := by rw [← hnv, Nat.mul_assoc, ← Nat.pow_add]; congr 2; omega
  rw [← h1, ← h2]
  have hp := Nat.two_pow_pos (min i j)
  generalize m * 2 ^ (i - min i j) = A
  generalize n * 2 ^ (j - min i j) = C
  generalize 2 ^ (min i j) = G at hp
  congr 1
  simp only [compare, compareOfLessAndEq]
  have g1 : ((A : Int) < (C : Int)) ↔ A * G < C * G := by
    rw [Nat.mul_lt_mul_right hp]; omega
  have g2 : ((A : Int) = (C : Int)) ↔ A * G = C * G := by
    rw [Nat.mul_left_inj (by omega)]; omega
  simp only [g1, g2]

/-- The order of two words that are neither negative nor NaN is the order of the rungs. -/
theorem order_nonneg (hf : 1 ≤ f.exponentBits) {a b : Nat} (ha : a ≤ f.infRung) (hb : b ≤ f.infRung) : f.order a b = some (compare a b) := by
  have hi := read_inf f hf false
  rw [word_false] at hi
  by_cases h1 : a < f.infRung
  · by_cases h2 : b < f.infRung
    · rw [order_fin h1 h2]
      simp only [compare, compareOfLessAndEq]
      have g1 : val f a < val f b ↔ a < b := ⟨fun h => by
        by_cases c : a < b
        · exact c
        · have := val_le_of_le (f := f) (show b ≤ a by omega); omega, fun h => val_lt_of_lt h⟩
      have g2 : val f a = val f b ↔ a = b := ⟨fun h => val_inj h, fun h => by rw [h]⟩
      simp only [g1, g2]
    · have : b = f.infRung := by omega
      subst this
      obtain ⟨m, i, hm, _, _⟩ := read_fin f h1
      have hm := hm false
      rw [word_false] at hm
      unfold Format.order
      rw [hm, hi]
      simp [Datum.order, compare, compareOfLessAndEq, h1]
  · have : a = f.infRung := by omega
    subst this
    by_cases h2 : b < f.infRung
    · obtain ⟨m, i, hm, _, _⟩ := read_fin f h2
      have hm := hm false
      rw [word_false] at hm
      unfold Format.order
      rw [hm, hi]
      have g1 : ¬ (f.infRung < b) := by omega
      have g2 : ¬ (f.infRung = b) := by omega
      simp [Datum.order, compare, compareOfLessAndEq, g1, g2]
    · have : b = f.infRung := by omega
      subst this
      unfold Format.order
      rw [hi]
      simp [Datum.order, compare, compareOfLessAndEq]

theorem order_nan_left (f : Format) {a b : Nat} (h : (f.read a).isNaN = true) : f.order a b = none := by
  unfold Format.order
  cases hr : f.read a <;> simp [hr, Datum.isNaN] at h
  rfl

/-- A quotient by a positive finite number, held against a power of two. -/
theorem div_fin (hU : f.leastPlace = -(U : Int)) (hm2 : ∀ r m p, f.read r = .number false m p → m.log2 ≤ f.fractionBits) {a b : Nat} (ha : a < f.infRung) (hb : b < f.infRung) (h0 : b ≠ 0) : ∃ c, (∀ s, f.div (f.word s a) b = some (f.word s c)) ∧ c ≤ f.infRung
    ∧ (∀ r z, val f r = 2 ^ z → val f a * 2 ^ U ≤ val f b * 2 ^ z → c ≤ r) ∧ (∀ r z, r ≤ f.infRung → val f r = 2 ^ z → val f b * 2 ^ z ≤ val f a * 2 ^ U → r ≤ c) := by
  obtain ⟨m, i, hm, hmv, hmz⟩ := read_fin f ha
  obtain ⟨n, j, hn, hnv, hnz⟩ := read_fin f hb
  have hn := hn false
  have hl := hm2 _ _ _ (hm false)
  rw [word_false] at hn
  have hn0 : n ≠ 0 := fun h => h0 (hnz.1 h)
  have hnpos : 0 < n := by omega
  generalize hmore : f.fractionBits + 2 + n.log2 - m.log2 = more
  generalize hD : m * 2 ^ more = D
  have hnlog : n < 2 ^ (n.log2 + 1) := Nat.lt_log2_self
  have hDn : m ≠ 0 → n ≤ D := by
    intro hm0
    have h1 : 2 ^ m.log2 ≤ m := Nat.log2_self_le hm0
    have h2 : 2 ^ m.log2 * 2 ^ more ≤ m * 2 ^ more := Nat.mul_le_mul_right _ h1
    rw [← Nat.pow_add, hD] at h2
    have h3 : 2 ^ (n.log2 + 1) ≤ 2 ^ (m.log2 + more) := Nat.pow_le_pow_right (by omega) (by omega)
    omega
  generalize hp : f.leastPlace + (i : Int) - (f.leastPlace + (j : Int)) - (more : Int) - 1 = p
  generalize hN : 2 * (D / n) + (D % n != 0).toNat = N
  have hpv : p = (i : Int) - j - more - 1 := by omega
  have hdm := Nat.div_add_mod D n
  have hmod := Nat.mod_lt D hnpos
  refine ⟨f.nearest false N p, fun s => ?_, nearest_inf f _ _, fun r z hz h => nearest_le ?_, fun r z hr hz h => le_nearest hr ?_⟩
  · unfold Format.div
    rw [hm s, hn]
    simp only [Datum.quotient, if_neg hn0, Option.map_some, Format.write, Nat.shiftLeft_eq]
    rw [hmore, hD, hN, hp, nearest_sign]
    simp
  · rw [hz]
    by_cases hm0 : m = 0
    · have : D = 0 := by rw [← hD, hm0]; simp
      have : N = 0 := by rw [← hN, this]; simp
      rw [this]; simp
    have hDn := hDn hm0
    -- m 2^i 2^U ≤ n 2^j 2^z
    have h1 : m * 2 ^ (i + U) ≤ n * 2 ^ (j + z) := by
      rw [Nat.pow_add, Nat.pow_add, ← Nat.mul_assoc, ← Nat.mul_assoc, hmv, hnv]; exact h
    have h2 : D * 2 ^ (i + U) ≤ n * 2 ^ (j + z + more) := by
      rw [← hD, Nat.mul_assoc, Nat.mul_comm (2 ^ more), ← Nat.mul_assoc, Nat.pow_add 2 (j + z), ← Nat.mul_assoc]
      exact Nat.mul_le_mul_right _ h1
    by_cases c : i + U ≤ j + z + more
    · have e : j + z + more = (j + z + more - (i + U)) + (i + U) := by omega
      rw [e, Nat.pow_add 2 (j + z + more - (i + U)), ← Nat.mul_assoc] at h2
      have h3 := Nat.le_of_mul_le_mul_right h2 (Nat.two_pow_pos _)
      generalize hW : 2 ^ (j + z + more - (i + U)) = W at h3
      have h4 : N ≤ 2 * W := by
        by_cases c2 : D % n = 0
        · have h5 : n * (D / n) ≤ n * W := by omega
          have h6 := Nat.le_of_mul_le_mul_left h5 hnpos
          rw [← hN, c2]; simp; omega
        · have h5 : n * (D / n) < n * W := by omega
          have h6 := Nat.lt_of_mul_lt_mul_left h5
          have := toNat_le_one (D % n != 0)
          omega
      have h5 : 2 * W = 2 ^ (j + z + more - (i + U) + 1) := by rw [Nat.pow_succ, hW]; omega
      rw [h5] at h4
      have h6 := Nat.mul_le_mul_right (2 ^ (p - f.leastPlace).toNat) h4
      refine Nat.le_trans h6 ?_
      rw [← Nat.pow_add, ← Nat.pow_add]
      exact Nat.pow_le_pow_right (by omega) (by omega)
    · exfalso
      have e : i + U = (i + U - (j + z + more) - 1) + 1 + (j + z + more) := by omega
      rw [e, Nat.pow_add 2 (i + U - (j + z + more) - 1 + 1), ← Nat.mul_assoc] at h2
      have h3 := Nat.le_of_mul_le_mul_right h2 (Nat.two_pow_pos _)
      rw [Nat.pow_succ] at h3
      have h4 := Nat.two_pow_pos (i + U - (j + z + more) - 1)
      generalize 2 ^ (i + U - (j + z + more) - 1) = Q at h3 h4
      have h5 : n * (1 * 2) ≤ D * (Q * 2) := Nat.mul_le_mul hDn (Nat.mul_le_mul_right _ h4)
      omega
  · rw [hz]
    have h1 : n * 2 ^ (j + z) ≤ m * 2 ^ (i + U) := by
      rw [Nat.pow_add, Nat.pow_add, ← Nat.mul_assoc, ← Nat.mul_assoc, hmv, hnv]; exact h
    have h2 : n * 2 ^ (j + z + more) ≤ D * 2 ^ (i + U) := by
      rw [← hD, Nat.mul_assoc, Nat.mul_comm (2 ^ more), ← Nat.mul_assoc, Nat.pow_add 2 (j + z), ← Nat.mul_assoc]
      exact Nat.mul_le_mul_right _ h1
    by_cases c : i + U ≤ j + z + more
    · have e : j + z + more = (j + z + more - (i + U)) + (i + U) := by omega
      rw [e, Nat.pow_add 2 (j + z + more - (i + U)), ← Nat.mul_assoc] at h2
      have h3 := Nat.le_of_mul_le_mul_right h2 (Nat.two_pow_pos _)
      generalize hW : 2 ^ (j + z + more - (i + U)) = W at h3
      have h4 : 2 * W ≤ N := by
        have : W ≤ D / n := (Nat.le_div_iff_mul_le hnpos).2 (by rw [Nat.mul_comm]; exact h3)
        omega
      have h5 : 2 * W = 2 ^ (j + z + more - (i + U) + 1) := by rw [Nat.pow_succ, hW]; omega
      rw [h5] at h4
      have h6 := Nat.mul_le_mul_right (2 ^ (p - f.leastPlace).toNat) h4
      refine Nat.le_trans ?_ h6
      rw [← Nat.pow_add, ← Nat.pow_add]
      exact Nat.pow_le_pow_right (by omega) (by omega)
    · have hm0 : m ≠ 0 := by
        intro h0'
        rw [h0', Nat.zero_mul] at h1
        have := Nat.mul_pos hnpos (Nat.two_pow_pos (j + z))
        omega
      have hDn := hDn hm0
      have h4 : 1 ≤ D / n := (Nat.le_div_iff_mul_le hnpos).2 (by omega)
      have h5 : 1 ≤ N := by omega
      have h6 := Nat.mul_le_mul_right (2 ^ (p - f.leastPlace).toNat) h5
      refine Nat.le_trans ?_ h6
      rw [← Nat.pow_add, Nat.one_mul]
      exact Nat.pow_le_pow_right (by omega) (by omega)

theorem div_inf_fin (hf : 1 ≤ f.exponentBits) (s : Bool) {b : Nat} (hb : b < f.infRung) : f.div (f.word s f.infRung) b = some (f.word s f.infRung) := by
  obtain ⟨n, j, hn, _, _⟩ := read_fin f hb
  have hn := hn false
  rw [word_false] at hn
  unfold Format.div
  rw [read_inf f hf, hn]
  simp [Datum.quotient, Format.write]
end
end Go.Proofs.Ybulkargg.Fl
