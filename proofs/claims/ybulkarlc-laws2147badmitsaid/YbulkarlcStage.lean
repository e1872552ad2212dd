/-
  The memory that the law lays ahead of 'admitWaiters', stage by stage: the weights' row; the gate; the nodes; their links; the spares. Plain memory, no walk.
-/
import Derived.Test.YbulkarlcAdmit
import Derived.Laws.MakeOwn
namespace Go.Proofs.Ybulkarlc
open Go.RowKit
set_option linter.unusedVariables false

/-- Go's '^w' of a negative int64. -/
theorem not_neg (z : Int) (h0 : -9223372036854775808 ≤ z) (h1 : z < 0) : bits .xor .i64 (-1) z = -1 - z := by
  have e1 : BitVec.ofInt 64 (-1) = BitVec.allOnes 64 := by decide
  have e2 : (BitVec.ofInt 64 z).toNat = (z + 18446744073709551616).toNat := by
    rw [BitVec.toNat_ofInt]
    omega
  show IntKind.i64.wrap ((BitVec.ofInt 64 (-1) ^^^ BitVec.ofInt 64 z).toNat : Int) = _
  rw [e1, BitVec.allOnes_xor, BitVec.toNat_not, e2, IntKind.wrap_i64]
  omega

/-- The weight that is asked for. -/
def wt (zs : List Int) (i : Nat) : Int := if zs.getD i 0 < 0 then bits .xor .i64 (-1) (zs.getD i 0) else zs.getD i 0

theorem wt_range (zs : List Int) (i : Nat) (h : -9223372036854775808 ≤ zs.getD i 0 ∧ zs.getD i 0 ≤ 9223372036854775807) : 0 ≤ wt zs i ∧ wt zs i ≤ 9223372036854775807 := by
  unfold wt
  by_cases c : zs.getD i 0 < 0
  · rw [if_pos c, not_neg _ h.1 c]; omega
  · rw [if_neg c]; omega

/-! ### One cell behind a new block -/
theorem ca (w : World) (o : Obj) (b' o' : Nat) (h : b' < w.heap.size) : (w.alloc o).cell? ⟨b', o', none⟩ = w.cell? ⟨b', o', none⟩ := World.cell?_alloc_lt _ _ _ h
theorem cn (w : World) (c : Array Value) (t : TypeId) (b o' : Nat) (hb : b = w.heap.size) : (w.alloc (.cells c t)).cell? ⟨b, o', none⟩ = c[o']? := by
  subst hb
  exact cell_of_row _ _ _ c t (0, 0) (by show (w.heap.push _)[w.heap.size]? = _; simp)
theorem za (w : World) (c : Array Value) (t : TypeId) (b o : Nat) (h : w.frozen? ⟨b, o, none⟩ = false) : (w.alloc (.cells c t)).frozen? ⟨b, o, none⟩ = false := by
  unfold World.frozen? at h ⊢
  show (match (w.heap.push _)[b]? with | some (.cells _ _ (lo, hi)) => _ | _ => _) = false
  rw [Array.getElem?_push]
  by_cases c : b = w.heap.size
  · rw [if_pos c]; simp
  · rw [if_neg c]; exact h
theorem made (z : Value) (n j : Nat) (h : j < n) : (madeCells #[z] n)[j]? = some z := by
  simp [madeCells, h, Nat.mod_one]

/-- Stage 1: the first k weights lie in their row. -/
structure S1 (B n : Nat) (W : Nat → Int) (k : Nat) (w0 w : World) : Prop where
  below : Below B w0 w
  size : w.heap.size = B + 1
  ws : ∀ j, j < k → w.cell? ⟨B, j, none⟩ = some (.int .i64 (W j))
  ex : ∀ j, j < n → (w.cell? ⟨B, j, none⟩).isSome = true
  uf : ∀ b o, B ≤ b → w.frozen? ⟨b, o, none⟩ = false

theorem frozen_past (w : World) (b o : Nat) (h : w.heap.size ≤ b) : w.frozen? ⟨b, o, none⟩ = false := by
  unfold World.frozen?
  show (match w.heap[b]? with | some (.cells _ _ (lo, hi)) => _ | _ => _) = false
  rw [Array.getElem?_eq_none h]

theorem S1.start (w : World) (n : Nat) (W : Nat → Int) : S1 w.heap.size n W 0 w (w.alloc (.cells (madeCells #[.int .i64 0] n) 2)) :=
  ⟨(Below.refl _ _).alloc (Nat.le_refl _) _, by simp, fun j hj => absurd hj (by omega), fun j hj => by rw [cn _ _ _ _ _ rfl, made _ _ _ hj]; rfl, fun b o hb => za _ _ _ _ _ (frozen_past w b o hb)⟩

theorem S1.step {B n : Nat} {W : Nat → Int} {k : Nat} {w0 w : World} (h : S1 B n W k w0 w) (hk : k < n) : S1 B n W (k + 1) w0 (w.setCell ⟨B, k, none⟩ (.int .i64 (W k))) :=
  ⟨below_set h.below _ _ (Nat.le_refl _) _, by rw [size_set]; exact h.size, fun j hj => by
    by_cases c : j = k
    · subst c; rw [cs, if_pos (by omega), mp _ (h.ex j hk)]
    · rw [cs, if_neg (by omega)]; exact h.ws j (by omega), fun j hj => iset _ _ _ _ _ (h.ex j hj), fun b o hb => by rw [fs]; exact h.uf b o hb⟩

/-- The gate's cells as the literal lays them. -/
def gc (f : Int) : Array Value := #[.pointer none, .int .i32 0, .int .u32 0, .int .i64 f, .pointer none, .pointer none, .int .i64 0, .pointer none, .pointer none, .int .i64 0, .int .u64 0, .pointer none, .int .i64 0]
/-- A waiter's. -/
def nc (a : Int) (q : Int) (nx : Value) : Array Value := #[.int .i64 a, .int .u64 q, .chan none, .nilIface, .int .u32 0, .int .u32 0, .int .u64 0, .pointer none, .pointer none, .int .u64 0, .int .u64 0, .pointer none, nx]

/-- Stage 2: the gate lies at bg, the nodes' row at bn, the first k nodes from nb on. -/
structure S2 (B bg bn nb n : Nat) (W : Nat → Int) (f0 : Int) (k : Nat) (w0 w : World) : Prop where
  nums : bg = B + 1 ∧ bn = B + 2 ∧ nb = B + 3
  below : Below B w0 w
  size : w.heap.size = nb + k
  ws : ∀ j, j < n → w.cell? ⟨B, j, none⟩ = some (.int .i64 (W j))
  gate : ∀ o, w.cell? ⟨bg, o, none⟩ = (gc f0)[o]?
  row : ∀ j, j < k → w.cell? ⟨bn, j, none⟩ = some (.pointer (some ⟨nb + j, 0, none⟩))
  exn : ∀ j, j < n → (w.cell? ⟨bn, j, none⟩).isSome = true
  nd : ∀ j, j < k → ∀ o, w.cell? ⟨nb + j, o, none⟩ = (nc (W j) j (.pointer none))[o]?
  uf : ∀ b o, B ≤ b → w.frozen? ⟨b, o, none⟩ = false

theorem S2.start {B n : Nat} {W : Nat → Int} {f0 : Int} {w0 w : World} (h : S1 B n W n w0 w) :
    S2 B (B + 1) (B + 2) (B + 3) n W f0 0 w0 ((w.alloc (.cells (gc f0) 42)).alloc (.cells (madeCells #[.pointer none] n) 37)) := by
  have hs := h.size
  refine ⟨⟨rfl, rfl, rfl⟩, (h.below.alloc (by omega) _).alloc (by simp; omega) _, by simp; omega, fun j hj => ?_, fun o => ?_, fun j hj => absurd hj (by omega), fun j hj => ?_, fun j hj => absurd hj (by omega), fun b o hb => za _ _ _ _ _ (za _ _ _ _ _ (h.uf b o hb))⟩
  · rw [ca _ _ _ _ (by simp; omega), ca _ _ _ _ (by omega)]; exact h.ws j hj
  · rw [ca _ _ _ _ (by simp; omega), cn _ _ _ _ _ (by omega)]
  · rw [cn _ _ _ _ _ (by simp; omega), made _ _ _ hj]; rfl

theorem S2.step {B bg bn nb n : Nat} {W : Nat → Int} {f0 : Int} {k : Nat} {w0 w : World} (h : S2 B bg bn nb n W f0 k w0 w) (hk : k < n) :
    S2 B bg bn nb n W f0 (k + 1) w0 ((w.alloc (.cells (nc (W k) k (.pointer none)) 56)).setCell ⟨bn, k, none⟩ (.pointer (some ⟨nb + k, 0, none⟩))) := by
  have hs := h.size
  have hu := h.nums
  refine ⟨h.nums, below_set (h.below.alloc (by omega) _) _ _ (by omega) _, by rw [size_set]; simp; omega, fun j hj => ?_, fun o => ?_, fun j hj => ?_, fun j hj => ?_, fun j hj o => ?_, fun b o hb => by rw [fs]; exact za _ _ _ _ _ (h.uf b o hb)⟩
  · rw [cs, if_neg (by omega), ca _ _ _ _ (by omega)]; exact h.ws j hj
  · rw [cs, if_neg (by omega), ca _ _ _ _ (by omega)]; exact h.gate o
  · by_cases c : j = k
    · subst c
      rw [cs, if_pos (by omega), mp _ (by rw [ca _ _ _ _ (by omega)]; exact h.exn j hk)]
    · rw [cs, if_neg (by omega), ca _ _ _ _ (by omega)]; exact h.row j (by omega)
  · exact iset _ _ _ _ _ (by rw [ca _ _ _ _ (by omega)]; exact h.exn j hj)
  · by_cases c : j = k
    · subst c
      rw [cs, if_neg (by omega), cn _ _ _ _ _ (by omega)]
    · rw [cs, if_neg (by omega), ca _ _ _ _ (by omega)]; exact h.nd j (by omega) o

/-- Stage 3: of the first kp nodes the 'prev' is laid, of the first kn the 'next'. -/
structure S3 (B bg bn nb n : Nat) (W : Nat → Int) (f0 : Int) (kp kn : Nat) (w0 w : World) : Prop where
  nums : bg = B + 1 ∧ bn = B + 2 ∧ nb = B + 3
  below : Below B w0 w
  size : w.heap.size = nb + n
  ws : ∀ j, j < n → w.cell? ⟨B, j, none⟩ = some (.int .i64 (W j))
  gate : ∀ o, w.cell? ⟨bg, o, none⟩ = (gc f0)[o]?
  row : ∀ j, j < n → w.cell? ⟨bn, j, none⟩ = some (.pointer (some ⟨nb + j, 0, none⟩))
  nd : ∀ j, j < n → ∀ o, o ≠ 11 → o ≠ 12 → w.cell? ⟨nb + j, o, none⟩ = (nc (W j) j (.pointer none))[o]?
  prev : ∀ j, j < n → w.cell? ⟨nb + j, 11, none⟩ = some (ptrOf (if j < kp ∧ 0 < j then some (nb + (j - 1)) else none))
  next : ∀ j, j < n → w.cell? ⟨nb + j, 12, none⟩ = some (ptrOf (if j < kn ∧ j + 1 < n then some (nb + (j + 1)) else none))
  uf : ∀ b o, B ≤ b → w.frozen? ⟨b, o, none⟩ = false

section
variable {B bg bn nb n : Nat} {W : Nat → Int} {f0 : Int} {w0 w : World}

theorem S3.start (h : S2 B bg bn nb n W f0 n w0 w) : S3 B bg bn nb n W f0 0 0 w0 w :=
  ⟨h.nums, h.below, h.size, h.ws, h.gate, h.row, fun j hj o _ _ => h.nd j hj o, fun j hj => by rw [if_neg (by omega), h.nd j hj]; rfl, fun j hj => by rw [if_neg (by omega), h.nd j hj]; rfl, h.uf⟩

theorem S3.draw {kp kn : Nat} (h : S3 B bg bn nb n W f0 kp kn w0 w) (d : Nat) : S3 B bg bn nb n W f0 kp kn w0 (w.drewN d) :=
  ⟨h.nums, below_drewN h.below d, h.size, h.ws, h.gate, h.row, h.nd, h.prev, h.next, h.uf⟩

theorem S3.prev0 {kn : Nat} (h : S3 B bg bn nb n W f0 0 kn w0 w) : S3 B bg bn nb n W f0 1 kn w0 w :=
  ⟨h.nums, h.below, h.size, h.ws, h.gate, h.row, h.nd, fun j hj => by rw [h.prev j hj, if_neg (by omega), if_neg (by omega)], h.next, h.uf⟩

theorem S3.prevStep {k : Nat} (h : S3 B bg bn nb n W f0 k k w0 w) (hk : k < n) (h0 : 0 < k) : S3 B bg bn nb n W f0 (k + 1) k w0 (w.setCell ⟨nb + k, 11, none⟩ (.pointer (some ⟨nb + (k - 1), 0, none⟩))) := by
  have hu := h.nums
  refine ⟨h.nums, below_set h.below _ _ (by omega) _, by rw [size_set]; exact h.size, fun j hj => by rw [cs, if_neg (by omega)]; exact h.ws j hj, fun o => by rw [cs, if_neg (by omega)]; exact h.gate o, fun j hj => by rw [cs, if_neg (by omega)]; exact h.row j hj,
    fun j hj o h1 h2 => by rw [cs, if_neg (by omega)]; exact h.nd j hj o h1 h2, fun j hj => ?_, fun j hj => by rw [cs, if_neg (by omega)]; exact h.next j hj, fun b o hb => by rw [fs]; exact h.uf b o hb⟩
  by_cases c : j = k
  · subst c
    rw [cs, if_pos (by omega), mp _ (some_of (h.prev j hj)), if_pos (by omega)]; rfl
  · rw [cs, if_neg (by omega), h.prev j hj]
    by_cases c2 : j < k ∧ 0 < j
    · rw [if_pos c2, if_pos (by omega)]
    · rw [if_neg c2, if_neg (by omega)]

theorem S3.nextLast {kp k : Nat} (h : S3 B bg bn nb n W f0 kp k w0 w) (hk : ¬ k + 1 < n) : S3 B bg bn nb n W f0 kp (k + 1) w0 w :=
  ⟨h.nums, h.below, h.size, h.ws, h.gate, h.row, h.nd, h.prev, fun j hj => by
    rw [h.next j hj]
    by_cases c2 : j < k ∧ j + 1 < n
    · rw [if_pos c2, if_pos (by omega)]
    · rw [if_neg c2, if_neg (by omega)], h.uf⟩

theorem S3.nextStep {kp k : Nat} (h : S3 B bg bn nb n W f0 kp k w0 w) (hk : k + 1 < n) : S3 B bg bn nb n W f0 kp (k + 1) w0 (w.setCell ⟨nb + k, 12, none⟩ (.pointer (some ⟨nb + (k + 1), 0, none⟩))) := by
  have hu := h.nums
  refine ⟨h.nums, below_set h.below _ _ (by omega) _, by rw [size_set]; exact h.size, fun j hj => by rw [cs, if_neg (by omega)]; exact h.ws j hj, fun o => by rw [cs, if_neg (by omega)]; exact h.gate o, fun j hj => by rw [cs, if_neg (by omega)]; exact h.row j hj,
    fun j hj o h1 h2 => by rw [cs, if_neg (by omega)]; exact h.nd j hj o h1 h2, fun j hj => by rw [cs, if_neg (by omega)]; exact h.prev j hj, fun j hj => ?_, fun b o hb => by rw [fs]; exact h.uf b o hb⟩
  by_cases c : j = k
  · subst c
    rw [cs, if_pos (by omega), mp _ (some_of (h.next j hj)), if_pos (by omega)]; rfl
  · rw [cs, if_neg (by omega), h.next j hj]
    by_cases c2 : j < k ∧ j + 1 < n
    · rw [if_pos c2, if_pos (by omega)]
    · rw [if_neg c2, if_neg (by omega)]

/-- The two rows that the law keeps. -/
structure Rows2 (B bn nb n : Nat) (W : Nat → Int) (w : World) : Prop where
  ws : ∀ j, j < n → w.cell? ⟨B, j, none⟩ = some (.int .i64 (W j))
  row : ∀ j, j < n → w.cell? ⟨bn, j, none⟩ = some (.pointer (some ⟨nb + j, 0, none⟩))

/-- The gate is whole: no spares yet. -/
theorem G.start (h : S3 B bg bn nb n W f0 n n w0 w) (w' : World) (h' : ∀ b o, ¬ (bg = b ∧ (o = 4 ∨ o = 5 ∨ o = 6)) → w'.cell? ⟨b, o, none⟩ = w.cell? ⟨b, o, none⟩)
    (h4 : w'.cell? ⟨bg, 4, none⟩ = some (ptrOf (if 0 < n then some (nb + 0) else none))) (h5 : w'.cell? ⟨bg, 5, none⟩ = some (ptrOf (if 0 < n then some (nb + (n - 1)) else none))) (h6 : w'.cell? ⟨bg, 6, none⟩ = some (.int .i64 ((n : Int) - (0 : Nat))))
    (hz : ∀ b o, w'.frozen? ⟨b, o, none⟩ = w.frozen? ⟨b, o, none⟩) : G B bg nb n 0 W f0 [] 0 0 w' ∧ Rows2 B bn nb n W w' := by
  have hu := h.nums
  have gt := h.gate
  refine ⟨⟨by omega, by omega, by omega, by omega, ?_, h4, h5, h6, ?_, ?_, ?_, ?_, ?_, fun i hi => ?_, fun i hi => ?_, fun i hi => ?_, fun i hi _ => ?_, fun i hi _ => ?_, fun i hi _ => ?_, fun i hi _ => ?_, fun i hi => ?_, fun x hx => absurd hx (by simp [EL]), fun m x hx => absurd hx (by simp [EL]), fun b o hb => by rw [hz]; exact h.uf b o hb⟩,
    ⟨fun j hj => by rw [h' _ _ (by omega)]; exact h.ws j hj, fun j hj => by rw [h' _ _ (by omega)]; exact h.row j hj⟩⟩
  · rw [h' _ _ (by omega), gt]; rfl
  · rw [h' _ _ (by omega), gt]; rfl
  · rw [h' _ _ (by omega), gt]; rfl
  · rw [h' _ _ (by omega), gt]; rfl
  · rw [h' _ _ (by omega), gt]; rfl
  · rw [h' _ _ (by omega), gt]; rfl
  · rw [h' _ _ (by omega), h.nd i hi 0 (by omega) (by omega)]; rfl
  · rw [h' _ _ (by omega), h.nd i hi 2 (by omega) (by omega)]; rfl
  · rw [h' _ _ (by omega), h.prev i hi]
    by_cases c : i = 0
    · rw [if_neg (by omega), if_pos (by omega)]
    · rw [if_pos (by omega), if_neg (by omega)]
  · rw [h' _ _ (by omega), h.next i hi]
    by_cases c : i + 1 < n
    · rw [if_pos (by omega), if_pos c]
    · rw [if_neg (by omega), if_neg c]
  · rw [h' _ _ (by omega), h.nd i hi 4 (by omega) (by omega)]; rfl
  · rw [h' _ _ (by omega), h.nd i hi 5 (by omega) (by omega)]; rfl
  · rw [h' _ _ (by omega), h.nd i hi 9 (by omega) (by omega)]; rfl
  · rw [h' _ _ (by omega), h.next i hi]; rfl

/-- The spares' blocks, the youngest first. -/
def EE (bs : Nat) : Nat → List Nat
  | 0 => []
  | m + 1 => (bs + 1 + m) :: EE bs m

theorem EE_mem {bs : Nat} : ∀ {m x : Nat}, x ∈ EE bs m → bs < x ∧ x ≤ bs + m
  | 0, x, h => absurd h (by simp [EE])
  | m + 1, x, h => by
    rcases List.mem_cons.1 h with rfl | h
    · omega
    · have := EE_mem h; omega
theorem EE_len (bs : Nat) : ∀ m, (EE bs m).length = m
  | 0 => rfl
  | m + 1 => by simp [EE, EE_len bs m]
theorem EE_get (bs : Nat) : ∀ m j, j < m → (EE bs m)[j]? = some (bs + (m - j))
  | 0, j, h => absurd h (by omega)
  | m + 1, 0, _ => by simp [EE]; omega
  | m + 1, j + 1, h => by
    have := EE_get bs m j (by omega)
    simp only [EE, List.getElem?_cons_succ, this]
    congr 1; omega

/-- Stage 4: m of the s spares lie behind the spares' row bs. -/
structure S4 (B bg bn nb n s bs : Nat) (W : Nat → Int) (f0 : Int) (m : Nat) (w0 w : World) : Prop where
  nums : bg = B + 1 ∧ bn = B + 2 ∧ nb = B + 3 ∧ bs = nb + n
  below : Below B w0 w
  size : w.heap.size = bs + 1 + m
  g : G B bg nb n 0 W f0 (EE bs m) 0 0 w
  rows : Rows2 B bn nb n W w
  sp : ∀ t, t < m → w.cell? ⟨bs, s - 1 - t, none⟩ = some (.pointer (some ⟨bs + 1 + t, 0, none⟩))
  exs : ∀ j, j < s → (w.cell? ⟨bs, j, none⟩).isSome = true

/-- 'G' through a change that touches nothing of it. -/
theorem G.keep {B bg nb n s : Nat} {W : Nat → Int} {f0 : Int} {E0 : List Nat} {k j : Nat} {w w' : World} (h : G B bg nb n s W f0 E0 k j w)
    (hc : ∀ b o, (w.cell? ⟨b, o, none⟩).isSome = true → (b = bg ∨ (nb ≤ b ∧ b < nb + n) ∨ b ∈ EL n s nb E0 j) → w'.cell? ⟨b, o, none⟩ = w.cell? ⟨b, o, none⟩)
    (hz : ∀ b o, B ≤ b → w'.frozen? ⟨b, o, none⟩ = false) : G B bg nb n s W f0 E0 k j w' := by
  have kg : ∀ o v, w.cell? ⟨bg, o, none⟩ = some v → w'.cell? ⟨bg, o, none⟩ = some v := fun o v hv => (hc _ _ (some_of hv) (.inl rfl)).trans hv
  have kn : ∀ i o v, i < n → w.cell? ⟨nb + i, o, none⟩ = some v → w'.cell? ⟨nb + i, o, none⟩ = some v := fun i o v hi hv => (hc _ _ (some_of hv) (.inr (.inl (by omega)))).trans hv
  exact ⟨h.hB, h.hg, h.hk, h.hjk, kg _ _ h.free, kg _ _ h.head, kg _ _ h.tail, kg _ _ h.len, kg _ _ h.o7, kg _ _ h.o8, kg _ _ h.o9, kg _ _ h.spares, kg _ _ h.nspares,
    fun i hi => kn i _ _ hi (h.val i hi), fun i hi => kn i _ _ hi (h.ready i hi), fun i hi => kn i _ _ hi (h.prev i hi), fun i hi h2 => kn i _ _ hi (h.next i hi h2), fun i hi h2 => kn i _ _ hi (h.c4 i hi h2), fun i hi h2 => kn i _ _ hi (h.c5 i hi h2), fun i hi h2 => kn i _ _ hi (h.c9 i hi h2),
    fun i hi => by rw [hc _ _ (h.n12 i hi) (.inr (.inl (by omega)))]; exact h.n12 i hi, h.els, fun m x hx => (hc _ _ (some_of (h.chain m x hx)) (.inr (.inr (List.mem_of_getElem? hx)))).trans (h.chain m x hx), hz⟩

theorem lt_of_some {w : World} {b o : Nat} (h : (w.cell? ⟨b, o, none⟩).isSome = true) : b < w.heap.size := by
  obtain ⟨x, hx⟩ := Option.isSome_iff_exists.1 h
  exact block_lt_of_cell hx

theorem G.alloc {s : Nat} {E0 : List Nat} {k j : Nat} (h : G B bg nb n s W f0 E0 k j w) (c : Array Value) (t : TypeId) : G B bg nb n s W f0 E0 k j (w.alloc (.cells c t)) :=
  h.keep (fun b o hs _ => ca _ _ _ _ (lt_of_some hs)) (fun b o hb => za _ _ _ _ _ (h.uf b o hb))

theorem Rows2.alloc (h : Rows2 B bn nb n W w) (o : Obj) : Rows2 B bn nb n W (w.alloc o) :=
  ⟨fun j hj => by rw [ca _ _ _ _ (lt_of_some (some_of (h.ws j hj)))]; exact h.ws j hj, fun j hj => by rw [ca _ _ _ _ (lt_of_some (some_of (h.row j hj)))]; exact h.row j hj⟩

theorem Rows2.set (h : Rows2 B bn nb n W w) (b o : Nat) (v : Value) (h1 : b ≠ B) (h2 : b ≠ bn) : Rows2 B bn nb n W (w.setCell ⟨b, o, none⟩ v) :=
  ⟨fun j hj => by rw [cs, if_neg (by omega)]; exact h.ws j hj, fun j hj => by rw [cs, if_neg (by omega)]; exact h.row j hj⟩

theorem S4.start {s : Nat} (hu : bg = B + 1 ∧ bn = B + 2 ∧ nb = B + 3) (hb : Below B w0 w) (hs : w.heap.size = nb + n) (g : G B bg nb n 0 W f0 [] 0 0 w) (r : Rows2 B bn nb n W w) :
    S4 B bg bn nb n s (nb + n) W f0 0 w0 (w.alloc (.cells (madeCells #[.pointer none] s) 37)) :=
  ⟨⟨hu.1, hu.2.1, hu.2.2, rfl⟩, hb.alloc (by omega) _, by simp; omega, g.alloc _ _, r.alloc _, fun t ht => absurd ht (by omega), fun j hj => by rw [cn _ _ _ _ _ hs.symm, made _ _ _ hj]; rfl⟩

theorem S4.step {s bs m : Nat} (h : S4 B bg bn nb n s bs W f0 m w0 w) (hm : m < s) :
    S4 B bg bn nb n s bs W f0 (m + 1) w0 (((w.alloc (.cells (nc 0 0 (ptrOf (EE bs m).head?)) 56)).setCell ⟨bs, s - 1 - m, none⟩ (.pointer (some ⟨bs + 1 + m, 0, none⟩))).setCell ⟨bg, 11, none⟩ (.pointer (some ⟨bs + 1 + m, 0, none⟩))) := by
  have hu := h.nums
  have hs := h.size
  have hg := h.g
  have key : ∀ b o, b < bs + 1 + m → ¬ (bs = b ∧ s - 1 - m = o) → ¬ (bg = b ∧ 11 = o) → (((w.alloc (.cells (nc 0 0 (ptrOf (EE bs m).head?)) 56)).setCell ⟨bs, s - 1 - m, none⟩ (.pointer (some ⟨bs + 1 + m, 0, none⟩))).setCell ⟨bg, 11, none⟩ (.pointer (some ⟨bs + 1 + m, 0, none⟩))).cell? ⟨b, o, none⟩ = w.cell? ⟨b, o, none⟩ := fun b o h1 h2 h3 => by
    rw [cs, if_neg h3, cs, if_neg h2, ca _ _ _ _ (by omega)]
  have ex : ∀ b o, b < bs + 1 + m → (w.cell? ⟨b, o, none⟩).isSome = true → ((((w.alloc (.cells (nc 0 0 (ptrOf (EE bs m).head?)) 56)).setCell ⟨bs, s - 1 - m, none⟩ (.pointer (some ⟨bs + 1 + m, 0, none⟩))).setCell ⟨bg, 11, none⟩ (.pointer (some ⟨bs + 1 + m, 0, none⟩))).cell? ⟨b, o, none⟩).isSome = true := fun b o h1 h2 =>
    iset _ _ _ _ _ (iset _ _ _ _ _ (by rw [ca _ _ _ _ (by omega)]; exact h2))
  refine ⟨h.nums, below_set (below_set (h.below.alloc (by omega) _) _ _ (by omega) _) _ _ (by omega) _, by rw [size_set, size_set]; simp; omega, ?_, ((h.rows.alloc _).set _ _ _ (by omega) (by omega)).set _ _ _ (by omega) (by omega), fun t ht => ?_, fun j hj => ex _ _ (by omega) (h.exs j hj)⟩
  · refine ⟨hg.hB, hg.hg, hg.hk, hg.hjk, ?_, ?_, ?_, ?_, ?_, ?_, ?_, ?_, ?_, fun i hi => ?_, fun i hi => ?_, fun i hi => ?_, fun i hi h2 => ?_, fun i hi h2 => ?_, fun i hi h2 => ?_, fun i hi h2 => ?_, fun i hi => ex _ _ (by omega) (hg.n12 i hi), fun x hx => ?_, fun q x hx => ?_, fun b o hb => by rw [fs, fs]; exact za _ _ _ _ _ (hg.uf b o hb)⟩
    · rw [key _ _ (by omega) (by omega) (by omega)]; exact hg.free
    · rw [key _ _ (by omega) (by omega) (by omega)]; exact hg.head
    · rw [key _ _ (by omega) (by omega) (by omega)]; exact hg.tail
    · rw [key _ _ (by omega) (by omega) (by omega)]; exact hg.len
    · rw [key _ _ (by omega) (by omega) (by omega)]; exact hg.o7
    · rw [key _ _ (by omega) (by omega) (by omega)]; exact hg.o8
    · rw [key _ _ (by omega) (by omega) (by omega)]; exact hg.o9
    · rw [cs, if_pos (by omega), mp _ (iset _ _ _ _ _ (by rw [ca _ _ _ _ (by omega)]; exact some_of hg.spares))]; rfl
    · rw [key _ _ (by omega) (by omega) (by omega)]; exact hg.nspares
    · rw [key _ _ (by omega) (by omega) (by omega)]; exact hg.val i hi
    · rw [key _ _ (by omega) (by omega) (by omega)]; exact hg.ready i hi
    · rw [key _ _ (by omega) (by omega) (by omega)]; exact hg.prev i hi
    · rw [key _ _ (by omega) (by omega) (by omega)]; exact hg.next i hi h2
    · rw [key _ _ (by omega) (by omega) (by omega)]; exact hg.c4 i hi h2
    · rw [key _ _ (by omega) (by omega) (by omega)]; exact hg.c5 i hi h2
    · rw [key _ _ (by omega) (by omega) (by omega)]; exact hg.c9 i hi h2
    · have hx : x ∈ EE bs (m + 1) := hx
      have := EE_mem hx
      exact ⟨by omega, by omega⟩
    · have hx : (EE bs (m + 1))[q]? = some x := hx
      show _ = some (ptrOf (EE bs (m + 1))[q + 1]?)
      cases q with
      | zero =>
        simp only [EE, List.getElem?_cons_zero, Option.some.injEq] at hx
        subst hx
        rw [cs, if_neg (by omega), cs, if_neg (by omega), cn _ _ _ _ _ hs.symm]
        simp [EE, nc, List.head?_eq_getElem?]
      | succ q =>
        simp only [EE, List.getElem?_cons_succ] at hx ⊢
        have hm := EE_mem (List.mem_of_getElem? hx)
        rw [key _ _ (by omega) (by omega) (by omega)]
        exact hg.chain q x hx
  · by_cases c : t = m
    · subst c
      rw [cs, if_neg (by omega), cs, if_pos (by omega), mp _ (by rw [ca _ _ _ _ (by omega)]; exact h.exs _ (by omega))]
    · rw [key _ _ (by omega) (by omega) (by omega)]; exact h.sp t (by omega)

/-- The count of spares is laid: the gate is ready. -/
theorem S4.done {s bs : Nat} (h : S4 B bg bn nb n s bs W f0 s w0 w) : G B bg nb n s W f0 (EE bs s) 0 0 (w.setCell ⟨bg, 12, none⟩ (.int .i64 s)) := by
  have hu := h.nums
  have hg := h.g
  refine ⟨hg.hB, hg.hg, hg.hk, hg.hjk, ?_, ?_, ?_, ?_, ?_, ?_, ?_, ?_, ?_, fun i hi => ?_, fun i hi => ?_, fun i hi => ?_, fun i hi h2 => ?_, fun i hi h2 => ?_, fun i hi h2 => ?_, fun i hi h2 => ?_, fun i hi => iset _ _ _ _ _ (hg.n12 i hi), hg.els, fun q x hx => ?_, fun b o hb => by rw [fs]; exact hg.uf b o hb⟩
  · rw [cs, if_neg (by omega)]; exact hg.free
  · rw [cs, if_neg (by omega)]; exact hg.head
  · rw [cs, if_neg (by omega)]; exact hg.tail
  · rw [cs, if_neg (by omega)]; exact hg.len
  · rw [cs, if_neg (by omega)]; exact hg.o7
  · rw [cs, if_neg (by omega)]; exact hg.o8
  · rw [cs, if_neg (by omega)]; exact hg.o9
  · rw [cs, if_neg (by omega)]; exact hg.spares
  · rw [cs, if_pos (by omega), mp _ (some_of hg.nspares)]; rfl
  · rw [cs, if_neg (by omega)]; exact hg.val i hi
  · rw [cs, if_neg (by omega)]; exact hg.ready i hi
  · rw [cs, if_neg (by omega)]; exact hg.prev i hi
  · rw [cs, if_neg (by omega)]; exact hg.next i hi h2
  · rw [cs, if_neg (by omega)]; exact hg.c4 i hi h2
  · rw [cs, if_neg (by omega)]; exact hg.c5 i hi h2
  · rw [cs, if_neg (by omega)]; exact hg.c9 i hi h2
  · have hx' : (EE bs s)[q]? = some x := hx
    have hm := EE_mem (List.mem_of_getElem? hx')
    rw [cs, if_neg (by omega)]; exact hg.chain q x hx
end
end Go.Proofs.Ybulkarlc
