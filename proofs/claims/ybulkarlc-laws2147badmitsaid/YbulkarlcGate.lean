/-
  The gate with its queue and its spares, as the law lays them: what holds when the first k waiters have been admitted; a round of 'admitWaiters' keeps it. Plain memory, no walk.
-/
import Derived.Below
import Derived.Laws.Rows
import Derived.Deep.Draws
namespace Go.Proofs.Ybulkarlc
open Go.RowKit

def ptrOf : Option Nat → Value
  | none => .pointer none
  | some b => .pointer (some ⟨b, 0, none⟩)

/-! ### The plain model -/
def F (W : Nat → Int) (f0 : Int) : Nat → Int
  | 0 => f0
  | k + 1 => F W f0 k - W k
def NS (n s : Nat) : Nat → Nat
  | 0 => s
  | k + 1 => if n - (k + 1) < NS n s k then NS n s k else NS n s k + 1
def EL (n s nb : Nat) (E0 : List Nat) : Nat → List Nat
  | 0 => E0
  | k + 1 => if n - (k + 1) < NS n s k then EL n s nb E0 k else (nb + k) :: EL n s nb E0 k

/-! ### One cell behind one store -/
theorem cs (w : World) (b o b' o' : Nat) (v : Value) : (w.setCell ⟨b, o, none⟩ v).cell? ⟨b', o', none⟩ = if b = b' ∧ o = o' then (w.cell? ⟨b, o, none⟩).map (fun _ => v) else w.cell? ⟨b', o', none⟩ := by
  by_cases h : b = b' ∧ o = o'
  · obtain ⟨rfl, rfl⟩ := h
    rw [if_pos ⟨rfl, rfl⟩]
    cases hc : w.cell? ⟨b, o, none⟩ with
    | none =>
      rw [Option.map_none]
      simp only [World.cell?, World.setCell, Array.getElem?_modify, if_true] at hc ⊢
      cases hh : w.heap[b]? with
      | none => simp
      | some ob => cases ob <;> simp_all
    | some x => exact World.cell?_setCell_same _ _ _ hc
  · rw [if_neg h, World.cell?_setCell_other]
    intro e
    cases e
    exact h ⟨rfl, rfl⟩

theorem iset (w : World) (a : Addr) (v : Value) (b' o' : Nat) (h : (w.cell? ⟨b', o', none⟩).isSome = true) : ((w.setCell a v).cell? ⟨b', o', none⟩).isSome = true := by
  obtain ⟨x, hx⟩ := Option.isSome_iff_exists.1 h
  by_cases e : a = ⟨b', o', none⟩
  · subst e; rw [World.cell?_setCell_same _ _ _ hx]; rfl
  · rw [World.cell?_setCell_other _ _ _ _ e, hx]; rfl

theorem mp {x : Option Value} (v : Value) (h : x.isSome = true) : x.map (fun _ => v) = some v := by
  obtain ⟨y, rfl⟩ := Option.isSome_iff_exists.1 h; rfl

theorem cd (w : World) (k : Nat) (a : Addr) : (w.drewN k).cell? a = w.cell? a := rfl
theorem fd (w : World) (k : Nat) (a : Addr) : (w.drewN k).frozen? a = w.frozen? a := rfl
theorem fs (w : World) (a : Addr) (v : Value) (x : Addr) : (w.setCell a v).frozen? x = w.frozen? x := World.frozen?_setCell _ _ _ _

/-- THE GATE: 'k' waiters are out of the queue, 'j' of them have been retired. 'B': what lies below is none of ours. -/
structure G (B bg nb n s : Nat) (W : Nat → Int) (f0 : Int) (E0 : List Nat) (k j : Nat) (w : World) : Prop where
  hB : B ≤ bg
  hg : bg < nb
  hk : k ≤ n
  hjk : j ≤ k
  free : w.cell? ⟨bg, 3, none⟩ = some (.int .i64 (F W f0 k))
  head : w.cell? ⟨bg, 4, none⟩ = some (ptrOf (if k < n then some (nb + k) else none))
  tail : w.cell? ⟨bg, 5, none⟩ = some (ptrOf (if k < n then some (nb + (n - 1)) else none))
  len : w.cell? ⟨bg, 6, none⟩ = some (.int .i64 ((n : Int) - k))
  o7 : w.cell? ⟨bg, 7, none⟩ = some (.pointer none)
  o8 : w.cell? ⟨bg, 8, none⟩ = some (.pointer none)
  o9 : w.cell? ⟨bg, 9, none⟩ = some (.int .i64 0)
  spares : w.cell? ⟨bg, 11, none⟩ = some (ptrOf (EL n s nb E0 j).head?)
  nspares : w.cell? ⟨bg, 12, none⟩ = some (.int .i64 (NS n s j))
  val : ∀ i, i < n → w.cell? ⟨nb + i, 0, none⟩ = some (.int .i64 (W i))
  ready : ∀ i, i < n → w.cell? ⟨nb + i, 2, none⟩ = some (.chan none)
  prev : ∀ i, i < n → w.cell? ⟨nb + i, 11, none⟩ = some (ptrOf (if i ≤ k then none else some (nb + (i - 1))))
  next : ∀ i, i < n → k ≤ i → w.cell? ⟨nb + i, 12, none⟩ = some (ptrOf (if i + 1 < n then some (nb + (i + 1)) else none))
  c4 : ∀ i, i < n → k ≤ i → w.cell? ⟨nb + i, 4, none⟩ = some (.int .u32 0)
  c5 : ∀ i, i < n → k ≤ i → w.cell? ⟨nb + i, 5, none⟩ = some (.int .u32 0)
  c9 : ∀ i, i < n → k ≤ i → w.cell? ⟨nb + i, 9, none⟩ = some (.int .u64 0)
  n12 : ∀ i, i < n → (w.cell? ⟨nb + i, 12, none⟩).isSome = true
  els : ∀ x, x ∈ EL n s nb E0 j → x ≠ bg ∧ ¬ (nb + j ≤ x ∧ x < nb + n)
  chain : ∀ m x, (EL n s nb E0 j)[m]? = some x → w.cell? ⟨x, 12, none⟩ = some (ptrOf (EL n s nb E0 j)[m + 1]?)
  uf : ∀ b o, B ≤ b → w.frozen? ⟨b, o, none⟩ = false

section
variable {B bg nb n s : Nat} {W : Nat → Int} {f0 : Int} {E0 : List Nat} {k : Nat} {w : World}

theorem some_of {x : Option Value} {v : Value} (h : x = some v) : x.isSome = true := by rw [h]; rfl

/-- The queue's last waiter is taken out and woken. -/
theorem G.last (h : G B bg nb n s W f0 E0 k k w) (hk : k + 1 = n) (d : Nat) :
    G B bg nb n s W f0 E0 (k + 1) k ((((((((w.setCell ⟨bg, 3, none⟩ (.int .i64 (F W f0 k - W k))).setCell ⟨bg, 4, none⟩ (.pointer none)).setCell ⟨bg, 5, none⟩ (.pointer none)).setCell ⟨nb + k, 11, none⟩ (.pointer none)).setCell ⟨nb + k, 12, none⟩ (.pointer none)).setCell ⟨bg, 6, none⟩ (.int .i64 ((n : Int) - k - 1))).setCell ⟨nb + k, 9, none⟩ (.pointer (some ⟨nb + k, 9, none⟩))).drewN d) := by
  have hg := h.hg
  have els := h.els
  refine ⟨h.hB, h.hg, by omega, by omega, ?_, ?_, ?_, ?_, ?_, ?_, ?_, ?_, ?_, ?_, ?_, ?_, ?_, ?_, ?_, ?_, ?_, h.els, ?_, ?_⟩
  · rw [cd]; repeat rw [cs, if_neg (by omega)]
    rw [cs, if_pos (by omega), mp _ (some_of h.free)]; rfl
  · rw [cd]; repeat rw [cs, if_neg (by omega)]
    rw [cs, if_pos (by omega), mp _ (iset _ _ _ _ _ (some_of h.head)), if_neg (by omega)]; rfl
  · rw [cd]; repeat rw [cs, if_neg (by omega)]
    rw [cs, if_pos (by omega), mp _ (iset _ _ _ _ _ (iset _ _ _ _ _ (some_of h.tail))), if_neg (by omega)]; rfl
  · rw [cd]; repeat rw [cs, if_neg (by omega)]
    rw [cs, if_pos (by omega), mp _ (iset _ _ _ _ _ (iset _ _ _ _ _ (iset _ _ _ _ _ (iset _ _ _ _ _ (iset _ _ _ _ _ (some_of h.len))))))]
    congr 2; omega
  · rw [cd]; repeat rw [cs, if_neg (by omega)]
    exact h.o7
  · rw [cd]; repeat rw [cs, if_neg (by omega)]
    exact h.o8
  · rw [cd]; repeat rw [cs, if_neg (by omega)]
    exact h.o9
  · rw [cd]; repeat rw [cs, if_neg (by omega)]
    exact h.spares
  · rw [cd]; repeat rw [cs, if_neg (by omega)]
    exact h.nspares
  · intro i hi
    rw [cd]; repeat rw [cs, if_neg (by omega)]
    exact h.val i hi
  · intro i hi
    rw [cd]; repeat rw [cs, if_neg (by omega)]
    exact h.ready i hi
  · intro i hi
    have e := h.prev i hi
    rw [if_pos (by omega)] at e ⊢
    by_cases c : i = k
    · subst c
      rw [cd]; repeat rw [cs, if_neg (by omega)]
      rw [cs, if_pos (by omega), mp _ (iset _ _ _ _ _ (iset _ _ _ _ _ (iset _ _ _ _ _ (some_of e))))]; rfl
    · rw [cd]; repeat rw [cs, if_neg (by omega)]
      exact e
  · intro i hi hi2; omega
  · intro i hi hi2; omega
  · intro i hi hi2; omega
  · intro i hi hi2; omega
  · intro i hi
    rw [cd]
    repeat apply iset
    exact h.n12 i hi
  · intro m x hx
    have hm := els x (List.mem_of_getElem? hx)
    rw [cd]; repeat rw [cs, if_neg (by omega)]
    exact h.chain m x hx
  · intro b o hb
    rw [fd, fs, fs, fs, fs, fs, fs, fs]
    exact h.uf b o hb

/-- A waiter that has a next one is taken out of the queue's head and woken. -/
theorem G.mid (h : G B bg nb n s W f0 E0 k k w) (hk : k + 1 < n) (d : Nat) :
    G B bg nb n s W f0 E0 (k + 1) k ((((((((w.setCell ⟨bg, 3, none⟩ (.int .i64 (F W f0 k - W k))).setCell ⟨bg, 4, none⟩ (.pointer (some ⟨nb + (k + 1), 0, none⟩))).setCell ⟨nb + (k + 1), 11, none⟩ (.pointer none)).setCell ⟨nb + k, 11, none⟩ (.pointer none)).setCell ⟨nb + k, 12, none⟩ (.pointer none)).setCell ⟨bg, 6, none⟩ (.int .i64 ((n : Int) - k - 1))).setCell ⟨nb + k, 9, none⟩ (.pointer (some ⟨nb + k, 9, none⟩))).drewN d) := by
  have hg := h.hg
  have els := h.els
  refine ⟨h.hB, h.hg, by omega, by omega, ?_, ?_, ?_, ?_, ?_, ?_, ?_, ?_, ?_, ?_, ?_, ?_, ?_, ?_, ?_, ?_, ?_, h.els, ?_, ?_⟩
  · rw [cd]; repeat rw [cs, if_neg (by omega)]
    rw [cs, if_pos (by omega), mp _ (some_of h.free)]; rfl
  · rw [cd]; repeat rw [cs, if_neg (by omega)]
    rw [cs, if_pos (by omega), mp _ (iset _ _ _ _ _ (some_of h.head)), if_pos (by omega)]; rfl
  · have e := h.tail
    rw [if_pos (by omega)] at e ⊢
    rw [cd]; repeat rw [cs, if_neg (by omega)]
    exact e
  · rw [cd]; repeat rw [cs, if_neg (by omega)]
    rw [cs, if_pos (by omega), mp _ (iset _ _ _ _ _ (iset _ _ _ _ _ (iset _ _ _ _ _ (iset _ _ _ _ _ (iset _ _ _ _ _ (some_of h.len))))))]
    congr 2; omega
  · rw [cd]; repeat rw [cs, if_neg (by omega)]
    exact h.o7
  · rw [cd]; repeat rw [cs, if_neg (by omega)]
    exact h.o8
  · rw [cd]; repeat rw [cs, if_neg (by omega)]
    exact h.o9
  · rw [cd]; repeat rw [cs, if_neg (by omega)]
    exact h.spares
  · rw [cd]; repeat rw [cs, if_neg (by omega)]
    exact h.nspares
  · intro i hi
    rw [cd]; repeat rw [cs, if_neg (by omega)]
    exact h.val i hi
  · intro i hi
    rw [cd]; repeat rw [cs, if_neg (by omega)]
    exact h.ready i hi
  · intro i hi
    have e := h.prev i hi
    by_cases c : i = k
    · subst c
      rw [if_pos (by omega)] at e ⊢
      rw [cd]; repeat rw [cs, if_neg (by omega)]
      rw [cs, if_pos (by omega), mp _ (iset _ _ _ _ _ (iset _ _ _ _ _ (iset _ _ _ _ _ (some_of e))))]; rfl
    · by_cases c2 : i = k + 1
      · subst c2
        rw [if_pos (by omega)]
        rw [cd]; repeat rw [cs, if_neg (by omega)]
        rw [cs, if_pos (by omega), mp _ (iset _ _ _ _ _ (iset _ _ _ _ _ (some_of e)))]; rfl
      · rw [cd]; repeat rw [cs, if_neg (by omega)]
        rw [e]
        by_cases c3 : i ≤ k
        · rw [if_pos c3, if_pos (by omega)]
        · rw [if_neg c3, if_neg (by omega)]
  · intro i hi hi2
    rw [cd]; repeat rw [cs, if_neg (by omega)]
    exact h.next i hi (by omega)
  · intro i hi hi2
    rw [cd]; repeat rw [cs, if_neg (by omega)]
    exact h.c4 i hi (by omega)
  · intro i hi hi2
    rw [cd]; repeat rw [cs, if_neg (by omega)]
    exact h.c5 i hi (by omega)
  · intro i hi hi2
    rw [cd]; repeat rw [cs, if_neg (by omega)]
    exact h.c9 i hi (by omega)
  · intro i hi
    rw [cd]
    repeat apply iset
    exact h.n12 i hi
  · intro m x hx
    have hm := els x (List.mem_of_getElem? hx)
    rw [cd]; repeat rw [cs, if_neg (by omega)]
    exact h.chain m x hx
  · intro b o hb
    rw [fd, fs, fs, fs, fs, fs, fs, fs]
    exact h.uf b o hb

/-- It is retired: there are spares enough. -/
theorem G.full (h : G B bg nb n s W f0 E0 (k + 1) k w) (hf : n - (k + 1) < NS n s k) (d : Nat) : G B bg nb n s W f0 E0 (k + 1) (k + 1) ((w.setCell ⟨nb + k, 2, none⟩ (.chan none)).drewN d) := by
  have hg := h.hg
  have hk := h.hk
  have e1 : NS n s (k + 1) = NS n s k := by show (if _ then _ else _) = _; rw [if_pos hf]
  have e2 : EL n s nb E0 (k + 1) = EL n s nb E0 k := by show (if _ then _ else _) = _; rw [if_pos hf]
  have keep : ∀ b' o', ¬ (nb + k = b' ∧ 2 = o') → ((w.setCell ⟨nb + k, 2, none⟩ (.chan none)).drewN d).cell? ⟨b', o', none⟩ = w.cell? ⟨b', o', none⟩ := fun b' o' hn => by rw [cd, cs, if_neg hn]
  refine ⟨h.hB, h.hg, h.hk, by omega, ?_, ?_, ?_, ?_, ?_, ?_, ?_, ?_, ?_, ?_, ?_, ?_, ?_, ?_, ?_, ?_, ?_, ?_, ?_, ?_⟩
  · rw [keep _ _ (by omega)]; exact h.free
  · rw [keep _ _ (by omega)]; exact h.head
  · rw [keep _ _ (by omega)]; exact h.tail
  · rw [keep _ _ (by omega)]; exact h.len
  · rw [keep _ _ (by omega)]; exact h.o7
  · rw [keep _ _ (by omega)]; exact h.o8
  · rw [keep _ _ (by omega)]; exact h.o9
  · rw [keep _ _ (by omega), e2]; exact h.spares
  · rw [keep _ _ (by omega), e1]; exact h.nspares
  · intro i hi; rw [keep _ _ (by omega)]; exact h.val i hi
  · intro i hi
    by_cases c : i = k
    · subst c
      rw [cd, cs, if_pos (by omega), mp _ (some_of (h.ready i hi))]
    · rw [keep _ _ (by omega)]; exact h.ready i hi
  · intro i hi; rw [keep _ _ (by omega)]; exact h.prev i hi
  · intro i hi hi2; rw [keep _ _ (by omega)]; exact h.next i hi hi2
  · intro i hi hi2; rw [keep _ _ (by omega)]; exact h.c4 i hi hi2
  · intro i hi hi2; rw [keep _ _ (by omega)]; exact h.c5 i hi hi2
  · intro i hi hi2; rw [keep _ _ (by omega)]; exact h.c9 i hi hi2
  · intro i hi; rw [keep _ _ (by omega)]; exact h.n12 i hi
  · intro x hx
    rw [e2] at hx
    have := h.els x hx
    exact ⟨this.1, by omega⟩
  · intro m x hx
    rw [e2] at hx ⊢
    rw [keep _ _ (by omega)]
    exact h.chain m x hx
  · intro b o hb
    rw [fd, fs]; exact h.uf b o hb

/-- It becomes a spare. -/
theorem G.push (h : G B bg nb n s W f0 E0 (k + 1) k w) (hf : ¬ n - (k + 1) < NS n s k) (d : Nat) :
    G B bg nb n s W f0 E0 (k + 1) (k + 1) (((((w.setCell ⟨nb + k, 2, none⟩ (.chan none)).setCell ⟨nb + k, 12, none⟩ (ptrOf (EL n s nb E0 k).head?)).setCell ⟨bg, 11, none⟩ (.pointer (some ⟨nb + k, 0, none⟩))).setCell ⟨bg, 12, none⟩ (.int .i64 ((NS n s k : Int) + 1))).drewN d) := by
  have hg := h.hg
  have hk := h.hk
  have els := h.els
  have e1 : NS n s (k + 1) = NS n s k + 1 := by show (if _ then _ else _) = _; rw [if_neg hf]
  have e2 : EL n s nb E0 (k + 1) = (nb + k) :: EL n s nb E0 k := by show (if _ then _ else _) = _; rw [if_neg hf]
  refine ⟨h.hB, h.hg, h.hk, by omega, ?_, ?_, ?_, ?_, ?_, ?_, ?_, ?_, ?_, ?_, ?_, ?_, ?_, ?_, ?_, ?_, ?_, ?_, ?_, ?_⟩
  · rw [cd]; repeat rw [cs, if_neg (by omega)]
    exact h.free
  · rw [cd]; repeat rw [cs, if_neg (by omega)]
    exact h.head
  · rw [cd]; repeat rw [cs, if_neg (by omega)]
    exact h.tail
  · rw [cd]; repeat rw [cs, if_neg (by omega)]
    exact h.len
  · rw [cd]; repeat rw [cs, if_neg (by omega)]
    exact h.o7
  · rw [cd]; repeat rw [cs, if_neg (by omega)]
    exact h.o8
  · rw [cd]; repeat rw [cs, if_neg (by omega)]
    exact h.o9
  · rw [cd]; repeat rw [cs, if_neg (by omega)]
    rw [cs, if_pos (by omega), mp _ (iset _ _ _ _ _ (iset _ _ _ _ _ (some_of h.spares))), e2]; rfl
  · rw [cd]; repeat rw [cs, if_neg (by omega)]
    rw [cs, if_pos (by omega), mp _ (iset _ _ _ _ _ (iset _ _ _ _ _ (iset _ _ _ _ _ (some_of h.nspares)))), e1]
    congr 2
  · intro i hi
    rw [cd]; repeat rw [cs, if_neg (by omega)]
    exact h.val i hi
  · intro i hi
    by_cases c : i = k
    · subst c
      rw [cd]; repeat rw [cs, if_neg (by omega)]
      rw [cs, if_pos (by omega), mp _ (some_of (h.ready i hi))]
    · rw [cd]; repeat rw [cs, if_neg (by omega)]
      exact h.ready i hi
  · intro i hi
    rw [cd]; repeat rw [cs, if_neg (by omega)]
    exact h.prev i hi
  · intro i hi hi2
    rw [cd]; repeat rw [cs, if_neg (by omega)]
    exact h.next i hi hi2
  · intro i hi hi2
    rw [cd]; repeat rw [cs, if_neg (by omega)]
    exact h.c4 i hi hi2
  · intro i hi hi2
    rw [cd]; repeat rw [cs, if_neg (by omega)]
    exact h.c5 i hi hi2
  · intro i hi hi2
    rw [cd]; repeat rw [cs, if_neg (by omega)]
    exact h.c9 i hi hi2
  · intro i hi
    rw [cd]
    repeat apply iset
    exact h.n12 i hi
  · intro x hx
    rw [e2] at hx
    rcases List.mem_cons.1 hx with rfl | hx
    · exact ⟨by omega, by omega⟩
    · have := els x hx
      exact ⟨this.1, by omega⟩
  · intro m x hx
    rw [e2] at hx ⊢
    cases m with
    | zero =>
      simp only [List.getElem?_cons_zero, Option.some.injEq] at hx
      subst hx
      rw [cd]; repeat rw [cs, if_neg (by omega)]
      rw [cs, if_pos (by omega), mp _ (iset _ _ _ _ _ (h.n12 k (by omega)))]
      simp [List.head?_eq_getElem?]
    | succ m =>
      simp only [List.getElem?_cons_succ] at hx ⊢
      have hm := els x (List.mem_of_getElem? hx)
      rw [cd]; repeat rw [cs, if_neg (by omega)]
      exact h.chain m x hx
  · intro b o hb
    rw [fd, fs, fs, fs, fs]; exact h.uf b o hb
end
end Go.Proofs.Ybulkarlc
