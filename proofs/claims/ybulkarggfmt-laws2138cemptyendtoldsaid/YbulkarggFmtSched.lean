/-
  '(*play.scheduler).read' on a file with no data.
-/
import Derived.Test.YbulkarggFmtRead
namespace Go.Proofs.YbulkarggFmt
open Go.ChangeShapes Go.WideShapes Go.RowKit

/-- A scheduler in block 'bs' whose walk (block 'bc') reads a file (block 'bf') with no data; 'B': what lay before is as it was in 'w0'. -/
structure Sched (B bs bc bf : Nat) (u : TypeId) (v : Value) (clock bankPos free latch : Int) (w0 w : World) : Prop where
  below : Below B w0 w
  hB : B ≤ bs
  nc : bc ≠ bs
  nf : bf ≠ bs
  nz : 0 ≠ bs
  c0 : w.cell? ⟨bs, 0, none⟩ = some (.int .u32 clock)
  c1 : w.cell? ⟨bs, 1, none⟩ = some (.pointer (some ⟨bc, 0, none⟩))
  c2 : w.cell? ⟨bs, 2, none⟩ = some (.pointer none)
  c3 : w.cell? ⟨bs, 3, none⟩ = some (.int .u64 bankPos)
  run : w.cell? ⟨bs, 4637, none⟩ = some (.slice none 0 0)
  free : w.cell? ⟨bs, 4638, none⟩ = some (.int .u64 free)
  latch : w.cell? ⟨bs, 4639, none⟩ = some (.int .i64 latch)
  out : w.cell? ⟨bs, 4640, none⟩ = some (.slice none 0 0)
  took : w.cell? ⟨bs, 4641, none⟩ = some (.int .i64 0)
  room : w.there bs 4 25
  w0 : w.cell? ⟨bc, 0, none⟩ = some (.pointer (some ⟨bf, 0, none⟩))
  w1 : w.cell? ⟨bc, 1, none⟩ = some (.int .i64 0)
  w2 : w.cell? ⟨bc, 2, none⟩ = some (.int .u32 0)
  f9 : w.cell? ⟨bf, 9, none⟩ = some (.slice none 0 0)
  f11 : w.cell? ⟨bf, 11, none⟩ = some (.int .i64 0)
  g0 : w.cell? ⟨0, 0, none⟩ = some (.iface u v)

/-- What 'read' leaves in the cells that it writes. -/
structure Ended (bs : Nat) (w : World) : Prop where
  tick : w.cell? ⟨bs, 4, none⟩ = some (.int .u32 0)
  kind : w.cell? ⟨bs, 5, none⟩ = some (.int .u8 0)
  offset : w.cell? ⟨bs, 6, none⟩ = some (.int .i64 0)
  val : w.cell? ⟨bs, 10, none⟩ = some (.int .u8 0)
  data : w.cell? ⟨bs, 12, none⟩ = some (.slice none 0 0)
  more : w.cell? ⟨bs, 28, none⟩ = some (.bool false)

theorem storeCells_mid (w : World) (b o : Nat) (cells : Array Value) (ht : w.there b o cells.size) (h1 : cells.all (·.oneCell') = true) :
    (storeCells ⟨b, o, none⟩ cells.toList).run Ybaf.prog w = .ok () (w.setCells b o cells.toList) := by
  have := run_storeCells_cells (P := Ybaf.prog) b o cells.toList 0 w (fun j hj => by simpa using (ht j (by simpa using hj)).1) (fun j hj => by simpa using (ht j (by simpa using hj)).2)
    (fun v hv => (Array.all_eq_true_iff_forall_mem.1 h1) v (by simpa using hv))
  simpa using this

/-- The world behind the three stores. -/
def after (bs : Nat) (t : Value) (cs : List Value) (m : Value) (w : World) : World := ((w.setCell ⟨bs, 4, none⟩ t).setCells bs 5 cs).setCell ⟨bs, 28, none⟩ m

theorem after_out (bs : Nat) (t : Value) (cs : List Value) (m : Value) (hl : cs.length = 23) (w : World) (x : Addr) (h : x.block = bs → x.spot = none → x.off < 4 ∨ 28 < x.off) : (after bs t cs m w).cell? x = w.cell? x := by
  have e : after bs t cs m w = ((w.setCells bs 4 [t]).setCells bs 5 cs).setCells bs 28 [m] := rfl
  rw [e, World.cell?_setCells_out bs _ 28 _ x (fun h1 h2 => by have := h h1 h2; simp; omega), World.cell?_setCells_out bs _ 5 _ x (fun h1 h2 => by have := h h1 h2; omega),
    World.cell?_setCells_out bs _ 4 _ x (fun h1 h2 => by have := h h1 h2; simp; omega)]

theorem after_below (B bs : Nat) (t : Value) (cs : List Value) (m : Value) (w : World) (hB : B ≤ bs) : Below B w (after bs t cs m w) := by
  have h : ∀ (vs : List Value) (o : Nat) (w1 : World), Below B w w1 → Below B w (w1.setCells bs o vs) := by
    intro vs
    induction vs with
    | nil => intro o w1 h1; exact h1
    | cons v r ih => intro o w1 h1; exact ih (o + 1) _ (h1.setCell hB v)
  exact h [m] 28 _ (h cs 5 _ (h [t] 4 _ (Below.refl _ _)))

theorem after_there {bs : Nat} {t : Value} {cs : List Value} {m : Value} {w : World} {b o n : Nat} (h : w.there b o n) : (after bs t cs m w).there b o n :=
  World.there_setCells (World.there_setCells (World.there_setCells h bs 4 [t]) bs 5 cs) bs 28 [m]

theorem after_ended {bs : Nat} {w : World} (h : w.there bs 4 25) : Ended bs (after bs (.int .u32 0) zc.toList (.bool false) w) := by
  have hl : zc.toList.length = 23 := rfl
  have h1 := World.there_setCells h bs 4 [.int .u32 0]
  have h2 := World.there_setCells h1 bs 5 zc.toList
  have m : ∀ j, j < 23 → (after bs (.int .u32 0) zc.toList (.bool false) w).cell? ⟨bs, 5 + j, none⟩ = zc.toList[j]? := by
    intro j hj
    show (((w.setCells bs 4 [.int .u32 0]).setCells bs 5 zc.toList).setCells bs 28 [.bool false]).cell? _ = _
    rw [World.cell?_setCells_out bs _ 28 _ ⟨bs, 5 + j, none⟩ (fun _ _ => Or.inl (show 5 + j < 28 by omega)),
      World.cell?_setCells_in bs zc.toList 5 _ (fun i hi => by have := (h1 (i + 1) (by omega)).1; rw [show 4 + (i + 1) = 5 + i by omega] at this; exact this) j (by omega)]
    rw [List.getElem?_eq_getElem]
  refine ⟨?_, m 0 (by omega), m 1 (by omega), m 5 (by omega), m 7 (by omega), ?_⟩
  · show (((w.setCells bs 4 [.int .u32 0]).setCells bs 5 zc.toList).setCells bs 28 [.bool false]).cell? _ = _
    rw [World.cell?_setCells_out bs _ 28 _ ⟨bs, 4, none⟩ (fun _ _ => Or.inl (show 4 < 28 by omega)), World.cell?_setCells_out bs _ 5 _ ⟨bs, 4, none⟩ (fun _ _ => Or.inl (show 4 < 5 by omega))]
    exact World.cell?_setCells_in bs [.int .u32 0] 4 w (fun i hi => (h i (by simp at hi; omega)).1) 0 (by simp)
  · show (((w.setCells bs 4 [.int .u32 0]).setCells bs 5 zc.toList).setCells bs 28 [.bool false]).cell? _ = _
    exact World.cell?_setCells_in bs [.bool false] 28 _ (fun i hi => by
      have hi : i = 0 := by simp at hi; omega
      subst hi
      exact (h2 24 (by omega)).1) 0 (by simp)

/-- The scheduler is one behind whatever is stored into its cells 4 .. 28. -/
theorem sched_after {B bs bc bf : Nat} {u : TypeId} {v : Value} {clock bankPos free latch : Int} {w0 w w1 : World} (t : Value) (cs : List Value) (m : Value) (hl : cs.length = 23) (h : Sched B bs bc bf u v clock bankPos free latch w0 w) (hb : Below w.heap.size w w1) :
    w1.there bs 4 25 ∧ Sched B bs bc bf u v clock bankPos free latch w0 (after bs t cs m w1) := by
  have hbs : bs < w.heap.size := block_lt_of_cell h.c0
  have keep : ∀ (x : Addr) (y : Value), (x.block = bs → x.spot = none → x.off < 4 ∨ 28 < x.off) → w.cell? x = some y → (after bs t cs m w1).cell? x = some y := fun x y hx hc => by
    rw [after_out bs t cs m hl w1 x hx, hb.cell (block_lt_of_cell hc)]; exact hc
  have room : w1.there bs 4 25 := fun j hj => by
    obtain ⟨g1, g2⟩ := h.room j hj
    exact ⟨by rw [hb.cell (p := ⟨bs, 4 + j, none⟩) hbs]; exact g1, by rw [hb.frozen (p := ⟨bs, 4 + j, none⟩) hbs]; exact g2⟩
  have hBs : B ≤ w.heap.size := by have := h.hB; omega
  exact ⟨room, ⟨(h.below.trans (hb.mono hBs)).trans (after_below B bs t cs m w1 h.hB), h.hB, h.nc, h.nf, h.nz,
    keep _ _ (fun _ _ => Or.inl (by show 0 < 4; omega)) h.c0, keep _ _ (fun _ _ => Or.inl (by show 1 < 4; omega)) h.c1, keep _ _ (fun _ _ => Or.inl (by show 2 < 4; omega)) h.c2, keep _ _ (fun _ _ => Or.inl (by show 3 < 4; omega)) h.c3,
    keep _ _ (fun _ _ => Or.inr (by show 28 < 4637; omega)) h.run, keep _ _ (fun _ _ => Or.inr (by show 28 < 4638; omega)) h.free, keep _ _ (fun _ _ => Or.inr (by show 28 < 4639; omega)) h.latch, keep _ _ (fun _ _ => Or.inr (by show 28 < 4640; omega)) h.out, keep _ _ (fun _ _ => Or.inr (by show 28 < 4641; omega)) h.took,
    after_there room, keep _ _ (fun e _ => absurd e h.nc) h.w0, keep _ _ (fun e _ => absurd e h.nc) h.w1, keep _ _ (fun e _ => absurd e h.nc) h.w2, keep _ _ (fun e _ => absurd e h.nf) h.f9, keep _ _ (fun e _ => absurd e h.nf) h.f11, keep _ _ (fun e _ => absurd e h.nz) h.g0⟩⟩

set_option maxRecDepth 100000 in
set_option maxHeartbeats 1000000 in
theorem read_end {B bs bc bf : Nat} {u : TypeId} {v : Value} {clock bankPos free latch : Int} {w0 : World} (w : World) (h : Sched B bs bc bf u v clock bankPos free latch w0 w) :
    Calls Ybaf.prog 5 #[.pointer (some ⟨bs, 0, none⟩)] w fun e w' => e = .returned (.tuple #[]) ∧ Sched B bs bc bf u v clock bankPos free latch w0 w' ∧ Ended bs w' := by
  go_enter Ybaf.func5, Ybaf.ntmps5
  go_wp2_with fail
  refine (walkNext_end bs 1 bc bf u v _ h.c1 h.w0 h.w1 h.w2 h.f9 h.f11 h.g0).mono ?_
  rintro e w1 ⟨rfl, hb⟩
  have hbs : bs < w.heap.size := block_lt_of_cell h.c0
  have t4 := h.room 0 (by omega)
  have t28 := h.room 24 (by omega)
  have e4 : ∃ x, w1.cell? ⟨bs, 4, none⟩ = some x := by
    obtain ⟨x, hx⟩ := Option.isSome_iff_exists.1 t4.1
    exact ⟨x, by rw [hb.cell (p := ⟨bs, 4, none⟩) hbs]; exact hx⟩
  have e28 : ∃ x, w1.cell? ⟨bs, 28, none⟩ = some x := by
    obtain ⟨x, hx⟩ := Option.isSome_iff_exists.1 t28.1
    exact ⟨x, by rw [hb.cell (p := ⟨bs, 28, none⟩) hbs]; exact hx⟩
  obtain ⟨x4, e4⟩ := e4
  obtain ⟨x28, e28⟩ := e28
  have fr : ∀ o, w1.frozen? ⟨bs, o, none⟩ = w.frozen? ⟨bs, o, none⟩ := fun o => hb.frozen (p := ⟨bs, o, none⟩) hbs
  have f4 : w1.frozen? ⟨bs, 4, none⟩ = false := by rw [fr]; exact t4.2
  have f28 : w1.frozen? ⟨bs, 28, none⟩ = false := by rw [fr]; exact t28.2
  have th : w1.there bs 5 zc.size := fun j hj => by
    have hj : j < 23 := hj
    obtain ⟨g1, g2⟩ := h.room (j + 1) (by omega)
    rw [show 4 + (j + 1) = 5 + j by omega] at g1 g2
    exact ⟨by rw [hb.cell (p := ⟨bs, 5 + j, none⟩) hbs]; exact g1, by rw [fr]; exact g2⟩
  have th' : (w1.setCell ⟨bs, 4, none⟩ (.int .u32 0)).there bs 5 zc.size := World.there_setCells th bs 4 [.int .u32 0]
  have hst := storeCells_mid _ _ _ zc th' (by decide +kernel)
  have x28 : ∃ x, ((w1.setCell ⟨bs, 4, none⟩ (.int .u32 0)).setCells bs 5 zc.toList).cell? ⟨bs, 28, none⟩ = some x := ⟨x28, by
    rw [World.cell?_setCells_out bs zc.toList 5 _ ⟨bs, 28, none⟩ (fun _ _ => Or.inr (show 5 + zc.toList.length ≤ 28 by decide)), World.cell?_setCell_other _ _ _ _ (by simp)]; exact e28⟩
  have y28 : ((w1.setCell ⟨bs, 4, none⟩ (.int .u32 0)).setCells bs 5 zc.toList).frozen? ⟨bs, 28, none⟩ = false := by
    rw [World.frozen?_setCells]; simpa using f28
  obtain ⟨x28, e28'⟩ := x28
  clear fr t4 t28 th th'
  have hz : zc.size = 23 := rfl
  go_wp2_with fail
  have hfin := sched_after (.int .u32 0) zc.toList (.bool false) rfl h hb
  go_end0
  exact ⟨rfl, hfin.2, after_ended hfin.1⟩
end Go.Proofs.YbulkarggFmt
