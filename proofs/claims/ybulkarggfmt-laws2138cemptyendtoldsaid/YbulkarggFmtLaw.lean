/-
  'play.LawS2138CEmptyEnd' walked: true.
-/
import Derived.Test.YbulkarggFmtBuilt
namespace Go.Proofs.YbulkarggFmt
open Go.ChangeShapes Go.WideShapes Go.RowKit

/-! Three operations, as the region's list bears them. -/
theorem wpList_build49 {ops : Array Oper} {rest : List Oper} {d : Option Tmp} {ty : TypeId} {p : String} {af : Array Edge} {x0 x1 x3 x9 x10 : Operand} {a : Act} {w : World} {Q : Exit → Act → World → Prop} (v0 v1 v3 v9 v10 : Value)
    (h0 : a.eval x0 = v0) (h1 : a.eval x1 = v1) (h3 : a.eval x3 = v3) (h9 : a.eval x9 = v9) (h10 : a.eval x10 = v10) (c : Array Value) (hb : Ybaf.prog.built 49 [(0, v0), (1, v1), (3, v3), (9, v9), (10, v10)] = some c)
    (h : wpList Ybaf.prog ops Q rest (a.put d (.agg c)) w) : wpList Ybaf.prog ops Q ({ dst := d, op := .build 49 #[(0, x0), (1, x1), (3, x3), (9, x9), (10, x10)], type := ty, pos := p, after := af, guard := none } :: rest) a w :=
  wpList_plain rfl fun K hK => by
    unfold Oper.wp execOp
    have e := run_build (P := Ybaf.prog) w 49 #[(0, v0), (1, v1), (3, v3), (9, v9), (10, v10)] c hb
    simp only [List.map_toArray, List.map_cons, List.map_nil, h0, h1, h3, h9, h10, Sem.run_bind, e, Result.andThen, Sem.run_pure]
    exact hK _ _ h

theorem wpList_box49 {ops : Array Oper} {rest : List Oper} {d : Option Tmp} {ty : TypeId} {p : String} {af : Array Edge} {x : Operand} {a : Act} {w : World} {Q : Exit → Act → World → Prop} (c : Array Value)
    (hx : a.eval x = .agg c) (I : Nat → World → Prop) (hI : I w.heap.size (w.alloc (.cells c 49)))
    (h : ∀ b W, I b W → wpList Ybaf.prog ops Q rest (a.put d (.pointer (some ⟨b, 0, none⟩))) W) : wpList Ybaf.prog ops Q ({ dst := d, op := .box 49 x, type := ty, pos := p, after := af, guard := none } :: rest) a w :=
  wpList_plain rfl fun K hK => by
    unfold Oper.wp execOp
    have e : (Instr.box 49 (.agg c)).run Ybaf.prog w = .ok (.pointer (some ⟨w.heap.size, 0, none⟩)) (w.alloc (.cells c 49)) := rfl
    simp only [hx, Sem.run_bind, e, Result.andThen, Sem.run_pure]
    exact hK _ _ (h _ _ hI)

theorem wpList_store40 {ops : Array Oper} {rest : List Oper} {d : Option Tmp} {ty : TypeId} {p : String} {af : Array Edge} {x y : Operand} {a : Act} {w : World} {Q : Exit → Act → World → Prop} (b o : Nat) (cells : Array Value)
    (hx : a.eval x = .pointer (some ⟨b, o, none⟩)) (hy : a.eval y = .agg cells) (hs : cells.size = 23) (ht : w.there b o 23) (h1 : cells.all (·.oneCell') = true)
    (h : wpList Ybaf.prog ops Q rest (a.put d undef) (w.setCells b o cells.toList)) : wpList Ybaf.prog ops Q ({ dst := d, op := .store 40 x y, type := ty, pos := p, after := af, guard := none } :: rest) a w :=
  wpList_store_mid rfl 40 x y rfl b o cells hx hy (by rw [hs]; exact ht) (by rw [hs]; exact info40) h1 h

/-- A command of which the kind and the byte are given. -/
def cmd (k v : Int) : Array Value := #[.int .u8 k, .int .i64 0, .int .u32 0, .int .u8 0, .int .u8 0, .int .u8 v, .int .u32 0, .slice none 0 0, .int .u8 0, .bool false, .bool false, .int .u32 0, .slice none 0 0, .int .u8 0, .int .u8 0, .int .u8 0, .int .u8 0, .int .u32 0, .int .u32 0, .int .u8 0, .bool false, .bool false, .int .u16 0]
theorem cmd_all (k v : Int) : (cmd k v).all (·.oneCell') = true := by kernel_rfl

theorem laid_sched (a0 a2 a3 a4 : Int) (u : TypeId) (v : Value) (w : World) (hg : w.cell? ⟨0, 0, none⟩ = some (.iface u v)) (c : Array Value) (hc : Laid a0 a2 a3 a4 (w.heap.size + 2) c) :
    Sched w.heap.size (w.heap.size + 3) (w.heap.size + 2) w.heap.size u v a0 a2 a3 a4 w
      ((((w.alloc (.cells #[.int .u32 0, .int .u32 0, .int .u32 a0, .int .u32 0, .int .u16 0, .int .u8 0, .int .u8 0, .int .u32 0, .pointer none, .slice none 0 0, .int .i64 0, .int .i64 0] 30)).alloc
        (.cells #[.pointer (some ⟨w.heap.size + 1 + 1, 0, none⟩)] 34)).alloc (.cells #[.pointer (some ⟨w.heap.size, 0, none⟩), .int .i64 0, .int .u32 0, .slice none 0 0] 58)).alloc (.cells c 49)) := by
  have b3 : 0 < w.heap.size := block_lt_of_cell hg
  generalize ho1 : Obj.cells #[.int .u32 0, .int .u32 0, .int .u32 a0, .int .u32 0, .int .u16 0, .int .u8 0, .int .u8 0, .int .u32 0, .pointer none, .slice none 0 0, .int .i64 0, .int .i64 0] 30 = o1
  generalize ho3 : Obj.cells #[.pointer (some ⟨w.heap.size, 0, none⟩), .int .i64 0, .int .u32 0, .slice none 0 0] 58 = o3
  generalize Obj.cells #[.pointer (some ⟨w.heap.size + 1 + 1, 0, none⟩)] 34 = o2
  have e0 : ((((w.alloc o1).alloc o2).alloc o3).alloc (.cells c 49)).heap[w.heap.size + 3]? = some (.cells c 49) := by
    show ((((w.heap.push o1).push o2).push o3).push _)[w.heap.size + 3]? = _
    rw [Array.getElem?_push, if_pos (by simp)]
  have e2 : ((((w.alloc o1).alloc o2).alloc o3).alloc (.cells c 49)).heap[w.heap.size + 2]? = some o3 := by
    show ((((w.heap.push o1).push o2).push o3).push _)[w.heap.size + 2]? = _
    rw [Array.getElem?_push, if_neg (by simp), Array.getElem?_push, if_pos (by simp)]
  have e4 : ((((w.alloc o1).alloc o2).alloc o3).alloc (.cells c 49)).heap[w.heap.size]? = some o1 := by
    show ((((w.heap.push o1).push o2).push o3).push _)[w.heap.size]? = _
    rw [Array.getElem?_push, if_neg (by simp; omega), Array.getElem?_push, if_neg (by simp; omega), Array.getElem?_push, if_neg (by simp), Array.getElem?_push, if_pos rfl]
  have hb : Below w.heap.size w ((((w.alloc o1).alloc o2).alloc o3).alloc (.cells c 49)) :=
    ((((Below.refl _ _).alloc (Nat.le_refl _) _).alloc (by simp) _).alloc (by simp; omega) _).alloc (by simp; omega) _
  subst ho1 ho3
  generalize ((((w.alloc _).alloc o2).alloc _).alloc (Obj.cells c 49)) = W at *
  have row : ∀ (b o : Nat) (cs : Array Value) (t : TypeId) (y : Value), W.heap[b]? = some (.cells cs t) → cs[o]? = some y → W.cell? ⟨b, o, none⟩ = some y := fun b o cs t y h1 h2 => by
    rw [cell_of_row W b o cs t (0, 0) h1]; exact h2
  exact ⟨hb, by omega, by omega, by omega, by omega, row _ _ _ _ _ e0 hc.c0, row _ _ _ _ _ e0 hc.c1, row _ _ _ _ _ e0 hc.c2, row _ _ _ _ _ e0 hc.c3, row _ _ _ _ _ e0 hc.run, row _ _ _ _ _ e0 hc.free, row _ _ _ _ _ e0 hc.latch, row _ _ _ _ _ e0 hc.out, row _ _ _ _ _ e0 hc.took,
    fun j hj => ⟨by
      have : 4 + j < c.size := by rw [hc.size]; omega
      rw [row _ (4 + j) _ _ c[4 + j] e0 (Array.getElem?_eq_getElem this)]; rfl, by simp [World.frozen?, e0]⟩,
    row _ _ _ _ _ e2 rfl, row _ _ _ _ _ e2 rfl, row _ _ _ _ _ e2 rfl, row _ _ _ _ _ e4 rfl, row _ _ _ _ _ e4 rfl, by rw [hb.cell (p := ⟨0, 0, none⟩) b3]; exact hg⟩

set_option maxRecDepth 100000 in
set_option maxHeartbeats 4000000 in
theorem law_walk (a0 a1 a2 a3 a4 a5 a6 : Int) (u : TypeId) (v : Value) (w : World) (hg : w.cell? ⟨0, 0, none⟩ = some (.iface u v)) :
    Calls Ybaf.prog 3 #[.int .u32 a0, .int .u32 a1, .int .u64 a2, .int .u64 a3, .int .i64 a4, .int .u8 a5, .int .u8 a6] w fun e w' => e = .returned (.bool true) ∧ Below w.heap.size w w' := by
  have b3 : 0 < w.heap.size := block_lt_of_cell hg
  go_enter Ybaf.func3, Ybaf.ntmps3
  go_wp2_with fail
  refine (newWalk_any w.heap.size _ (by go_simp)).mono ?_
  rintro e w' ⟨rfl, rfl⟩
  obtain ⟨c, hc⟩ := laid_ex a0 a2 a3 a4 (w.heap.size + 2)
  go_wp2_with (refine wpList_build49 (.int .u32 a0) (.agg #[.pointer (some ⟨w.heap.size + 2, 0, none⟩)]) (.int .u64 a2) (.int .u64 a3) (.int .i64 a4) rfl rfl rfl rfl rfl c hc.built (standHere ?_))
  refine goOn ?_
  go_wp2_with (refine wpList_box49 c rfl (fun b W => b = w.heap.size + 3 ∧ Sched w.heap.size (w.heap.size + 3) (w.heap.size + 2) w.heap.size u v a0 a2 a3 a4 w W) ?hI (fun b W hW => standHere ?_))
  case hI => exact ⟨by simp, laid_sched a0 a2 a3 a4 u v w hg c hc⟩
  obtain ⟨hbW, hS⟩ := hW
  subst hbW
  refine goOn ?_
  clear hc
  generalize w.heap.size + 3 = bs at *
  generalize w.heap.size + 2 = bc at *
  have room := hS.room
  obtain ⟨x4, e4⟩ := Option.isSome_iff_exists.1 (room 0 (by omega)).1
  have f4 := (room 0 (by omega)).2
  have th : (W.setCell ⟨bs, 4, none⟩ (.int .u32 a1)).there bs 5 23 := World.there_setCells (vs := [.int .u32 a1]) (fun j hj => by
    have := room (j + 1) (by omega)
    rw [show 4 + (j + 1) = 5 + j by omega] at this
    exact this) bs 4
  have th28 := World.there_setCells (World.there_setCells room bs 4 [.int .u32 a1]) bs 5 (cmd a5 a6).toList
  obtain ⟨x28, e28⟩ := Option.isSome_iff_exists.1 (th28 24 (by omega)).1
  have f28 := (th28 24 (by omega)).2
  have hS3 := (sched_after (.int .u32 a1) (cmd a5 a6).toList (.bool true) rfl hS (Below.refl _ _)).2
  have HS : Hid (Sched w.heap.size bs bc w.heap.size u v a0 a2 a3 a4 w (after bs (.int .u32 a1) (cmd a5 a6).toList (.bool true) W)) := hS3
  have HT : Hid ((W.setCell ⟨bs, 4, none⟩ (.int .u32 a1)).there bs 5 23) := th
  have e4 : W.cell? ⟨bs, 4, none⟩ = some x4 := e4
  have f4 : W.frozen? ⟨bs, 4, none⟩ = false := f4
  have e28 : ((W.setCell ⟨bs, 4, none⟩ (.int .u32 a1)).setCells bs 5 (cmd a5 a6).toList).cell? ⟨bs, 28, none⟩ = some x28 := e28
  have f28 : ((W.setCell ⟨bs, 4, none⟩ (.int .u32 a1)).setCells bs 5 (cmd a5 a6).toList).frozen? ⟨bs, 28, none⟩ = false := f28
  clear hS hS3 room th th28 hg
  go_wp2_with (refine wpList_store40 bs 5 (cmd a5 a6) rfl rfl rfl HT.out (cmd_all a5 a6) (standHere ?_))
  refine goOn ?_
  go_wp2_with fail
  clear e4 f4 e28 f28 HT
  refine wp_loop_rounds 3 ?_
  rw [rounds_succ]
  go_wp2_with fail
  refine (read_end _ HS.out).mono ?_
  rintro e w' ⟨rfl, hS', hE⟩
  have q0 := hS'.c0
  have q1 := hS'.c1
  have q2 := hS'.c2
  have q3 := hS'.c3
  have q4 := hS'.run
  have q5 := hS'.free
  have q6 := hS'.latch
  have q7 := hS'.out
  have q8 := hS'.took
  have r0 := hE.tick
  have r1 := hE.kind
  have r2 := hE.offset
  have r3 := hE.val
  have r4 := hE.data
  have r5 := hE.more
  have hS2 : Hid (Sched w.heap.size bs bc w.heap.size u v a0 a2 a3 a4 w w') := hS'
  clear hS' hE HS
  go_wp2_with fail
  refine (time_any bc 0 _ hS2.out.w2).mono ?_
  rintro e w'' ⟨rfl, rfl⟩
  go_wp2_with fail
  clear q0 q1 q2 q3 q4 q5 q6 q7 q8 r0 r1 r2 r3 r4 r5
  rw [rounds_succ]
  go_wp2_with fail
  refine (read_end _ hS2.out).mono ?_
  rintro e w3 ⟨rfl, hS', hE⟩
  have q0 := hS'.c0
  have q1 := hS'.c1
  have q2 := hS'.c2
  have q3 := hS'.c3
  have q4 := hS'.run
  have q5 := hS'.free
  have q6 := hS'.latch
  have q7 := hS'.out
  have q8 := hS'.took
  have r0 := hE.tick
  have r1 := hE.kind
  have r2 := hE.offset
  have r3 := hE.val
  have r4 := hE.data
  have r5 := hE.more
  have hS3 : Hid (Sched w.heap.size bs bc w.heap.size u v a0 a2 a3 a4 w w3) := hS'
  clear hS' hE hS2
  go_wp2_with fail
  refine (time_any bc 0 _ hS3.out.w2).mono ?_
  rintro e w4 ⟨rfl, rfl⟩
  go_wp2_with fail
  rw [rounds_succ]
  go_wp2_with fail
  go_ret
  exact ⟨rfl, hS3.out.below⟩
end Go.Proofs.YbulkarggFmt
