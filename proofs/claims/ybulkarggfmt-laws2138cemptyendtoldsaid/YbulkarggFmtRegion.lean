/-
  'return Command{}, io.EOF': one region that draws its order: the four operations, in whatever frame.
-/
import Derived.Test.YbulkarggFmtRows
import Derived.WalkKit
import Derived.WalkLawsBesides
import Derived.RegionTactic
import Derived.Below
import Derived.Deep.MidRow
namespace Go.Proofs.YbulkarggFmt
open Go.ChangeShapes Go.WideShapes Go.RowKit

/-- An empty command's cells. -/
def zc : Array Value := #[.int .u8 0, .int .i64 0, .int .u32 0, .int .u8 0, .int .u8 0, .int .u8 0, .int .u32 0, .slice none 0 0, .int .u8 0, .bool false, .bool false, .int .u32 0, .slice none 0 0, .int .u8 0, .int .u8 0, .int .u8 0, .int .u8 0, .int .u32 0, .int .u32 0, .int .u8 0, .bool false, .bool false, .int .u16 0]

theorem build40 (w : World) : (Instr.build 40 #[]).run Ybaf.prog w = .ok (.agg zc) w := run_build w 40 _ zc (by kernel_rfl)
theorem info40 : (Ybaf.prog.info? 40).map (·.size) = some zc.size := by kernel_rfl

theorem setRow_same (w : World) (n : Nat) (c : Array Value) (t : TypeId) (h : w.heap[n]? = some (.cells c t (0, 0))) : w.setRow n c = w := by
  have hm : (w.setRow n c).heap = w.heap := by
    apply Array.ext_getElem?
    intro i
    simp only [World.setRow, Array.getElem?_modify]
    by_cases e : n = i
    · subst e; simp [h]
    · simp [e]
  have e : w.setRow n c = { w with heap := (w.setRow n c).heap } := rfl
  rw [e, hm]

theorem store40 (w : World) (n : Nat) (h : w.heap[n]? = some (.cells zc 40 (0, 0))) : (Instr.storeAt 40 (.pointer (some ⟨n, 0, none⟩)) (.agg zc)).run Ybaf.prog w = .ok () w := by
  simp only [Instr.storeAt, Instr.sureAddr, Sem.run_bind, Sem.run_pure, Result.andThen]
  rw [run_storeVar_row w n 40 40 zc zc h info40 rfl (by decide +kernel), setRow_same w n zc 40 h]

/-! Results that lie in memory. -/
theorem results_cell_tmp {fn : Func} {a u : Tmp} {t : TypeId} (h : fn.results = #[.cell a t, .tmp u]) (tmps : Array Value) (P : Program) (w : World) (ad : Addr) (v : Value) (hp : tmps.getD a undef = .pointer (some ad)) (hl : (loadVar t ad).run P w = .ok v w) :
    (results fn tmps).run P w = .ok (.tuple #[v, tmps.getD u undef]) w := by
  rw [Array.getD_eq_getD_getElem?] at hp
  simp [results, h, hp, asAddr, hl]
theorem results_tmp_cell_tmp {fn : Func} {a b u : Tmp} {t : TypeId} (h : fn.results = #[.tmp b, .cell a t, .tmp u]) (tmps : Array Value) (P : Program) (w : World) (ad : Addr) (v : Value) (hp : tmps.getD a undef = .pointer (some ad)) (hl : (loadVar t ad).run P w = .ok v w) :
    (results fn tmps).run P w = .ok (.tuple #[tmps.getD b undef, v, tmps.getD u undef]) w := by
  rw [Array.getD_eq_getD_getElem?] at hp
  simp [results, h, hp, asAddr, hl]
theorem results_cell {fn : Func} {a : Tmp} {t : TypeId} (h : fn.results = #[.cell a t]) (tmps : Array Value) (P : Program) (w : World) (ad : Addr) (v : Value) (hp : tmps.getD a undef = .pointer (some ad)) (hl : (loadVar t ad).run P w = .ok v w) :
    (results fn tmps).run P w = .ok v w := by
  rw [Array.getD_eq_getD_getElem?] at hp
  simp [results, h, hp, asAddr, hl]

/-- The region, in whatever frame 'a' and world 'w': the empty command is laid into the result's block, which holds it already; the global's value goes into slot 3. -/
theorem region_eof {ops : Array Oper} {o0 o1 o2 o3 : Oper} {id : Nat} {Q : Exit → Act → World → Prop} (a : Act) (w : World) (n : Nat) (v : Value)
    (hops : ops = #[o0, o1, o2, o3])
    (h0 : o0.op = .build 40 #[] ∧ o0.dst = some 32 ∧ o0.guard = none) (h1 : o1.op = .load 54 (.global 0) ∧ o1.dst = some 33 ∧ o1.guard = none)
    (h2 : o2.op = .store 40 (.tmp 2) (.tmp 32) ∧ o2.dst = none ∧ o2.guard = none) (h3 : o3.op = .assign (.tmp 33) ∧ o3.dst = some 3 ∧ o3.guard = none)
    (r0 : Region.ready .any ops #[false, false, false, false] = [0, 1]) (r1 : Region.ready .any ops #[true, false, false, false] = [1, 2])
    (r2 : Region.ready .any ops #[false, true, false, false] = [0]) (r3 : Region.ready .any ops #[true, true, false, false] = [2])
    (r4 : Region.ready .any ops #[true, false, true, false] = [1]) (r5 : Region.ready .any ops #[true, true, true, false] = [3]) (r6 : Region.ready .any ops #[true, true, true, true] = [])
    (hs : 33 < a.tmps.size) (ha : a.eval (.tmp 2) = .pointer (some ⟨n, 0, none⟩)) (hg : w.cell? ⟨0, 0, none⟩ = some v) (hn : w.heap[n]? = some (.cells zc 40 (0, 0)))
    (h : Q .normal (((a.put (some 32) (.agg zc)).put (some 33) v).put (some 3) v) w.drew) : (Code.region id ops true).wp Ybaf.prog Q a w := by
  refine wp_region_any (by kernel_rfl) ?_
  subst hops
  have hwd : ({ w with drawn := w.drawn + 1 } : World) = w.drew := rfl
  rw [hwd]
  have g1 : w.drew.cell? ⟨0, 0, none⟩ = some v := by simpa using hg
  have g2 : w.drew.heap[n]? = some (.cells zc 40 (0, 0)) := hn
  generalize w.drew = W at *
  have s0 : ∀ (K : Act → World → Prop) (b : Act), K (b.put (some 32) (.agg zc)) W → Oper.wp Ybaf.prog o0 b W K Q := by
    intro K b hk
    unfold Oper.wp execOp
    rw [h0.1]
    simp only [List.map_toArray, List.map_nil, Sem.run_bind, build40, Result.andThen, Sem.run_pure]
    show K (b.put o0.dst _) W
    rw [h0.2.1]; exact hk
  have s1 : ∀ (K : Act → World → Prop) (b : Act), K (b.put (some 33) v) W → Oper.wp Ybaf.prog o1 b W K Q := by
    intro K b hk
    unfold Oper.wp execOp
    rw [h1.1]
    have e : (Instr.loadAt 54 (b.eval (.global 0))).run Ybaf.prog W = .ok v W := by go_simp
    simp only [Sem.run_bind, e, Result.andThen, Sem.run_pure]
    show K (b.put o1.dst _) W
    rw [h1.2.1]; exact hk
  have s2 : ∀ (K : Act → World → Prop) (b : Act), b.eval (.tmp 2) = .pointer (some ⟨n, 0, none⟩) → b.eval (.tmp 32) = .agg zc → K b W → Oper.wp Ybaf.prog o2 b W K Q := by
    intro K b e1 e2 hk
    unfold Oper.wp execOp
    rw [h2.1]
    simp only [e1, e2, Sem.run_bind, store40 W n g2, Result.andThen, Sem.run_pure]
    show K (b.put o2.dst _) W
    rw [h2.2.1]; exact hk
  have s3 : ∀ (K : Act → World → Prop) (b : Act), b.eval (.tmp 33) = v → K (b.put (some 3) v) W → Oper.wp Ybaf.prog o3 b W K Q := by
    intro K b e1 hk
    unfold Oper.wp execOp
    rw [h3.1]
    simp only [e1, Sem.run_pure]
    show K (b.put o3.dst _) W
    rw [h3.2.1]; exact hk
  have w0 : ∀ y, Region.wanted o0 y = true := fun y => by simp [Region.wanted, h0.2.2]
  have w1 : ∀ y, Region.wanted o1 y = true := fun y => by simp [Region.wanted, h1.2.2]
  have w2 : ∀ y, Region.wanted o2 y = true := fun y => by simp [Region.wanted, h2.2.2]
  have w3 : ∀ y, Region.wanted o3 y = true := fun y => by simp [Region.wanted, h3.2.2]
  have ev : ∀ (b : Act) (d : Nat) (x : Value) (k : Nat), k ≠ d → (b.put (some d) x).eval (.tmp k) = b.eval (.tmp k) := fun b d x k hk => Act.eval_put (fun d' hd' => by cases hd'; intro e; cases e; exact hk rfl)
  have evs : ∀ (b : Act) (d : Nat) (x : Value), d < b.tmps.size → (b.put (some d) x).eval (.tmp d) = x := fun b d x hd => by simp [Act.put, Act.eval, hd]
  have sz : ∀ (b : Act) (d : Nat) (x : Value), (b.put (some d) x).tmps.size = b.tmps.size := fun b d x => by simp [Act.put]
  have q2 : (a.put (some 32) (.agg zc)).eval (.tmp 2) = .pointer (some ⟨n, 0, none⟩) := (ev _ _ _ _ (by decide)).trans ha
  have q32 : (a.put (some 32) (.agg zc)).eval (.tmp 32) = .agg zc := evs _ _ _ (by omega)
  have p2 : ((a.put (some 32) (.agg zc)).put (some 33) v).eval (.tmp 2) = .pointer (some ⟨n, 0, none⟩) := (ev _ _ _ _ (by decide)).trans q2
  have p32 : ((a.put (some 32) (.agg zc)).put (some 33) v).eval (.tmp 32) = .agg zc := (ev _ _ _ _ (by decide)).trans q32
  have p33 : ((a.put (some 32) (.agg zc)).put (some 33) v).eval (.tmp 33) = v := evs _ _ _ (by rw [sz]; omega)
  have comm : (a.put (some 33) v).put (some 32) (.agg zc) = (a.put (some 32) (.agg zc)).put (some 33) v := (Act.put_comm a (x := some 32) (y := some 33) (.agg zc) v (fun d hd e => by cases hd; cases e)).symm
  have t3 : wpAny Ybaf.prog .any #[o0, o1, o2, o3] Q 1 #[true, true, true, false] ((a.put (some 32) (.agg zc)).put (some 33) v) W :=
    wpAny_ready r5 (by simp) (AllReady.cons (i := 3) (o := o3) rfl (fun K hK => by
      rw [if_pos (w3 _)]
      exact s3 K _ p33 (hK _ _ (wpAny_done r6 h 0))) AllReady.nil)
  have t01 : wpAny Ybaf.prog .any #[o0, o1, o2, o3] Q 2 #[true, true, false, false] ((a.put (some 32) (.agg zc)).put (some 33) v) W :=
    wpAny_ready r3 (by simp) (AllReady.cons (i := 2) (o := o2) rfl (fun K hK => by
      rw [if_pos (w2 _)]
      exact s2 K _ p2 p32 (hK _ _ t3)) AllReady.nil)
  have t02 : wpAny Ybaf.prog .any #[o0, o1, o2, o3] Q 2 #[true, false, true, false] (a.put (some 32) (.agg zc)) W :=
    wpAny_ready r4 (by simp) (AllReady.cons (i := 1) (o := o1) rfl (fun K hK => by
      rw [if_pos (w1 _)]
      exact s1 K _ (hK _ _ t3)) AllReady.nil)
  have t0 : wpAny Ybaf.prog .any #[o0, o1, o2, o3] Q 3 #[true, false, false, false] (a.put (some 32) (.agg zc)) W :=
    wpAny_ready r1 (by simp) (AllReady.cons (i := 1) (o := o1) rfl (fun K hK => by
      rw [if_pos (w1 _)]
      exact s1 K _ (hK _ _ t01)) (AllReady.cons (i := 2) (o := o2) rfl (fun K hK => by
      rw [if_pos (w2 _)]
      exact s2 K _ q2 q32 (hK _ _ t02)) AllReady.nil))
  have t1 : wpAny Ybaf.prog .any #[o0, o1, o2, o3] Q 3 #[false, true, false, false] (a.put (some 33) v) W :=
    wpAny_ready r2 (by simp) (AllReady.cons (i := 0) (o := o0) rfl (fun K hK => by
      rw [if_pos (w0 _)]
      refine s0 K _ (hK _ _ ?_)
      rw [comm]
      exact t01) AllReady.nil)
  show wpAny Ybaf.prog .any #[o0, o1, o2, o3] Q 4 #[false, false, false, false] a W
  exact wpAny_ready r0 (by simp) (AllReady.cons (i := 0) (o := o0) rfl (fun K hK => by
      rw [if_pos (w0 _)]
      exact s0 K _ (hK _ _ t0)) (AllReady.cons (i := 1) (o := o1) rfl (fun K hK => by
      rw [if_pos (w1 _)]
      exact s1 K _ (hK _ _ t1)) AllReady.nil))
end Go.Proofs.YbulkarggFmt
