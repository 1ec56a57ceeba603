/-
  (*permWalk).at BY ITS CONTRACT.
-/
import Derived.Test.YbulkdygAO
import Derived.BigQuiet
import Derived.Deep.QuietTactic
import Derived.BigRegion
import Derived.WalkSmall
namespace Go.Proofs.Ybulkdyg.AL
open Go.RowKit Go.Deep
set_option linter.unusedVariables false

/-- w' IS w BUT FOR THE BLOCKS OF S AND NEW ONES. -/
structure Turn (S : Nat → Prop) (w w' : World) : Prop where
  os : w'.os = w.os
  tape : w'.tape = w.tape
  output : w'.output = w.output
  size : w.heap.size ≤ w'.heap.size
  block : ∀ k, k < w.heap.size → ¬ S k → w'.heap[k]? = w.heap[k]?

section
variable {S S' : Nat → Prop} {w w' w'' : World}
theorem Turn.refl (S : Nat → Prop) (w : World) : Turn S w w := ⟨rfl, rfl, rfl, Nat.le_refl _, fun _ _ _ => rfl⟩
theorem Turn.trans (h : Turn S w w') (k : Turn S w' w'') : Turn S w w'' :=
  ⟨k.os.trans h.os, k.tape.trans h.tape, k.output.trans h.output, Nat.le_trans h.size k.size, fun i hi hs => (k.block i (Nat.lt_of_lt_of_le hi h.size) hs).trans (h.block i hi hs)⟩
theorem Turn.mono (h : Turn S w w') (hs : ∀ k, S k → S' k) : Turn S' w w' := ⟨h.os, h.tape, h.output, h.size, fun k hk hn => h.block k hk (fun e => hn (hs k e))⟩
theorem Turn.drewN (h : Turn S w w') (n : Nat) : Turn S w (w'.drewN n) := ⟨h.os, h.tape, h.output, h.size, h.block⟩
theorem Turn.drew (h : Turn S w w') : Turn S w w'.drew := ⟨h.os, h.tape, h.output, h.size, h.block⟩
theorem Turn.setCell (h : Turn S w w') {a : Addr} (ha : S a.block) (v : Value) : Turn S w (w'.setCell a v) :=
  h.trans ⟨rfl, rfl, rfl, by rw [nblk_setCell]; exact Nat.le_refl _, fun k _ hn => blk_setCell_other _ _ _ _ (fun e => hn (by rw [e]; exact ha))⟩
theorem Turn.alloc (h : Turn S w w') (o : Obj) : Turn S w (w'.alloc o) :=
  h.trans ⟨rfl, rfl, rfl, by rw [nblk_alloc]; omega, fun k hk _ => blk_alloc_lt _ _ _ hk⟩
theorem Turn.of_below {B : Nat} (h : Below B w w') (hS : ∀ k, B ≤ k → k < w.heap.size → S k) : Turn S w w' :=
  ⟨h.os, h.tape, h.output, h.size, fun k hk hn => h.block k (by rcases Nat.lt_or_ge k B with l | g; exact l; exact absurd (hS k g hk) hn)⟩
theorem Turn.below (h : Turn S w w') {B : Nat} (hB : B ≤ w.heap.size) (hS : ∀ k, S k → B ≤ k) : Below B w w' :=
  ⟨h.os, h.tape, h.output, h.size, fun k hk => h.block k (by omega) (fun e => by have := hS k e; omega)⟩
theorem Turn.cell (h : Turn S w w') {b i : Nat} {v : Value} (hv : w.cell? ⟨b, i, none⟩ = some v) (hn : ¬ S b) : w'.cell? ⟨b, i, none⟩ = some v :=
  (World.cell?_of_block (w := w) (h.block b (BC.lt_of_cell hv) hn)).trans hv
theorem Turn.heap (h : Turn S w w') {b : Nat} {o : Obj} (hv : w.heap[b]? = some o) (hn : ¬ S b) : w'.heap[b]? = some o :=
  (h.block b (Array.getElem?_eq_some_iff.1 hv).1 hn).trans hv
end

theorem cell_of_heap {w : World} {b i : Nat} {c : Array Value} {t : TypeId} {v : Value} (h : w.heap[b]? = some (.cells c t (0, 0))) (hv : c[i]? = some v) : w.cell? ⟨b, i, none⟩ = some v := by
  simp only [World.cell?, h, hv]
  rfl
theorem free_of_heap {w : World} {b i : Nat} {c : Array Value} {t : TypeId} (h : w.heap[b]? = some (.cells c t (0, 0))) : w.frozen? ⟨b, i, none⟩ = false := by
  simp [World.frozen?, h]
theorem heap_setCell {w : World} {b i : Nat} {c : Array Value} {t : TypeId} (h : w.heap[b]? = some (.cells c t (0, 0))) (v : Value) : (w.setCell ⟨b, i, none⟩ v).heap[b]? = some (.cells (c.setIfInBounds i v) t (0, 0)) := by
  simp [World.setCell, Array.getElem?_modify, h]

/-- A walk's own cells. -/
def wcells (bb ob n : Nat) (x : Int) (m : Nat) : Array Value := #[.pointer (some ⟨bb, 0, none⟩), .int .u32 x, .slice (some ⟨ob, 0, none⟩) n n, .int .u32 (m : Int)]

/-- A WALK IN MEMORY: bucket bb, input x, its order's row ob, m swaps done. -/
structure Wk (w : World) (bb wb ob n : Nat) (x id : Int) (m : Nat) : Prop where
  blk : w.heap[wb]? = some (.cells (wcells bb ob n x m) 41 (0, 0))
  row : w.rowIs ob 21 n (orow .i32 (J x id n) m)
  nwo : wb ≠ ob

theorem wk_step {wq : World} {bb wb ob n k jm : Nat} {x id : Int} {v1 v2 : Value} (hblk : wq.heap[wb]? = some (.cells (wcells bb ob n x k) 41 (0, 0))) (nwo : wb ≠ ob)
    (hrow : ((wq.setCell ⟨ob, k, none⟩ v1).setCell ⟨ob, jm, none⟩ v2).rowIs ob 21 n (orow .i32 (J x id n) (k + 1))) :
    Wk (((wq.setCell ⟨ob, k, none⟩ v1).setCell ⟨ob, jm, none⟩ v2).setCell ⟨wb, 3, none⟩ (.int .u32 ((k : Int) + 1))).drew bb wb ob n x id (k + 1) := by
  refine ⟨?_, hrow.setOther (a := ⟨wb, 3, none⟩) (fun e => nwo e.symm) _, nwo⟩
  have h1 : ((wq.setCell ⟨ob, k, none⟩ v1).setCell ⟨ob, jm, none⟩ v2).heap[wb]? = some (.cells (wcells bb ob n x k) 41 (0, 0)) := by
    rw [blk_setCell_other _ _ _ _ nwo, blk_setCell_other _ _ _ _ nwo]
    exact hblk
  exact heap_setCell h1 _

theorem turn_step {w wq : World} {wb ob k jm : Nat} {v1 v2 v3 : Value} (h : Turn (fun k => k = wb ∨ k = ob) w wq) : Turn (fun k => k = wb ∨ k = ob) w (((wq.setCell ⟨ob, k, none⟩ v1).setCell ⟨ob, jm, none⟩ v2).setCell ⟨wb, 3, none⟩ v3).drew :=
  (((h.setCell (a := ⟨ob, k, none⟩) (.inr rfl) v1).setCell (a := ⟨ob, jm, none⟩) (.inr rfl) v2).setCell (a := ⟨wb, 3, none⟩) (.inl rfl) v3).drew

theorem less_step {W wr : World} {bb wb ob n k pos : Nat} {x id : Int} (h : Wk W bb wb ob n x id (k + 1)) (h0 : wr.cell? ⟨wb, 3, none⟩ = some (.int .u32 (k : Int))) (hk : k < pos + 1) :
    pos + 1 - (intOf ((W.cell? ⟨wb, 3, none⟩).getD undef)).toNat < pos + 1 - (intOf ((wr.cell? ⟨wb, 3, none⟩).getD undef)).toNat := by
  have h1 : W.cell? ⟨wb, 3, none⟩ = some (.int .u32 ((k + 1 : Nat) : Int)) := cell_of_heap h.blk rfl
  rw [h1, h0]
  simp only [Option.getD_some, intOf, Int.toNat_natCast]
  omega

set_option maxRecDepth 100000 in
set_option maxHeartbeats 1600000 in
theorem at_any (bb wb ob n cap m pos : Nat) (a : Option Addr) (x id : Int) (w : World) (hx : 0 ≤ x) (hx' : x ≤ 4294967295) (hn : n ≤ 300) (hp : pos < n) (hm : m ≤ n)
    (hW : Wk w bb wb ob n x id m) (c0 : w.cell? ⟨bb, 0, none⟩ = some (.int .i64 id)) (c6 : w.cell? ⟨bb, 6, none⟩ = some (.slice a n cap)) (n1 : bb ≠ wb) (n2 : bb ≠ ob) :
    Calls Yba.prog 12 #[.pointer (some ⟨wb, 0, none⟩), .int .u32 (pos : Int)] w fun e w' => e = .returned (.int .i64 (item (J x id n) pos : Nat)) ∧ Wk w' bb wb ob n x id (max m (pos + 1)) ∧ Turn (fun k => k = wb ∨ k = ob) w w' := by
  have hit : item (J x id n) pos < n := ord_lt (J x id n) n (fun k hk => J_lt x id n k hk) _ _ (by omega) hp
  go_enter Yba.func12, Yba.ntmps12
  go_wp2
  go_loopw [5] (fun _ wr => ∃ k : Nat, m ≤ k ∧ k ≤ max m (pos + 1) ∧ Wk wr bb wb ob n x id k ∧ Turn (fun k => k = wb ∨ k = ob) w wr) (fun _ wr => pos + 1 - (intOf ((wr.cell? ⟨wb, 3, none⟩).getD undef)).toNat)
  case atStart => exact ⟨m, Nat.le_refl _, Nat.le_max_left _ _, hW, Turn.refl _ _⟩
  case round =>
    obtain ⟨k, hk1, hk2, hWk, hT⟩ := hrel
    have q0 : wr.cell? ⟨wb, 0, none⟩ = some (.pointer (some ⟨bb, 0, none⟩)) := cell_of_heap hWk.blk rfl
    have q1 : wr.cell? ⟨wb, 1, none⟩ = some (.int .u32 x) := cell_of_heap hWk.blk rfl
    have q2 : wr.cell? ⟨wb, 2, none⟩ = some (.slice (some ⟨ob, 0, none⟩) n n) := cell_of_heap hWk.blk rfl
    have q3 : wr.cell? ⟨wb, 3, none⟩ = some (.int .u32 (k : Int)) := cell_of_heap hWk.blk rfl
    by_cases hlt : k < pos + 1
    · have hkn : k < n := by omega
      have e0 := hT.cell c0 (by simp; omega)
      have e6 := hT.cell c6 (by simp; omega)
      have hsw : ∀ nq, Calls Yba.prog 14 #[.pointer (some ⟨bb, 0, none⟩), .int .u32 x, .int .u32 (k : Int)] (wr.drewN nq) fun e w' => e = .returned (.int .u32 (J x id n k : Nat)) ∧ w' = wr.drewN nq := fun nq =>
        (swap_any bb n cap k a x id (wr.drewN nq) hx hx' hn hkn e0 e6).mono fun _ _ ⟨he, hw⟩ => ⟨he, hw.symm⟩
      have HSW : Hid (∀ nq, Calls Yba.prog 14 #[.pointer (some ⟨bb, 0, none⟩), .int .u32 x, .int .u32 (k : Int)] (wr.drewN nq) fun e w' => e = .returned (.int .u32 (J x id n k : Nat)) ∧ w' = wr.drewN nq) := hsw
      have HWk : Hid (Wk wr bb wb ob n x id k) := hWk
      have hd : decide (k ≤ pos) = true := decide_eq_true (by omega)
      clear hWk hsw
      go_upto_region 4 with fail
      go_quiet ((go_at_call 14; exact Calls.quiet_of_same (HSW.out _)))
      clear HSW
      have hjn := J_lt x id n k hkn
      have hjg := J_le x id n k
      have hrow : (wr.drewN nq).rowIs ob 21 n (orow .i32 (J x id n) k) := HWk.out.row
      have hblk : (wr.drewN nq).heap[wb]? = some (.cells (wcells bb ob n x k) 41 (0, 0)) := HWk.out.blk
      have hTq : Turn (fun k => k = wb ∨ k = ob) w (wr.drewN nq) := hT.drewN nq
      have nwo := HWk.out.nwo
      have Q3 : Hid (wr.cell? ⟨wb, 3, none⟩ = some (.int .u32 (k : Int))) := q3
      clear hT HWk q0 q1 q2 q3 e0 e6
      generalize wr.drewN nq = wq at *
      obtain ⟨jm, hjm⟩ : ∃ v, v = J x id n k := ⟨_, rfl⟩
      have q2 : wq.cell? ⟨wb, 2, none⟩ = some (.slice (some ⟨ob, 0, none⟩) n n) := cell_of_heap hblk rfl
      have q3 : wq.cell? ⟨wb, 3, none⟩ = some (.int .u32 (k : Int)) := cell_of_heap hblk rfl
      have f3 : wq.frozen? ⟨wb, 3, none⟩ = false := free_of_heap hblk
      have g1 : wq.cell? ⟨ob, k, none⟩ = some (.int .i32 (ord (J x id n) k k : Nat)) := hrow.cell hkn
      have g2 : wq.cell? ⟨ob, J x id n k, none⟩ = some (.int .i32 (ord (J x id n) k (J x id n k) : Nat)) := hrow.cell hjn
      have f1 := hrow.frozen k
      have f2 := hrow.frozen (J x id n k)
      have hrs := swap_row hrow
      rw [← hjm] at g2 f2 hrs hjn hjg ⊢
      have HJ : Hid (jm = J x id n k) := hjm
      generalize ord (J x id n) k jm = o1 at g2 hrs
      generalize ord (J x id n) k k = o2 at g1 hrs
      have HR : Hid (((wq.setCell ⟨ob, k, none⟩ (.int .i32 (o1 : Nat))).setCell ⟨ob, jm, none⟩ (.int .i32 (o2 : Nat))).rowIs ob 21 n (orow .i32 (J x id n) (k + 1))) := hrs
      have HB : Hid (wq.heap[wb]? = some (.cells (wcells bb ob n x k) 41 (0, 0))) := hblk
      clear hjm hrs hblk hrow
      have m1 : ¬ wb = ob := nwo
      have m2 : ¬ ob = wb := fun e => nwo e.symm
      have hki : (k : Int) < (n : Int) := by omega
      have hji : (jm : Int) < (n : Int) := by omega
      go_upto_region 5 with fail
      by_cases hjk : jm = k
      · subst hjk
        obtain rfl : o1 = o2 := by
          rw [g1] at g2
          simp only [Option.some.injEq, Value.int.injEq, true_and] at g2
          omega
        go_big_region
        go_wp2
        go_roundw
        case rel => exact ⟨jm + 1, by omega, by omega, wk_step HB.out nwo HR.out, turn_step hTq⟩
        case measure => exact less_step (wk_step HB.out nwo HR.out) Q3.out hlt
      · have hkj : ¬ k = jm := fun e => hjk e.symm
        go_big_region
        go_wp2
        go_roundw
        case rel => exact ⟨k + 1, by omega, by omega, wk_step HB.out nwo HR.out, turn_step hTq⟩
        case measure => exact less_step (wk_step HB.out nwo HR.out) Q3.out hlt
    · obtain rfl : max m (pos + 1) = k := by omega
      have g1 : wr.cell? ⟨ob, pos, none⟩ = some (.int .i32 (item (J x id n) pos : Nat)) := by
        rw [hWk.row.cell hp]
        unfold orow item
        rw [ord_stays (J x id n) (fun k => J_le x id n k) pos _ (by omega)]
      have hd : decide (max m (pos + 1) ≤ pos) = false := decide_eq_false (by omega)
      go_wp2
      go_ret
      exact ⟨rfl, hWk, hT⟩
end Go.Proofs.Ybulkdyg.AL
