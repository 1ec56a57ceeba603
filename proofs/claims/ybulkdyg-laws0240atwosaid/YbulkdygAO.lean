/-
  zzs0240amodel AND newPermWalk BY THEIR CONTRACTS.
-/
import Derived.Test.YbulkdygAP
import Derived.Deep.OwnRows
namespace Go.Proofs.Ybulkdyg.AL
open Go.RowKit Go.Deep
set_option linter.unusedVariables false

theorem Yba.info22 : (Yba.prog.info? 22).map (fun i => (i.zero, i.size, i.bytes)) = some (some (.int .u32 0), 1, 4) := by kernel_rfl
theorem Yba.info21 : (Yba.prog.info? 21).map (fun i => (i.zero, i.size, i.bytes)) = some (some (.int .i32 0), 1, 4) := by kernel_rfl

/-- The order's row behind k of the first loop's rounds. -/
def filled (q : IntKind) (k : Nat) (i : Nat) : Value := .int q (if i < k then (i : Int) else 0)
/-- The order's row behind m swaps. -/
def orow (q : IntKind) (j : Nat → Nat) (m : Nat) (i : Nat) : Value := .int q (ord j m i : Nat)

theorem filled_step {q : IntKind} {k : Nat} {w : World} {b n : Nat} {t : TypeId} (h : w.rowIs b t n (filled q k)) : (w.setCell ⟨b, k, none⟩ (.int q (k : Int))).rowIs b t n (filled q (k + 1)) :=
  (h.set k _).congr fun i _ => by
    unfold filled
    by_cases e : i = k
    · subst e
      simp
    · have : (i < k) ↔ (i < k + 1) := by omega
      simp [e, this]

theorem filled_all {q : IntKind} {w : World} {b n : Nat} {t : TypeId} (j : Nat → Nat) (h : w.rowIs b t n (filled q n)) : w.rowIs b t n (orow q j 0) :=
  h.congr fun i hi => by simp [filled, orow, ord, hi]

/-- One swap, its two stores. -/
theorem swap_row {q : IntKind} {j : Nat → Nat} {m : Nat} {w : World} {b n : Nat} {t : TypeId} (h : w.rowIs b t n (orow q j m)) :
    ((w.setCell ⟨b, m, none⟩ (.int q (ord j m (j m) : Nat))).setCell ⟨b, j m, none⟩ (.int q (ord j m m : Nat))).rowIs b t n (orow q j (m + 1)) :=
  ((h.set m _).set (j m) _).congr fun i _ => by
    unfold orow
    by_cases e : i = m
    · subst e
      by_cases e2 : i = j i
      · rw [if_pos e2, ord_at, ← e2]
      · rw [if_neg e2, if_pos rfl, ord_at]
    · by_cases e2 : i = j m
      · rw [if_pos e2]
        have : ord j (m + 1) i = ord j m m := by rw [ord, if_neg e, if_pos e2]
        rw [this]
      · rw [if_neg e2, if_neg e]
        have : ord j (m + 1) i = ord j m i := by rw [ord, if_neg e, if_neg e2]
        rw [this]

set_option maxRecDepth 100000 in
set_option maxHeartbeats 1600000 in
theorem model_any (bb n cap : Nat) (a : Option Addr) (x id r : Int) (w : World) (hx : 0 ≤ x) (hx' : x ≤ 4294967295) (hr : 0 ≤ r) (hr' : r ≤ 4294967295) (hn0 : 0 < n) (hn : n ≤ 300)
    (c0 : w.cell? ⟨bb, 0, none⟩ = some (.int .i64 id)) (c6 : w.cell? ⟨bb, 6, none⟩ = some (.slice a n cap)) :
    Calls Yba.prog 8 #[.pointer (some ⟨bb, 0, none⟩), .int .u32 x, .int .u32 r] w fun e w' => e = .returned (.int .i64 (item (J x id n) (r % (n : Int)).toNat : Nat)) ∧ Below w.heap.size w w' := by
  obtain ⟨pos, hpos⟩ : ∃ pos : Nat, r % (n : Int) = (pos : Int) := ⟨(r % (n : Int)).toNat, by have := Int.emod_nonneg r (show (n : Int) ≠ 0 by omega); omega⟩
  have hpn : pos < n := by have := Int.emod_lt_of_pos r (show (0 : Int) < (n : Int) by omega); omega
  rw [show (r % (n : Int)).toNat = pos by omega]
  have hne : ¬ (n : Int) = 0 := by omega
  have hbb : bb < w.heap.size := BC.lt_of_cell c0
  have hit : item (J x id n) pos < n := ord_lt (J x id n) n (fun k hk => J_lt x id n k hk) _ _ (by omega) hpn
  have mk := fun u => run_make_row' (P := Yba.prog) 24 22 (.int .u32 0) 4 Yba.underlying24 Yba.info22 rfl .u32 .u32 n (by omega) (by omega) u
  go_enter Yba.func8, Yba.ntmps8
  go_wp2
  clear mk
  rw [hpos]
  clear hpos
  go_loopw [10] (fun i wr => ∃ k : Nat, k ≤ n ∧ i = .int .u32 (k : Int) ∧ wr.rowIs w.heap.size 22 n (filled .u32 k) ∧ Below w.heap.size w wr) (fun i _ => n - (intOf i).toNat)
  case atStart => exact ⟨0, Nat.zero_le _, rfl, (World.rowIs_made w (.int .u32 0) n 22).congr (fun i _ => by simp [filled]), (Below.refl _ _).alloc (Nat.le_refl _) _⟩
  case round =>
    obtain ⟨k, hk, rfl, hrow, hnx⟩ := hrel
    by_cases hlt : k < n
    · have g1 := hrow.cell hlt
      have g2 := hrow.frozen k
      go_wp2
      go_roundw
      case rel => exact ⟨k + 1, by omega, by go_num, filled_step hrow, hnx.setCell (Nat.le_refl _) _⟩
      case measure => simp [intOf]; omega
    · obtain rfl : n = k := by omega
      have hrow0 := filled_all (J x id n) hrow
      clear hrow
      go_wp2_with fail
      go_loopw [11] (fun v wr => ∃ m : Nat, m ≤ pos + 1 ∧ v = .int .u32 (m : Int) ∧ wr.rowIs w.heap.size 22 n (orow .u32 (J x id n) m) ∧ Below w.heap.size w wr) (fun v _ => pos + 1 - (intOf v).toNat)
      case atStart => exact ⟨0, Nat.zero_le _, rfl, hrow0, hnx⟩
      case round =>
        clear hrow0 hnx
        obtain ⟨m, hm, rfl, hrow, hnx⟩ := hrel
        by_cases hlt : m < pos + 1
        · have hmn : m < n := by omega
          have hjm := J_lt x id n m hmn
          have hjg := J_le x id n m
          have d0 := (hnx.cell (p := ⟨bb, 0, none⟩) hbb).trans c0
          have d6 := (hnx.cell (p := ⟨bb, 6, none⟩) hbb).trans c6
          have hsw := swap_any bb n cap m a x id wr hx hx' hn hmn d0 d6
          have hrs := swap_row hrow
          have g1 := hrow.cell hmn
          have g2 := hrow.cell hjm
          have f1 := hrow.frozen m
          have f2 := hrow.frozen (J x id n m)
          have hrw1 := hrow.set m (.int .u32 (ord (J x id n) m (J x id n m) : Nat))
          have k2 : ∃ u, (wr.setCell ⟨w.heap.size, m, none⟩ (.int .u32 (ord (J x id n) m (J x id n m) : Nat))).cell? ⟨w.heap.size, J x id n m, none⟩ = some u := ⟨_, hrw1.cell hjm⟩
          obtain ⟨u2, k2⟩ := k2
          have k3 := hrw1.frozen (J x id n m)
          unfold orow at g1 g2
          generalize J x id n m = jm at *
          generalize ord (J x id n) m jm = o1 at *
          generalize ord (J x id n) m m = o2 at *
          go_wp2_with fail
          refine hsw.mono ?_
          rintro e w' ⟨rfl, rfl⟩
          go_wp2
          go_roundw
          case rel => exact ⟨m + 1, by omega, by go_num, hrs, (hnx.setCell (Nat.le_refl _) _).setCell (Nat.le_refl _) _⟩
          case measure => simp [intOf]; omega
        · obtain rfl : pos + 1 = m := by omega
          have g1 : wr.cell? ⟨w.heap.size, pos, none⟩ = some (.int .u32 (item (J x id n) pos : Nat)) := hrow.cell hpn
          clear hrow
          go_wp2_with fail
          go_ret
          exact ⟨rfl, hnx⟩

set_option maxRecDepth 100000 in
set_option maxHeartbeats 1600000 in
theorem new_any (bb n cap : Nat) (a : Option Addr) (x : Int) (w : World) (j : Nat → Nat) (hn : n ≤ 300) (c6 : w.cell? ⟨bb, 6, none⟩ = some (.slice a n cap)) :
    Calls Yba.prog 13 #[.pointer (some ⟨bb, 0, none⟩), .int .u32 x] w fun e w' => e = .returned (.pointer (some ⟨w.heap.size + 1, 0, none⟩)) ∧ w'.rowIs w.heap.size 21 n (orow .i32 j 0) ∧
      w'.heap[w.heap.size + 1]? = some (.cells #[.pointer (some ⟨bb, 0, none⟩), .int .u32 x, .slice (some ⟨w.heap.size, 0, none⟩) n n, .int .u32 0] 41 (0, 0)) ∧ w'.heap.size = w.heap.size + 2 ∧ Below w.heap.size w w' := by
  have hbb : bb < w.heap.size := BC.lt_of_cell c6
  have mk := fun u => run_make_row' (P := Yba.prog) 39 21 (.int .i32 0) 4 Yba.underlying39 Yba.info21 rfl .i64 .i64 n (by omega) (by omega) u
  go_enter Yba.func13, Yba.ntmps13
  go_wp2
  clear mk
  go_loopw [15] (fun i wr => ∃ k : Nat, k ≤ n ∧ i = .int .i64 (k : Int) ∧ wr.rowIs w.heap.size 21 n (filled .i32 k) ∧ Below w.heap.size w wr ∧ wr.heap.size = w.heap.size + 1) (fun i _ => n - (intOf i).toNat)
  case atStart => exact ⟨0, Nat.zero_le _, rfl, (World.rowIs_made w (.int .i32 0) n 21).congr (fun i _ => by simp [filled]), (Below.refl _ _).alloc (Nat.le_refl _) _, nblk_alloc _ _⟩
  case round =>
    obtain ⟨k, hk, rfl, hrow, hnx, hsz⟩ := hrel
    by_cases hlt : k < n
    · have g1 := hrow.cell hlt
      have g2 := hrow.frozen k
      have HS : Hid (wr.heap.size = w.heap.size + 1) := hsz
      clear hsz
      go_wp2
      go_roundw
      case rel => exact ⟨k + 1, by omega, by go_num, filled_step hrow, hnx.setCell (Nat.le_refl _) _, (nblk_setCell _ _ _).trans HS.out⟩
      case measure => simp [intOf]; omega
    · obtain rfl : n = k := by omega
      have hrow0 := filled_all j hrow
      go_wp2_with fail
      go_ret
      have hz := hnx.size
      refine ⟨rfl, hrow0.alloc _, ?_, ?_, hnx.alloc (by omega) _⟩
      · rw [← hsz]
        exact blk_alloc_new _ _
      · rw [nblk_alloc, hsz]
end Go.Proofs.Ybulkdyg.AL
