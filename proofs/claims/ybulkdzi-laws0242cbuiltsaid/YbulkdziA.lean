/-
  Seat b0242a: a slice of bytes whatever its address; the callees digits (5) and zzs0242cisdigit (6) by their contracts.
-/
import Derived.Test.YbulkdziRows
import Derived.WalkKit
import Derived.Below
import Derived.ProofKit
import Derived.OpenShut
import Derived.Deep.Slices
namespace Go.Proofs.Ybulkdzi
open Go.RowKit Go.ChangeShapes Go.WideShapes Go.ChangeAt Go.Deep
set_option linter.unusedVariables false

structure Hid (p : Prop) : Prop where
  out : p
theorem hid {p : Prop} (h : p) : Hid p := ⟨h⟩

/-- A slice whatever its address (nil too): its cells are told where there are any. -/
structure Row (w : World) (a : Option Addr) (len b off : Nat) (v : Nat → Value) : Prop where
  head : 0 < len → a = some ⟨b, off, none⟩
  cell : ∀ j, j < len → w.cell? ⟨b, off + j, none⟩ = some (v j)
theorem lt_of_cell {w : World} {b off : Nat} {v : Value} (h : w.cell? ⟨b, off, none⟩ = some v) : b < w.heap.size := by
  rcases Nat.lt_or_ge b w.heap.size with hlt | hge
  · exact hlt
  · simp [World.cell?, Array.getElem?_eq_none hge] at h
theorem Row.index {w : World} {a : Option Addr} {len b off : Nat} {v : Nat → Value} (h : Row w a len b off v) {P : Program} {t e : TypeId} (ht : P.underlying t = some (.slice e)) (he : ∀ u, (sizeOf e).run P u = .ok 1 u) (cap : Nat) {j : Nat} (hj : j < len) (u : World) :
    (Instr.indexAt t (.slice a len cap) (.int .i64 (j : Int))).run P u = .ok (.pointer (some ⟨b, off + j, none⟩)) u := by
  have hel : P.elem t = e := by simp [Program.elem, ht]
  rw [h.head (by omega), run_indexAt_slice (h := by rw [hel]; exact ht), if_pos (by omega), hel, he]
  simp [Result.andThen, Addr.add]
theorem Row.below {w w' : World} {a : Option Addr} {len b off : Nat} {v : Nat → Value} (h : Row w a len b off v) {B : Nat} (hb : Below B w w') (hB : w.heap.size ≤ B) : Row w' a len b off v :=
  ⟨h.head, fun j hj => (hb.cell (p := ⟨b, off + j, none⟩) (Nat.lt_of_lt_of_le (lt_of_cell (h.cell j hj)) hB)).trans (h.cell j hj)⟩
theorem size5 (u : World) : (sizeOf 5).run Yba.prog u = .ok 1 u := by kernel_rfl

theorem u8_bounds {x : Int} (h : (Lit.int .u8 x).wf = true) : 0 ≤ x ∧ x ≤ 255 := by
  have hmin : IntKind.u8.min = 0 := rfl
  have hmax : IntKind.u8.max = 255 := rfl
  simp only [Lit.wf, Bool.and_eq_true, decide_eq_true_eq] at h
  omega

/-- A slice of bytes that came in, opened. -/
theorem row_bytes {H : Type} {enc : TypeId × Value → H} {W : World} {a : Option Addr} {len cap fuel : Nat} {x : DataW H × List MemPlace} (hf : DataW.trod enc Yba.prog W 0 (fun _ => true) true fuel 22 (Value.slice a len cap).cells.toList = some x) :
    ∃ (b off : Nat) (I : Nat → Int), Row W a len b off (fun j => .int .u8 (I j)) ∧ ∀ j, 0 ≤ I j ∧ I j ≤ 255 := by
  rcases open_ints Yba.underlying22 Yba.underlying5 (by kernel_rfl) hf with ⟨hcs, _⟩ | ⟨y, l, c, zs, hcs, _, hl, hm, hz, _, hcell, hwz⟩
  · simp [Value.cells] at hcs
    obtain ⟨rfl, rfl, rfl⟩ := hcs
    exact ⟨0, 0, fun _ => 0, ⟨fun h => absurd h (Nat.lt_irrefl _), fun j hj => absurd hj (Nat.not_lt_zero _)⟩, fun _ => by simp⟩
  · simp [Value.cells] at hcs
    obtain ⟨rfl, rfl, rfl⟩ := hcs
    simp only [if_true] at hz
    have hsp : 0 < len → y = ⟨y.block, y.off, none⟩ := fun h0 => by
      have hs := World.cell?_spot (hcell 0 (by omega))
      obtain ⟨b, off, spot⟩ := y
      have : spot = none := by simpa [Addr.add] using hs
      subst this
      rfl
    refine ⟨y.block, y.off, fun j => zs.getD j 0, ⟨fun h => by rw [← hsp h], fun j hj => ?_⟩, fun j => ?_⟩
    · have := hcell j (by omega)
      rw [hsp (by omega), Addr.add_lit] at this
      exact this
    · show 0 ≤ zs.getD j 0 ∧ zs.getD j 0 ≤ 255
      by_cases hj : j < zs.length
      · rw [List.getD, List.getElem?_eq_getElem hj]
        exact u8_bounds (hwz _ (List.getElem_mem hj))
      · rw [List.getD, List.getElem?_eq_none (by omega)]
        simp

/-- An ASCII digit. -/
def Dig (x : Int) : Prop := 48 ≤ x ∧ x ≤ 57

set_option maxRecDepth 100000 in
theorem isdigit_any (x : Int) (r : Bool) (w : World) (h : r = true ↔ Dig x) : Calls Yba.prog 6 #[.int .u8 x] w fun e w' => e = .returned (.bool r) ∧ w = w' := by
  by_cases h0 : 48 ≤ x
  · have d0 : decide (48 ≤ x) = true := decide_eq_true h0
    by_cases h1 : x ≤ 57
    · have d1 : decide (x ≤ 57) = true := decide_eq_true h1
      have hr : r = true := h.2 ⟨h0, h1⟩
      subst hr
      clear h
      go_enter Yba.func6, Yba.ntmps6
      go_wp2
      go_ret
      exact ⟨rfl, rfl⟩
    · have d1 : decide (x ≤ 57) = false := decide_eq_false h1
      have hr : r = false := by
        cases r
        · rfl
        · exact absurd (h.1 rfl).2 h1
      subst hr
      clear h
      go_enter Yba.func6, Yba.ntmps6
      go_wp2
      go_ret
      exact ⟨rfl, rfl⟩
  · have d0 : decide (48 ≤ x) = false := decide_eq_false h0
    have hr : r = false := by
      cases r
      · rfl
      · exact absurd (h.1 rfl).1 h0
    subst hr
    clear h
    go_enter Yba.func6, Yba.ntmps6
    go_wp2
    go_ret
    exact ⟨rfl, rfl⟩

set_option maxRecDepth 100000 in
set_option maxHeartbeats 800000 in
/-- digits ANSWERS m where the first m bytes are digits and the next, if there is one, is none. -/
theorem digits_any (a : Option Addr) (len cap b off m : Nat) (I : Nat → Int) (w : World) (hl : len ≤ 100000) (hr : Row w a len b off (fun j => .int .u8 (I j))) (hm : m ≤ len) (hd : ∀ j, j < m → Dig (I j)) (hs : m < len → ¬ Dig (I m)) :
    Calls Yba.prog 5 #[.slice a len cap] w fun e w' => e = .returned (.int .i64 (m : Int)) ∧ w = w' := by
  go_enter Yba.func5, Yba.ntmps5
  go_wp2_with fail
  go_loopw [3] (fun i wr => ∃ k : Nat, k ≤ m ∧ i = .int .i64 (k : Int) ∧ w = wr) (fun i _ => m - (intOf i).toNat)
  case atStart => exact ⟨0, Nat.zero_le _, rfl, rfl⟩
  case round =>
    obtain ⟨k, hk, rfl, rfl⟩ := hrel
    by_cases hlt : k < len
    · have hix := fun u => hr.index Yba.underlying22 size5 cap hlt u
      have hc := hr.cell k hlt
      by_cases hkm : k < m
      · obtain ⟨h0, h1⟩ := hd k hkm
        generalize I k = x at *
        have d0 : decide (48 ≤ x) = true := decide_eq_true h0
        have d1 : decide (x ≤ 57) = true := decide_eq_true h1
        clear h0 h1 hd hs
        go_wp2
        go_roundw
        case rel => exact ⟨k + 1, by omega, by go_num, by trivial⟩
        case measure => simp [intOf]; omega
      · obtain rfl : k = m := by omega
        have h0 := hs hlt
        generalize I k = x at *
        clear hd hs
        by_cases h1 : 48 ≤ x
        · have d0 : decide (48 ≤ x) = true := decide_eq_true h1
          have d1 : decide (x ≤ 57) = false := decide_eq_false fun h2 => h0 ⟨h1, h2⟩
          clear h0 h1
          go_wp2
          go_ret
          exact ⟨rfl, rfl⟩
        · have d0 : decide (48 ≤ x) = false := decide_eq_false h1
          clear h0 h1
          go_wp2
          go_ret
          exact ⟨rfl, rfl⟩
    · obtain rfl : k = m := by omega
      clear hd hs
      go_wp2
      go_ret
      exact ⟨rfl, rfl⟩
end Go.Proofs.Ybulkdzi
