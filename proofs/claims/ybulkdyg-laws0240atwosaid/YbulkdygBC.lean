/-
  LawS0240BCount: a slice that came in, whatever its address.
-/
import Derived.Test.YbulkdygBB
import Derived.Below
namespace Go.Proofs.Ybulkdyg.BC
open Go.RowKit

/-- WHAT THE WALK IS TOLD OF A SLICE THAT CAME IN: where it has elements it begins at ⟨b, off⟩, and element j is v j. -/
structure Row (w : World) (a : Option Addr) (len b off : Nat) (v : Nat → Value) : Prop where
  head : 0 < len → a = some ⟨b, off, none⟩
  cell : ∀ j, j < len → w.cell? ⟨b, off + j, none⟩ = some (v j)

theorem lt_of_cell {w : World} {b off : Nat} {v : Value} (h : w.cell? ⟨b, off, none⟩ = some v) : b < w.heap.size := by
  rcases Nat.lt_or_ge b w.heap.size with hlt | hge
  · exact hlt
  · simp [World.cell?, Array.getElem?_eq_none hge] at h

theorem Row.lt {w : World} {a : Option Addr} {len b off : Nat} {v : Nat → Value} (h : Row w a len b off v) (hl : 0 < len) : b < w.heap.size := lt_of_cell (h.cell 0 hl)

theorem Row.below {w w' : World} {a : Option Addr} {len b off : Nat} {v : Nat → Value} (h : Row w a len b off v) {B : Nat} (hb : Below B w w') (hB : w.heap.size ≤ B) : Row w' a len b off v :=
  ⟨h.head, fun j hj => (hb.cell (p := ⟨b, off + j, none⟩) (Nat.lt_of_lt_of_le (lt_of_cell (h.cell j hj)) hB)).trans (h.cell j hj)⟩

/-- THE ADDRESS OF ELEMENT j, whatever the slice's address is written as. -/
theorem Row.index {w : World} {a : Option Addr} {len b off : Nat} {v : Nat → Value} (h : Row w a len b off v) {P : Program} {t e : TypeId} (ht : P.underlying t = some (.slice e)) (he : ∀ u, (sizeOf e).run P u = .ok 1 u) (cap : Nat) {j : Nat} (hj : j < len) (u : World) :
    (Instr.indexAt t (.slice a len cap) (.int .i64 (j : Int))).run P u = .ok (.pointer (some ⟨b, off + j, none⟩)) u := by
  have hel : P.elem t = e := by simp [Program.elem, ht]
  rw [h.head (by omega), run_indexAt_slice (h := by rw [hel]; exact ht), if_pos (by omega), hel, he]
  simp [Result.andThen, Addr.add]

theorem size3 (u : World) : (sizeOf 3).run Yba.prog u = .ok 1 u := by kernel_rfl
theorem size4 (u : World) : (sizeOf 4).run Yba.prog u = .ok 1 u := by kernel_rfl
theorem size5 (u : World) : (sizeOf 5).run Yba.prog u = .ok 1 u := by kernel_rfl
theorem size25 (u : World) : (sizeOf 25).run Yba.prog u = .ok 1 u := by kernel_rfl

end Go.Proofs.Ybulkdyg.BC
