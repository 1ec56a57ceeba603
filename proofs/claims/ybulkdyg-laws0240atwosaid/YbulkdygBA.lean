/-
  LawS0240BCount: the callee zzs0240bclass (function 10) by its contract.
-/
import Derived.Test.YbulkdygRows
import Derived.WalkKit
namespace Go.Proofs.Ybulkdyg.BC
open Go.RowKit

/-- What zzs0240bclass answers. -/
def cls (t : Int) : ByteArray := if t % 4 = 0 then ⟨#[]⟩ else if t % 4 = 1 then ⟨#[115, 115, 100]⟩ else if t % 4 = 2 then ⟨#[104, 100, 100]⟩ else ⟨#[110, 118, 109, 101]⟩
theorem cls_size (t : Int) : (cls t).size ≤ 4 := by
  unfold cls
  split
  · decide
  · split
    · decide
    · split <;> decide

set_option maxHeartbeats 400000 in
theorem class_any (t : Int) (w : World) (h0 : 0 ≤ t) (h1 : t ≤ 255) : Calls Yba.prog 10 #[.int .u8 t] w fun e w' => e = .returned (.string (cls t)) ∧ w = w' := by
  unfold cls
  by_cases c0 : t % 4 = 0
  · rw [if_pos c0]
    go_enter Yba.func10, Yba.ntmps10
    go_wp2
    go_ret
    exact ⟨rfl, rfl⟩
  · rw [if_neg c0]
    by_cases c1 : t % 4 = 1
    · rw [if_pos c1]
      go_enter Yba.func10, Yba.ntmps10
      go_wp2
      go_ret
      exact ⟨rfl, rfl⟩
    · rw [if_neg c1]
      by_cases c2 : t % 4 = 2
      · rw [if_pos c2]
        go_enter Yba.func10, Yba.ntmps10
        go_wp2
        go_ret
        exact ⟨rfl, rfl⟩
      · rw [if_neg c2]
        go_enter Yba.func10, Yba.ntmps10
        go_wp2
        go_ret
        exact ⟨rfl, rfl⟩
end Go.Proofs.Ybulkdyg.BC
