/-
  failAt BY ITS CONTRACT AT ITS THREE FORMATS (fmt.Sprintf by its stop: some text).
-/
import Derived.Test.YbulkdygFmtFa
import Derived.Deep.RegionWith
namespace Go.Proofs.YbulkdygFmt
open Go.RowKit Go.Extern.Stop Go.Stop Go.Extern

/-- What the stop answers: some text; one draw. -/
theorem begun_neg (ba : Nat) (what : ByteArray) (id : Int) (w : World) (k0 : w.cell? ⟨ba, 0, none⟩ = some (.iface 9 (.string what))) (k1 : w.cell? ⟨ba, 1, none⟩ = some (.iface 3 (.int .i64 id))) :
    ∃ s : ByteArray, (FmtCalls.begun #[] #[] (FmtCalls.save 0 0 (.slice (some ⟨ba, 0, none⟩) 2 2) ⟨#[37, 115, 32, 37, 100, 32, 105, 115, 32, 110, 101, 103, 97, 116, 105, 118, 101]⟩ [] [(0, 115, false), (1, 100, false)])).run Ybaf.prog w = .ok (.value (.string s)) w.drew := by
  go_simp

/-- What the stop answers: some text; one draw. -/
theorem begun_id (ba : Nat) (id : Int) (w : World) (k0 : w.cell? ⟨ba, 0, none⟩ = some (.iface 3 (.int .i64 id))) :
    ∃ s : ByteArray, (FmtCalls.begun #[] #[] (FmtCalls.save 0 0 (.slice (some ⟨ba, 0, none⟩) 1 1) ⟨#[116, 121, 112, 101, 32, 105, 100, 32, 37, 100, 32, 105, 115, 32, 97, 108, 114, 101, 97, 100, 121, 32, 117, 115, 101, 100]⟩ [] [(0, 100, false)])).run Ybaf.prog w = .ok (.value (.string s)) w.drew := by
  go_simp

/-- What the stop answers: some text; one draw. -/
theorem begun_name (ba : Nat) (what : ByteArray) (w : World) (k0 : w.cell? ⟨ba, 0, none⟩ = some (.iface 9 (.string what))) :
    ∃ s : ByteArray, (FmtCalls.begun #[] #[] (FmtCalls.save 0 0 (.slice (some ⟨ba, 0, none⟩) 1 1) ⟨#[116, 121, 112, 101, 32, 110, 97, 109, 101, 32, 37, 113, 32, 105, 115, 32, 97, 108, 114, 101, 97, 100, 121, 32, 117, 115, 101, 100]⟩ [] [(0, 113, false)])).run Ybaf.prog w = .ok (.value (.string s)) w.drew := by
  go_simp

set_option maxRecDepth 100000 in
set_option maxHeartbeats 800000 in
theorem failAt_neg (bb ba : Nat) (file : ByteArray) (ln : Int) (what : ByteArray) (id : Int) (w : World)
    (c0 : w.cell? ⟨bb, 0, none⟩ = some (.string file)) (c2 : w.cell? ⟨bb, 2, none⟩ = some (.bool false)) (k0 : w.cell? ⟨ba, 0, none⟩ = some (.iface 9 (.string what))) (k1 : w.cell? ⟨ba, 1, none⟩ = some (.iface 3 (.int .i64 id))) (hb : bb < w.heap.size) :
    Calls Ybaf.prog 12 #[.pointer (some ⟨bb, 0, none⟩), .int .i64 ln, .string ⟨#[37, 115, 32, 37, 100, 32, 105, 115, 32, 110, 101, 103, 97, 116, 105, 118, 101]⟩, .slice (some ⟨ba, 0, none⟩) 2 2] w fun e w' =>
      ∃ msg, e = .returned (.iface 36 (.pointer (some ⟨w.heap.size, 0, none⟩))) ∧ w' = (w.alloc (.cells #[.string file, .int .i64 ln, .int .i64 0, .string msg] 39)).drew.drew := by
  obtain ⟨s, hs⟩ := begun_neg ba what id w.drew k0 k1
  go_enter Ybaf.func12, Ybaf.ntmps12
  go_wp2
  go_region_with (refine rows_value Ybaf.nextTurns hs ?_)
  all_goals
    go_wp2
    go_ret
    exact ⟨s, rfl, rfl⟩

set_option maxRecDepth 100000 in
set_option maxHeartbeats 800000 in
theorem failAt_id (bb ba : Nat) (file : ByteArray) (ln : Int) (id : Int) (w : World)
    (c0 : w.cell? ⟨bb, 0, none⟩ = some (.string file)) (c2 : w.cell? ⟨bb, 2, none⟩ = some (.bool false)) (k0 : w.cell? ⟨ba, 0, none⟩ = some (.iface 3 (.int .i64 id))) (hb : bb < w.heap.size) :
    Calls Ybaf.prog 12 #[.pointer (some ⟨bb, 0, none⟩), .int .i64 ln, .string ⟨#[116, 121, 112, 101, 32, 105, 100, 32, 37, 100, 32, 105, 115, 32, 97, 108, 114, 101, 97, 100, 121, 32, 117, 115, 101, 100]⟩, .slice (some ⟨ba, 0, none⟩) 1 1] w fun e w' =>
      ∃ msg, e = .returned (.iface 36 (.pointer (some ⟨w.heap.size, 0, none⟩))) ∧ w' = (w.alloc (.cells #[.string file, .int .i64 ln, .int .i64 0, .string msg] 39)).drew.drew := by
  obtain ⟨s, hs⟩ := begun_id ba id w.drew k0
  go_enter Ybaf.func12, Ybaf.ntmps12
  go_wp2
  go_region_with (refine rows_value Ybaf.nextTurns hs ?_)
  all_goals
    go_wp2
    go_ret
    exact ⟨s, rfl, rfl⟩

set_option maxRecDepth 100000 in
set_option maxHeartbeats 800000 in
theorem failAt_name (bb ba : Nat) (file : ByteArray) (ln : Int) (what : ByteArray) (w : World)
    (c0 : w.cell? ⟨bb, 0, none⟩ = some (.string file)) (c2 : w.cell? ⟨bb, 2, none⟩ = some (.bool false)) (k0 : w.cell? ⟨ba, 0, none⟩ = some (.iface 9 (.string what))) (hb : bb < w.heap.size) :
    Calls Ybaf.prog 12 #[.pointer (some ⟨bb, 0, none⟩), .int .i64 ln, .string ⟨#[116, 121, 112, 101, 32, 110, 97, 109, 101, 32, 37, 113, 32, 105, 115, 32, 97, 108, 114, 101, 97, 100, 121, 32, 117, 115, 101, 100]⟩, .slice (some ⟨ba, 0, none⟩) 1 1] w fun e w' =>
      ∃ msg, e = .returned (.iface 36 (.pointer (some ⟨w.heap.size, 0, none⟩))) ∧ w' = (w.alloc (.cells #[.string file, .int .i64 ln, .int .i64 0, .string msg] 39)).drew.drew := by
  obtain ⟨s, hs⟩ := begun_name ba what w.drew k0
  go_enter Ybaf.func12, Ybaf.ntmps12
  go_wp2
  go_region_with (refine rows_value Ybaf.nextTurns hs ?_)
  all_goals
    go_wp2
    go_ret
    exact ⟨s, rfl, rfl⟩

end Go.Proofs.YbulkdygFmt
