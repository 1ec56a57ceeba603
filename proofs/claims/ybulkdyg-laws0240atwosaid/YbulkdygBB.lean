/-
  LawS0240BCount: the callee (*Map).copySize (function 11) by its contract.
-/
import Derived.Test.YbulkdygBA
import Derived.Maps.StringElems
namespace Go.Proofs.Ybulkdyg.BC
open Go.RowKit

/-- How many of the first k numbers pass. -/
def cnt (p : Nat → Bool) : Nat → Nat
  | 0 => 0
  | k + 1 => cnt p k + if p k = true then 1 else 0
theorem cnt_le (p : Nat → Bool) : ∀ k, cnt p k ≤ k
  | 0 => Nat.le_refl _
  | k + 1 => by
    have := cnt_le p k
    unfold cnt
    split <;> omega

set_option maxRecDepth 100000 in
set_option maxHeartbeats 400000 in
theorem copySize_any (bm bb bi bc B n : Nat) (c : ByteArray) (I : Nat → Int) (ch : Nat → Option Addr) (L : Nat → ByteArray) (p : Nat → Bool) (w : World) (hn : n ≤ 1024)
    (c1 : w.cell? ⟨bm, 11, none⟩ = some (.map (some B)))
    (c2 : w.cell? ⟨bb, 6, none⟩ = some (.slice (some ⟨bi, 0, none⟩) n n))
    (c3 : w.cell? ⟨bb, 8, none⟩ = some (.slice (some ⟨bc, 0, none⟩) n n))
    (ci : ∀ j, j < n → w.cell? ⟨bi, j, none⟩ = some (.int .i64 (I j)))
    (cc : ∀ j, j < n → w.cell? ⟨bc, j, none⟩ = some (.pointer (ch j)))
    (hl : ∀ j, j < n → (Instr.lookup 51 (.map (some B)) (.int .i64 (I j)) false).run Yba.prog w = .ok (.string (L j)) w)
    (hp : ∀ j, j < n → p j = ((ch j).isSome || (L j).toList == c.toList)) :
    Calls Yba.prog 11 #[.pointer (some ⟨bm, 0, none⟩), .pointer (some ⟨bb, 0, none⟩), .string c] w fun e w' => e = .returned (.int .i64 (cnt p n)) ∧ w = w' := by
  go_enter Yba.func11, Yba.ntmps11
  go_wp2
  go_loop [7, 15] (fun t i => ∃ k : Nat, k ≤ n ∧ i = .int .i64 k ∧ t = .int .i64 (cnt p k)) (fun _ i => n - (intOf i).toNat)
  case atStart => exact ⟨0, Nat.zero_le _, rfl, rfl⟩
  case round =>
    obtain ⟨k, hk, rfl, rfl⟩ := hrel
    have hle := cnt_le p k
    by_cases hlt : k < n
    · obtain ⟨x, hx⟩ : ∃ x, x = I k := ⟨_, rfl⟩
      have hci := ci k hlt
      have hcc := cc k hlt
      have hlk := hl k hlt
      have HP : Hid (p k = ((ch k).isSome || (L k).toList == c.toList)) := hp k hlt
      rw [← hx] at hci hlk
      clear hx ci cc hl hp
      generalize ch k = q at hcc HP
      generalize L k = s at hlk HP
      cases q with
      | some ad =>
        have hpk : p k = true := by rw [HP.out]; rfl
        clear HP
        have hs : cnt p (k + 1) = cnt p k + 1 := by simp [cnt, hpk]
        have HS : Hid (cnt p (k + 1) = cnt p k + 1) := hs
        clear hs hpk
        go_wp2
        go_round
        case rel => exact ⟨k + 1, by omega, by go_num, by rw [HS.out]; go_num⟩
        case measure => simp [intOf]; omega
      | none =>
        go_wp2
        · have ht : (s.toList == c.toList) = true := by assumption
          have hpk : p k = true := by rw [HP.out, ht]; rfl
          have hs : cnt p (k + 1) = cnt p k + 1 := by simp [cnt, hpk]
          go_round
          case rel => exact ⟨k + 1, by omega, by go_num, by rw [hs]; go_num⟩
          case measure => simp [intOf]; omega
        · have ht : (s.toList == c.toList) = false := by assumption
          have hpk : p k = false := by rw [HP.out, ht]; rfl
          have hs : cnt p (k + 1) = cnt p k := by simp [cnt, hpk]
          go_round
          case rel => exact ⟨k + 1, by omega, by go_num, by rw [hs]⟩
          case measure => simp [intOf]; omega
    · obtain rfl : k = n := by omega
      go_wp2
      go_ret
      exact ⟨rfl, rfl⟩
end Go.Proofs.Ybulkdyg.BC
