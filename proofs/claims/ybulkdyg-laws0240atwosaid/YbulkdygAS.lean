/-
  permSwap BY ITS CONTRACT; THE PERMUTATION AS PLAIN FUNCTIONS.
-/
import Derived.Test.YbulkdygAM
namespace Go.Proofs.Ybulkdyg.AL
open Go.RowKit
set_option linter.unusedVariables false

/-- The position that position k swaps with, for input x, in the bucket 'id' of n items. -/
def J (x id : Int) (n k : Nat) : Nat := k + (hash3V x (id % 4294967296) k).toNat % (n - k)
theorem J_le (x id : Int) (n k : Nat) : k ≤ J x id n k := Nat.le_add_right _ _
theorem J_lt (x id : Int) (n k : Nat) (h : k < n) : J x id n k < n := by
  have := Nat.mod_lt (hash3V x (id % 4294967296) k).toNat (show 0 < n - k by omega)
  unfold J
  omega

theorem sum_mod (n k q : Nat) (hk : k < n) (hn : n ≤ 300) : ((k : Int) + (q : Int) % ((n : Int) - (k : Int))) % 4294967296 = ((k + q % (n - k) : Nat) : Int) := by
  have e : (n : Int) - (k : Int) = ((n - k : Nat) : Int) := by omega
  have hm := Nat.mod_lt q (show 0 < n - k by omega)
  rw [e, ← Int.natCast_emod]
  omega

set_option maxRecDepth 100000 in
set_option maxHeartbeats 800000 in
theorem swap_any (bb n cap k : Nat) (a : Option Addr) (x id : Int) (w : World) (hx : 0 ≤ x) (hx' : x ≤ 4294967295) (hn : n ≤ 300) (hk : k < n)
    (c0 : w.cell? ⟨bb, 0, none⟩ = some (.int .i64 id)) (c6 : w.cell? ⟨bb, 6, none⟩ = some (.slice a n cap)) :
    Calls Yba.prog 14 #[.pointer (some ⟨bb, 0, none⟩), .int .u32 x, .int .u32 (k : Int)] w fun e w' => e = .returned (.int .u32 (J x id n k : Nat)) ∧ w = w' := by
  have hb := hash3V_bd x (id % 4294967296) k
  have hi0 : 0 ≤ id % 4294967296 := by omega
  have hi1 : id % 4294967296 ≤ 4294967295 := by omega
  go_enter Yba.func14, Yba.ntmps14
  go_wp2_with fail
  refine (hash3_any x (id % 4294967296) k _ hx hx' hi0 hi1 (by omega) (by omega)).mono ?_
  rintro e w' ⟨rfl, rfl⟩
  obtain ⟨q, hq⟩ : ∃ q : Nat, q = (hash3V x (id % 4294967296) k).toNat := ⟨_, rfl⟩
  have hqe : hash3V x (id % 4294967296) k = (q : Int) := by omega
  have hJ : J x id n k = k + q % (n - k) := by rw [hq]; rfl
  have hq1 : (q : Int) ≤ 4294967295 := by omega
  have HJ : Hid (J x id n k = k + q % (n - k)) := hJ
  rw [hqe]
  clear hJ hq hqe hb
  have hpos : 0 < n - k := by omega
  have hml : q % (n - k) < n - k := Nat.mod_lt _ hpos
  have hne : ¬ ((n : Int) - (k : Int)) = 0 := by omega
  go_wp2
  go_ret
  exact ⟨congrArg (fun v => Ending.returned (.int .u32 v)) (by rw [HJ.out]; exact sum_mod n k q hk hn), rfl⟩

/-! ### The permutation, plainly -/

/-- What stands at position i behind the first m swaps. -/
def ord (j : Nat → Nat) : Nat → Nat → Nat
  | 0, i => i
  | m + 1, i => if i = m then ord j m (j m) else if i = j m then ord j m m else ord j m i

theorem ord_at (j : Nat → Nat) (m : Nat) : ord j (m + 1) m = ord j m (j m) := by simp [ord]
theorem ord_past (j : Nat → Nat) (m i : Nat) (h : m < i) : ord j (m + 1) i = if i = j m then ord j m m else ord j m i := by
  have : ¬ i = m := by omega
  simp [ord, this]
/-- A position below m is no longer touched. -/
theorem ord_stays (j : Nat → Nat) (hj : ∀ k, k ≤ j k) (p : Nat) : ∀ m, p < m → ord j m p = ord j (p + 1) p
  | 0, h => by omega
  | m + 1, h => by
    by_cases e : p = m
    · rw [e]
    · have h1 : ¬ p = j m := by have := hj m; omega
      have : ord j (m + 1) p = ord j m p := by simp [ord, e, h1]
      rw [this, ord_stays j hj p m (by omega)]
/-- Every position holds a position of the bucket. -/
theorem ord_lt (j : Nat → Nat) (n : Nat) (hj : ∀ k, k < n → j k < n) : ∀ m i, m ≤ n → i < n → ord j m i < n
  | 0, i, _, h => h
  | m + 1, i, hm, h => by
    unfold ord
    split
    · exact ord_lt j n hj m _ (by omega) (hj m (by omega))
    · split
      · exact ord_lt j n hj m _ (by omega) (by omega)
      · exact ord_lt j n hj m _ (by omega) h
/-- The item at position p. -/
def item (j : Nat → Nat) (p : Nat) : Nat := ord j (p + 1) p
end Go.Proofs.Ybulkdyg.AL
