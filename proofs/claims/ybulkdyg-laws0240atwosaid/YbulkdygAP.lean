/-
  (*bucket).perm BY ITS CONTRACT: the item followed back is the permutation's.
-/
import Derived.Test.YbulkdygAS
namespace Go.Proofs.Ybulkdyg.AL
open Go.RowKit
set_option linter.unusedVariables false

theorem back_hit {j : Nat → Nat} {k v t : Nat} (h : ord j (k + 1) v = t) (hv : k < v) (e : v = j k) : ord j k k = t := by
  rw [ord_past j k v hv, if_pos e] at h
  exact h
theorem back_miss {j : Nat → Nat} {k v t : Nat} (h : ord j (k + 1) v = t) (hv : k < v) (e : ¬ v = j k) : ord j k v = t := by
  rw [ord_past j k v hv, if_neg e] at h
  exact h

set_option maxRecDepth 100000 in
set_option maxHeartbeats 800000 in
theorem perm_any (bb n cap : Nat) (a : Option Addr) (x id r : Int) (w : World) (hx : 0 ≤ x) (hx' : x ≤ 4294967295) (hr : 0 ≤ r) (hr' : r ≤ 4294967295) (hn0 : 0 < n) (hn : n ≤ 300)
    (c0 : w.cell? ⟨bb, 0, none⟩ = some (.int .i64 id)) (c6 : w.cell? ⟨bb, 6, none⟩ = some (.slice a n cap)) :
    Calls Yba.prog 9 #[.pointer (some ⟨bb, 0, none⟩), .int .u32 x, .int .u32 r] w fun e w' => e = .returned (.int .i64 (item (J x id n) (r % (n : Int)).toNat : Nat)) ∧ w = w' := by
  obtain ⟨pos, hpos⟩ : ∃ pos : Nat, r % (n : Int) = (pos : Int) := ⟨(r % (n : Int)).toNat, by have := Int.emod_nonneg r (show (n : Int) ≠ 0 by omega); omega⟩
  have hpn : pos < n := by have := Int.emod_lt_of_pos r (show (0 : Int) < (n : Int) by omega); omega
  rw [show (r % (n : Int)).toNat = pos by omega]
  have hne : ¬ (n : Int) = 0 := by omega
  have hjl := J_lt x id n pos hpn
  have hjg := J_le x id n pos
  have hit : item (J x id n) pos < n := ord_lt (J x id n) n (fun k hk => J_lt x id n k hk) _ _ (by omega) hpn
  go_enter Yba.func9, Yba.ntmps9
  go_wp2_with (go_at_call 14; refine (swap_any bb n cap pos a x id _ hx hx' hn hpn c0 c6).mono ?_; rintro e w' ⟨rfl, rfl⟩)
  go_loopw [8, 9] (fun v k wr => ∃ kn vn : Nat, k = .int .u32 (kn : Int) ∧ v = .int .u32 (vn : Int) ∧ kn ≤ vn ∧ vn < n ∧ kn ≤ pos ∧ Hid (ord (J x id n) kn vn = item (J x id n) pos) ∧ w = wr) (fun _ k _ => (intOf k).toNat)
  case atStart => exact ⟨pos, J x id n pos, rfl, rfl, hjg, hjl, Nat.le_refl _, (ord_at (J x id n) pos).symm, rfl⟩
  case round =>
    obtain ⟨kn, vn, rfl, rfl, h1, h2, h3, HO, rfl⟩ := hrel
    by_cases hk : 0 < kn
    · obtain ⟨k, rfl⟩ : ∃ k, kn = k + 1 := ⟨kn - 1, by omega⟩
      have hkn : k < n := by omega
      have hjk := J_lt x id n k hkn
      go_wp2_with fail
      refine (swap_any bb n cap k a x id _ hx hx' hn hkn c0 c6).mono ?_
      rintro e w' ⟨rfl, rfl⟩
      by_cases hv : vn = J x id n k
      · have HV : Hid (vn = J x id n k) := hv
        have hd : ((vn : Int) == (J x id n k : Nat)) = true := beq_iff_eq.2 (by rw [hv])
        clear hv
        go_wp2
        go_roundw
        case rel => exact ⟨k, k, rfl, rfl, Nat.le_refl _, hkn, by omega, back_hit HO.out (by omega) HV.out, by trivial⟩
        case measure => simp [intOf]
      · have hd : ((vn : Int) == (J x id n k : Nat)) = false := beq_eq_false_iff_ne.2 (by omega)
        go_wp2
        go_roundw
        case rel => exact ⟨k, vn, rfl, rfl, by omega, h2, by omega, back_miss HO.out (by omega) hv, by trivial⟩
        case measure => simp [intOf]
    · obtain rfl : 0 = kn := by omega
      go_wp2_with fail
      go_ret
      exact ⟨congrArg (fun v : Nat => Ending.returned (.int .i64 (v : Int))) (show vn = _ from HO.out), rfl⟩
end Go.Proofs.Ybulkdyg.AL
