/-
  'Rows.LawS0242CPrefixSaid' PROVED.
-/
import Derived.Test.YbulkdziA
import Derived.WalkKit
import Derived.ProofKit
import Derived.OpenShut
import Derived.ShutString
import Derived.ChangeOld
import Derived.Below
namespace Go.Proofs.Ybulkdzi.lawS0242CPrefix
open Go.ChangeShapes Go.WideShapes Go.ChangeAt Go.RowKit
open Go.ChangeMaps (open_string shut_string)
set_option linter.unusedVariables false

theorem own : ownKnob Yba.prog.godebug = none := by kernel_rfl
theorem laidOut : laidOutB Yba.prog = true := by kernel_rfl

/-- There is such a number, whatever the bytes. -/
theorem count (I : Nat → Int) : ∀ len : Nat, ∃ m, m ≤ len ∧ (∀ j, j < m → Dig (I j)) ∧ (m < len → ¬ Dig (I m))
  | 0 => ⟨0, Nat.le_refl _, fun j hj => absurd hj (Nat.not_lt_zero _), fun h => absurd h (Nat.lt_irrefl _)⟩
  | len + 1 => by
    obtain ⟨m, h0, h1, h2⟩ := count I len
    by_cases hm : m < len
    · exact ⟨m, by omega, h1, fun _ => h2 hm⟩
    · obtain rfl : m = len := by omega
      by_cases hd : Dig (I m)
      · refine ⟨m + 1, Nat.le_refl _, fun j hj => ?_, fun h => absurd h (Nat.lt_irrefl _)⟩
        by_cases e : j = m
        · subst e; exact hd
        · exact h1 j (by omega)
      · exact ⟨m, by omega, h1, fun _ => hd⟩

set_option maxRecDepth 100000 in
set_option maxHeartbeats 800000 in
theorem walk (a : Option Addr) (len cap b off : Nat) (I : Nat → Int) (w : World) (hr : Row w a len b off (fun j => .int .u8 (I j))) :
    Calls Yba.prog 3 #[.slice a len cap] w fun e w' => e = .returned (.bool true) ∧ Below w.heap.size w w' := by
  by_cases hbig : 4096 < len
  · have d0 : decide ((4096 : Int) < (len : Int)) = true := decide_eq_true (by omega)
    go_enter Yba.func3, Yba.ntmps3
    go_wp2
    go_ret
    exact ⟨rfl, Below.refl _ _⟩
  · have d0 : decide ((4096 : Int) < (len : Int)) = false := decide_eq_false (by omega)
    obtain ⟨m, hm, hd, hs⟩ := count I len
    have d1 : decide ((m : Int) < 0) = false := decide_eq_false (by omega)
    have d2 : decide (len < m) = false := decide_eq_false (by omega)
    have HD := hid (digits_any a len cap b off m I w (by omega) hr hm hd hs)
    go_enter Yba.func3, Yba.ntmps3
    go_wp2_with fail
    refine HD.out.mono ?_
    rintro e w' ⟨rfl, rfl⟩
    clear HD
    go_wp2_with fail
    go_loopw [4] (fun i wr => ∃ k : Nat, k ≤ m ∧ i = .int .i64 (k : Int) ∧ w = wr) (fun i _ => m - (intOf i).toNat)
    case atStart => exact ⟨0, Nat.zero_le _, rfl, rfl⟩
    case round =>
      obtain ⟨k, hk, rfl, rfl⟩ := hrel
      by_cases hkm : k < m
      · have hlt : k < len := by omega
        have hix := fun u => hr.index Yba.underlying22 size5 cap hlt u
        have hc := hr.cell k hlt
        have HI := hid (isdigit_any (I k) true w ⟨fun _ => hd k hkm, fun _ => rfl⟩)
        generalize I k = x at *
        clear hd hs
        go_wp2_with fail
        refine HI.out.mono ?_
        rintro e w' ⟨rfl, rfl⟩
        go_wp2
        go_roundw
        case rel => exact ⟨k + 1, by omega, by go_num, by trivial⟩
        case measure => simp [intOf]; omega
      · obtain rfl : k = m := by omega
        by_cases hlt : k < len
        · have hix := fun u => hr.index Yba.underlying22 size5 cap hlt u
          have hc := hr.cell k hlt
          have HI := hid (isdigit_any (I k) false w ⟨fun e => (by cases e), fun h => absurd h (hs hlt)⟩)
          generalize I k = x at *
          clear hd hs
          go_wp2_with fail
          refine HI.out.mono ?_
          rintro e w' ⟨rfl, rfl⟩
          go_wp2
          go_ret
          exact ⟨rfl, Below.refl _ _⟩
        · clear hd hs
          go_wp2
          go_ret
          exact ⟨rfl, Below.refl _ _⟩

set_option maxRecDepth 100000 in
theorem lifted (os : Os) (started : os.Started) (H : Type) (enc : TypeId × Value → H) :
    ReturnsInHanded {} Yba.checked os 3 .any (Rows.lawS0242CPrefixSpec.pre6 enc Yba.prog Yba.f3 Rows.lawS0242CPrefixRow.domain false) (Rows.lawS0242CPrefixSpec.post enc Yba.prog Yba.f3 false true false false) := by
  refine returnsInHanded_of_change (C := Yba.checked) own started (by kernel_rfl) Yba.func3
    (ChangeSpec.witness6 (enc := enc) (C := Yba.checked) false ⟨#[], #[.slice none 0 0], []⟩ 8 (by kernel_rfl) (by kernel_rfl) (by kernel_rfl) (by kernel_rfl)) ?_
  intro W base args ds gs before hval0 hW hcnd _
  have hval : ∀ (j : Nat) t v, Yba.f3.params[j]? = some t → args[j]? = some v → Value.okWide Yba.prog W .any base t v := hval0
  have hW' := hW
  obtain ⟨p, q, hA0, hV, rfl, hfz, hnd⟩ := hW
  have hA : DataW.TrodAll enc Yba.prog W 0 (fun _ => true) true Yba.f3.params.toList args.toList ds p := hA0
  rw [Yba.params3] at hA hval
  obtain ⟨v0, vs0, d0, ds0, p0, q0, hargs, rfl, rfl, h0, r0⟩ := trodAll_cons hA
  obtain ⟨rfl, rfl, rfl⟩ := trodAll_nil r0
  obtain rfl : args = #[v0] := by cases args; simp_all
  obtain ⟨rfl, rfl⟩ := trodVars_none hV
  obtain ⟨a0, len0, cap0, rfl⟩ := okWide_slice Yba.underlying22 (hval 0 22 v0 rfl rfl)
  have k0 := h0
  have lt0 : ∀ x ∈ p0, x.block < W.heap.size := by obtain ⟨m, hm⟩ := k0; exact DataW.trod_lt m _ _ _ hm
  obtain ⟨fuel, hf⟩ := h0
  obtain ⟨b, off, I, hr, _⟩ := row_bytes hf
  clear hA0 hval0
  refine (walk a0 len0 cap0 b off I W hr).mono fun e W' ⟨he, bel⟩ => ?_
  subst he
  exact ⟨_, rfl, _, _, _, [], _, [], hW', trodAll_mk1 (shut_bool Yba.underlying4 _), (trodAll_cons_mk (Below.trod laidOut (by kernel_rfl) (of_decide_eq_true (by kernel_rfl)) k0 bel lt0) trodAll_mk0), rfl, bel.frame _, fun h => by cases h⟩

theorem over : Rows.lawS0242CPrefixRow.holds Yba.pinned (OpenSpec.ofChange Rows.lawS0242CPrefixSpec) :=
  OpenClaim.holds_of_wide 3 Yba.f3 rfl rfl rfl rfl rfl rfl rfl ⟨rfl, rfl, rfl, rfl, rfl⟩ rfl rfl rfl rfl rfl (by kernel_rfl) Yba.func3 (by kernel_rfl)
    (of_decide_eq_true (by kernel_rfl)) (by unfold Func.isWrapper; first | (rw [if_pos (by decide +kernel)]; kernel_rfl) | (rw [if_neg (by decide +kernel)]; exact ⟨rfl, rfl⟩))
    (fun os started H enc _ => lifted os started H enc)

/-- THE STATEMENT -/
theorem proved : Rows.LawS0242CPrefixSaid := over
#print axioms proved
end Go.Proofs.Ybulkdzi.lawS0242CPrefix
