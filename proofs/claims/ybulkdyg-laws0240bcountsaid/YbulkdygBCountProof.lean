/-
  'Rows.LawS0240BCountSaid' PROVED.
-/
import Derived.Test.YbulkdygBD
import Derived.Test.YbulkdygOpen
import Derived.OpenShut
import Derived.ShutString
import Derived.ChangeOld
namespace Go.Proofs.Ybulkdyg.BC
open Go.ChangeShapes Go.WideShapes Go.ChangeAt Go.RowKit
set_option linter.unusedVariables false

theorem own : ownKnob Yba.prog.godebug = none := by kernel_rfl
theorem laidOut : laidOutB Yba.prog = true := by kernel_rfl

set_option maxRecDepth 100000 in
set_option maxHeartbeats 1600000 in
/-- A slice of more than 1024 elements: the law says nothing. -/
theorem walk_big (a0 a1 a2 a3 : Option Addr) (n0 c0 n1 c1 n2 c2 n3 c3 : Nat) (s : Int) (w : World) (h : 1024 < n0 ∨ 1024 < n2 ∨ 1024 < n1 ∨ 1024 < n3) :
    Calls Yba.prog 5 #[.slice a0 n0 c0, .slice a1 n1 c1, .slice a2 n2 c2, .slice a3 n3 c3, .int .u8 s] w fun e w' => e = .returned (.bool true) ∧ Below w.heap.size w w' := by
  by_cases h0 : 1024 < n0
  · have d0 : decide ((1024 : Int) < (n0 : Int)) = true := decide_eq_true (by omega)
    go_enter Yba.func5, Yba.ntmps5
    go_wp2
    go_ret
    exact ⟨rfl, Below.refl _ _⟩
  · have d0 : decide ((1024 : Int) < (n0 : Int)) = false := decide_eq_false (by omega)
    by_cases h2 : 1024 < n2
    · have d2 : decide ((1024 : Int) < (n2 : Int)) = true := decide_eq_true (by omega)
      go_enter Yba.func5, Yba.ntmps5
      go_wp2
      go_ret
      exact ⟨rfl, Below.refl _ _⟩
    · have d2 : decide ((1024 : Int) < (n2 : Int)) = false := decide_eq_false (by omega)
      by_cases h1 : 1024 < n1
      · have d1 : decide ((1024 : Int) < (n1 : Int)) = true := decide_eq_true (by omega)
        go_enter Yba.func5, Yba.ntmps5
        go_wp2
        go_ret
        exact ⟨rfl, Below.refl _ _⟩
      · have d1 : decide ((1024 : Int) < (n1 : Int)) = false := decide_eq_false (by omega)
        have d3 : decide ((1024 : Int) < (n3 : Int)) = true := decide_eq_true (by omega)
        go_enter Yba.func5, Yba.ntmps5
        go_wp2
        go_ret
        exact ⟨rfl, Below.refl _ _⟩

theorem u8_bounds {x : Int} (h : (Lit.int .u8 x).wf = true) : 0 ≤ x ∧ x ≤ 255 := by
  have hmin : IntKind.u8.min = 0 := rfl
  have hmax : IntKind.u8.max = 255 := rfl
  simp only [Lit.wf, Bool.and_eq_true, decide_eq_true_eq] at h
  omega

set_option maxRecDepth 100000 in
theorem lifted (os : Os) (started : os.Started) (H : Type) (enc : TypeId × Value → H) :
    ReturnsInHanded {} Yba.checked os 5 .any (Rows.lawS0240BCountSpec.pre6 enc Yba.prog Yba.f5 Rows.lawS0240BCountRow.domain false) (Rows.lawS0240BCountSpec.post enc Yba.prog Yba.f5 false true false false) := by
  refine returnsInHanded_of_change (C := Yba.checked) own started (by kernel_rfl) Yba.func5
    (ChangeSpec.witness6 (enc := enc) (C := Yba.checked) false ⟨#[], #[.slice none 0 0, .slice none 0 0, .slice none 0 0, .slice none 0 0, .int .u8 0], []⟩ 8 (by kernel_rfl) (by kernel_rfl) (by kernel_rfl) (by kernel_rfl)) ?_
  intro W base args ds gs before hval0 hW hcnd _
  have hval : ∀ (j : Nat) t v, Yba.f5.params[j]? = some t → args[j]? = some v → Value.okWide Yba.prog W .any base t v := hval0
  have hW' := hW
  obtain ⟨p, q, hA0, hV, rfl, hfz, hnd⟩ := hW
  have hA : DataW.TrodAll enc Yba.prog W 0 (fun _ => true) true Yba.f5.params.toList args.toList ds p := hA0
  rw [Yba.params5] at hA hval
  obtain ⟨v0, vs0, d0, ds0, p0, q0, hargs, rfl, rfl, h0, r0⟩ := trodAll_cons hA
  obtain ⟨v1, vs1, d1, ds1, p1, q1, rfl, rfl, rfl, h1, r1⟩ := trodAll_cons r0
  obtain ⟨v2, vs2, d2, ds2, p2, q2, rfl, rfl, rfl, h2, r2⟩ := trodAll_cons r1
  obtain ⟨v3, vs3, d3, ds3, p3, q3, rfl, rfl, rfl, h3, r3⟩ := trodAll_cons r2
  obtain ⟨v4, vs4, d4, ds4, p4, q4, rfl, rfl, rfl, h4, r4⟩ := trodAll_cons r3
  obtain ⟨rfl, rfl, rfl⟩ := trodAll_nil r4
  obtain rfl : args = #[v0, v1, v2, v3, v4] := by cases args; simp_all
  obtain ⟨rfl, rfl⟩ := trodVars_none hV
  obtain ⟨a0, n0, c0, rfl⟩ := okWide_slice Yba.underlying46 (hval 0 46 v0 rfl rfl)
  obtain ⟨a1, n1, c1, rfl⟩ := okWide_slice Yba.underlying47 (hval 1 47 v1 rfl rfl)
  obtain ⟨a2, n2, c2, rfl⟩ := okWide_slice Yba.underlying46 (hval 2 46 v2 rfl rfl)
  obtain ⟨a3, n3, c3, rfl⟩ := okWide_slice Yba.underlying48 (hval 3 48 v3 rfl rfl)
  obtain ⟨s, rfl, rfl, rfl, ws⟩ := open_int Yba.underlying5 (hval 4 5 v4 rfl rfl) h4
  have k0 := h0
  have k1 := h1
  have k2 := h2
  have k3 := h3
  have lt0 : ∀ x ∈ p0, x.block < W.heap.size := by obtain ⟨m, hm⟩ := k0; exact DataW.trod_lt m _ _ _ hm
  have lt1 : ∀ x ∈ p1, x.block < W.heap.size := by obtain ⟨m, hm⟩ := k1; exact DataW.trod_lt m _ _ _ hm
  have lt2 : ∀ x ∈ p2, x.block < W.heap.size := by obtain ⟨m, hm⟩ := k2; exact DataW.trod_lt m _ _ _ hm
  have lt3 : ∀ x ∈ p3, x.block < W.heap.size := by obtain ⟨m, hm⟩ := k3; exact DataW.trod_lt m _ _ _ hm
  obtain ⟨f0, g0⟩ := h0
  obtain ⟨f1, g1⟩ := h1
  obtain ⟨f2, g2⟩ := h2
  obtain ⟨f3, g3⟩ := h3
  obtain ⟨b0, o0, I, R0, hI⟩ := row_ints Yba.underlying46 Yba.underlying3 (by kernel_rfl) g0
  obtain ⟨b1, o1, K, R1⟩ := row_bools Yba.underlying47 Yba.underlying4 (by kernel_rfl) g1
  obtain ⟨b2, o2, D, R2, hD⟩ := row_ints Yba.underlying46 Yba.underlying3 (by kernel_rfl) g2
  obtain ⟨b3, o3, C, R3, hC⟩ := row_ints Yba.underlying48 Yba.underlying5 (by kernel_rfl) g3
  clear hA0 hval0
  have hwalk : Calls Yba.prog 5 #[.slice a0 n0 c0, .slice a1 n1 c1, .slice a2 n2 c2, .slice a3 n3 c3, .int .u8 s] W fun e w' => e = .returned (.bool true) ∧ Below W.heap.size W w' := by
    by_cases hbig : 1024 < n0 ∨ 1024 < n2 ∨ 1024 < n1 ∨ 1024 < n3
    · exact walk_big a0 a1 a2 a3 n0 c0 n1 c1 n2 c2 n3 c3 s W hbig
    · exact walk a0 a1 a2 a3 n0 c0 n1 c1 n2 c2 n3 c3 s b0 o0 b1 o1 b2 o2 b3 o3 I D C K W R0 R1 R2 R3 hI hD (fun j => u8_bounds (hC j)) (u8_bounds ws).1 (u8_bounds ws).2 (by omega) (by omega) (by omega) (by omega)
  refine hwalk.mono fun e W' ⟨he, bel⟩ => ?_
  subst he
  exact ⟨_, rfl, _, _, _, [], _, [], hW', trodAll_mk1 (shut_bool Yba.underlying4 _), (trodAll_cons_mk (Below.trod laidOut (by kernel_rfl) (of_decide_eq_true (by kernel_rfl)) k0 bel lt0) (trodAll_cons_mk (Below.trod laidOut (by kernel_rfl) (of_decide_eq_true (by kernel_rfl)) k1 bel lt1) (trodAll_cons_mk (Below.trod laidOut (by kernel_rfl) (of_decide_eq_true (by kernel_rfl)) k2 bel lt2) (trodAll_cons_mk (Below.trod laidOut (by kernel_rfl) (of_decide_eq_true (by kernel_rfl)) k3 bel lt3) (trodAll_cons_mk (shut_int Yba.underlying5 ws) trodAll_mk0))))), rfl, bel.frame _, fun h => by cases h⟩

theorem over : Rows.lawS0240BCountRow.holds Yba.pinned (OpenSpec.ofChange Rows.lawS0240BCountSpec) :=
  OpenClaim.holds_of_wide 5 Yba.f5 rfl rfl rfl rfl rfl rfl rfl ⟨rfl, rfl, rfl, rfl, rfl⟩ rfl rfl rfl rfl rfl (by kernel_rfl) Yba.func5 (by kernel_rfl)
    (of_decide_eq_true (by kernel_rfl)) (by unfold Func.isWrapper; first | (rw [if_pos (by decide +kernel)]; kernel_rfl) | (rw [if_neg (by decide +kernel)]; exact ⟨rfl, rfl⟩))
    (fun os started H enc _ => lifted os started H enc)

/-- THE STATEMENT. -/
theorem proved : Rows.LawS0240BCountSaid := over
#print axioms proved
end Go.Proofs.Ybulkdyg.BC
