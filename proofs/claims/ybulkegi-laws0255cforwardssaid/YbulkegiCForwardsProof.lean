/-
  'Rows.LawS0255CForwardsSaid' PROVED.
-/
import Derived.Test.YbulkegiA
import Derived.ShutString
import Derived.ChangeOld
import Derived.Laws.IdiomArrays
namespace Go.Proofs.Ybulkegi.lawS0255CForwards
open Go.ChangeShapes Go.WideShapes Go.ChangeAt Go.RowKit
set_option linter.unusedVariables false
set_option maxRecDepth 100000

theorem own : ownKnob Yba.prog.godebug = none := by kernel_rfl
theorem laidOut : laidOutB Yba.prog = true := by kernel_rfl
theorem cells29 : Yba.prog.cellsOf 29 = 3 := by kernel_rfl
theorem cells5 : Yba.prog.cellsOf 5 = 1 := by kernel_rfl

theorem list3 : ∀ l : List Value, l.length = 3 → ∃ a b c, l = [a, b, c]
  | [a, b, c], _ => ⟨a, b, c, rfl⟩
theorem arr3 {W : World} {r : Reach} {base : Nat} {v : Value} (h : Value.okWide Yba.prog W r base 29 v) : ∃ c0 c1 c2, v = .agg #[c0, c1, c2] := by
  simp only [Value.okWide, Yba.underlying29] at h
  obtain ⟨cs, h1, h2, _⟩ := h
  rw [cells29] at h2
  obtain ⟨l⟩ := cs
  obtain ⟨a, b, c, rfl⟩ := list3 l h2
  exact ⟨a, b, c, h1⟩

theorem walk (x y z : Int) (set gn : Bool) (mt ee : Int) (w : World) :
    Calls Yba.prog 5 #[.agg #[.int .u8 x, .int .u8 y, .int .u8 z], .bool set, .bool gn, .int .u32 mt, .int .u8 ee] w fun e w' => e = .returned (.bool true) ∧ Below w.heap.size w w' := by
  cases set
  · exact walk_unset x y z gn mt ee w
  · cases gn
    · exact walk_set_want x y z mt ee w
    · exact walk_set_nil x y z mt ee w

set_option maxRecDepth 100000 in
theorem lifted (os : Os) (started : os.Started) (H : Type) (enc : TypeId × Value → H) :
    ReturnsInHanded {} Yba.checked os 5 .any (Rows.lawS0255CForwardsSpec.pre6 enc Yba.prog Yba.f5 Rows.lawS0255CForwardsRow.domain false) (Rows.lawS0255CForwardsSpec.post enc Yba.prog Yba.f5 false true false false) := by
  refine returnsInHanded_of_change (C := Yba.checked) own started (by kernel_rfl) Yba.func5
    (ChangeSpec.witness6 (enc := enc) (C := Yba.checked) false ⟨#[], #[.agg #[.int .u8 0, .int .u8 0, .int .u8 0], .bool false, .bool false, .int .u32 0, .int .u8 0], []⟩ 8 (by kernel_rfl) (by kernel_rfl) (by kernel_rfl) (by kernel_rfl)) ?_
  intro W base args ds gs before hval0 hW hcnd _
  have hval : ∀ (j : Nat) t v, Yba.f5.params[j]? = some t → args[j]? = some v → Value.okWide Yba.prog W .any base t v := hval0
  have hW' := hW
  obtain ⟨p, q, hA0, hV, rfl, hfz, hnd⟩ := hW
  have hA : DataW.TrodAll enc Yba.prog W 0 (fun _ => true) true Yba.f5.params.toList args.toList ds p := hA0
  rw [Yba.params5] at hA hval
  obtain ⟨v0, vs0, d0, ds0, p0, q0, hargs, rfl, rfl, h0, r0⟩ := trodAll_cons hA
  obtain ⟨v1, vs1, d1, ds1, p1, q1, rfl, rfl, rfl, h1, r1⟩ := trodAll_cons r0
  obtain ⟨v2, vs2, d2, ds2, p2, q2, rfl, rfl, rfl, h2, r2⟩ := trodAll_cons r1
  obtain ⟨v3, vs3, d3, ds3, p3, q3, rfl, rfl, rfl, h3, r3⟩ := trodAll_cons r2
  obtain ⟨v4, vs4, d4, ds4, p4, q4, rfl, rfl, rfl, h4, r4⟩ := trodAll_cons r3
  obtain ⟨rfl, rfl, rfl⟩ := trodAll_nil r4
  obtain rfl : args = #[v0, v1, v2, v3, v4] := by cases args; simp_all
  obtain ⟨rfl, rfl⟩ := trodVars_none hV
  obtain ⟨c0, c1, c2, rfl⟩ := arr3 (hval 0 29 v0 rfl rfl)
  have k0 := h0
  have lt0 : ∀ x ∈ p0, x.block < W.heap.size := by obtain ⟨m, hm⟩ := k0; exact DataW.trod_lt m _ _ _ hm
  obtain ⟨fuel, hf⟩ := h0
  obtain ⟨y0, y1, y2, m, _, g0, g1, g2⟩ := trod_array3 Yba.underlying29 cells5 hf
  obtain ⟨x0, e0, _, w0⟩ := DataW.trod_int Yba.underlying5 g0
  obtain ⟨x1, e1, _, w1⟩ := DataW.trod_int Yba.underlying5 g1
  obtain ⟨x2, e2, _, w2⟩ := DataW.trod_int Yba.underlying5 g2
  simp at e0 e1 e2
  subst e0 e1 e2
  obtain ⟨set, rfl, rfl, rfl⟩ := open_bool Yba.underlying4 (hval 1 4 v1 rfl rfl) h1
  obtain ⟨gn, rfl, rfl, rfl⟩ := open_bool Yba.underlying4 (hval 2 4 v2 rfl rfl) h2
  obtain ⟨mt, rfl, rfl, rfl, w3⟩ := open_int Yba.underlying67 (hval 3 67 v3 rfl rfl) h3
  obtain ⟨ee, rfl, rfl, rfl, w4⟩ := open_int Yba.underlying5 (hval 4 5 v4 rfl rfl) h4
  clear hA0 hval0
  refine (walk x0 x1 x2 set gn mt ee W).mono fun e W' ⟨he, bel⟩ => ?_
  subst he
  exact ⟨_, rfl, _, _, _, [], _, [], hW', trodAll_mk1 (shut_bool Yba.underlying4 _), (trodAll_cons_mk (Below.trod laidOut (by kernel_rfl) (of_decide_eq_true (by kernel_rfl)) k0 bel lt0) (trodAll_cons_mk (shut_bool Yba.underlying4 _) (trodAll_cons_mk (shut_bool Yba.underlying4 _) (trodAll_cons_mk (shut_int Yba.underlying67 w3) (trodAll_cons_mk (shut_int Yba.underlying5 w4) trodAll_mk0))))), rfl, bel.frame _, fun h => by cases h⟩

theorem over : Rows.lawS0255CForwardsRow.holds Yba.pinned (OpenSpec.ofChange Rows.lawS0255CForwardsSpec) :=
  OpenClaim.holds_of_wide 5 Yba.f5 rfl rfl rfl rfl rfl rfl rfl ⟨rfl, rfl, rfl, rfl, rfl⟩ rfl rfl rfl rfl rfl (by kernel_rfl) Yba.func5 (by kernel_rfl)
    (of_decide_eq_true (by kernel_rfl)) (by unfold Func.isWrapper; first | (rw [if_pos (by decide +kernel)]; kernel_rfl) | (rw [if_neg (by decide +kernel)]; exact ⟨rfl, rfl⟩))
    (fun os started H enc _ => lifted os started H enc)

/-- THE STATEMENT. -/
theorem proved : Rows.LawS0255CForwardsSaid := over
#print axioms proved
end Go.Proofs.Ybulkegi.lawS0255CForwards
