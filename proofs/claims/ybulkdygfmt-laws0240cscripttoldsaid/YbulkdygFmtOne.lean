/-
  LawS0240COne: THE WALK.
-/
import Derived.Test.YbulkdygFmtFe
namespace Go.Proofs.YbulkdygFmt
open Go.RowKit Go.Maps Go.Deep

theorem len_T {s : Nat} {w : World} {file : ByteArray} {n : Nat} {T N : DataW Unit} (h : Bld s w file n T N) (ty : TypeId) (m : Nat) (e : Maps.size T = m) : (Builtin.len_ #[41] ty #[.map (some (s + 11))]).run Ybaf.prog w = .ok (.int .i64 (m : Int)) w := by
  rw [h.oT.len Ybaf.underlying41 ty, e]
theorem len_N {s : Nat} {w : World} {file : ByteArray} {n : Nat} {T N : DataW Unit} (h : Bld s w file n T N) (ty : TypeId) (m : Nat) (e : Maps.size N = m) : (Builtin.len_ #[42] ty #[.map (some (s + 1))]).run Ybaf.prog w = .ok (.int .i64 (m : Int)) w := by
  rw [h.oN.len Ybaf.underlying42 ty, e]

theorem bytes_ext {a b : ByteArray} (h : a.data.toList = b.data.toList) : a = b := by
  cases a with | mk A => cases b with | mk B => simp at h; rw [h]

/-- 'err.(*ParseError)' of an error of failAt's. -/
theorem assert36 (v : Value) (w : World) : (Instr.typeAssert (.iface 36 v) 34 36 true).run Ybaf.prog w = .ok (.tuple #[v, .bool true]) w := by kernel_rfl
theorem has_empty (k : Lit) : Maps.has (.map [] : DataW Unit) k = false := rfl

set_option maxRecDepth 100000 in
set_option maxHeartbeats 1600000 in
theorem one_neg (id ln : Int) (name : ByteArray) (w : World) (h : id < 0) :
    Calls Ybaf.prog 4 #[.int .i64 id, .string name, .int .i64 ln] w fun e w' => e = .returned (.bool true) ∧ Below w.heap.size w w' := by
  go_enter Ybaf.func4, Ybaf.ntmps4
  go_wp2_with fail
  refine (new_bld _ _).mono ?_
  rintro e w1 ⟨rfl, hB, hb1⟩
  go_wp2_with fail
  refine (typ_neg _ _ _ _ _ _ _ _ _ hB h).mono ?_
  rintro e w2 ⟨q, rfl, e0, e1, e2, hb2⟩
  have hB2 := hB.below hb2 hB.sz
  have lT := fun ty => len_T hB2 ty 0 rfl
  have lN := fun ty => len_N hB2 ty 0 rfl
  have c1 := hB2.c1
  have c6 := hB2.c6
  have m2 := hB2.m2
  have HB : Hid (Below w.heap.size w w2) := hb1.trans (hb2.mono hb1.size)
  clear hB hB2 hb1 hb2
  have ha := assert36
  have hng : decide (0 ≤ id) = false := decide_eq_false (by omega)
  go_wp2
  go_ret
  exact ⟨rfl, HB.out⟩

set_option maxRecDepth 100000 in
set_option maxHeartbeats 1600000 in
theorem one_pos (id ln : Int) (name : ByteArray) (w : World) (h : 0 ≤ id) (hw : (Lit.int .i64 id).wf = true) (hz : name.size ≤ maxLen) :
    Calls Ybaf.prog 4 #[.int .i64 id, .string name, .int .i64 ln] w fun e w' => e = .returned (.bool true) ∧ Below w.heap.size w w' := by
  have hng : decide (0 ≤ id) = true := decide_eq_true h
  go_enter Ybaf.func4, Ybaf.ntmps4
  go_wp2_with fail
  refine (new_bld _ _).mono ?_
  rintro e w1 ⟨rfl, hB, hb1⟩
  go_wp2_with fail
  refine (typ_ok _ _ _ _ _ _ _ _ _ hB h hw hz (by omega) (has_empty _) (has_empty _)).mono ?_
  rintro e w2 ⟨rfl, hB2, hb2⟩
  have lT := fun ty => len_T hB2 ty 1 rfl
  have lN := fun ty => len_N hB2 ty 1 rfl
  obtain ⟨v, hl, hv⟩ := look_id hB2.oN id hw
  obtain ⟨x, hm, hx⟩ := look_name hB2.oT name hz
  rw [has_put_same isMap_empty (show WideAt.IsKeyLit (.int .i64 id) from trivial)] at hl
  rw [has_put_same isMap_empty (show WideAt.IsKeyLit (.string name.data.toList) from trivial)] at hm
  rw [atKey_put_same isMap_empty (show WideAt.IsKeyLit (.int .i64 id) from trivial)] at hv
  rw [atKey_put_same isMap_empty (show WideAt.IsKeyLit (.string name.data.toList) from trivial)] at hx
  obtain rfl : name = v := bytes_ext (Lit.string.inj (DataW.lit.inj hv))
  obtain rfl : id = x := (Lit.int.inj (DataW.lit.inj hx)).2
  have c1 := hB2.c1
  have c6 := hB2.c6
  have m2 := hB2.m2
  have HB : Hid (Below w.heap.size w w2) := hb1.trans hb2
  clear hB hB2 hb1 hb2 hv hx
  go_wp2
  go_ret
  exact ⟨rfl, HB.out⟩
end Go.Proofs.YbulkdygFmt
