/-
  typ BY ITS CONTRACTS: the four ways.
-/
import Derived.Test.YbulkdygFmtFd
namespace Go.Proofs.YbulkdygFmt
open Go.RowKit Go.Maps Go.Deep
open Go.WideMaps (keyOf_string_mk)

set_option maxRecDepth 100000 in
set_option maxHeartbeats 800000 in
theorem typ_neg (s : Nat) (file name : ByteArray) (id ln : Int) (n : Nat) (T N : DataW Unit) (w : World) (hB : Bld s w file n T N) (h : id < 0) :
    Calls Ybaf.prog 9 #[.pointer (some ⟨s + 15, 0, none⟩), .int .i64 id, .string name, .int .i64 ln] w fun e w' => Err w w' e file ln := by
  have hc := checkID_neg (s + 15) file ⟨#[116, 121, 112, 101, 32, 105, 100]⟩ id ln w h hB.c0 hB.c2 (by have := hB.sz; omega)
  go_enter Ybaf.func9, Ybaf.ntmps9
  go_wp2_with fail
  refine hc.mono ?_
  rintro e w' ⟨q, rfl, e0, e1, e2, hb⟩
  go_wp2
  go_ret
  exact ⟨q, rfl, e0, e1, e2, hb⟩

set_option maxRecDepth 100000 in
set_option maxHeartbeats 800000 in
theorem typ_id (s : Nat) (file name : ByteArray) (id ln : Int) (n : Nat) (T N : DataW Unit) (w : World) (hB : Bld s w file n T N) (h : 0 ≤ id) (hw : (Lit.int .i64 id).wf = true) (hN : Maps.has N (.int .i64 id) = true) :
    Calls Ybaf.prog 9 #[.pointer (some ⟨s + 15, 0, none⟩), .int .i64 id, .string name, .int .i64 ln] w fun e w' => Err w w' e file ln := by
  obtain ⟨v, hl, _⟩ := look_id hB.oN id hw
  rw [hN] at hl
  have hs := hB.sz
  have c1 := hB.c1
  have m2 := hB.m2
  go_enter Ybaf.func9, Ybaf.ntmps9
  go_wp2_with (go_at_call 11; refine (checkID_ok _ _ _ _ _ (by omega)).mono ?_; rintro e w' ⟨rfl, rfl⟩)
  have hn := blk_alloc_new w (.cells #[.iface 3 (.int .i64 id)] 20)
  refine (failAt_id (s + 15) w.heap.size file ln id (w.alloc (.cells #[.iface 3 (.int .i64 id)] 20)) (cell_alloc _ hB.c0) (cell_alloc _ hB.c2) (cell_of_heap hn rfl) (by rw [nblk_alloc]; omega)).mono ?_
  rintro e w' ⟨msg, rfl, rfl⟩
  clear hn
  go_wp2
  go_ret
  exact err_mk _ _ _ _ _

set_option maxRecDepth 100000 in
set_option maxHeartbeats 800000 in
theorem typ_name (s : Nat) (file name : ByteArray) (id ln : Int) (n : Nat) (T N : DataW Unit) (w : World) (hB : Bld s w file n T N) (h : 0 ≤ id) (hw : (Lit.int .i64 id).wf = true) (hz : name.size ≤ maxLen) (hN : Maps.has N (.int .i64 id) = false) (hT : Maps.has T (.string name.data.toList) = true) :
    Calls Ybaf.prog 9 #[.pointer (some ⟨s + 15, 0, none⟩), .int .i64 id, .string name, .int .i64 ln] w fun e w' => Err w w' e file ln := by
  obtain ⟨v, hl, _⟩ := look_id hB.oN id hw
  obtain ⟨x, hm, _⟩ := look_name hB.oT name hz
  rw [hN] at hl
  rw [hT] at hm
  have hs := hB.sz
  have c1 := hB.c1
  have c6 := hB.c6
  have m2 := hB.m2
  go_enter Ybaf.func9, Ybaf.ntmps9
  go_wp2_with (go_at_call 11; refine (checkID_ok _ _ _ _ _ (by omega)).mono ?_; rintro e w' ⟨rfl, rfl⟩)
  have hn := blk_alloc_new w (.cells #[.iface 9 (.string name)] 20)
  refine (failAt_name (s + 15) w.heap.size file ln name (w.alloc (.cells #[.iface 9 (.string name)] 20)) (cell_alloc _ hB.c0) (cell_alloc _ hB.c2) (cell_of_heap hn rfl) (by rw [nblk_alloc]; omega)).mono ?_
  rintro e w' ⟨msg, rfl, rfl⟩
  clear hn
  go_wp2
  go_ret
  exact err_mk _ _ _ _ _

set_option maxRecDepth 100000 in
set_option maxHeartbeats 800000 in
theorem typ_ok (s : Nat) (file name : ByteArray) (id ln : Int) (n : Nat) (T N : DataW Unit) (w : World) (hB : Bld s w file n T N) (h : 0 ≤ id) (hw : (Lit.int .i64 id).wf = true) (hz : name.size ≤ maxLen) (hn : n ≤ 100000) (hN : Maps.has N (.int .i64 id) = false) (hT : Maps.has T (.string name.data.toList) = false) :
    Calls Ybaf.prog 9 #[.pointer (some ⟨s + 15, 0, none⟩), .int .i64 id, .string name, .int .i64 ln] w fun e w' =>
      e = .returned .nilIface ∧ Bld s w' file (n + 1) (T.put (.string name.data.toList) (.lit (.int .i64 id))) (N.put (.int .i64 id) (.lit (.string name.data.toList))) ∧ Below s w w' := by
  obtain ⟨v, hl, _⟩ := look_id hB.oN id hw
  obtain ⟨x, hm, _⟩ := look_name hB.oT name hz
  rw [hN] at hl
  rw [hT] at hm
  have hs := hB.sz
  have c1 := hB.c1
  have c6 := hB.c6
  have m2 := hB.m2
  go_enter Ybaf.func9, Ybaf.ntmps9
  have t1 : ∀ w1, w.grownBy w1 (some (s + 11)) → w1.cell? ⟨s + 15, 1, none⟩ = some (.pointer (some ⟨s + 7, 0, none⟩)) := fun w1 g => g.cell hB.c1 (by simp)
  have t2 : ∀ w1, w.grownBy w1 (some (s + 11)) → w1.cell? ⟨s + 7, 8, none⟩ = some (.map (some (s + 1))) := fun w1 g => g.cell hB.m2 (by simp)
  have t3 : ∀ w1, w.grownBy w1 (some (s + 11)) → w1.ownsMap Ybaf.prog 3 (plainElem Ybaf.prog 9) (s + 1) n N := fun w1 g => hB.oN.kept g (by simp)
  go_wp2_with (first | (go_at_call 11; refine (checkID_ok _ _ _ _ _ (by omega)).mono ?_; rintro e w' ⟨rfl, rfl⟩) | (at_mapUpdate; refine wpList_mapUpdate_own _ rfl (.tmp 59) (.tmp 60) (.tmp 61) 41 rfl 9 3 law9 Ybaf.underlying41 _ (s + 11) n _ rfl hB.oT (by unfold maxLen; omega) _ _ _ rfl rfl (keyOf_string_mk Ybaf.underlying9 hz) _ [] (plainElem_int Ybaf.underlying3 hw) ?_; intro w1 o1 g1; have u1 := t1 w1 g1; have u2 := t2 w1 g1; have u3 := t3 w1 g1) | (at_mapUpdate; refine wpList_mapUpdate_own _ rfl (.tmp 68) (.tmp 69) (.tmp 70) 42 rfl 3 9 law3 Ybaf.underlying42 _ (s + 1) n _ rfl u3 (by unfold maxLen; omega) _ _ _ rfl rfl (keyOf_int_mk Ybaf.underlying3 hw) _ [] (plainElem_string Ybaf.underlying9 hz) ?_; intro w2 o2 g2))
  go_ret
  have z1 := g1.size
  exact ⟨rfl, put_bld hB o1 g1 o2 g2, ((Below.refl s w).grown g1 (by omega) (fun k hk => by cases hk; omega)).grown g2 (by omega) (fun k hk => by cases hk; omega)⟩
end Go.Proofs.YbulkdygFmt
