/-
  checkID AND typ BY THEIR CONTRACTS.
-/
import Derived.Test.YbulkdygFmtFc
import Derived.StringKeys
namespace Go.Proofs.YbulkdygFmt
open Go.RowKit Go.Maps Go.Deep
open Go.WideMaps (keyOf_string_mk)

theorem cell_alloc {u : World} {a : Addr} {v : Value} (o : Obj) (h : u.cell? a = some v) : (u.alloc o).cell? a = some v := by
  have : a.block < u.heap.size := by
    rcases Nat.lt_or_ge a.block u.heap.size with hlt | hge
    · exact hlt
    · simp [World.cell?, Array.getElem?_eq_none hge] at h
  exact (World.cell?_of_block (w := u) (blk_alloc_lt u o _ this)).trans h

/-- What an error of failAt's leaves: a new ParseError at q; nothing old has turned. -/
def Err (w w' : World) (e : Ending) (file : ByteArray) (ln : Int) : Prop :=
  ∃ q, e = .returned (.iface 36 (.pointer (some ⟨q, 0, none⟩))) ∧ w'.cell? ⟨q, 0, none⟩ = some (.string file) ∧ w'.cell? ⟨q, 1, none⟩ = some (.int .i64 ln) ∧ w'.cell? ⟨q, 2, none⟩ = some (.int .i64 0) ∧ Below w.heap.size w w'

theorem err_mk (w : World) (o : Obj) (file msg : ByteArray) (ln : Int) : Err w ((w.alloc o).alloc (.cells #[.string file, .int .i64 ln, .int .i64 0, .string msg] 39)).drew.drew (.returned (.iface 36 (.pointer (some ⟨w.heap.size + 1, 0, none⟩)))) file ln := by
  have hb := blk_alloc_new (w.alloc o) (.cells #[.string file, .int .i64 ln, .int .i64 0, .string msg] 39)
  rw [nblk_alloc] at hb
  exact ⟨_, rfl, cell_of_heap hb rfl, cell_of_heap hb rfl, cell_of_heap hb rfl, ((((Below.refl _ _).alloc (Nat.le_refl _) _).alloc (by rw [nblk_alloc]; omega) _).drew).drew⟩

set_option maxRecDepth 100000 in
set_option maxHeartbeats 800000 in
theorem checkID_ok (p : Value) (what : ByteArray) (id ln : Int) (w : World) (h : 0 ≤ id) : Calls Ybaf.prog 11 #[p, .int .i64 id, .string what, .int .i64 ln] w fun e w' => e = .returned .nilIface ∧ w = w' := by
  go_enter Ybaf.func11, Ybaf.ntmps11
  go_wp2
  go_ret
  exact ⟨rfl, rfl⟩

set_option maxRecDepth 100000 in
set_option maxHeartbeats 800000 in
theorem checkID_neg (bb : Nat) (file what : ByteArray) (id ln : Int) (w : World) (h : id < 0)
    (c0 : w.cell? ⟨bb, 0, none⟩ = some (.string file)) (c2 : w.cell? ⟨bb, 2, none⟩ = some (.bool false)) (hb : bb < w.heap.size) :
    Calls Ybaf.prog 11 #[.pointer (some ⟨bb, 0, none⟩), .int .i64 id, .string what, .int .i64 ln] w fun e w' => Err w w' e file ln := by
  go_enter Ybaf.func11, Ybaf.ntmps11
  go_wp2_with fail
  have hn := blk_alloc_new w (.cells #[.iface 9 (.string what), .iface 3 (.int .i64 id)] 20)
  refine (failAt_neg bb w.heap.size file ln what id (w.alloc (.cells #[.iface 9 (.string what), .iface 3 (.int .i64 id)] 20)) (cell_alloc _ c0) (cell_alloc _ c2) (cell_of_heap hn rfl) (cell_of_heap hn rfl) (by rw [nblk_alloc]; omega)).mono ?_
  rintro e w' ⟨msg, rfl, rfl⟩
  clear hn
  go_wp2
  go_ret
  exact err_mk _ _ _ _ _

/-- The two maps with one pair more. -/
theorem put_bld {s : Nat} {w w1 w2 : World} {file name : ByteArray} {n : Nat} {T N : DataW Unit} {id : Int} (h : Bld s w file n T N)
    (o1 : w1.ownsMap Ybaf.prog 9 (plainElem Ybaf.prog 3) (s + 11) (n + 1) (T.put (.string name.data.toList) (.lit (.int .i64 id)))) (g1 : w.grownBy w1 (some (s + 11)))
    (o2 : w2.ownsMap Ybaf.prog 3 (plainElem Ybaf.prog 9) (s + 1) (n + 1) (N.put (.int .i64 id) (.lit (.string name.data.toList)))) (g2 : w1.grownBy w2 (some (s + 1))) :
    Bld s w2 file (n + 1) (T.put (.string name.data.toList) (.lit (.int .i64 id))) (N.put (.int .i64 id) (.lit (.string name.data.toList))) := by
  have hs := h.sz
  have z1 := g1.size
  have z2 := g2.size
  have hc : ∀ (b i : Nat) (v : Value), b < s + 16 → b ≠ s + 11 → b ≠ s + 1 → w.cell? ⟨b, i, none⟩ = some v → w2.cell? ⟨b, i, none⟩ = some v := fun b i v hlt n1 n2 hv =>
    g2.cell (g1.cell hv (by simp; omega)) (by simp; omega)
  have hk : ∀ k, k < s + 16 → k ≠ s + 11 → k ≠ s + 1 → w2.heap[k]? = w.heap[k]? := fun k hlt n1 n2 => (g2.block k (by omega) (by simp; omega)).trans (g1.block k (by omega) (by simp; omega))
  exact ⟨hc _ _ _ (by omega) (by omega) (by omega) h.c0, hc _ _ _ (by omega) (by omega) (by omega) h.c1, hc _ _ _ (by omega) (by omega) (by omega) h.c2, hc _ _ _ (by omega) (by omega) (by omega) h.c3, hc _ _ _ (by omega) (by omega) (by omega) h.c4, hc _ _ _ (by omega) (by omega) (by omega) h.c5, hc _ _ _ (by omega) (by omega) (by omega) h.c6, hc _ _ _ (by omega) (by omega) (by omega) h.m2,
    (hk _ (by omega) (by omega) (by omega)).trans h.e3, (hk _ (by omega) (by omega) (by omega)).trans h.e4, (hk _ (by omega) (by omega) (by omega)).trans h.e5, o1.kept g2 (by simp), o2, by omega⟩

theorem law3 : Keyed Ybaf.prog 3 := int_keyed Ybaf.underlying3
theorem law9 : Keyed Ybaf.prog 9 := string_keyed Ybaf.underlying9
theorem zero9 (w : World) : (zeroValue 9).run Ybaf.prog w = .ok (.string ⟨#[]⟩) w := by kernel_rfl
theorem zero3 (w : World) : (zeroValue 3).run Ybaf.prog w = .ok (.int .i64 0) w := by kernel_rfl

/-- 'v, ok := m.typeNames[id]'. -/
theorem look_id {w : World} {b n : Nat} {N : DataW Unit} (h : w.ownsMap Ybaf.prog 3 (plainElem Ybaf.prog 9) b n N) (id : Int) (hx : (Lit.int .i64 id).wf = true) :
    ∃ s : ByteArray, (Instr.lookup 42 (.map (some b)) (.int .i64 id) true).run Ybaf.prog w = .ok (.tuple #[.string s, .bool (Maps.has N (.int .i64 id))]) w ∧ N.atKey (.int .i64 id) (.lit (.string [])) = .lit (.string s.data.toList) := by
  obtain ⟨v, ps, hrun, hv⟩ := h.look_ok law3 Ybaf.underlying42 (zero9 w) (plainElem_string Ybaf.underlying9 (Nat.zero_le _)) (keyOf_int_mk Ybaf.underlying3 hx)
  obtain ⟨s, rfl, hc, _⟩ := plainElem_string_inv Ybaf.underlying9 hv
  simp only [Prod.mk.injEq] at hc
  exact ⟨s, hrun, hc.1⟩

/-- 'v, ok := b.types[name]'. -/
theorem look_name {w : World} {b n : Nat} {T : DataW Unit} (h : w.ownsMap Ybaf.prog 9 (plainElem Ybaf.prog 3) b n T) (name : ByteArray) (hx : name.size ≤ maxLen) :
    ∃ x : Int, (Instr.lookup 41 (.map (some b)) (.string name) true).run Ybaf.prog w = .ok (.tuple #[.int .i64 x, .bool (Maps.has T (.string name.data.toList))]) w ∧ T.atKey (.string name.data.toList) (.lit (.int .i64 0)) = .lit (.int .i64 x) := by
  obtain ⟨v, ps, hrun, hv⟩ := h.look_ok law9 Ybaf.underlying41 (zero3 w) (plainElem_int Ybaf.underlying3 (by decide)) (keyOf_string_mk Ybaf.underlying9 hx)
  obtain ⟨x, rfl, hc, _⟩ := plainElem_int_inv Ybaf.underlying3 hv
  simp only [Prod.mk.injEq] at hc
  exact ⟨x, hrun, hc.1⟩

end Go.Proofs.YbulkdygFmt
