/-
  LawS0240CScript: the script's memory; typ, taken, with what it leaves alone; the script as it came in.
-/
import Derived.Test.YbulkdygFmtSb
import Derived.Deep.OwnRows
namespace Go.Proofs.YbulkdygFmt
open Go.RowKit Go.Maps Go.Deep
open Go.WideMaps (keyOf_string_mk)

set_option maxRecDepth 100000 in
set_option maxHeartbeats 800000 in
theorem typ_ok2 (s : Nat) (file name : ByteArray) (id ln : Int) (n : Nat) (T N : DataW Unit) (w : World) (hB : Bld s w file n T N) (h : 0 ≤ id) (hw : (Lit.int .i64 id).wf = true) (hz : name.size ≤ maxLen) (hn : n ≤ 100000) (hN : Maps.has N (.int .i64 id) = false) (hT : Maps.has T (.string name.data.toList) = false) :
    Calls Ybaf.prog 9 #[.pointer (some ⟨s + 15, 0, none⟩), .int .i64 id, .string name, .int .i64 ln] w fun e w' =>
      e = .returned .nilIface ∧ Bld s w' file (n + 1) (T.put (.string name.data.toList) (.lit (.int .i64 id))) (N.put (.int .i64 id) (.lit (.string name.data.toList))) ∧ Below s w w' ∧ ∀ k, s + 16 ≤ k → k < w.heap.size → w'.heap[k]? = w.heap[k]? := by
  obtain ⟨v, hl, _⟩ := look_id hB.oN id hw
  obtain ⟨x, hm, _⟩ := look_name hB.oT name hz
  rw [hN] at hl
  rw [hT] at hm
  have hs := hB.sz
  have c1 := hB.c1
  have c6 := hB.c6
  have m2 := hB.m2
  have t1 : ∀ w1, w.grownBy w1 (some (s + 11)) → w1.cell? ⟨s + 15, 1, none⟩ = some (.pointer (some ⟨s + 7, 0, none⟩)) := fun w1 g => g.cell hB.c1 (by simp)
  have t2 : ∀ w1, w.grownBy w1 (some (s + 11)) → w1.cell? ⟨s + 7, 8, none⟩ = some (.map (some (s + 1))) := fun w1 g => g.cell hB.m2 (by simp)
  have t3 : ∀ w1, w.grownBy w1 (some (s + 11)) → w1.ownsMap Ybaf.prog 3 (plainElem Ybaf.prog 9) (s + 1) n N := fun w1 g => hB.oN.kept g (by simp)
  go_enter Ybaf.func9, Ybaf.ntmps9
  go_wp2_with (first | (go_at_call 11; refine (checkID_ok _ _ _ _ _ (by omega)).mono ?_; rintro e w' ⟨rfl, rfl⟩) | (at_mapUpdate; refine wpList_mapUpdate_own _ rfl (.tmp 59) (.tmp 60) (.tmp 61) 41 rfl 9 3 law9 Ybaf.underlying41 _ (s + 11) n _ rfl hB.oT (by unfold maxLen; omega) _ _ _ rfl rfl (keyOf_string_mk Ybaf.underlying9 hz) _ [] (plainElem_int Ybaf.underlying3 hw) ?_; intro w1 o1 g1; have u1 := t1 w1 g1; have u2 := t2 w1 g1; have u3 := t3 w1 g1) | (at_mapUpdate; refine wpList_mapUpdate_own _ rfl (.tmp 68) (.tmp 69) (.tmp 70) 42 rfl 3 9 law3 Ybaf.underlying42 _ (s + 1) n _ rfl u3 (by unfold maxLen; omega) _ _ _ rfl rfl (keyOf_int_mk Ybaf.underlying3 hw) _ [] (plainElem_string Ybaf.underlying9 hz) ?_; intro w2 o2 g2))
  go_ret
  have z1 := g1.size
  exact ⟨rfl, put_bld hB o1 g1 o2 g2, ((Below.refl s w).grown g1 (by omega) (fun k hk => by cases hk; omega)).grown g2 (by omega) (fun k hk => by cases hk; omega), fun k h1 h2 => (g2.block k (by omega) (by simp; omega)).trans (g1.block k h2 (by simp; omega))⟩

/-- THE SCRIPT's MEMORY. -/
structure Scr (w0 w : World) (vi vn : Value) (ps : List (Int × ByteArray)) : Prop where
  bld : Bld w0.heap.size w ⟨#[102]⟩ ps.length (Tm ps) (Nm ps)
  oi : w.ownsRow (w0.heap.size + 16) 3 1 vi ps.length (ps.map fun p => .int .i64 p.1)
  on : w.ownsRow (w0.heap.size + 16) 9 1 vn ps.length (ps.map fun p => .string p.2)
  bel : Below w0.heap.size w0 w
  prs : Prs ps

theorem ownsRow_heap {w w' : World} {base : Nat} {e : TypeId} {v : Value} {n : Nat} {xs : List Value} (h : w.ownsRow base e 1 v n xs) (hk : ∀ k, base ≤ k → k < w.heap.size → w'.heap[k]? = w.heap[k]?) : w'.ownsRow base e 1 v n xs := by
  obtain ⟨h1, h2⟩ := h
  refine ⟨h1, ?_⟩
  rcases h2 with h2 | ⟨g, cap, cur, e1, e2, e3, e4⟩
  · exact .inl h2
  · exact .inr ⟨g, cap, cur, e1, e2, (hk g e2 (Array.getElem?_eq_some_iff.1 e3).1).trans e3, e4⟩

section
variable {w0 w w' : World} {vi vn : Value} {ps : List (Int × ByteArray)}

theorem Scr.below (h : Scr w0 w vi vn ps) (hb : Below w.heap.size w w') : Scr w0 w' vi vn ps :=
  ⟨h.bld.below hb h.bld.sz, ownsRow_heap h.oi (fun k _ hk => hb.block k hk), ownsRow_heap h.on (fun k _ hk => hb.block k hk), h.bel.trans (hb.mono h.bel.size), h.prs⟩

theorem row_of {base : Nat} {e : TypeId} {v : Value} {n : Nat} {xs : List Value} (h : w.ownsRow base e 1 v n xs) : ∃ ao cap g, v = .slice ao n cap ∧ Row w ao n g 0 (fun j => xs.getD j undef) := by
  obtain ⟨h1, h2⟩ := h
  rcases h2 with ⟨e, h0⟩ | ⟨g, cap, cur, e, _, h4, h5, _, h6, h7⟩
  · exact ⟨none, 0, 0, by rw [e, h0], ⟨fun hh => by omega, fun j hj => by omega⟩⟩
  · refine ⟨some ⟨g, 0, none⟩, cap, g, e, ⟨fun _ => rfl, fun j hj => ?_⟩⟩
    rw [Nat.zero_add]
    refine cell_of_heap h4 ?_
    have e2 : (cur.toList.take (n * 1))[j]? = xs[j]? := by rw [h7]
    rw [List.getElem?_take, if_pos (by omega)] at e2
    rw [← Array.getElem?_toList, e2, List.getD, List.getElem?_eq_getElem (by omega)]
    rfl

theorem getD_int (ps : List (Int × ByteArray)) (j : Nat) (hj : j < ps.length) : (ps.map fun p => Value.int .i64 p.1).getD j undef = .int .i64 ((ps.map (·.1)).getD j 0) := by simp [List.getD, hj]
theorem getD_str (ps : List (Int × ByteArray)) (j : Nat) (hj : j < ps.length) : (ps.map fun p => Value.string p.2).getD j undef = .string ((ps.map (·.2)).getD j ⟨#[]⟩) := by simp [List.getD, hj]

theorem Scr.ids (h : Scr w0 w vi vn ps) : ∃ ao cap g, vi = .slice ao ps.length cap ∧ Row w ao ps.length g 0 (fun j => .int .i64 ((ps.map (·.1)).getD j 0)) := by
  obtain ⟨ao, cap, g, e, r⟩ := row_of h.oi
  exact ⟨ao, cap, g, e, ⟨r.head, fun j hj => by rw [r.cell j hj, getD_int ps j hj]⟩⟩
theorem Scr.names (h : Scr w0 w vi vn ps) : ∃ ao cap g, vn = .slice ao ps.length cap ∧ Row w ao ps.length g 0 (fun j => .string ((ps.map (·.2)).getD j ⟨#[]⟩)) := by
  obtain ⟨ao, cap, g, e, r⟩ := row_of h.on
  exact ⟨ao, cap, g, e, ⟨r.head, fun j hj => by rw [r.cell j hj, getD_str ps j hj]⟩⟩

theorem mem_getD {α : Type} (l : List α) (d x : α) : x ∈ l ↔ ∃ j, j < l.length ∧ l.getD j d = x := by
  constructor
  · intro h
    obtain ⟨j, hj, e⟩ := List.getElem_of_mem h
    exact ⟨j, hj, by simp [List.getD, hj, e]⟩
  · rintro ⟨j, hj, e⟩
    rw [← e, List.getD, List.getElem?_eq_getElem hj]
    exact List.getElem_mem hj

/-- typ HAS TAKEN A PAIR; both slices are appended to. -/
theorem Scr.taken (h : Scr w0 w vi vn ps) {p : Int × ByteArray} {w1 w2 w3 : World} {vi' vn' : Value} {o1 o2 : Obj} (h1 : p.1 ∉ ps.map (·.1)) (h2 : p.2 ∉ ps.map (·.2)) (hw : (Lit.int .i64 p.1).wf = true) (hz : p.2.size ≤ maxLen)
    (hB : Bld w0.heap.size w1 ⟨#[102]⟩ (ps.length + 1) ((Tm ps).put (.string p.2.data.toList) (.lit (.int .i64 p.1))) ((Nm ps).put (.int .i64 p.1) (.lit (.string p.2.data.toList)))) (hb1 : Below w0.heap.size w w1)
    (hoi : w2.ownsRow (w0.heap.size + 16) 3 1 vi' (ps.length + 1) ((ps.map fun p => .int .i64 p.1) ++ [.int .i64 p.1])) (g2 : (w1.alloc o1).grownBy w2 vi.ownBlock)
    (hon : w3.ownsRow (w0.heap.size + 16) 9 1 vn' (ps.length + 1) ((ps.map fun p => .string p.2) ++ [.string p.2])) (g3 : (w2.alloc o2).grownBy w3 vn.ownBlock) (hne : ∀ k, vi'.ownBlock = some k → some k ≠ vn.ownBlock) : Scr w0 w3 vi' vn' (ps ++ [p]) := by
  have s1 := hB.sz
  have s2 := g2.size
  have s3 := g3.size
  rw [nblk_alloc] at s2 s3
  have bi := fun k hk => (h.oi.lt k hk).1
  have bn := fun k hk => (h.on.lt k hk).1
  have b2 : Below (w0.heap.size + 16) w1 w2 := ((Below.refl _ _).alloc (by omega) _).grown g2 (by rw [nblk_alloc]; omega) bi
  have b3 : Below (w0.heap.size + 16) w2 w3 := ((Below.refl _ _).alloc (by omega) _).grown g3 (by rw [nblk_alloc]; omega) bn
  have hB3 := (hB.below b2 (Nat.le_refl _)).below b3 (Nat.le_refl _)
  refine ⟨?_, ?_, ?_, ?_, prs_snoc h.prs h1 h2 hw hz⟩
  · rw [List.length_append, Tm_snoc, Nm_snoc]
    exact hB3
  · rw [List.length_append, List.map_append]
    obtain ⟨e1, e2⟩ := hoi
    refine ⟨e1, ?_⟩
    rcases e2 with e2 | ⟨g, cap, cur, f1, f2, f3, f4⟩
    · exact .inl e2
    · have hlt := (Array.getElem?_eq_some_iff.1 f3).1
      refine .inr ⟨g, cap, cur, f1, f2, ?_, f4⟩
      rw [g3.block g (by rw [nblk_alloc]; omega) (hne g (by rw [f1]; rfl)), blk_alloc_lt _ _ _ hlt]
      exact f3
  · rw [List.length_append, List.map_append]
    exact hon
  · exact ((h.bel.trans hb1).trans (b2.mono (by omega))).trans (b3.mono (by omega))
end

/-- THE SCRIPT AS IT CAME IN: three cells a step. -/
structure Ops (w : World) (a : Option Addr) (len b off : Nat) (I N A : Nat → Int) : Prop where
  head : 0 < len → a = some ⟨b, off, none⟩
  c0 : ∀ j, j < len → w.cell? ⟨b, off + j * 3, none⟩ = some (.int .u8 (I j))
  c1 : ∀ j, j < len → w.cell? ⟨b, off + j * 3 + 1, none⟩ = some (.int .u8 (N j))
  c2 : ∀ j, j < len → w.cell? ⟨b, off + j * 3 + 2, none⟩ = some (.int .u16 (A j))

theorem size29 (u : World) : (sizeOf 29).run Ybaf.prog u = .ok 3 u := by kernel_rfl
theorem Ops.index {w : World} {a : Option Addr} {len b off : Nat} {I N A : Nat → Int} (h : Ops w a len b off I N A) (cap : Nat) {j : Nat} (hj : j < len) (u : World) :
    (Instr.indexAt 22 (.slice a len cap) (.int .i64 (j : Int))).run Ybaf.prog u = .ok (.pointer (some ⟨b, off + j * 3, none⟩)) u := by
  have hel : Ybaf.prog.elem 22 = 29 := by simp [Program.elem, Ybaf.underlying22]
  rw [h.head (by omega), run_indexAt_slice (h := by rw [hel]; exact Ybaf.underlying22), if_pos (by omega), hel, size29]
  simp only [Result.andThen, Int.toNat_natCast]
  rw [Addr.add_lit]
theorem Ops.below {w w' : World} {a : Option Addr} {len b off : Nat} {I N A : Nat → Int} (h : Ops w a len b off I N A) {B : Nat} (hb : Below B w w') (hB : w.heap.size ≤ B) : Ops w' a len b off I N A := by
  have hc : ∀ (i : Nat) (v : Value), w.cell? ⟨b, i, none⟩ = some v → w'.cell? ⟨b, i, none⟩ = some v := fun i v hv => (hb.cell (p := ⟨b, i, none⟩) (Nat.lt_of_lt_of_le (lt_of_cell hv) hB)).trans hv
  exact ⟨h.head, fun j hj => hc _ _ (h.c0 j hj), fun j hj => hc _ _ (h.c1 j hj), fun j hj => hc _ _ (h.c2 j hj)⟩

end Go.Proofs.YbulkdygFmt
