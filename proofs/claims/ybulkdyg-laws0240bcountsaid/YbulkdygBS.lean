/-
  LawS0240BCount: the call's own memory: what each step does to it (no walk here).
-/
import Derived.Test.YbulkdygBP
import Derived.Deep.OwnRows
import Derived.Laws.CopyRow
import Derived.Laws.IdiomCopy
namespace Go.Proofs.Ybulkdyg.BC
open Go.RowKit Go.Maps Go.Deep

theorem Yba.info3 : (Yba.prog.info? 3).map (fun i => (i.zero, i.size, i.bytes)) = some (some (.int .i64 0), 1, 8) := by kernel_rfl
theorem Yba.info25 : (Yba.prog.info? 25).map (fun i => (i.zero, i.size, i.bytes)) = some (some (.pointer none), 1, 8) := by kernel_rfl

/-- Loop 1, one store. -/
theorem step1 {w wr w1 : World} {k n3 : Nat} {C D : Nat → Int} {x : Int} {t : ByteArray} (hx : x = D k) (ht : t = cl n3 C k) (hmc : wr.cell? ⟨w.heap.size + 1, 11, none⟩ = some (.map (some w.heap.size))) (hnx : Below w.heap.size w wr) (hsz : w.heap.size + 2 ≤ wr.heap.size)
    (hown1 : w1.ownsMap Yba.prog 3 (plainElem Yba.prog 9) w.heap.size (k + 1) ((Dm (cl n3 C) D k).put (.int .i64 x) (.lit (.string t.data.toList)))) (hg : wr.grownBy w1 (some w.heap.size)) :
    w1.ownsMap Yba.prog 3 (plainElem Yba.prog 9) w.heap.size (k + 1) (Dm (cl n3 C) D (k + 1)) ∧ w1.cell? ⟨w.heap.size + 1, 11, none⟩ = some (.map (some w.heap.size)) ∧ Below w.heap.size w w1 ∧ w.heap.size + 2 ≤ w1.heap.size := by
  subst hx ht
  refine ⟨hown1, hg.cell hmc (by simp), hnx.grown hg (by omega) (fun j hj => by cases hj; exact Nat.le_refl _), ?_⟩
  have := hg.size
  omega

/-- The call's own memory behind the bucket's making. -/
structure St (w wc : World) (n2 : Nat) (M : DataW Unit) (bi bc bb n0 : Nat) (fi fc : Nat → Value) : Prop where
  own : wc.ownsMap Yba.prog 3 (plainElem Yba.prog 9) w.heap.size n2 M
  mc : wc.cell? ⟨w.heap.size + 1, 11, none⟩ = some (.map (some w.heap.size))
  bel : Below w.heap.size w wc
  ri : wc.rowIs bi 3 n0 fi
  rc : wc.rowIs bc 25 n0 fc
  c6 : wc.cell? ⟨bb, 6, none⟩ = some (.slice (some ⟨bi, 0, none⟩) n0 n0)
  c8 : wc.cell? ⟨bb, 8, none⟩ = some (.slice (some ⟨bc, 0, none⟩) n0 n0)
  gi : w.heap.size + 2 ≤ bi
  gc : w.heap.size + 2 ≤ bc
  gb : w.heap.size + 2 ≤ bb
  nic : bi ≠ bc
  nib : bi ≠ bb
  ncb : bc ≠ bb

theorem cell_push {u : World} {o : Array Value} {t : TypeId} {i : Nat} {v : Value} (h : o[i]? = some v) : (u.alloc (.cells o t)).cell? ⟨u.heap.size, i, none⟩ = some v := by
  have hb := blk_alloc_new u (.cells o t)
  simp only [World.cell?, hb, h]
  rfl

theorem mkA {w wr : World} {n2 n0 : Nat} {M : DataW Unit} (hown : wr.ownsMap Yba.prog 3 (plainElem Yba.prog 9) w.heap.size n2 M) (hmc : wr.cell? ⟨w.heap.size + 1, 11, none⟩ = some (.map (some w.heap.size))) (hnx : Below w.heap.size w wr) (hsz : w.heap.size + 2 ≤ wr.heap.size)
    (o : Array Value) (h6 : o[6]? = some (.slice (some ⟨wr.heap.size, 0, none⟩) n0 n0)) (h8 : o[8]? = some (.slice (some ⟨wr.heap.size + 1, 0, none⟩) n0 n0)) :
    St w (((wr.alloc (.cells (madeCells #[.int .i64 0] n0) 3)).alloc (.cells (madeCells #[.pointer none] n0) 25)).alloc (.cells o 64)).drew n2 M wr.heap.size (wr.heap.size + 1) (wr.heap.size + 1 + 1) n0 (fun _ => .int .i64 0) (fun _ => .pointer none) := by
  have s1 := nblk_alloc wr (.cells (madeCells #[.int .i64 0] n0) 3)
  have s2 := nblk_alloc (wr.alloc (.cells (madeCells #[.int .i64 0] n0) 3)) (.cells (madeCells #[.pointer none] n0) 25)
  have hri := ((World.rowIs_made wr (.int .i64 0) n0 3).alloc (.cells (madeCells #[.pointer none] n0) 25)).alloc (.cells o 64)
  have hrc := (World.rowIs_made (wr.alloc (.cells (madeCells #[.int .i64 0] n0) 3)) (.pointer none) n0 25).alloc (.cells o 64)
  have k6 := cell_push (u := (wr.alloc (.cells (madeCells #[.int .i64 0] n0) 3)).alloc (.cells (madeCells #[.pointer none] n0) 25)) (t := 64) h6
  have k8 := cell_push (u := (wr.alloc (.cells (madeCells #[.int .i64 0] n0) 3)).alloc (.cells (madeCells #[.pointer none] n0) 25)) (t := 64) h8
  rw [s2, s1] at k6 k8
  rw [s1] at hrc
  have hb3 : Below wr.heap.size wr (((wr.alloc (.cells (madeCells #[.int .i64 0] n0) 3)).alloc (.cells (madeCells #[.pointer none] n0) 25)).alloc (.cells o 64)) := (((Below.refl _ _).alloc (Nat.le_refl _) _).alloc (by omega) _).alloc (by omega) _
  exact ⟨((hown.alloc _).alloc _).alloc _, (hb3.cell (p := ⟨w.heap.size + 1, 11, none⟩) (by show w.heap.size + 1 < _; omega)).trans hmc, (hnx.trans (hb3.mono (by omega))).drew, hri, hrc, k6, k8, by omega, by omega, by omega, by omega, by omega, by omega⟩

theorem mkB {w wr : World} {n2 n0 : Nat} {M : DataW Unit} (hown : wr.ownsMap Yba.prog 3 (plainElem Yba.prog 9) w.heap.size n2 M) (hmc : wr.cell? ⟨w.heap.size + 1, 11, none⟩ = some (.map (some w.heap.size))) (hnx : Below w.heap.size w wr) (hsz : w.heap.size + 2 ≤ wr.heap.size)
    (o : Array Value) (h6 : o[6]? = some (.slice (some ⟨wr.heap.size + 1, 0, none⟩) n0 n0)) (h8 : o[8]? = some (.slice (some ⟨wr.heap.size, 0, none⟩) n0 n0)) :
    St w (((wr.alloc (.cells (madeCells #[.pointer none] n0) 25)).alloc (.cells (madeCells #[.int .i64 0] n0) 3)).alloc (.cells o 64)).drew n2 M (wr.heap.size + 1) wr.heap.size (wr.heap.size + 1 + 1) n0 (fun _ => .int .i64 0) (fun _ => .pointer none) := by
  have s1 := nblk_alloc wr (.cells (madeCells #[.pointer none] n0) 25)
  have s2 := nblk_alloc (wr.alloc (.cells (madeCells #[.pointer none] n0) 25)) (.cells (madeCells #[.int .i64 0] n0) 3)
  have hrc := ((World.rowIs_made wr (.pointer none) n0 25).alloc (.cells (madeCells #[.int .i64 0] n0) 3)).alloc (.cells o 64)
  have hri := (World.rowIs_made (wr.alloc (.cells (madeCells #[.pointer none] n0) 25)) (.int .i64 0) n0 3).alloc (.cells o 64)
  have k6 := cell_push (u := (wr.alloc (.cells (madeCells #[.pointer none] n0) 25)).alloc (.cells (madeCells #[.int .i64 0] n0) 3)) (t := 64) h6
  have k8 := cell_push (u := (wr.alloc (.cells (madeCells #[.pointer none] n0) 25)).alloc (.cells (madeCells #[.int .i64 0] n0) 3)) (t := 64) h8
  rw [s2, s1] at k6 k8
  rw [s1] at hri
  have hb3 : Below wr.heap.size wr (((wr.alloc (.cells (madeCells #[.pointer none] n0) 25)).alloc (.cells (madeCells #[.int .i64 0] n0) 3)).alloc (.cells o 64)) := (((Below.refl _ _).alloc (Nat.le_refl _) _).alloc (by omega) _).alloc (by omega) _
  exact ⟨((hown.alloc _).alloc _).alloc _, (hb3.cell (p := ⟨w.heap.size + 1, 11, none⟩) (by show w.heap.size + 1 < _; omega)).trans hmc, (hnx.trans (hb3.mono (by omega))).drew, hri, hrc, k6, k8, by omega, by omega, by omega, by omega, by omega, by omega⟩

/-- 'copy' of a whole slice that came in into a row of the call's own, of the same length. -/
theorem copy_run {w : World} {g n b off c : Nat} {f v : Nat → Value} {sp : Option Addr} (hrow : w.rowIs g 3 n f) (src : Row w sp n b off v) (h1 : ∀ j, (v j).oneCell' = true) (ty : TypeId) :
    ∃ w', (Builtin.copy_ #[46, 46] ty #[.slice (some ⟨g, 0, none⟩) n n, .slice sp n c]).run Yba.prog w = .ok (goInt n) w' ∧ w'.rowIs g 3 n v ∧ w.grownBy w' (some g) := by
  have hsz : (Yba.prog.info? 3).map (·.size) = some 1 := by kernel_rfl
  by_cases h0 : n = 0
  · subst h0
    obtain ⟨cu, hb, hc, _⟩ := hrow
    exact ⟨w, run_copy_none (P := Yba.prog) w 46 46 ty 3 _ _ _ _ _ _ Yba.underlying46 hsz rfl, ⟨cu, hb, hc, fun i hi => by omega⟩, World.grownBy.refl _ _⟩
  · obtain ⟨cu, hb, hc, _⟩ := hrow
    have hcs : ((List.range n).map v).length = n := by simp
    have hr := run_copy_row (P := Yba.prog) w 46 46 ty 3 g 0 n n ⟨b, off, none⟩ n c cu 3 ((List.range n).map v) Yba.underlying46 hsz hb (by rw [hcs]; simp) (by
      intro j u hj
      have hjn : j < n := by have := (List.getElem?_eq_some_iff.1 hj).1; simpa using this
      simp [hjn] at hj
      subst hj
      rw [Addr.add_lit]
      exact src.cell j hjn) (by rw [hcs, hc]; omega) (by
      intro u hu
      obtain ⟨j, _, rfl⟩ := List.mem_map.1 hu
      exact h1 j)
    rw [← src.head (by omega)] at hr
    refine ⟨_, by rw [hr, hcs], ⟨_, setRow_heap w g _ _ 3 _ hb, ?_, ?_⟩, ⟨rfl, rfl, rfl, by simp [World.setRow], fun k _ hk => setRow_other w g k _ (fun e => hk (by rw [e]))⟩⟩
    · simp [hcs, hc]
    · intro i hi
      have hl : (List.map v (List.range n))[i]? = some (v i) := by simp [hi]
      have e : (List.map v (List.range n) ++ List.drop n cu.toList)[i]? = some (v i) := by rw [List.getElem?_append_left (by simpa using hi)]; exact hl
      simpa using e

section
variable {w wc : World} {n2 n0 bi bc bb : Nat} {M : DataW Unit} {fi fc : Nat → Value}

theorem St.drew (h : St w wc n2 M bi bc bb n0 fi fc) : St w wc.drew n2 M bi bc bb n0 fi fc := ⟨h.own, h.mc, h.bel.drew, h.ri, h.rc, h.c6, h.c8, h.gi, h.gc, h.gb, h.nic, h.nib, h.ncb⟩

theorem St.copied (h : St w wc n2 M bi bc bb n0 fi fc) {w1 : World} {v : Nat → Value} (hr : w1.rowIs bi 3 n0 v) (hg : wc.grownBy w1 (some bi)) : St w w1 n2 M bi bc bb n0 v fc := by
  have hi := h.gi
  have hz := h.ri.lt
  have hc := h.rc.lt
  refine ⟨h.own.kept hg (by simp; omega), hg.cell h.mc (by simp; omega), h.bel.grown hg (by omega) (fun k hk => by cases hk; omega), hr, h.rc.of_block (hg.block bc hc (by simp; exact Ne.symm h.nic)), hg.cell h.c6 (by simp; exact Ne.symm h.nib), hg.cell h.c8 (by simp; exact Ne.symm h.nib), h.gi, h.gc, h.gb, h.nic, h.nib, h.ncb⟩

theorem cell_alloc {u : World} {a : Addr} {v : Value} (o : Obj) (h : u.cell? a = some v) : (u.alloc o).cell? a = some v := by
  have : a.block < u.heap.size := by
    rcases Nat.lt_or_ge a.block u.heap.size with hlt | hge
    · exact hlt
    · simp [World.cell?, Array.getElem?_eq_none hge] at h
  exact (World.cell?_of_block (w := u) (blk_alloc_lt u o _ this)).trans h

theorem St.stored (h : St w wc n2 M bi bc bb n0 fi fc) (o : Obj) (k : Nat) (q : Value) : St w ((wc.alloc o).setCell ⟨bc, k, none⟩ q) n2 M bi bc bb n0 fi (fun j => if j = k then q else fc j) := by
  have hi := h.gi
  have hc := h.gc
  have hz := h.ri.lt
  have hx := (h.rc.alloc o).set k q
  refine ⟨(h.own.alloc o).setCell (by show w.heap.size ≠ bc; omega) q, ?_, (h.bel.alloc (by have := h.bel.size; omega) o).setCell (by show w.heap.size ≤ bc; omega) q, (h.ri.alloc o).setOther (a := ⟨bc, k, none⟩) (h.nic) q, hx, ?_, ?_, h.gi, h.gc, h.gb, h.nic, h.nib, h.ncb⟩
  · exact (World.cell?_of_block (w := wc.alloc o) (blk_setCell_other _ _ _ _ (by show w.heap.size + 1 ≠ bc; omega))).trans (cell_alloc o h.mc)
  · exact (World.cell?_of_block (w := wc.alloc o) (blk_setCell_other _ _ _ _ (Ne.symm h.ncb))).trans (cell_alloc o h.c6)
  · exact (World.cell?_of_block (w := wc.alloc o) (blk_setCell_other _ _ _ _ (Ne.symm h.ncb))).trans (cell_alloc o h.c8)
end

theorem chT {ch : Nat → Option Addr} {k n1 : Nat} {K : Nat → Bool} {ad : Addr} (h : ∀ j, (ch j).isSome = (decide (j < k) && (decide (j < n1) && K j))) (h1 : k < n1) (hK : K k = true) :
    ∀ j, (if j = k then some ad else ch j).isSome = (decide (j < k + 1) && (decide (j < n1) && K j)) := by
  intro j
  by_cases hj : j = k
  · subst hj
    simp [h1, hK]
  · rw [if_neg hj, h j]
    have : (j < k) ↔ (j < k + 1) := by omega
    simp [this]

theorem chF {ch : Nat → Option Addr} {k n1 : Nat} {K : Nat → Bool} (h : ∀ j, (ch j).isSome = (decide (j < k) && (decide (j < n1) && K j))) (hK : (decide (k < n1) && K k) = false) :
    ∀ j, (ch j).isSome = (decide (j < k + 1) && (decide (j < n1) && K j)) := by
  intro j
  rw [h j]
  by_cases hj : j = k
  · subst hj
    rw [hK]
    simp
  · have : (j < k) ↔ (j < k + 1) := by omega
    simp [this]

/-- Does item j count? -/
def pass (n1 n2 n3 : Nat) (I D C : Nat → Int) (K : Nat → Bool) (s : Int) (j : Nat) : Bool := (decide (j < n1) && K j) || (look (cl n3 C) D (I j) n2).toList == (cls s).toList

end Go.Proofs.Ybulkdyg.BC
