/-
  (*placement).perm BY ITS CONTRACT: where a walk for the bucket is kept; where none is and the position is low; where a walk is begun.
-/
import Derived.Test.YbulkdygAL
import Derived.Maps.AppendAt
namespace Go.Proofs.Ybulkdyg.AL
open Go.RowKit Go.Deep
set_option linter.unusedVariables false

theorem hid {p : Prop} (h : p) : Hid p := h
theorem size42 (u : World) : (sizeOf 42).run Yba.prog u = .ok 1 u := by kernel_rfl
theorem Yba.info42 : (Yba.prog.info? 42).map (fun i => (i.zero, i.size, i.bytes)) = some (some (.pointer none), 1, 8) := by kernel_rfl

section
variable {B : Nat} {w : World} {pb : Nat} {x : Int} {nf : Nat → Nat} {idf : Nat → Int} {BS : Nat → Prop} {sv : Value} {ws : List WR}

theorem pos_of (r : Int) (n : Nat) (hn : 0 < n) : ∃ pos : Nat, r % (n : Int) = (pos : Int) ∧ pos < n ∧ (r % (n : Int)).toNat = pos := by
  have h1 := Int.emod_nonneg r (show (n : Int) ≠ 0 by omega)
  have h2 := Int.emod_lt_of_pos r (show (0 : Int) < (n : Int) by omega)
  exact ⟨(r % (n : Int)).toNat, by omega, by omega, rfl⟩

theorem Pl.read (hP : Pl B w pb x nf idf BS sv ws) : ∃ ao scap g, sv = .slice ao ws.length scap ∧ w.cell? ⟨pb, 10, none⟩ = some (.slice ao ws.length scap) ∧ w.cell? ⟨pb, 0, none⟩ = some (.int .u32 x) ∧ BC.Row w ao ws.length g 0 (fun i => ((ws[i]?).map WR.ptr).getD undef) := by
  obtain ⟨ao, scap, g, hsv, hrow⟩ := hP.slice
  obtain ⟨cp, p1, p2, p3⟩ := hP.hp
  exact ⟨ao, scap, g, hsv, by rw [cell_of_heap p1 p3, hsv], cell_of_heap p1 p2, hrow⟩

/-- The k-th walk, as the walk of the text reads it. -/
theorem Pl.kth (hP : Pl B w pb x nf idf BS sv ws) {k : Nat} (hk : k < ws.length) : ((ws[k]?).map WR.ptr).getD undef = .pointer (some ⟨ws[k].wb, 0, none⟩) ∧ w.cell? ⟨ws[k].wb, 0, none⟩ = some (.pointer (some ⟨ws[k].bb, 0, none⟩)) ∧ w.cell? ⟨ws[k].wb, 1, none⟩ = some (.int .u32 x) := by
  obtain ⟨hWk, _⟩ := hP.wk ws[k] (List.getElem_mem hk)
  exact ⟨by simp [hk, WR.ptr], cell_of_heap hWk.blk rfl, cell_of_heap hWk.blk rfl⟩

theorem Pl.at (hP : Pl B w pb x nf idf BS sv ws) (hx : 0 ≤ x) (hx' : x ≤ 4294967295) {i : Nat} {q : WR} (hi : ws[i]? = some q) (hn : nf q.bb ≤ 300) (pos : Nat) (hpn : pos < nf q.bb) :
    Calls Yba.prog 12 #[.pointer (some ⟨q.wb, 0, none⟩), .int .u32 (pos : Int)] w fun e w' => e = .returned (.int .i64 (item (J x (idf q.bb) (nf q.bb)) pos : Nat)) ∧
      (∃ ws', Pl B w' pb x nf idf BS sv ws' ∧ ws'.map (·.bb) = ws.map (·.bb)) ∧ Below B w w' := by
  have hlt : i < ws.length := (List.getElem?_eq_some_iff.1 hi).1
  have hri : ws[i] = q := (List.getElem?_eq_some_iff.1 hi).2
  have hqm : q ∈ ws := hri ▸ List.getElem_mem hlt
  obtain ⟨hW, hm, hBS, gw, go⟩ := hP.wk q hqm
  obtain ⟨a, cap, c0, c6⟩ := hP.bucket hBS
  obtain ⟨cb, ab, capb, b1, b2, b3⟩ := hP.bk q.bb hBS
  obtain ⟨co, ro, _, _⟩ := hW.row
  refine (at_any q.bb q.wb q.ob (nf q.bb) cap q.m pos a x (idf q.bb) w hx hx' hn hpn hm hW c0 c6 (heap_ne b1 hW.blk (by decide)) (heap_ne b1 ro (by decide))).mono ?_
  rintro e w' ⟨rfl, hW', hT⟩
  have hz := BC.lt_of_cell (cell_of_heap (i := 0) hW.blk rfl)
  exact ⟨rfl, ⟨_, hP.walked hi (m' := max q.m (pos + 1)) (by omega) hT hW', set_bbs hi _⟩, hT.below (by omega) (fun k hk => by rcases hk with rfl | rfl <;> assumption)⟩

set_option maxRecDepth 100000 in
set_option maxHeartbeats 1600000 in
theorem pperm_found (hP : Pl B w pb x nf idf BS sv ws) (hx : 0 ≤ x) (hx' : x ≤ 4294967295) (r : Int) (hr : 0 ≤ r) (hr' : r ≤ 4294967295) (hlen : ws.length ≤ 1000) (i : Nat) (q : WR) (hi : ws[i]? = some q) (hBS : BS q.bb) (hn0 : 0 < nf q.bb) (hn : nf q.bb ≤ 300) :
    Calls Yba.prog 7 #[.pointer (some ⟨pb, 0, none⟩), .pointer (some ⟨q.bb, 0, none⟩), .int .u32 r] w fun e w' => e = .returned (.int .i64 (item (J x (idf q.bb) (nf q.bb)) (r % (nf q.bb : Int)).toNat : Nat)) ∧
      (∃ ws', Pl B w' pb x nf idf BS sv ws' ∧ ws'.map (·.bb) = ws.map (·.bb)) ∧ Below B w w' := by
  obtain ⟨pos, hpos, hpn, hpt⟩ := pos_of r (nf q.bb) hn0
  rw [hpt]
  clear hpt
  have hlt : i < ws.length := (List.getElem?_eq_some_iff.1 hi).1
  have HRI : Hid (ws[i] = q) := (List.getElem?_eq_some_iff.1 hi).2
  obtain ⟨a, cap, c0, c6⟩ := hP.bucket hBS
  obtain ⟨ao, scap, g, hsv, k4, k0, hrow⟩ := hP.read
  have hne : ¬ (nf q.bb : Int) = 0 := by omega
  have hneb : ∀ k (hk : k < ws.length), k < i → ws[k].bb ≠ q.bb := fun k hk hki => by
    have := (List.pairwise_iff_getElem.1 hP.pw k i hk hlt hki).1
    rwa [HRI.out] at this
  have HAT := hid (hP.at hx hx' hi hn pos hpn)
  clear hi hsv c0
  go_enter Yba.func7, Yba.ntmps7
  go_wp2
  try rw [hpos]
  clear hpos
  go_loopw [24] (fun v wr => ∃ k : Nat, k ≤ i ∧ v = .int .i64 (k : Int) ∧ w = wr) (fun v _ => i - (intOf v).toNat)
  case atStart => exact ⟨0, Nat.zero_le _, rfl, rfl⟩
  case round =>
    obtain ⟨k, hk, rfl, rfl⟩ := hrel
    have hkl : k < ws.length := by omega
    have hkli : (k : Int) < (ws.length : Int) := by omega
    have hix := fun u => hrow.index Yba.underlying34 size42 scap hkl u
    have hck := hrow.cell k hkl
    obtain ⟨hke, hb0, _⟩ := hP.kth hkl
    simp only [hke, Nat.zero_add] at hck hix
    clear hke
    by_cases hki : k < i
    · have heq := hP.eq_other (hP.wk ws[k] (List.getElem_mem hkl)).2.2.1 hBS (hneb k hkl hki)
      clear hneb HRI
      generalize ws[k] = rk at *
      go_wp2
      go_roundw
      case rel => exact ⟨k + 1, by omega, by go_num, by trivial⟩
      case measure => simp [intOf]; omega
    · obtain rfl : i = k := by omega
      rw [HRI.out] at hb0 hck
      have heq := eq_same q.bb w
      clear hneb HRI
      go_wp2_with fail
      refine HAT.out.mono ?_
      rintro e w' ⟨rfl, hw', hb'⟩
      go_wp2
      go_ret
      exact ⟨rfl, hw', hb'⟩
set_option maxRecDepth 100000 in
set_option maxHeartbeats 1600000 in
theorem pperm_low (hP : Pl B w pb x nf idf BS sv ws) (hx : 0 ≤ x) (hx' : x ≤ 4294967295) (r : Int) (hr : 0 ≤ r) (hr' : r ≤ 4294967295) (hlen : ws.length ≤ 1000) (bb : Nat) (hBS : BS bb) (hnb : ∀ q ∈ ws, q.bb ≠ bb) (hn0 : 0 < nf bb) (hn : nf bb ≤ 300) (hlow : (r % (nf bb : Int)).toNat < 32) :
    Calls Yba.prog 7 #[.pointer (some ⟨pb, 0, none⟩), .pointer (some ⟨bb, 0, none⟩), .int .u32 r] w fun e w' => e = .returned (.int .i64 (item (J x (idf bb) (nf bb)) (r % (nf bb : Int)).toNat : Nat)) ∧ w = w' := by
  obtain ⟨pos, hpos, hpn, hpt⟩ := pos_of r (nf bb) hn0
  rw [hpt] at hlow ⊢
  obtain ⟨a, cap, c0, c6⟩ := hP.bucket hBS
  obtain ⟨ao, scap, g, hsv, k4, k0, hrow⟩ := hP.read
  have hne : ¬ (nf bb : Int) = 0 := by omega
  have HPM := hid (perm_any bb (nf bb) cap a x (idf bb) r w hx hx' hr hr' hn0 hn c0 c6)
  rw [hpt] at HPM
  clear hpt hsv c0
  go_enter Yba.func7, Yba.ntmps7
  go_wp2
  try rw [hpos]
  clear hpos
  go_loopw [24] (fun v wr => ∃ k : Nat, k ≤ ws.length ∧ v = .int .i64 (k : Int) ∧ w = wr) (fun v _ => ws.length - (intOf v).toNat)
  case atStart => exact ⟨0, Nat.zero_le _, rfl, rfl⟩
  case round =>
    obtain ⟨k, hk, rfl, rfl⟩ := hrel
    by_cases hkl : k < ws.length
    · have hkli : (k : Int) < (ws.length : Int) := by omega
      have hix := fun u => hrow.index Yba.underlying34 size42 scap hkl u
      have hck := hrow.cell k hkl
      obtain ⟨hke, hb0, _⟩ := hP.kth hkl
      simp only [hke, Nat.zero_add] at hck hix
      clear hke
      have heq := hP.eq_other (hP.wk ws[k] (List.getElem_mem hkl)).2.2.1 hBS (hnb _ (List.getElem_mem hkl))
      clear hnb
      generalize ws[k] = rk at *
      go_wp2
      go_roundw
      case rel => exact ⟨k + 1, by omega, by go_num, by trivial⟩
      case measure => simp [intOf]; omega
    · obtain rfl : ws.length = k := by omega
      clear hnb
      go_wp2_with fail
      refine HPM.out.mono ?_
      rintro e w' ⟨rfl, rfl⟩
      go_wp2
      go_ret
      exact ⟨rfl, rfl⟩

set_option maxRecDepth 100000 in
set_option maxHeartbeats 1600000 in
theorem pperm_new (hP : Pl B w pb x nf idf BS sv ws) (hx : 0 ≤ x) (hx' : x ≤ 4294967295) (r : Int) (hr : 0 ≤ r) (hr' : r ≤ 4294967295) (hlen : ws.length ≤ 1000) (bb : Nat) (hBS : BS bb) (hnb : ∀ q ∈ ws, q.bb ≠ bb) (hn0 : 0 < nf bb) (hn : nf bb ≤ 300) (hhigh : 32 ≤ (r % (nf bb : Int)).toNat) :
    Calls Yba.prog 7 #[.pointer (some ⟨pb, 0, none⟩), .pointer (some ⟨bb, 0, none⟩), .int .u32 r] w fun e w' => e = .returned (.int .i64 (item (J x (idf bb) (nf bb)) (r % (nf bb : Int)).toNat : Nat)) ∧
      (∃ sv' ws', Pl B w' pb x nf idf BS sv' ws' ∧ ws'.map (·.bb) = ws.map (·.bb) ++ [bb]) ∧ Below B w w' := by
  obtain ⟨pos, hpos, hpn, hpt⟩ := pos_of r (nf bb) hn0
  rw [hpt] at hhigh ⊢
  clear hpt
  obtain ⟨a, cap, c0, c6⟩ := hP.bucket hBS
  obtain ⟨ao, scap, g, hsv, k4, k0, hrow⟩ := hP.read
  have hne : ¬ (nf bb : Int) = 0 := by omega
  have HNW := hid (new_any bb (nf bb) cap a x w (J x (idf bb) (nf bb)) hn c6)
  clear c0
  go_enter Yba.func7, Yba.ntmps7
  go_wp2
  try rw [hpos]
  clear hpos
  go_loopw [24] (fun v wr => ∃ k : Nat, k ≤ ws.length ∧ v = .int .i64 (k : Int) ∧ w = wr) (fun v _ => ws.length - (intOf v).toNat)
  case atStart => exact ⟨0, Nat.zero_le _, rfl, rfl⟩
  case round =>
    obtain ⟨k, hk, rfl, rfl⟩ := hrel
    by_cases hkl : k < ws.length
    · have hkli : (k : Int) < (ws.length : Int) := by omega
      have hix := fun u => hrow.index Yba.underlying34 size42 scap hkl u
      have hck := hrow.cell k hkl
      obtain ⟨hke, hb0, _⟩ := hP.kth hkl
      simp only [hke, Nat.zero_add] at hck hix
      clear hke
      have heq := hP.eq_other (hP.wk ws[k] (List.getElem_mem hkl)).2.2.1 hBS (hnb _ (List.getElem_mem hkl))
      clear hnb
      generalize ws[k] = rk at *
      go_wp2
      go_roundw
      case rel => exact ⟨k + 1, by omega, by go_num, by trivial⟩
      case measure => simp [intOf]; omega
    · obtain rfl : ws.length = k := by omega
      go_wp2_with fail
      refine HNW.out.mono ?_
      rintro e w1 ⟨rfl, hrow1, hblk1, hsz1, hb1⟩
      clear HNW
      have hP1 := hP.below hb1 (Nat.le_refl _)
      have hW1 : Wk w1 bb (w.heap.size + 1) w.heap.size (nf bb) x (idf bb) 0 := ⟨hblk1, hrow1, by omega⟩
      have hgp := hP.gp
      obtain ⟨cp, p1, p2, p3⟩ := hP1.hp
      have hpbw : pb < w.heap.size := by
        obtain ⟨c, h1, _⟩ := hP.hp
        exact (Array.getElem?_eq_some_iff.1 h1).1
      have hfresh : ∀ q ∈ ws, q.bb ≠ bb ∧ q.wb ≠ w.heap.size + 1 ∧ q.ob ≠ w.heap.size := fun q hq => by
        obtain ⟨hWq, _⟩ := hP.wk q hq
        have l1 := (Array.getElem?_eq_some_iff.1 hWq.blk).1
        have l2 := hWq.row.lt
        exact ⟨hnb q hq, by omega, by omega⟩
      have HK : Hid (∀ (o : Obj) (w2 : World), (w1.alloc o).grownBy w2 sv.ownBlock → w2.cell? ⟨pb, 10, none⟩ = some sv ∧ w2.frozen? ⟨pb, 10, none⟩ = false) := fun o w2 hg => by
        have hlt : pb < w1.heap.size := by have := hb1.size; omega
        have h2 : w2.heap[pb]? = some (.cells cp 36 (0, 0)) := (hg.block pb (by rw [nblk_alloc]; omega) (fun e => by
          obtain ⟨c', h'⟩ := ownBlock_row hP1.own e.symm
          exact heap_ne p1 h' (by decide) rfl)).trans ((blk_alloc_lt _ _ _ hlt).trans p1)
        exact ⟨cell_of_heap h2 p3, free_of_heap h2⟩
      have j4 : ∀ o, (w1.alloc o).cell? ⟨pb, 10, none⟩ = some (.slice ao ws.length scap) := fun o => by
        have := (World.cell?_of_block (w := w1) (blk_alloc_lt w1 o pb (by have := hb1.size; omega))).trans (cell_of_heap (i := 10) p1 p3)
        rw [hsv] at this
        exact this
      have j4' : w1.cell? ⟨pb, 10, none⟩ = some (.slice ao ws.length scap) := by rw [← hsv]; exact cell_of_heap p1 p3
      have HW1 := hid hW1
      have HP1 := hid hP1
      have HB1 := hid hb1
      have HSZ := hid hsz1
      have HFR := hid hfresh
      have HSV := hid hsv
      clear cp p1 p2 p3 hrow1 hblk1 hsz1 hb1 hP1 hW1 hfresh hnb hsv
      obtain ⟨i0, hi, hz0, hz1, hz2⟩ := info_parts Yba.info42
      go_wp2_with (first | (at_builtin; refine wpList_append_own _ rfl _ _ 34 rfl B 42 i0 (.pointer none) 1 8 Yba.underlying34 hi hz0 hz1 hz2 rfl (by decide) _ ws.length (ws.map WR.ptr) rfl ?q1 ⟨w1.heap.size, 0, none⟩ 1 1 [.pointer (some ⟨w.heap.size + 1, 0, none⟩)] rfl rfl ?q2 ?q3 ?q4 ?q5 ?q6 ?_))
      case q1 => rw [← HSV.out]; exact HP1.out.own.alloc _
      case q2 => exact cell_one_new _ _ _
      case q3 => intro u hu; simp at hu; subst hu; rfl
      case q4 => unfold maxLen; omega
      case q5 => omega
      case q6 => have := HB1.out.size; rw [nblk_alloc]; omega
      intro v' w2 hown' hgrow hnil
      rw [← HSV.out] at hgrow
      obtain ⟨x1, x2⟩ := HK.out _ w2 hgrow
      rw [HSV.out] at x1
      have hP2 := HP1.out.added HW1.out hBS (by omega) (by omega) HFR.out _ hgrow hown'
      have hb2 : Below B w (w2.setCell ⟨pb, 10, none⟩ v') := by
        have hz := HB1.out.size
        refine (((HB1.out.mono (by omega)).alloc (by omega) _).grown hgrow (by rw [nblk_alloc]; omega) (fun k hk => ?_)).setCell hgp _
        exact (HP1.out.own.lt k hk).1
      obtain ⟨g', cap', hv⟩ : ∃ g' cap', v' = .slice (some ⟨g', 0, none⟩) (ws.length + 1) cap' := by
        rcases hown'.2 with ⟨_, e⟩ | ⟨g', cap', _, e, _⟩
        · omega
        · exact ⟨g', cap', e⟩
      rw [hv]
      rw [hv] at hP2 hb2
      have hat := hP2.at hx hx' (i := ws.length) (q := ⟨bb, w.heap.size + 1, w.heap.size, 0⟩) (by simp) hn pos hpn
      have HAT := hid hat
      have HB2 := hid hb2
      clear hat hP2 hb2 hgrow hown' hnil hv HK HP1 HW1 HB1 HFR j4 j4' hi hz0 hz1 hz2
      go_wp2_with fail
      refine HAT.out.mono ?_
      rintro e w3 ⟨rfl, ⟨ws', hP3, hbbs⟩, hb3⟩
      have HF : Hid (∃ sv' ws', Pl B w3 pb x nf idf BS sv' ws' ∧ ws'.map (·.bb) = ws.map (·.bb) ++ [bb]) := ⟨_, ws', hP3, by rw [hbbs, List.map_append]; rfl⟩
      have HB3 := hid (HB2.out.trans hb3)
      clear hP3 hbbs hb3 HAT HB2
      go_wp2
      go_ret
      exact ⟨rfl, HF.out, HB3.out⟩
end
end Go.Proofs.Ybulkdyg.AL
