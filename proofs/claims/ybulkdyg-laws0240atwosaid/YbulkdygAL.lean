/-
  A placement IN MEMORY: its walks, its buckets. No walk of the text here.
-/
import Derived.Test.YbulkdygAT
import Derived.OneCell
import Derived.LaidEqlPtr
namespace Go.Proofs.Ybulkdyg.AL
open Go.RowKit Go.Deep
set_option linter.unusedVariables false

/-- A walk's record: its bucket's block, its own, its order's; how many swaps are done. -/
structure WR where
  bb : Nat
  wb : Nat
  ob : Nat
  m : Nat
def WR.ptr (r : WR) : Value := .pointer (some ⟨r.wb, 0, none⟩)

theorem heap_ne {w : World} {b b' : Nat} {c c' : Array Value} {t t' : TypeId} (h : w.heap[b]? = some (.cells c t (0, 0))) (h' : w.heap[b']? = some (.cells c' t' (0, 0))) (ht : t ≠ t') : b ≠ b' := by
  intro e
  subst e
  rw [h] at h'
  injection h' with h2
  injection h2 with _ h3
  exact ht h3

structure Pl (B : Nat) (w : World) (pb : Nat) (x : Int) (nf : Nat → Nat) (idf : Nat → Int) (BS : Nat → Prop) (sv : Value) (ws : List WR) : Prop where
  hp : ∃ c, w.heap[pb]? = some (.cells c 36 (0, 0)) ∧ c[0]? = some (.int .u32 x) ∧ c[10]? = some sv
  own : w.ownsRow B 42 1 sv ws.length (ws.map WR.ptr)
  wk : ∀ r ∈ ws, Wk w r.bb r.wb r.ob (nf r.bb) x (idf r.bb) r.m ∧ r.m ≤ nf r.bb ∧ BS r.bb ∧ B ≤ r.wb ∧ B ≤ r.ob
  bk : ∀ bb, BS bb → ∃ c a cap, w.heap[bb]? = some (.cells c 64 (0, 0)) ∧ c[0]? = some (.int .i64 (idf bb)) ∧ c[6]? = some (.slice a (nf bb) cap)
  pw : ws.Pairwise (fun r s => r.bb ≠ s.bb ∧ r.wb ≠ s.wb ∧ r.ob ≠ s.ob)
  gp : B ≤ pb

section
variable {B : Nat} {w w' : World} {pb : Nat} {x : Int} {nf : Nat → Nat} {idf : Nat → Int} {BS : Nat → Prop} {sv sv' : Value} {ws : List WR}

theorem Pl.bucket (h : Pl B w pb x nf idf BS sv ws) {bb : Nat} (hb : BS bb) : ∃ a cap, w.cell? ⟨bb, 0, none⟩ = some (.int .i64 (idf bb)) ∧ w.cell? ⟨bb, 6, none⟩ = some (.slice a (nf bb) cap) := by
  obtain ⟨c, a, cap, h1, h2, h3⟩ := h.bk bb hb
  exact ⟨a, cap, cell_of_heap h1 h2, cell_of_heap h1 h3⟩

theorem Pl.keep (h : Pl B w pb x nf idf BS sv ws) (hk : ∀ (k : Nat) (c : Array Value) (t : TypeId), t ≠ 42 → t ≠ 36 → w.heap[k]? = some (Obj.cells c t (0, 0)) → w'.heap[k]? = some (Obj.cells c t (0, 0)))
    (hp : ∃ c, w'.heap[pb]? = some (.cells c 36 (0, 0)) ∧ c[0]? = some (.int .u32 x) ∧ c[10]? = some sv') (ho : w'.ownsRow B 42 1 sv' ws.length (ws.map WR.ptr)) : Pl B w' pb x nf idf BS sv' ws := by
  refine ⟨hp, ho, fun r hr => ?_, fun bb hb => ?_, h.pw, h.gp⟩
  · obtain ⟨hW, h2⟩ := h.wk r hr
    refine ⟨⟨hk _ _ 41 (by decide) (by decide) hW.blk, ?_, hW.nwo⟩, h2⟩
    obtain ⟨c, e1, e2, e3⟩ := hW.row
    exact ⟨c, hk _ _ 21 (by decide) (by decide) e1, e2, e3⟩
  · obtain ⟨c, a, cap, h1, h2⟩ := h.bk bb hb
    exact ⟨c, a, cap, hk _ _ 64 (by decide) (by decide) h1, h2⟩

/-- Nothing that was there has turned. -/
theorem Pl.below (h : Pl B w pb x nf idf BS sv ws) {B' : Nat} (hb : Below B' w w') (hB : w.heap.size ≤ B') : Pl B w' pb x nf idf BS sv ws := by
  have hk : ∀ k o, w.heap[k]? = some o → w'.heap[k]? = some o := fun k o hv => (hb.block k (Nat.lt_of_lt_of_le (Array.getElem?_eq_some_iff.1 hv).1 hB)).trans hv
  refine h.keep (fun k c t _ _ hv => hk k _ hv) ?_ ?_
  · obtain ⟨c, h1, h2⟩ := h.hp
    exact ⟨c, hk _ _ h1, h2⟩
  · obtain ⟨h1, h2⟩ := h.own
    refine ⟨h1, ?_⟩
    rcases h2 with h2 | ⟨g, cap, cur, e1, e2, e3, e4⟩
    · exact .inl h2
    · exact .inr ⟨g, cap, cur, e1, e2, hk _ _ e3, e4⟩

/-- ONE WALK HAS GONE ON. -/
theorem Pl.walked (h : Pl B w pb x nf idf BS sv ws) {i : Nat} {r : WR} (hi : ws[i]? = some r) {m' : Nat} (hm : m' ≤ nf r.bb) (hT : Turn (fun k => k = r.wb ∨ k = r.ob) w w') (hW : Wk w' r.bb r.wb r.ob (nf r.bb) x (idf r.bb) m') :
    Pl B w' pb x nf idf BS sv (ws.set i { r with m := m' }) := by
  have hlt : i < ws.length := (List.getElem?_eq_some_iff.1 hi).1
  have hri : ws[i] = r := (List.getElem?_eq_some_iff.1 hi).2
  have hrm : r ∈ ws := hri ▸ List.getElem_mem hlt
  obtain ⟨hW0, _, hBS, g1, g2⟩ := h.wk r hrm
  obtain ⟨co, ro, _, _⟩ := hW0.row
  have hptr : (ws.set i { r with m := m' }).map WR.ptr = ws.map WR.ptr := by
    rw [List.map_set]
    apply List.ext_getElem?
    intro k
    rw [List.getElem?_set]
    split
    · rename_i e
      subst e
      simp [hlt, hri, WR.ptr]
    · rfl
  have hkeep : ∀ (k : Nat) (c : Array Value) (t : TypeId), w.heap[k]? = some (Obj.cells c t (0, 0)) → k ≠ r.wb → k ≠ r.ob → w'.heap[k]? = some (Obj.cells c t (0, 0)) := fun k c t hv n1 n2 => hT.heap hv (by simp; omega)
  refine ⟨?_, ?_, ?_, ?_, ?_, h.gp⟩
  · obtain ⟨c, h1, h2⟩ := h.hp
    exact ⟨c, hkeep _ _ _ h1 (heap_ne h1 hW0.blk (by decide)) (heap_ne h1 ro (by decide)), h2⟩
  · rw [hptr, List.length_set]
    obtain ⟨h1, h2⟩ := h.own
    refine ⟨h1, ?_⟩
    rcases h2 with h2 | ⟨g, cap, cur, e1, e2, e3, e4⟩
    · exact .inl h2
    · exact .inr ⟨g, cap, cur, e1, e2, hkeep _ _ _ e3 (heap_ne e3 hW0.blk (by decide)) (heap_ne e3 ro (by decide)), e4⟩
  · intro s hs
    obtain ⟨k, hk, e⟩ := List.getElem_of_mem hs
    rw [List.length_set] at hk
    rw [List.getElem_set] at e
    split at e
    · subst e
      exact ⟨hW, hm, hBS, g1, g2⟩
    · rename_i hne
      subst e
      obtain ⟨hW1, h2⟩ := h.wk ws[k] (List.getElem_mem hk)
      obtain ⟨c1, r1, r2, r3⟩ := hW1.row
      have hd : ws[k].wb ≠ r.wb ∧ ws[k].ob ≠ r.ob := by
        rcases Nat.lt_or_gt_of_ne hne with hl | hg
        · have := List.pairwise_iff_getElem.1 h.pw i k hlt hk hl
          rw [hri] at this
          exact ⟨this.2.1.symm, this.2.2.symm⟩
        · have := List.pairwise_iff_getElem.1 h.pw k i hk hlt hg
          rw [hri] at this
          exact ⟨this.2.1, this.2.2⟩
      exact ⟨⟨hkeep _ _ _ hW1.blk hd.1 (heap_ne hW1.blk ro (by decide)), ⟨c1, hkeep _ _ _ r1 (heap_ne r1 hW0.blk (by decide)) hd.2, r2, r3⟩, hW1.nwo⟩, h2⟩
  · intro bb hb
    obtain ⟨c, a, cap, h1, h2⟩ := h.bk bb hb
    exact ⟨c, a, cap, hkeep _ _ _ h1 (heap_ne h1 hW0.blk (by decide)) (heap_ne h1 ro (by decide)), h2⟩
  · rw [List.pairwise_iff_getElem]
    intro p q hp hq hpq
    rw [List.length_set] at hp hq
    have hh := List.pairwise_iff_getElem.1 h.pw p q hp hq hpq
    rw [List.getElem_set, List.getElem_set]
    split
    · rename_i e
      subst e
      rw [hri] at hh
      split
      · omega
      · exact hh
    · split
      · rename_i e
        subst e
        rw [hri] at hh
        exact hh
      · exact hh

theorem set_bbs {i : Nat} {r : WR} (hi : ws[i]? = some r) (m' : Nat) : (ws.set i { r with m := m' }).map (·.bb) = ws.map (·.bb) := by
  have hlt : i < ws.length := (List.getElem?_eq_some_iff.1 hi).1
  have hri : ws[i] = r := (List.getElem?_eq_some_iff.1 hi).2
  rw [List.map_set]
  apply List.ext_getElem?
  intro k
  rw [List.getElem?_set]
  split
  · rename_i e
    subst e
    simp [hlt, hri]
  · rfl

/-- The slice of walks, as the walk of the text reads it. -/
theorem Pl.slice (h : Pl B w pb x nf idf BS sv ws) : ∃ ao cap g, sv = .slice ao ws.length cap ∧ BC.Row w ao ws.length g 0 (fun i => ((ws[i]?).map WR.ptr).getD undef) := by
  obtain ⟨h1, h2⟩ := h.own
  rcases h2 with ⟨e, h0⟩ | ⟨g, cap, cur, e, _, h4, h5, _, h6, h7⟩
  · exact ⟨none, 0, 0, by rw [e, h0], ⟨fun hh => by omega, fun j hj => by omega⟩⟩
  · refine ⟨some ⟨g, 0, none⟩, cap, g, e, ⟨fun _ => rfl, fun j hj => ?_⟩⟩
    rw [Nat.zero_add]
    refine cell_of_heap h4 ?_
    have e2 : (cur.toList.take (ws.length * 1))[j]? = (ws.map WR.ptr)[j]? := by rw [h7]
    rw [List.getElem?_take, if_pos (by omega)] at e2
    rw [← Array.getElem?_toList, e2]
    simp [hj]
end

section
variable {B : Nat} {w1 w2 : World} {pb : Nat} {x : Int} {nf : Nat → Nat} {idf : Nat → Int} {BS : Nat → Prop} {sv v' : Value} {ws : List WR}

theorem ownBlock_row {w : World} {B : Nat} {v : Value} {n : Nat} {xs : List Value} (h : w.ownsRow B 42 1 v n xs) {k : Nat} (hk : v.ownBlock = some k) : ∃ c, w.heap[k]? = some (.cells c 42 (0, 0)) := by
  obtain ⟨_, h2⟩ := h
  rcases h2 with ⟨e, _⟩ | ⟨g, cap, cur, e, _, h4, _⟩
  · rw [e] at hk
    cases hk
  · rw [e] at hk
    cases hk
    exact ⟨cur, h4⟩

/-- A NEW WALK IS APPENDED AND STORED. -/
theorem Pl.added (h : Pl B w1 pb x nf idf BS sv ws) {bb wb ob : Nat} (hW : Wk w1 bb wb ob (nf bb) x (idf bb) 0) (hBS : BS bb) (gw : B ≤ wb) (go : B ≤ ob)
    (hfresh : ∀ r ∈ ws, r.bb ≠ bb ∧ r.wb ≠ wb ∧ r.ob ≠ ob) (o : Obj) (hg : (w1.alloc o).grownBy w2 sv.ownBlock) (ho : w2.ownsRow B 42 1 v' (ws.length + 1) (ws.map WR.ptr ++ [.pointer (some ⟨wb, 0, none⟩)])) :
    Pl B (w2.setCell ⟨pb, 10, none⟩ v') pb x nf idf BS v' (ws ++ [⟨bb, wb, ob, 0⟩]) := by
  have hk1 : ∀ (k : Nat) (c : Array Value) (t : TypeId), t ≠ 42 → w1.heap[k]? = some (Obj.cells c t (0, 0)) → w2.heap[k]? = some (Obj.cells c t (0, 0)) := fun k c t h42 hv => by
    have hlt : k < w1.heap.size := (Array.getElem?_eq_some_iff.1 hv).1
    refine (hg.block k (by rw [nblk_alloc]; omega) (fun e => ?_)).trans ((blk_alloc_lt _ _ _ hlt).trans hv)
    obtain ⟨c', h'⟩ := ownBlock_row h.own e.symm
    exact heap_ne hv h' h42 rfl
  obtain ⟨cp, p1, p2, p3⟩ := h.hp
  have q1 := hk1 _ _ _ (by decide) p1
  have hk : ∀ (k : Nat) (c : Array Value) (t : TypeId), t ≠ 42 → t ≠ 36 → w1.heap[k]? = some (Obj.cells c t (0, 0)) → (w2.setCell ⟨pb, 10, none⟩ v').heap[k]? = some (Obj.cells c t (0, 0)) := fun k c t h42 h36 hv => by
    have h2 := hk1 k c t h42 hv
    rw [blk_setCell_other _ _ _ _ (heap_ne h2 q1 h36)]
    exact h2
  have ho' : (w2.setCell ⟨pb, 10, none⟩ v').ownsRow B 42 1 v' (ws.length + 1) (ws.map WR.ptr ++ [.pointer (some ⟨wb, 0, none⟩)]) := by
    obtain ⟨h1, h2⟩ := ho
    refine ⟨h1, ?_⟩
    rcases h2 with h2 | ⟨g, cap, cur, e1, e2, e3, e4⟩
    · exact .inl h2
    · exact .inr ⟨g, cap, cur, e1, e2, by rw [blk_setCell_other _ _ _ _ (heap_ne e3 q1 (by decide))]; exact e3, e4⟩
  have hsz : 10 < cp.size := by
    rcases Nat.lt_or_ge 10 cp.size with l | g
    · exact l
    · rw [Array.getElem?_eq_none g] at p3
      cases p3
  refine ⟨⟨cp.setIfInBounds 10 v', heap_setCell q1 _, ?_, ?_⟩, ?_, ?_, ?_, ?_, h.gp⟩
  · rw [Array.getElem?_setIfInBounds, if_neg (by decide)]
    exact p2
  · simp [hsz]
  · rw [List.length_append, List.map_append]
    exact ho'
  · intro r hr
    rcases List.mem_append.1 hr with hr | hr
    · obtain ⟨hWr, h2⟩ := h.wk r hr
      obtain ⟨c, e1, e2, e3⟩ := hWr.row
      exact ⟨⟨hk _ _ 41 (by decide) (by decide) hWr.blk, ⟨c, hk _ _ 21 (by decide) (by decide) e1, e2, e3⟩, hWr.nwo⟩, h2⟩
    · simp at hr
      subst hr
      obtain ⟨c, e1, e2, e3⟩ := hW.row
      exact ⟨⟨hk _ _ 41 (by decide) (by decide) hW.blk, ⟨c, hk _ _ 21 (by decide) (by decide) e1, e2, e3⟩, hW.nwo⟩, Nat.zero_le _, hBS, gw, go⟩
  · intro bb' hb
    obtain ⟨c, a, cap, h1, h2⟩ := h.bk bb' hb
    exact ⟨c, a, cap, hk _ _ 64 (by decide) (by decide) h1, h2⟩
  · rw [List.pairwise_append]
    exact ⟨h.pw, List.pairwise_singleton _ _, fun r hr s hs => by simp at hs; subst hs; exact hfresh r hr⟩
end

/-! ### Two buckets' pointers, compared -/
theorem size64 : (Yba.prog.info? 64).map (·.size) = some 13 := by kernel_rfl
theorem info64 : ∃ j, Yba.prog.info? 64 = some j ∧ j.size ≠ 0 := by
  obtain ⟨j, h1, h2⟩ := Option.map_eq_some_iff.1 size64
  exact ⟨j, h1, by omega⟩
theorem eq_same (b : Nat) (w : World) : (binOp .eql 25 (.pointer (some ⟨b, 0, none⟩)) (.pointer (some ⟨b, 0, none⟩))).run Yba.prog w = .ok (.bool true) w := by
  obtain ⟨j, h1, _⟩ := info64
  exact run_eql_ptr_same w _ Yba.underlying25 h1
theorem eq_other {w : World} {b b' : Nat} {c c' : Array Value} (hne : b ≠ b') (h : w.heap[b]? = some (.cells c 64 (0, 0))) (h' : w.heap[b']? = some (.cells c' 64 (0, 0))) : (binOp .eql 25 (.pointer (some ⟨b, 0, none⟩)) (.pointer (some ⟨b', 0, none⟩))).run Yba.prog w = .ok (.bool false) w := by
  obtain ⟨j, h1, h2⟩ := info64
  exact run_eql_ptr_other w Yba.underlying25 h1 h2 (fun e => hne (by injection e)) h h'
theorem neq_same (b : Nat) (w : World) : (binOp .neq 25 (.pointer (some ⟨b, 0, none⟩)) (.pointer (some ⟨b, 0, none⟩))).run Yba.prog w = .ok (.bool false) w := by
  obtain ⟨j, h1, h2⟩ := info64
  have h : ∀ d : Nat, (Op.equalIn (d + 1) 25 (.pointer (some ⟨b, 0, none⟩)) (.pointer (some ⟨b, 0, none⟩))).run Yba.prog w = .ok true w := fun d => by
    simp [Op.equalIn, run_underlying Yba.underlying25, sizeOf, typeInfo, h1, run_sameAddr_same]
  simp only [binOp]
  simp [Op.equal, Op.maxDepth, h 9999]
theorem neq_other {w : World} {b b' : Nat} {c c' : Array Value} (hne : b ≠ b') (hb : w.heap[b]? = some (.cells c 64 (0, 0))) (hb' : w.heap[b']? = some (.cells c' 64 (0, 0))) : (binOp .neq 25 (.pointer (some ⟨b, 0, none⟩)) (.pointer (some ⟨b', 0, none⟩))).run Yba.prog w = .ok (.bool true) w := by
  obtain ⟨j, h1, h2⟩ := info64
  have hn : (⟨b, 0, none⟩ : Addr) ≠ ⟨b', 0, none⟩ := fun e => hne (by injection e)
  have h : ∀ d : Nat, (Op.equalIn (d + 1) 25 (.pointer (some ⟨b, 0, none⟩)) (.pointer (some ⟨b', 0, none⟩))).run Yba.prog w = .ok false w := fun d => by
    simp [Op.equalIn, run_underlying Yba.underlying25, sizeOf, typeInfo, h1, h2, run_sameAddr_other w hn hb hb']
  simp only [binOp]
  simp [Op.equal, Op.maxDepth, h 9999]

theorem Pl.eq_other {B : Nat} {w : World} {pb : Nat} {x : Int} {nf : Nat → Nat} {idf : Nat → Int} {BS : Nat → Prop} {sv : Value} {ws : List WR} (h : Pl B w pb x nf idf BS sv ws) {b b' : Nat} (hb : BS b) (hb' : BS b') (hne : b ≠ b') :
    (binOp .eql 25 (.pointer (some ⟨b, 0, none⟩)) (.pointer (some ⟨b', 0, none⟩))).run Yba.prog w = .ok (.bool false) w := by
  obtain ⟨c, _, _, h1, _⟩ := h.bk b hb
  obtain ⟨c', _, _, h2, _⟩ := h.bk b' hb'
  exact AL.eq_other hne h1 h2
theorem Pl.neq_other {B : Nat} {w : World} {pb : Nat} {x : Int} {nf : Nat → Nat} {idf : Nat → Int} {BS : Nat → Prop} {sv : Value} {ws : List WR} (h : Pl B w pb x nf idf BS sv ws) {b b' : Nat} (hb : BS b) (hb' : BS b') (hne : b ≠ b') :
    (binOp .neq 25 (.pointer (some ⟨b, 0, none⟩)) (.pointer (some ⟨b', 0, none⟩))).run Yba.prog w = .ok (.bool true) w := by
  obtain ⟨c, _, _, h1, _⟩ := h.bk b hb
  obtain ⟨c', _, _, h2, _⟩ := h.bk b' hb'
  exact AL.neq_other hne h1 h2
end Go.Proofs.Ybulkdyg.AL
