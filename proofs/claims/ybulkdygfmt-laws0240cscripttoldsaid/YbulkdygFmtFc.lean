/-
  newMapBuilder BY ITS CONTRACT: the builder's memory ('Bld').
-/
import Derived.Test.YbulkdygFmtFb
import Derived.Maps.StringElems
import Derived.Deep.OwnRows
namespace Go.Proofs.YbulkdygFmt
open Go.RowKit Go.Maps Go.Deep

/-! ### Several new blocks at once -/
def allocs (w : World) : List Obj → World
  | [] => w
  | o :: r => allocs (w.alloc o) r

theorem allocs_size : ∀ (os : List Obj) (w : World), (allocs w os).heap.size = w.heap.size + os.length
  | [], _ => rfl
  | o :: r, w => by
    unfold allocs
    rw [allocs_size r, nblk_alloc, List.length_cons]
    omega

theorem allocs_old : ∀ (os : List Obj) (w : World) (k : Nat), k < w.heap.size → (allocs w os).heap[k]? = w.heap[k]?
  | [], _, _, _ => rfl
  | o :: r, w, k, h => by
    unfold allocs
    rw [allocs_old r _ k (by rw [nblk_alloc]; omega), blk_alloc_lt _ _ _ h]

theorem allocs_new : ∀ (os : List Obj) (w : World) (i : Nat) (o : Obj), os[i]? = some o → (allocs w os).heap[w.heap.size + i]? = some o
  | [], _, _, _, h => by simp at h
  | o' :: r, w, 0, o, h => by
    simp at h
    subst h
    unfold allocs
    rw [Nat.add_zero, allocs_old r _ _ (by rw [nblk_alloc]; omega), blk_alloc_new]
  | o' :: r, w, i + 1, o, h => by
    unfold allocs
    have := allocs_new r (w.alloc o') i o (by simpa using h)
    rw [nblk_alloc] at this
    rw [show w.heap.size + (i + 1) = w.heap.size + 1 + i by omega]
    exact this

theorem allocs_fields : ∀ (os : List Obj) (w : World), (allocs w os).os = w.os ∧ (allocs w os).tape = w.tape ∧ (allocs w os).output = w.output
  | [], _ => ⟨rfl, rfl, rfl⟩
  | o :: r, w => allocs_fields r (w.alloc o)

theorem allocs_below (os : List Obj) (w : World) : Below w.heap.size w (allocs w os) :=
  ⟨(allocs_fields os w).1, (allocs_fields os w).2.1, (allocs_fields os w).2.2, by rw [allocs_size]; omega, fun k hk => allocs_old os w k hk⟩

theorem cell_of_heap {w : World} {b i : Nat} {c : Array Value} {t : TypeId} {v : Value} (h : w.heap[b]? = some (.cells c t (0, 0))) (hv : c[i]? = some v) : w.cell? ⟨b, i, none⟩ = some v := by
  simp only [World.cell?, h, hv]
  rfl

/-- THE BUILDER's MEMORY: s: the heap's size when the law began. -/
structure Bld (s : Nat) (w : World) (file : ByteArray) (n : Nat) (T N : DataW Unit) : Prop where
  c0 : w.cell? ⟨s + 15, 0, none⟩ = some (.string file)
  c1 : w.cell? ⟨s + 15, 1, none⟩ = some (.pointer (some ⟨s + 7, 0, none⟩))
  c2 : w.cell? ⟨s + 15, 2, none⟩ = some (.bool false)
  c3 : w.cell? ⟨s + 15, 3, none⟩ = some (.map (some (s + 8)))
  c4 : w.cell? ⟨s + 15, 4, none⟩ = some (.map (some (s + 9)))
  c5 : w.cell? ⟨s + 15, 5, none⟩ = some (.map (some (s + 10)))
  c6 : w.cell? ⟨s + 15, 6, none⟩ = some (.map (some (s + 11)))
  m2 : w.cell? ⟨s + 7, 8, none⟩ = some (.map (some (s + 1)))
  e3 : w.heap[s + 8]? = some (.map #[] 0)
  e4 : w.heap[s + 9]? = some (.map #[] 0)
  e5 : w.heap[s + 10]? = some (.map #[] 0)
  oT : w.ownsMap Ybaf.prog 9 (plainElem Ybaf.prog 3) (s + 11) n T
  oN : w.ownsMap Ybaf.prog 3 (plainElem Ybaf.prog 9) (s + 1) n N
  sz : s + 16 ≤ w.heap.size

/-- Whatever keeps the sixteen blocks keeps the builder. -/
theorem Bld.below {s : Nat} {w w' : World} {file : ByteArray} {n : Nat} {T N : DataW Unit} (h : Bld s w file n T N) {B : Nat} (hb : Below B w w') (hB : s + 16 ≤ B) : Bld s w' file n T N := by
  have hc : ∀ (b i : Nat) (v : Value), b < s + 16 → w.cell? ⟨b, i, none⟩ = some v → w'.cell? ⟨b, i, none⟩ = some v := fun b i v hlt hv => (hb.cell (p := ⟨b, i, none⟩) (Nat.lt_of_lt_of_le hlt hB)).trans hv
  have hk : ∀ k, k < s + 16 → w'.heap[k]? = w.heap[k]? := fun k hlt => hb.block k (by omega)
  refine ⟨hc _ _ _ (by omega) h.c0, hc _ _ _ (by omega) h.c1, hc _ _ _ (by omega) h.c2, hc _ _ _ (by omega) h.c3, hc _ _ _ (by omega) h.c4, hc _ _ _ (by omega) h.c5, hc _ _ _ (by omega) h.c6, hc _ _ _ (by omega) h.m2,
    (hk _ (by omega)).trans h.e3, (hk _ (by omega)).trans h.e4, (hk _ (by omega)).trans h.e5, ?_, ?_, ?_⟩
  · obtain ⟨es, clock, hh, r⟩ := h.oT
    exact ⟨es, clock, (hk _ (by omega)).trans hh, r⟩
  · obtain ⟨es, clock, hh, r⟩ := h.oN
    exact ⟨es, clock, (hk _ (by omega)).trans hh, r⟩
  · have := hb.size
    have := h.sz
    omega

/-- The sixteen blocks. -/
def built (s : Nat) (file : ByteArray) : List Obj :=
  [.cells #[.int .i64 2, .int .i64 5, .int .i64 19, .int .i64 0, .int .i64 0, .int .i64 0, .int .i64 0] 52, .map #[] 0, .map #[] 0, .map #[] 0, .map #[] 0, .map #[] 0, .map #[] 0,
   .cells #[.int .i64 2, .int .i64 5, .int .i64 19, .int .i64 0, .int .i64 0, .int .i64 0, .int .i64 0, .slice none 0 0, .map (some (s + 1)), .map (some (s + 2)), .slice none 0 0, .map (some (s + 3)), .map (some (s + 4)), .map (some (s + 5)), .map (some (s + 6)), .bool false, .slice none 0 0] 59,
   .map #[] 0, .map #[] 0, .map #[] 0, .map #[] 0, .map #[] 0, .map #[] 0, .map #[] 0,
   .cells #[.string file, .pointer (some ⟨s + 7, 0, none⟩), .bool false, .map (some (s + 8)), .map (some (s + 9)), .map (some (s + 10)), .map (some (s + 11)), .map (some (s + 12)), .map (some (s + 13)), .map (some (s + 14)), .slice none 0 0, .pointer none, .pointer none, .int .i64 0] 50]

theorem built_bld (w : World) (file : ByteArray) : Bld w.heap.size (allocs w (built w.heap.size file)) file 0 (.map []) (.map []) := by
  have hn := fun i o h => allocs_new (built w.heap.size file) w i o h
  have h15 := hn 15 _ rfl
  have h7 := hn 7 _ rfl
  refine ⟨cell_of_heap h15 rfl, cell_of_heap h15 rfl, cell_of_heap h15 rfl, cell_of_heap h15 rfl, cell_of_heap h15 rfl, cell_of_heap h15 rfl, cell_of_heap h15 rfl, cell_of_heap h7 rfl, hn 8 _ rfl, hn 9 _ rfl, hn 10 _ rfl, ?_, ?_, ?_⟩
  · obtain ⟨es, clock, hh, r⟩ := World.ownsMap_made (H := Unit) w Ybaf.prog 9 (plainElem Ybaf.prog 3)
    have e : (w.alloc (.map #[] 0)).heap[w.heap.size]? = some (.map #[] 0) := blk_alloc_new _ _
    rw [e] at hh
    cases hh
    exact ⟨_, _, hn 11 _ rfl, r⟩
  · obtain ⟨es, clock, hh, r⟩ := World.ownsMap_made (H := Unit) w Ybaf.prog 3 (plainElem Ybaf.prog 9)
    have e : (w.alloc (.map #[] 0)).heap[w.heap.size]? = some (.map #[] 0) := blk_alloc_new _ _
    rw [e] at hh
    cases hh
    exact ⟨_, _, hn 1 _ rfl, r⟩
  · rw [allocs_size]
    exact Nat.le_refl _

set_option maxRecDepth 100000 in
set_option maxHeartbeats 800000 in
theorem tun_any (w : World) : Calls Ybaf.prog 10 #[] w fun e w' => e = .returned (.agg #[.int .i64 2, .int .i64 5, .int .i64 19, .int .i64 0, .int .i64 0, .int .i64 0, .int .i64 0]) ∧ w' = w.alloc (.cells #[.int .i64 2, .int .i64 5, .int .i64 19, .int .i64 0, .int .i64 0, .int .i64 0, .int .i64 0] 52) := by
  go_enter Ybaf.func10, Ybaf.ntmps10
  go_wp2
  exact bodyPost_ret (v := .agg #[.int .i64 2, .int .i64 5, .int .i64 19, .int .i64 0, .int .i64 0, .int .i64 0, .int .i64 0]) (by simp [results, Ybaf.results10, go_sem]) rfl ⟨rfl, rfl⟩

set_option maxRecDepth 100000 in
set_option maxHeartbeats 800000 in
theorem new_any (file : ByteArray) (w : World) : Calls Ybaf.prog 5 #[.string file] w fun e w' => e = .returned (.pointer (some ⟨w.heap.size + 15, 0, none⟩)) ∧ w' = allocs w (built w.heap.size file) := by
  have hmm := @run_makeMap Ybaf.prog
  go_enter Ybaf.func5, Ybaf.ntmps5
  go_wp2_with (go_at_call 10; refine (tun_any _).mono ?_; rintro e w' ⟨rfl, rfl⟩)
  go_ret
  exact ⟨rfl, rfl⟩

/-- newMapBuilder. -/
theorem new_bld (file : ByteArray) (w : World) : Calls Ybaf.prog 5 #[.string file] w fun e w' => e = .returned (.pointer (some ⟨w.heap.size + 15, 0, none⟩)) ∧ Bld w.heap.size w' file 0 (.map []) (.map []) ∧ Below w.heap.size w w' := by
  refine (new_any file w).mono ?_
  rintro e w' ⟨rfl, rfl⟩
  exact ⟨rfl, built_bld w file, allocs_below _ w⟩

end Go.Proofs.YbulkdygFmt
