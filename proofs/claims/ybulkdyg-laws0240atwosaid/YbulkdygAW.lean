/-
  (*placement).perm, ONE CONTRACT; zzs0240abucket; what the laws look at.
-/
import Derived.Test.YbulkdygAQ
namespace Go.Proofs.Ybulkdyg.AL
open Go.RowKit Go.Deep
set_option linter.unusedVariables false

/-- Which buckets have a walk behind the call. -/
def nextB (l : List Nat) (bb pos : Nat) : List Nat := if bb ∈ l ∨ pos < 32 then l else l ++ [bb]

section
variable {B : Nat} {w : World} {pb : Nat} {x : Int} {nf : Nat → Nat} {idf : Nat → Int} {BS : Nat → Prop} {sv : Value} {ws : List WR}

theorem pperm_any (hP : Pl B w pb x nf idf BS sv ws) (hx : 0 ≤ x) (hx' : x ≤ 4294967295) (r : Int) (hr : 0 ≤ r) (hr' : r ≤ 4294967295) (hlen : ws.length ≤ 1000) (bb : Nat) (hBS : BS bb) (hn0 : 0 < nf bb) (hn : nf bb ≤ 300) :
    Calls Yba.prog 7 #[.pointer (some ⟨pb, 0, none⟩), .pointer (some ⟨bb, 0, none⟩), .int .u32 r] w fun e w' => e = .returned (.int .i64 (item (J x (idf bb) (nf bb)) (r % (nf bb : Int)).toNat : Nat)) ∧
      (∃ sv' ws', Pl B w' pb x nf idf BS sv' ws' ∧ ws'.map (·.bb) = nextB (ws.map (·.bb)) bb (r % (nf bb : Int)).toNat) ∧ Below B w w' := by
  by_cases hin : bb ∈ ws.map (·.bb)
  · obtain ⟨q, hq, rfl⟩ := List.mem_map.1 hin
    obtain ⟨i, hi, e⟩ := List.getElem_of_mem hq
    refine (pperm_found hP hx hx' r hr hr' hlen i q (by rw [← e]; exact List.getElem?_eq_getElem hi) hBS hn0 hn).mono ?_
    rintro e w' ⟨rfl, ⟨ws', h1, h2⟩, h3⟩
    exact ⟨rfl, ⟨sv, ws', h1, by rw [h2, nextB, if_pos (.inl hin)]⟩, h3⟩
  · have hnb : ∀ q ∈ ws, q.bb ≠ bb := fun q hq e => hin (List.mem_map.2 ⟨q, hq, e⟩)
    by_cases hlow : (r % (nf bb : Int)).toNat < 32
    · refine (pperm_low hP hx hx' r hr hr' hlen bb hBS hnb hn0 hn hlow).mono ?_
      rintro e w' ⟨rfl, rfl⟩
      exact ⟨rfl, ⟨sv, ws, hP, by rw [nextB, if_pos (.inr hlow)]⟩, Below.refl _ _⟩
    · refine (pperm_new hP hx hx' r hr hr' hlen bb hBS hnb hn0 hn (by omega)).mono ?_
      rintro e w' ⟨rfl, ⟨sv', ws', h1, h2⟩, h3⟩
      exact ⟨rfl, ⟨sv', ws', h1, by rw [h2, nextB, if_neg (by intro h; rcases h with h | h; exact hin h; exact hlow h)]⟩, h3⟩

/-- One walk kept: what the law's test reads. -/
theorem Pl.one (hP : Pl B w pb x nf idf BS sv ws) {bb : Nat} (h : ws.map (·.bb) = [bb]) : ∃ ao scap g wb, w.cell? ⟨pb, 10, none⟩ = some (.slice ao 1 scap) ∧ (∀ u, (Instr.indexAt 34 (.slice ao 1 scap) (.int .i64 0)).run Yba.prog u = .ok (.pointer (some ⟨g, 0, none⟩)) u) ∧
    w.cell? ⟨g, 0, none⟩ = some (.pointer (some ⟨wb, 0, none⟩)) ∧ w.cell? ⟨wb, 0, none⟩ = some (.pointer (some ⟨bb, 0, none⟩)) ∧ w.cell? ⟨wb, 1, none⟩ = some (.int .u32 x) := by
  obtain ⟨ao, scap, g, _, k4, _, hrow⟩ := hP.read
  have hl : ws.length = 1 := by have := congrArg List.length h; simpa using this
  obtain ⟨hke, hb0, hb1⟩ := hP.kth (k := 0) (by omega)
  have hbb : ws[0].bb = bb := by
    have := congrArg (fun l => l[0]?) h
    simpa [List.getElem?_eq_getElem (show 0 < ws.length by omega)] using this
  have hix := fun u => hrow.index Yba.underlying34 size42 scap (j := 0) (by omega) u
  have hck := hrow.cell 0 (by omega)
  simp only [hke] at hck
  rw [hl] at k4 hix
  rw [hbb] at hb0
  exact ⟨ao, scap, g, ws[0].wb, k4, hix, hck, hb0, hb1⟩

/-- No walk kept. -/
theorem Pl.zero (hP : Pl B w pb x nf idf BS sv ws) (h : ws.map (·.bb) = []) : ∃ ao scap, w.cell? ⟨pb, 10, none⟩ = some (.slice ao 0 scap) := by
  obtain ⟨ao, scap, g, _, k4, _, hrow⟩ := hP.read
  have hl : ws.length = 0 := by have := congrArg List.length h; simpa using this
  rw [hl] at k4
  exact ⟨ao, scap, k4⟩

/-- A fresh placement, a bucket or two beside it. -/
theorem pl_start {W : World} {c : Array Value} (hb : W.heap[pb]? = some (.cells c 36 (0, 0))) (h0 : c[0]? = some (.int .u32 x)) (h10 : c[10]? = some (.slice none 0 0)) (gp : B ≤ pb)
    (bk : ∀ bb, BS bb → ∃ c a cap, W.heap[bb]? = some (.cells c 64 (0, 0)) ∧ c[0]? = some (.int .i64 (idf bb)) ∧ c[6]? = some (.slice a (nf bb) cap)) :
    Pl B W pb x nf idf BS (.slice none 0 0) [] :=
  ⟨⟨c, hb, h0, h10⟩, World.ownsRow_nil _ _ _ _, fun r hr => absurd hr (by simp), bk, List.Pairwise.nil, gp⟩
end

theorem Yba.info3 : (Yba.prog.info? 3).map (fun i => (i.zero, i.size, i.bytes)) = some (some (.int .i64 0), 1, 8) := by kernel_rfl

/-- The bucket's cells. -/
def bcells (id : Int) (ib n : Nat) : Array Value := #[.int .i64 id, .string ⟨#[]⟩, .string ⟨#[]⟩, .int .i64 0, .pointer none, .int .u32 0, .slice (some ⟨ib, 0, none⟩) n n, .slice none 0 0, .slice none 0 0, .slice none 0 0, .slice none 0 0, .slice none 0 0, .slice none 0 0]

set_option maxRecDepth 100000 in
set_option maxHeartbeats 800000 in
theorem bucket_any (id : Int) (n : Nat) (w : World) (hn : n ≤ 300) :
    Calls Yba.prog 6 #[.int .i64 id, .int .i64 (n : Int)] w fun e w' => e = .returned (.pointer (some ⟨w.heap.size + 1, 0, none⟩)) ∧ w' = (w.alloc (.cells (madeCells #[.int .i64 0] n) 3)).alloc (.cells (bcells id w.heap.size n) 64) := by
  have mk := fun u => run_make_row' (P := Yba.prog) 46 3 (.int .i64 0) 8 Yba.underlying46 Yba.info3 rfl .i64 .i64 n (by omega) (by omega) u
  go_enter Yba.func6, Yba.ntmps6
  go_wp2
  go_ret
  exact ⟨rfl, rfl⟩
end Go.Proofs.Ybulkdyg.AL
