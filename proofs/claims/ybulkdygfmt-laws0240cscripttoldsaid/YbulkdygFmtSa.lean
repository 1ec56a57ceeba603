/-
  LawS0240CScript: THE PLAIN PART: the pairs taken, the two maps as data.
-/
import Derived.Test.YbulkdygFmtOne
namespace Go.Proofs.YbulkdygFmt
open Go.RowKit Go.Maps

/-- The map of names -> ids, of ids -> names, behind the pairs taken. -/
def Tm (ps : List (Int × ByteArray)) : DataW Unit := ps.foldl (fun m p => m.put (.string p.2.data.toList) (.lit (.int .i64 p.1))) (.map [])
def Nm (ps : List (Int × ByteArray)) : DataW Unit := ps.foldl (fun m p => m.put (.int .i64 p.1) (.lit (.string p.2.data.toList))) (.map [])
theorem Tm_snoc (ps : List (Int × ByteArray)) (p : Int × ByteArray) : Tm (ps ++ [p]) = (Tm ps).put (.string p.2.data.toList) (.lit (.int .i64 p.1)) := by simp [Tm, List.foldl_append]
theorem Nm_snoc (ps : List (Int × ByteArray)) (p : Int × ByteArray) : Nm (ps ++ [p]) = (Nm ps).put (.int .i64 p.1) (.lit (.string p.2.data.toList)) := by simp [Nm, List.foldl_append]

theorem skey (s : ByteArray) : WideAt.IsKeyLit (.string s.data.toList) := trivial
theorem ikey (x : Int) : WideAt.IsKeyLit (.int .i64 x) := trivial
theorem sne {a b : ByteArray} (h : a ≠ b) : (Lit.string a.data.toList) ≠ .string b.data.toList := fun e => h (bytes_ext (Lit.string.inj e))
theorem ine {a b : Int} (h : a ≠ b) : (Lit.int .i64 a) ≠ .int .i64 b := fun e => h (Lit.int.inj e).2

/-- What is known of the pairs behind any number of rounds. -/
structure Prs (ps : List (Int × ByteArray)) : Prop where
  tT : Tidy (Tm ps)
  tN : Tidy (Nm ps)
  hT : ∀ nm, Maps.has (Tm ps) (.string nm.data.toList) = true ↔ nm ∈ ps.map (·.2)
  hN : ∀ id, Maps.has (Nm ps) (.int .i64 id) = true ↔ id ∈ ps.map (·.1)
  zT : Maps.size (Tm ps) = ps.length
  zN : Maps.size (Nm ps) = ps.length
  aT : ∀ p ∈ ps, ∀ z, (Tm ps).atKey (.string p.2.data.toList) z = .lit (.int .i64 p.1)
  aN : ∀ p ∈ ps, ∀ z, (Nm ps).atKey (.int .i64 p.1) z = .lit (.string p.2.data.toList)
  wf : ∀ p ∈ ps, (Lit.int .i64 p.1).wf = true ∧ p.2.size ≤ maxLen

theorem prs_nil : Prs [] :=
  ⟨tidy_empty, tidy_empty, fun _ => by simp [Tm, Maps.has], fun _ => by simp [Nm, Maps.has], rfl, rfl, fun p hp => absurd hp (by simp), fun p hp => absurd hp (by simp), fun p hp => absurd hp (by simp)⟩

theorem prs_snoc {ps : List (Int × ByteArray)} (h : Prs ps) {p : Int × ByteArray} (h1 : p.1 ∉ ps.map (·.1)) (h2 : p.2 ∉ ps.map (·.2)) (hw : (Lit.int .i64 p.1).wf = true) (hz : p.2.size ≤ maxLen) : Prs (ps ++ [p]) := by
  have fT : Maps.has (Tm ps) (.string p.2.data.toList) = false := by
    cases e : Maps.has (Tm ps) (.string p.2.data.toList)
    · rfl
    · exact absurd ((h.hT _).1 e) h2
  have fN : Maps.has (Nm ps) (.int .i64 p.1) = false := by
    cases e : Maps.has (Nm ps) (.int .i64 p.1)
    · rfl
    · exact absurd ((h.hN _).1 e) h1
  constructor
  · rw [Tm_snoc]
    exact h.tT.put (skey _) _
  · rw [Nm_snoc]
    exact h.tN.put (ikey _) _
  · intro nm
    rw [Tm_snoc, List.map_append, List.mem_append]
    by_cases e : nm = p.2
    · subst e
      simp [has_put_same h.tT.isMap (skey p.2)]
    · rw [has_put_other (sne e), h.hT nm]
      simp [e]
  · intro id
    rw [Nm_snoc, List.map_append, List.mem_append]
    by_cases e : id = p.1
    · subst e
      simp [has_put_same h.tN.isMap (ikey p.1)]
    · rw [has_put_other (ine e), h.hN id]
      simp [e]
  · rw [Tm_snoc, size_put h.tT, fT, h.zT]
    simp
  · rw [Nm_snoc, size_put h.tN, fN, h.zN]
    simp
  · intro q hq z
    rw [Tm_snoc]
    rcases List.mem_append.1 hq with hq | hq
    · have hne : q.2 ≠ p.2 := fun e => h2 (e ▸ List.mem_map.2 ⟨q, hq, rfl⟩)
      rw [atKey_put_other (sne hne)]
      exact h.aT q hq z
    · simp at hq
      subst hq
      exact atKey_put_same h.tT.isMap (skey _) _ _
  · intro q hq z
    rw [Nm_snoc]
    rcases List.mem_append.1 hq with hq | hq
    · have hne : q.1 ≠ p.1 := fun e => h1 (e ▸ List.mem_map.2 ⟨q, hq, rfl⟩)
      rw [atKey_put_other (ine hne)]
      exact h.aN q hq z
    · simp at hq
      subst hq
      exact atKey_put_same h.tN.isMap (ikey _) _ _
  · intro q hq
    rcases List.mem_append.1 hq with hq | hq
    · exact h.wf q hq
    · simp at hq
      subst hq
      exact ⟨hw, hz⟩

/-- The look-ups of the law's second loop. -/
theorem look_T {s : Nat} {w : World} {file : ByteArray} {n : Nat} {ps : List (Int × ByteArray)} (hB : Bld s w file n (Tm ps) (Nm ps)) (hp : Prs ps) {p : Int × ByteArray} (h : p ∈ ps) :
    (Instr.lookup 41 (.map (some (s + 11))) (.string p.2) true).run Ybaf.prog w = .ok (.tuple #[.int .i64 p.1, .bool true]) w := by
  obtain ⟨x, hl, hx⟩ := look_name hB.oT p.2 (hp.wf p h).2
  rw [hp.aT p h] at hx
  rw [hl, (hp.hT p.2).2 (List.mem_map.2 ⟨p, h, rfl⟩), (Lit.int.inj (DataW.lit.inj hx)).2]
theorem look_N {s : Nat} {w : World} {file : ByteArray} {n : Nat} {ps : List (Int × ByteArray)} (hB : Bld s w file n (Tm ps) (Nm ps)) (hp : Prs ps) {p : Int × ByteArray} (h : p ∈ ps) :
    (Instr.lookup 42 (.map (some (s + 1))) (.int .i64 p.1) true).run Ybaf.prog w = .ok (.tuple #[.string p.2, .bool true]) w := by
  obtain ⟨x, hl, hx⟩ := look_id hB.oN p.1 (hp.wf p h).1
  rw [hp.aN p h] at hx
  rw [hl, (hp.hN p.1).2 (List.mem_map.2 ⟨p, h, rfl⟩), bytes_ext (Lit.string.inj (DataW.lit.inj hx))]

/-- The three maps that stay empty. -/
theorem len_empty {w : World} {b t k e : Nat} (ht : Ybaf.prog.underlying t = some (.map k e)) (h : w.heap[b]? = some (.map #[] 0)) (ty : TypeId) : (Builtin.len_ #[t] ty #[.map (some b)]).run Ybaf.prog w = .ok (.int .i64 0) w := by
  have ho : w.ownsMap Ybaf.prog k (unitElem (H := Unit)) b 0 (.map []) := by
    obtain ⟨es, clock, hh, r⟩ := World.ownsMap_made (H := Unit) w Ybaf.prog k unitElem
    have e : (w.alloc (.map #[] 0)).heap[w.heap.size]? = some (.map #[] 0) := Deep.blk_alloc_new _ _
    rw [e] at hh
    cases hh
    exact ⟨_, _, h, r⟩
  exact ho.len ht ty
end Go.Proofs.YbulkdygFmt
