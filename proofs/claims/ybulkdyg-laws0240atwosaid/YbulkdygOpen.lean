/-
  SLICES THAT CAME IN, OPENED INTO 'Row' (whatever their address), for the laws of this seat.
-/
import Derived.Test.YbulkdygBC
import Derived.ProofKit
import Derived.Deep.Slices
namespace Go.Proofs.Ybulkdyg.BC
open Go.ChangeShapes Go.WideShapes Go.ChangeAt Go.RowKit Go.Deep

section
variable {H : Type} {enc : TypeId × Value → H} {P : Program} {W : World} {t e : TypeId} {a : Option Addr} {len cap : Nat} {fuel : Nat} {x : DataW H × List MemPlace}

theorem wf_zero (k : IntKind) : (Lit.int k 0).wf = true := by cases k <;> decide

theorem row_ints {k : IntKind} (ht : P.underlying t = some (.slice e)) (he : P.underlying e = some (.int k)) (hc : P.cellsOf e = 1) (hf : DataW.trod enc P W 0 (fun _ => true) true fuel t (Value.slice a len cap).cells.toList = some x) :
    ∃ (b off : Nat) (I : Nat → Int), Row W a len b off (fun j => .int k (I j)) ∧ ∀ j, (Lit.int k (I j)).wf = true := by
  rcases open_ints ht he hc hf with ⟨hcs, _⟩ | ⟨y, l, c, zs, hcs, _, hl, hm, hz, _, hcell, hwz⟩
  · simp [Value.cells] at hcs
    obtain ⟨rfl, rfl, rfl⟩ := hcs
    exact ⟨0, 0, fun _ => 0, ⟨fun h => absurd h (Nat.lt_irrefl _), fun j hj => absurd hj (Nat.not_lt_zero _)⟩, fun _ => wf_zero k⟩
  · simp [Value.cells] at hcs
    obtain ⟨rfl, rfl, rfl⟩ := hcs
    simp only [if_true] at hz
    refine ⟨y.block, y.off, fun j => zs.getD j 0, ⟨fun h => ?_, fun j hj => ?_⟩, fun j => ?_⟩
    · have hs := World.cell?_spot (hcell 0 (by omega))
      obtain ⟨b, off, spot⟩ := y
      have : spot = none := by simpa [Addr.add] using hs
      subst this
      rfl
    · have hs := World.cell?_spot (hcell 0 (by omega))
      obtain ⟨b, off, spot⟩ := y
      have : spot = none := by simpa [Addr.add] using hs
      subst this
      have := hcell j (by omega)
      rw [Addr.add_lit] at this
      exact this
    · show (Lit.int k (zs.getD j 0)).wf = true
      by_cases hj : j < zs.length
      · rw [List.getD, List.getElem?_eq_getElem hj]
        exact hwz _ (List.getElem_mem hj)
      · rw [List.getD, List.getElem?_eq_none (by omega)]
        exact wf_zero k

theorem row_bools (ht : P.underlying t = some (.slice e)) (he : P.underlying e = some .bool) (hc : P.cellsOf e = 1) (hf : DataW.trod enc P W 0 (fun _ => true) true fuel t (Value.slice a len cap).cells.toList = some x) :
    ∃ (b off : Nat) (K : Nat → Bool), Row W a len b off (fun j => .bool (K j)) := by
  rcases open_slice1 ht hc hf with ⟨hcs, _⟩ | ⟨y, l, c, m, n, V, D, Pl, hcs, _, hl, _, hm, _, hx⟩
  · simp [Value.cells] at hcs
    obtain ⟨rfl, rfl, rfl⟩ := hcs
    exact ⟨0, 0, fun _ => false, ⟨fun h => absurd h (Nat.lt_irrefl _), fun j hj => absurd hj (Nat.not_lt_zero _)⟩⟩
  · simp [Value.cells] at hcs
    obtain ⟨rfl, rfl, rfl⟩ := hcs
    simp only [if_true] at hm
    refine ⟨y.block, y.off, fun j => match V j with | .bool b => b | _ => false, ⟨fun h => ?_, fun j hj => ?_⟩⟩
    · have hs := World.cell?_spot (hx 0 (by omega)).1
      obtain ⟨b, off, spot⟩ := y
      have : spot = none := by simpa [Addr.add] using hs
      subst this
      rfl
    · have hs := World.cell?_spot (hx 0 (by omega)).1
      obtain ⟨b, off, spot⟩ := y
      have : spot = none := by simpa [Addr.add] using hs
      subst this
      have h1 := (hx j (by omega)).1
      rw [Addr.add_lit] at h1
      obtain ⟨b', h2, _⟩ := DataW.trod_bool he (hx j (by omega)).2
      have h3 : V j = .bool b' := by simpa using h2
      simp only [h1, h3]
end
end Go.Proofs.Ybulkdyg.BC
