/-
  'Rows.LawS0240CScriptToldSaid' PROVED (a told card: fmt's text is told by the authors' own function; this law does not look at the text).
-/
import Derived.Test.YbulkdygFmtSd
import Derived.Test.YbulkdygFmtCards
import Derived.ProofKit
import Derived.OpenShut
import Derived.ShutString
import Derived.Stop.JoinedAt
import Derived.Stop.JoinedTold
import Derived.SevenToldRow
import Derived.Deep.Slices
import Derived.Deep.Strs
namespace Go.Proofs.YbulkdygFmt.Script
open Go.ChangeShapes Go.WideShapes Go.ChangeAt Go.RowKit Go.Kit Go.Deep
open Go.Extern.Stop Go.Stop Go.Extern
set_option linter.unusedVariables false

theorem own : ownKnob Ybaf.prog.godebug = none := by kernel_rfl
theorem cells29 : Ybaf.prog.cellsOf 29 = 3 := by kernel_rfl
theorem cells5 : Ybaf.prog.cellsOf 5 = 1 := by kernel_rfl
theorem cells27 : Ybaf.prog.cellsOf 27 = 1 := by kernel_rfl
theorem u8_bounds {x : Int} (h : (Lit.int .u8 x).wf = true) : 0 ≤ x ∧ x ≤ 255 := by
  have hmin : IntKind.u8.min = 0 := rfl
  have hmax : IntKind.u8.max = 255 := rfl
  simp only [Lit.wf, Bool.and_eq_true, decide_eq_true_eq] at h
  omega
theorem u16_bounds {x : Int} (h : (Lit.int .u16 x).wf = true) : 0 ≤ x ∧ x ≤ 65535 := by
  have hmin : IntKind.u16.min = 0 := rfl
  have hmax : IntKind.u16.max = 65535 := rfl
  simp only [Lit.wf, Bool.and_eq_true, decide_eq_true_eq] at h
  omega

theorem picked {α β : Type} {p : α → β → Prop} (h : ∀ a, ∃ b, p a b) : ∃ f : α → β, ∀ a, p a (f a) := ⟨fun a => Classical.choose (h a), fun a => Classical.choose_spec (h a)⟩

set_option maxRecDepth 100000 in
/-- A script that came in, whatever its address. -/
theorem open_ops {H : Type} {enc : TypeId × Value → H} {W : World} {a : Option Addr} {len cap fuel : Nat} {x : DataW H × List MemPlace} (h : DataW.trod enc Ybaf.prog W 0 (fun _ => true) true fuel 22 (Value.slice a len cap).cells.toList = some x) :
    ∃ (b off : Nat) (I N A : Nat → Int), Ops W a len b off I N A ∧ (∀ j, 0 ≤ I j ∧ I j ≤ 255) ∧ (∀ j, 0 ≤ N j ∧ N j ≤ 255) ∧ ∀ j, 0 ≤ A j ∧ A j ≤ 65535 := by
  rcases open_slice Ybaf.underlying22 h with ⟨hcs, _⟩ | ⟨y, l, c, m, n, D, Pl, hcs, _, hl, _, hm, _, hx⟩
  · simp [Value.cells] at hcs
    obtain ⟨rfl, rfl, rfl⟩ := hcs
    exact ⟨0, 0, fun _ => 0, fun _ => 0, fun _ => 0, ⟨fun h => absurd h (Nat.lt_irrefl _), fun j hj => absurd hj (Nat.not_lt_zero _), fun j hj => absurd hj (Nat.not_lt_zero _), fun j hj => absurd hj (Nat.not_lt_zero _)⟩, fun _ => by simp, fun _ => by simp, fun _ => by simp⟩
  · simp [Value.cells] at hcs
    obtain ⟨rfl, rfl, rfl⟩ := hcs
    simp only [if_true] at hm
    have each : ∀ i, ∃ q : Int × Int × Int, ((0 ≤ q.1 ∧ q.1 ≤ 255) ∧ (0 ≤ q.2.1 ∧ q.2.1 ≤ 255) ∧ (0 ≤ q.2.2 ∧ q.2.2 ≤ 65535)) ∧ (i < len → W.cell? (y.add (i * 3)) = some (.int .u8 q.1) ∧ W.cell? (y.add (i * 3 + 1)) = some (.int .u8 q.2.1) ∧ W.cell? (y.add (i * 3 + 2)) = some (.int .u16 q.2.2)) := by
      intro i
      by_cases hi : i < len
      · obtain ⟨cs', h1, h2⟩ := hx i (by omega)
        rw [cells29] at h1
        obtain ⟨_, hlen, hcell⟩ := World.cells?_some h1
        obtain ⟨y0, y1, y2, k, _, _, g0, g1, g2⟩ := trod_struct3 Ybaf.underlying29 h2
        match cs', hlen with
        | [v0, v1, v2], _ =>
          simp [cells5, cells27] at g0 g1 g2
          obtain ⟨z0, e0, _, w0⟩ := DataW.trod_int Ybaf.underlying5 g0
          obtain ⟨z1, e1, _, w1⟩ := DataW.trod_int Ybaf.underlying5 g1
          obtain ⟨z2, e2, _, w2⟩ := DataW.trod_int Ybaf.underlying27 g2
          simp at e0 e1 e2
          subst e0 e1 e2
          have c0 := hcell 0 (by omega)
          have c1 := hcell 1 (by omega)
          have c2 := hcell 2 (by omega)
          rw [add_add] at c0 c1 c2
          exact ⟨(z0, z1, z2), ⟨u8_bounds w0, u8_bounds w1, u16_bounds w2⟩, fun _ => ⟨by simpa using c0, by simpa using c1, by simpa using c2⟩⟩
      · exact ⟨(0, 0, 0), by simp, fun h => absurd h hi⟩
    obtain ⟨q, hq⟩ := picked each
    have hsp : 0 < len → y = ⟨y.block, y.off, none⟩ := fun h0 => by
      have hs := World.cell?_spot ((hq 0).2 h0).1
      obtain ⟨b, off, spot⟩ := y
      have : spot = none := by simpa [Addr.add] using hs
      subst this
      rfl
    refine ⟨y.block, y.off, fun i => (q i).1, fun i => (q i).2.1, fun i => (q i).2.2, ⟨fun h => by rw [← hsp h], fun j hj => ?_, fun j hj => ?_, fun j hj => ?_⟩, fun j => (hq j).1.1, fun j => (hq j).1.2.1, fun j => (hq j).1.2.2⟩
    · have := ((hq j).2 hj).1
      rw [hsp (by omega), Addr.add_lit] at this
      exact this
    · have := ((hq j).2 hj).2.1
      rw [hsp (by omega), Addr.add_lit] at this
      exact this
    · have := ((hq j).2 hj).2.2
      rw [hsp (by omega), Addr.add_lit] at this
      exact this

set_option maxRecDepth 100000 in
/-- A script of more than 1024 steps: the law says nothing. -/
theorem walk_big (a : Option Addr) (len cap : Nat) (w : World) (h : 1024 < len) : Calls Ybaf.prog 3 #[.slice a len cap] w fun e w' => e = .returned (.bool true) ∧ Below w.heap.size w w' := by
  have d0 : decide ((1024 : Int) < (len : Int)) = true := decide_eq_true (by omega)
  go_enter Ybaf.func3, Ybaf.ntmps3
  go_wp2
  go_ret
  exact ⟨rfl, Below.refl _ _⟩

theorem laidOut : laidOutB Ybaf.pinned.checked.prog = true := by kernel_rfl

set_option maxRecDepth 100000 in
theorem lifted (os : Os) (started : os.Started) (H : Type) (enc : TypeId × Value → H) :
    ReturnsInTold none {} Ybaf.checked os 3 .any Input.okWide ((OpenSpec.ofChange Rows.lawS0240CScriptSpec).preRow enc Ybaf.prog Ybaf.f3 [] false []) (fun F => ((OpenSpec.ofChange Rows.lawS0240CScriptSpec).at F).post enc Ybaf.prog Ybaf.f3 false true false false) (aloneAtReturn Ybaf.prog) nothingAlways := by
  refine returnsInTold_of_row (C := Ybaf.checked) (s := OpenSpec.ofChange Rows.lawS0240CScriptSpec) (by kernel_rfl) own started (by kernel_rfl) Ybaf.func3
    (OpenSpec.witness_stopped (enc := enc) (C := Ybaf.checked) false ⟨#[], #[.slice none 0 0], []⟩ 8 (by kernel_rfl) (by kernel_rfl) (by kernel_rfl) (by kernel_rfl)) ?_
  intro F W base args ds gs before _ hF hval0 hW _ _ _ _ _
  have hval : ∀ (j : Nat) t v, Ybaf.f3.params[j]? = some t → args[j]? = some v → Value.okWide Ybaf.prog W .any base t v := hval0
  have hW' := hW
  obtain ⟨p, q, hA0, hV, rfl, hfz, hnd⟩ := hW
  have hA : DataW.TrodAll enc Ybaf.prog W 0 (fun _ => true) true Ybaf.f3.params.toList args.toList ds p := hA0
  rw [Ybaf.params3] at hA hval
  obtain ⟨v0, d0, rfl, rfl, h0⟩ := trodAll_one hA
  obtain ⟨rfl, rfl⟩ := trodVars_none hV
  obtain ⟨a, len, cap, rfl⟩ := okWide_slice Ybaf.underlying22 (hval 0 22 v0 rfl rfl)
  have k0 := h0
  have lt0 : ∀ x ∈ p, x.block < W.heap.size := by obtain ⟨m, hm⟩ := k0; exact DataW.trod_lt m _ _ _ hm
  obtain ⟨f0, g0⟩ := h0
  obtain ⟨b, off, I, N, A, hO, hI, hN, hA'⟩ := open_ops g0
  clear hA0 hval0
  have hwalk : Calls Ybaf.prog 3 #[.slice a len cap] W fun e w' => e = .returned (.bool true) ∧ Below W.heap.size W w' := by
    by_cases hbig : 1024 < len
    · exact walk_big a len cap W hbig
    · exact script_walk a len cap b off I N A W hO hI hN hA' (by omega)
  refine hwalk.mono fun e W' ⟨he, bel⟩ => ?_
  subst he
  exact ⟨_, rfl, _, _, _, [], _, [], hW', trodAll_mk1 (shut_bool Ybaf.underlying4 _), (trodAll_mk1 (Below.trod laidOut (by kernel_rfl) (of_decide_eq_true (by kernel_rfl)) k0 bel lt0)), rfl, bel.frame _, fun h => by cases h⟩

theorem stops : Ybaf.pinned.checked.prog.stops = Rows.lawS0240CScriptRow.stops := by kernel_rfl
theorem stopKnobs : Ybaf.pinned.checked.prog.stopKnobs = [] := by kernel_rfl
theorem quiet (os : Os) : Stop.quiet Ybaf.pinned.checked.prog os := by
  intro k hk
  rw [stopKnobs] at hk
  cases hk

/-- THE STATEMENT. -/
theorem proved : Rows.LawS0240CScriptToldSaid :=
  Claim7.holds_of_told_any (c := Rows.lawS0240CScriptRow) 3 Ybaf.f3 _ [] [] (true, Rows.lawS0240CScriptCard.stood.harness.2) true false (by kernel_rfl) rfl rfl rfl laidOut (by kernel_rfl) rfl ⟨rfl, rfl, rfl, rfl, rfl, rfl, rfl⟩ rfl rfl (by kernel_rfl) (by kernel_rfl) Ybaf.func3 (by kernel_rfl)
    (of_decide_eq_true (by kernel_rfl)) (of_decide_eq_true (by kernel_rfl)) stops.symm rfl stopKnobs.symm (by kernel_rfl)
    (by kernel_rfl) (by kernel_rfl) (by kernel_rfl) (by kernel_rfl) (by kernel_rfl) (by kernel_rfl) (by kernel_rfl) (by kernel_rfl) (by kernel_rfl) rfl (by kernel_rfl) rfl rfl
    rfl rfl
    rfl (by kernel_rfl) (by kernel_rfl) (by kernel_rfl) (by decide) (by kernel_rfl)
    (OpenClaim.moreEntering_of (by kernel_rfl) (by kernel_rfl) (by kernel_rfl) (by kernel_rfl) (by kernel_rfl) (by kernel_rfl) (by kernel_rfl) (by kernel_rfl) (by kernel_rfl) (by kernel_rfl))
    ⟨_, WideRow.started_initial, quiet _⟩
    (fun os started _ H enc _ => lifted os started H enc)

#print axioms proved
end Go.Proofs.YbulkdygFmt.Script
