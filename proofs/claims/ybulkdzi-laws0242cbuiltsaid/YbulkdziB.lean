/-
  LawS0242CBuilt: the walk.
-/
import Derived.Test.YbulkdziA
import Derived.Laws.MakeOwn
import Derived.Laws.AppendOwn
import Derived.Maps.AppendAt
import Derived.Deep.OwnRows
import Derived.Deep.DeepCutAuto
namespace Go.Proofs.Ybulkdzi
open Go.RowKit Go.ChangeShapes Go.WideShapes Go.ChangeAt Go.Deep
set_option linter.unusedVariables false

theorem Yba.info5 : (Yba.prog.info? 5).map (fun i => (i.zero, i.size, i.bytes)) = some (some (.int .u8 0), 1, 1) := by kernel_rfl
theorem info_parts {P : Program} {e : TypeId} {z : Value} {s b : Nat} (h : (P.info? e).map (fun i => (i.zero, i.size, i.bytes)) = some (some z, s, b)) : ∃ i, P.info? e = some i ∧ i.zero = some z ∧ i.size = s ∧ i.bytes = b := by
  obtain ⟨i, hi, hz⟩ := Option.map_eq_some_iff.1 h
  simp only [Prod.mk.injEq] at hz
  exact ⟨i, hi, hz.1, hz.2.1, hz.2.2⟩
theorem cell_of_heap {w : World} {b i : Nat} {c : Array Value} {t : TypeId} {v : Value} (h : w.heap[b]? = some (.cells c t (0, 0))) (hc : c[i]? = some v) : w.cell? ⟨b, i, none⟩ = some v := by
  simp [World.cell?, h, hc]

/-- A row of bytes that the call made. -/
def Own (B : Nat) (w : World) (v : Value) (L : List Int) : Prop := w.ownsRow B 5 1 v L.length (L.map fun x => .int .u8 x)

theorem row_own {B : Nat} {w : World} {v : Value} {L : List Int} (h : Own B w v L) : ∃ ao cap g, v = .slice ao L.length cap ∧ Row w ao L.length g 0 (fun j => .int .u8 (L.getD j 0)) := by
  obtain ⟨h1, h2⟩ := h
  rcases h2 with ⟨e, h0⟩ | ⟨g, cap, cur, e, _, h4, h5, _, h6, h7⟩
  · exact ⟨none, 0, 0, by rw [e, h0], ⟨fun hh => by omega, fun j hj => by omega⟩⟩
  · refine ⟨some ⟨g, 0, none⟩, cap, g, e, ⟨fun _ => rfl, fun j hj => ?_⟩⟩
    rw [Nat.zero_add]
    refine cell_of_heap h4 ?_
    have e2 : (cur.toList.take (L.length * 1))[j]? = (L.map fun x => Value.int .u8 x)[j]? := by rw [h7]
    rw [List.getElem?_take, if_pos (by omega)] at e2
    rw [← Array.getElem?_toList, e2]
    simp [List.getD, hj]
theorem Own.snoc {B : Nat} {w : World} {v : Value} {L : List Int} {x : Int} (h : w.ownsRow B 5 1 v (L.length + 1) ((L.map fun x => .int .u8 x) ++ [.int .u8 x])) : Own B w v (L ++ [x]) := by
  unfold Own
  rw [List.length_append, List.map_append]
  exact h

theorem getD_mem {L : List Int} {j : Nat} (hj : j < L.length) : L.getD j 0 ∈ L := by
  rw [List.getD, List.getElem?_eq_getElem hj]
  exact List.getElem_mem hj
theorem getD_left {L M : List Int} {j : Nat} (hj : j < L.length) : (L ++ M).getD j 0 = L.getD j 0 := by
  rw [List.getD, List.getElem?_append_left hj, List.getD]
theorem getD_mid {L M : List Int} {x : Int} : (L ++ ([x] ++ M)).getD L.length 0 = x := by
  rw [List.getD, List.getElem?_append_right (Nat.le_refl _)]
  simp

/-- The two constants. -/
theorem digs_at (r : Int) (h0 : 0 ≤ r) (h1 : r < 10) (u : World) : (Instr.index 9 (.string ⟨#[48, 49, 50, 51, 52, 53, 54, 55, 56, 57]⟩) (.int .i64 r)).run Yba.prog u = .ok (.int .u8 (48 + r)) u := by
  have e : r = 0 ∨ r = 1 ∨ r = 2 ∨ r = 3 ∨ r = 4 ∨ r = 5 ∨ r = 6 ∨ r = 7 ∨ r = 8 ∨ r = 9 := by omega
  rcases e with rfl | rfl | rfl | rfl | rfl | rfl | rfl | rfl | rfl | rfl <;> (rw [run_index_string (h := Yba.underlying9), dif_pos (by decide)]; rfl)
theorem non_at (r : Int) (h0 : 0 ≤ r) (h1 : r < 10) : ∃ x, ¬ Dig x ∧ ∀ u, (Instr.index 9 (.string ⟨#[47, 58, 97, 32, 45, 43, 46, 90, 0, 255]⟩) (.int .i64 r)).run Yba.prog u = .ok (.int .u8 x) u := by
  have e : r = 0 ∨ r = 1 ∨ r = 2 ∨ r = 3 ∨ r = 4 ∨ r = 5 ∨ r = 6 ∨ r = 7 ∨ r = 8 ∨ r = 9 := by omega
  have nd : ∀ x : Int, (x < 48 ∨ 57 < x) → ¬ Dig x := fun x h ⟨a, b⟩ => by omega
  rcases e with rfl | rfl | rfl | rfl | rfl | rfl | rfl | rfl | rfl | rfl
  · exact ⟨47, nd _ (by decide), fun u => by rw [run_index_string (h := Yba.underlying9), dif_pos (by decide)]; rfl⟩
  · exact ⟨58, nd _ (by decide), fun u => by rw [run_index_string (h := Yba.underlying9), dif_pos (by decide)]; rfl⟩
  · exact ⟨97, nd _ (by decide), fun u => by rw [run_index_string (h := Yba.underlying9), dif_pos (by decide)]; rfl⟩
  · exact ⟨32, nd _ (by decide), fun u => by rw [run_index_string (h := Yba.underlying9), dif_pos (by decide)]; rfl⟩
  · exact ⟨45, nd _ (by decide), fun u => by rw [run_index_string (h := Yba.underlying9), dif_pos (by decide)]; rfl⟩
  · exact ⟨43, nd _ (by decide), fun u => by rw [run_index_string (h := Yba.underlying9), dif_pos (by decide)]; rfl⟩
  · exact ⟨46, nd _ (by decide), fun u => by rw [run_index_string (h := Yba.underlying9), dif_pos (by decide)]; rfl⟩
  · exact ⟨90, nd _ (by decide), fun u => by rw [run_index_string (h := Yba.underlying9), dif_pos (by decide)]; rfl⟩
  · exact ⟨0, nd _ (by decide), fun u => by rw [run_index_string (h := Yba.underlying9), dif_pos (by decide)]; rfl⟩
  · exact ⟨255, nd _ (by decide), fun u => by rw [run_index_string (h := Yba.underlying9), dif_pos (by decide)]; rfl⟩

set_option maxRecDepth 100000 in
set_option maxHeartbeats 1600000 in
theorem built_walk (k0 : Int) (a : Option Addr) (len cap b off : Nat) (I : Nat → Int) (st : Int) (w : World) (hr : Row w a len b off (fun j => .int .u8 (I j))) (hI : ∀ j, 0 ≤ I j ∧ I j ≤ 255) (hk0 : 0 ≤ k0 ∧ k0 ≤ 255) (hst : 0 ≤ st ∧ st ≤ 255) (hlen : len ≤ 1024) :
    Calls Yba.prog 4 #[.int .u8 k0, .slice a len cap, .int .u8 st] w fun e w' => e = .returned (.bool true) ∧ Below w.heap.size w w' := by
  have d0 : decide ((1024 : Int) < (len : Int)) = false := decide_eq_false (by omega)
  obtain ⟨m, hm⟩ : ∃ m : Nat, k0 % 64 = (m : Int) := ⟨(k0 % 64).toNat, by omega⟩
  obtain ⟨f5, hf5, hf50, hf51, hf52⟩ := info_parts Yba.info5
  obtain ⟨w1, hmk, hown, hg⟩ := run_make_own (P := Yba.prog) w w.heap.size 22 5 f5 (.int .u8 0) 1 Yba.underlying22 hf5 hf50 hf51 .i64 .i64 (m + 1 + len) (by rw [hf52]; omega) (by unfold maxLen; omega) (Nat.le_refl _)
  have hmk' : (Instr.makeSlice 22 (.int .i64 0) (.int .i64 ((m : Int) + 1 + (len : Int)))).run Yba.prog w = .ok (.slice (some ⟨w.heap.size, 0, none⟩) 0 (m + 1 + len)) w1 := by
    rw [← hmk]; simp
  have hb : Below w.heap.size w w1 := (Below.refl _ _).grown hg (Nat.le_refl _) (fun k hk => by cases hk)
  have HB := hid hb
  have HO := hid hown
  clear hmk hown hg hb
  go_enter Yba.func4, Yba.ntmps4
  go_wp2_with fail
  rw [hm]
  have hm63 : m ≤ 63 := by omega
  clear hmk' hm
  go_loopw [8, 9] (fun v i wr => ∃ L : List Int, L.length ≤ m ∧ i = .int .i64 (L.length : Int) ∧ (∀ x ∈ L, Dig x) ∧ Own w.heap.size wr v L ∧ Below w.heap.size w wr) (fun _ i _ => m - (intOf i).toNat)
  case atStart => exact ⟨[], Nat.zero_le _, rfl, fun x hx => absurd hx (by simp), HO.out, HB.out⟩
  case round =>
    clear HO HB
    obtain ⟨L, hL, rfl, hD, hO, hB⟩ := hrel
    have hsz := hB.size
    by_cases hlt : L.length < m
    · by_cases hll : L.length < len
      · skip
        have hr' := hr.below hB (Nat.le_refl _)
        have hix := fun u => hr'.index Yba.underlying22 size5 cap hll u
        have hc := hr'.cell L.length hll
        obtain ⟨r1, r2⟩ := hI L.length
        generalize I L.length = s at *
        have hdg : Dig (48 + s % 10) := ⟨by omega, by omega⟩
        have hdx := fun u => digs_at (s % 10) (by omega) (by omega) u
        go_wp2_with (first | (at_builtin; refine wpList_append_own _ rfl (.tmp 37) (.tmp 42) 22 rfl w.heap.size 5 f5 (.int .u8 0) 1 1 Yba.underlying22 hf5 hf50 hf51 hf52 rfl (by decide) _ L.length (L.map fun x => .int .u8 x) rfl ?q1 ⟨wr.heap.size, 0, none⟩ 1 1 [.int .u8 (48 + s % 10)] rfl rfl ?q2 ?q3 ?q4 ?q5 ?q6 ?_))
        case q1 => exact hO.alloc _
        case q2 => exact cell_one_new _ _ _
        case q3 => intro u hu; simp at hu; subst hu; rfl
        case q4 => unfold maxLen; omega
        case q5 => omega
        case q6 => rw [nblk_alloc]; omega
        intro v2 w2 own2 grow2 nil2
        clear nil2
        have HB2 : Hid (Below w.heap.size w w2) := hid ((hB.alloc (by omega) _).grown grow2 (by rw [nblk_alloc]; omega) (fun k hk => (hO.lt k hk).1))
        have HO2 := hid (Own.snoc own2)
        clear own2 grow2 hO hB
        go_wp2
        go_roundw
        case rel => exact ⟨L ++ [48 + s % 10], by rw [List.length_append]; simp; omega, by rw [List.length_append]; go_num, fun x hx => by
          rcases List.mem_append.1 hx with h | h
          · exact hD x h
          · simp at h; subst h; exact hdg, HO2.out, HB2.out⟩
        case measure => simp [intOf]; omega
      · skip
        have hdl : decide (L.length < len) = false := decide_eq_false hll
        have hdg : Dig (48) := ⟨by omega, by omega⟩
        go_wp2_with (first | (at_builtin; refine wpList_append_own _ rfl (.tmp 37) (.tmp 42) 22 rfl w.heap.size 5 f5 (.int .u8 0) 1 1 Yba.underlying22 hf5 hf50 hf51 hf52 rfl (by decide) _ L.length (L.map fun x => .int .u8 x) rfl ?q1 ⟨wr.heap.size, 0, none⟩ 1 1 [.int .u8 (48)] rfl rfl ?q2 ?q3 ?q4 ?q5 ?q6 ?_))
        case q1 => exact hO.alloc _
        case q2 => exact cell_one_new _ (.int .u8 48) _
        case q3 => intro u hu; simp at hu; subst hu; rfl
        case q4 => unfold maxLen; omega
        case q5 => omega
        case q6 => rw [nblk_alloc]; omega
        intro v2 w2 own2 grow2 nil2
        clear nil2
        have HB2 : Hid (Below w.heap.size w w2) := hid ((hB.alloc (by omega) _).grown grow2 (by rw [nblk_alloc]; omega) (fun k hk => (hO.lt k hk).1))
        have HO2 := hid (Own.snoc own2)
        clear own2 grow2 hO hB
        go_wp2
        go_roundw
        case rel => exact ⟨L ++ [48], by rw [List.length_append]; simp; omega, by rw [List.length_append]; go_num, fun x hx => by
          rcases List.mem_append.1 hx with h | h
          · exact hD x h
          · simp at h; subst h; exact hdg, HO2.out, HB2.out⟩
        case measure => simp [intOf]; omega
    · obtain rfl : L.length = m := by omega
      obtain ⟨ao, ac, g, hv, hrow⟩ := row_own hO
      subst hv
      have HD1 := hid (digits_any ao L.length ac g 0 L.length (fun j => L.getD j 0) wr (by omega) hrow (Nat.le_refl _) (fun j hj => hD _ (getD_mem hj)) (fun h => absurd h (Nat.lt_irrefl _)))
      obtain ⟨x, hx, hxi⟩ := non_at (st % 10) (by omega) (by omega)
      go_wp2_with fail
      refine HD1.out.mono ?_
      rintro e w' ⟨rfl, rfl⟩
      clear HD1 hrow
      go_wp2_with (first | (at_builtin; refine wpList_append_own _ rfl (.tmp 48) (.tmp 53) 22 rfl w.heap.size 5 f5 (.int .u8 0) 1 1 Yba.underlying22 hf5 hf50 hf51 hf52 rfl (by decide) _ L.length (L.map fun x => .int .u8 x) rfl ?q1 ⟨wr.heap.size, 0, none⟩ 1 1 [.int .u8 x] rfl rfl ?q2 ?q3 ?q4 ?q5 ?q6 ?_))
      case q1 => exact World.ownsRow.alloc hO _
      case q2 => exact cell_one_new _ _ _
      case q3 => intro u hu; simp at hu; subst hu; rfl
      case q4 => unfold maxLen; omega
      case q5 => omega
      case q6 => rw [nblk_alloc]; omega
      intro v2 w2 own2 grow2 nil2
      clear nil2
      have HB2 : Hid (Below w.heap.size w w2) := hid ((hB.alloc (by omega) _).grown grow2 (by rw [nblk_alloc]; omega) (fun k hk => (World.ownsRow.lt hO k hk).1))
      have HO2 := hid (Own.snoc own2)
      clear own2 grow2 hO hB
      go_wp2_with fail
      go_loopw [8, 11] (fun v i wq => ∃ (T : List Int) (k : Nat), k ≤ len ∧ i = .int .i64 (k : Int) ∧ T.length = L.length + 1 + k ∧ (∀ j, j < L.length → Dig (T.getD j 0)) ∧ ¬ Dig (T.getD L.length 0) ∧ Own w.heap.size wq v T ∧ Below w.heap.size w wq) (fun _ i _ => len - (intOf i).toNat)
      case atStart => exact ⟨L ++ [x], 0, Nat.zero_le _, rfl, by simp, fun j hj => by rw [getD_left hj]; exact hD _ (getD_mem hj), by rw [← List.append_nil [x], getD_mid]; exact hx, HO2.out, HB2.out⟩
      case round =>
        clear HO2 HB2 hD hx hxi
        obtain ⟨T, k, hM, rfl, hLT, hD, hx, hO, hB⟩ := hrel
        have hsz := hB.size
        have hT0 : L.length < T.length := by omega
        have hT1 : T.length ≤ 2000 := by omega
        have HLT := hid hLT
        clear hLT
        by_cases hlt : k < len
        · have hr' := hr.below hB (Nat.le_refl _)
          have hix := fun u => hr'.index Yba.underlying22 size5 cap hlt u
          have hc := hr'.cell k hlt
          generalize I k = s at *
          have HX := hid hx
          have HDD := hid hD
          clear hx hD
          go_wp2_with (first | (at_builtin; refine wpList_append_own _ rfl (.tmp 61) (.tmp 66) 22 rfl w.heap.size 5 f5 (.int .u8 0) 1 1 Yba.underlying22 hf5 hf50 hf51 hf52 rfl (by decide) _ T.length (T.map fun x => .int .u8 x) rfl ?q1 ⟨wr.heap.size, 0, none⟩ 1 1 [.int .u8 s] rfl rfl ?q2 ?q3 ?q4 ?q5 ?q6 ?_))
          case q1 => exact World.ownsRow.alloc hO _
          case q2 => exact cell_one_new _ _ _
          case q3 => intro u hu; simp at hu; subst hu; rfl
          case q4 => unfold maxLen; omega
          case q5 => omega
          case q6 => rw [nblk_alloc]; omega
          intro v3 w3 own3 grow3 nil3
          clear nil3
          have HB3 : Hid (Below w.heap.size w w3) := hid ((hB.alloc (by omega) _).grown grow3 (by rw [nblk_alloc]; omega) (fun k hk => (World.ownsRow.lt hO k hk).1))
          have HO3 := hid (Own.snoc own3)
          clear own3 grow3 hO hB
          go_wp2
          go_roundw
          case rel => exact ⟨T ++ [s], k + 1, by omega, by go_num, by rw [List.length_append, HLT.out]; rfl, fun j hj => by rw [getD_left (by omega)]; exact HDD.out j hj, by rw [getD_left (by omega)]; exact HX.out, HO3.out, HB3.out⟩
          case measure => simp [intOf]; omega
        · obtain ⟨ao2, ac2, g2, hv, hrow⟩ := row_own hO
          subst hv
          have HD2 := hid (digits_any ao2 T.length ac2 g2 0 L.length (fun j => T.getD j 0) wr (by omega) hrow (by omega) hD (fun _ => hx))
          have HB4 := hid hB
          have heq : ((L.length : Int) == (L.length : Int)) = true := beq_self_eq_true _
          clear hrow hO hB hD hx
          go_wp2_with fail
          refine HD2.out.mono ?_
          rintro e w' ⟨rfl, rfl⟩
          clear HD2
          go_wp2
          go_ret
          exact ⟨rfl, HB4.out⟩
end Go.Proofs.Ybulkdzi
