/-
  zzs0240cname, zzs0240chasint, zzs0240chasstr BY THEIR CONTRACTS.
-/
import Derived.Test.YbulkdygFmtSa
namespace Go.Proofs.YbulkdygFmt
open Go.RowKit Go.Maps

/-- A slice whose elements take one cell each: where it has elements it begins at ⟨b, off⟩; element j is v j. -/
structure Row (w : World) (a : Option Addr) (len b off : Nat) (v : Nat → Value) : Prop where
  head : 0 < len → a = some ⟨b, off, none⟩
  cell : ∀ j, j < len → w.cell? ⟨b, off + j, none⟩ = some (v j)
theorem lt_of_cell {w : World} {b off : Nat} {v : Value} (h : w.cell? ⟨b, off, none⟩ = some v) : b < w.heap.size := by
  rcases Nat.lt_or_ge b w.heap.size with hlt | hge
  · exact hlt
  · simp [World.cell?, Array.getElem?_eq_none hge] at h
theorem Row.index {w : World} {a : Option Addr} {len b off : Nat} {v : Nat → Value} (h : Row w a len b off v) {P : Program} {t e : TypeId} (ht : P.underlying t = some (.slice e)) (he : ∀ u, (sizeOf e).run P u = .ok 1 u) (cap : Nat) {j : Nat} (hj : j < len) (u : World) :
    (Instr.indexAt t (.slice a len cap) (.int .i64 (j : Int))).run P u = .ok (.pointer (some ⟨b, off + j, none⟩)) u := by
  have hel : P.elem t = e := by simp [Program.elem, ht]
  rw [h.head (by omega), run_indexAt_slice (h := by rw [hel]; exact ht), if_pos (by omega), hel, he]
  simp [Result.andThen, Addr.add]
theorem size3 (u : World) : (sizeOf 3).run Ybaf.prog u = .ok 1 u := by kernel_rfl
theorem size9 (u : World) : (sizeOf 9).run Ybaf.prog u = .ok 1 u := by kernel_rfl

theorem none_step {p : Nat → Prop} {k : Nat} (h : ∀ j, j < k → p j) (hk : p k) : ∀ j, j < k + 1 → p j := fun j hj => by
  rcases Nat.lt_or_ge j k with l | g
  · exact h j l
  · have e : j = k := by omega
    rw [e]
    exact hk

/-- What zzs0240cname answers. -/
def nme (t : Int) : ByteArray := if t % 5 = 0 then ⟨#[]⟩ else if t % 5 = 1 then ⟨#[104, 111, 115, 116]⟩ else if t % 5 = 2 then ⟨#[114, 97, 99, 107]⟩ else if t % 5 = 3 then ⟨#[114, 111, 111, 116]⟩ else ⟨#[97, 126, 98]⟩
theorem nme_size (t : Int) : (nme t).size ≤ maxLen := by
  unfold nme
  split
  · decide
  · split
    · decide
    · split
      · decide
      · split <;> decide

set_option maxHeartbeats 800000 in
theorem name_any (t : Int) (w : World) (h0 : 0 ≤ t) (h1 : t ≤ 255) : Calls Ybaf.prog 6 #[.int .u8 t] w fun e w' => e = .returned (.string (nme t)) ∧ w = w' := by
  unfold nme
  by_cases c0 : t % 5 = 0
  · rw [if_pos c0]
    go_enter Ybaf.func6, Ybaf.ntmps6
    go_wp2
    go_ret
    exact ⟨rfl, rfl⟩
  · rw [if_neg c0]
    by_cases c1 : t % 5 = 1
    · rw [if_pos c1]
      go_enter Ybaf.func6, Ybaf.ntmps6
      go_wp2
      go_ret
      exact ⟨rfl, rfl⟩
    · rw [if_neg c1]
      by_cases c2 : t % 5 = 2
      · rw [if_pos c2]
        go_enter Ybaf.func6, Ybaf.ntmps6
        go_wp2
        go_ret
        exact ⟨rfl, rfl⟩
      · rw [if_neg c2]
        by_cases c3 : t % 5 = 3
        · rw [if_pos c3]
          go_enter Ybaf.func6, Ybaf.ntmps6
          go_wp2
          go_ret
          exact ⟨rfl, rfl⟩
        · rw [if_neg c3]
          go_enter Ybaf.func6, Ybaf.ntmps6
          go_wp2
          go_ret
          exact ⟨rfl, rfl⟩

set_option maxRecDepth 100000 in
set_option maxHeartbeats 800000 in
theorem hasint_any (a : Option Addr) (len cap b : Nat) (I : Nat → Int) (x : Int) (r : Bool) (w : World) (hl : len ≤ 2000) (hr : Row w a len b 0 (fun j => .int .i64 (I j))) (h : r = true ↔ ∃ j, j < len ∧ I j = x) :
    Calls Ybaf.prog 7 #[.slice a len cap, .int .i64 x] w fun e w' => e = .returned (.bool r) ∧ w = w' := by
  have H : Hid (r = true ↔ ∃ j, j < len ∧ I j = x) := h
  clear h
  go_enter Ybaf.func7, Ybaf.ntmps7
  go_wp2
  go_loop [9] (fun i => ∃ k : Nat, k ≤ len ∧ i = .int .i64 (k : Int) ∧ Hid (∀ j, j < k → I j ≠ x)) (fun i => len - (intOf i).toNat)
  case atStart => exact ⟨0, Nat.zero_le _, rfl, fun j hj => absurd hj (Nat.not_lt_zero _)⟩
  case round =>
    obtain ⟨k, hk, rfl, HN⟩ := hrel
    by_cases hlt : k < len
    · have hix := fun u => hr.index Ybaf.underlying25 size3 cap hlt u
      have hcx := hr.cell k hlt
      simp only [Nat.zero_add] at hix hcx
      by_cases he : I k = x
      · have hd : (I k == x) = true := beq_iff_eq.2 he
        have hT : r = true := H.out.2 ⟨k, hlt, he⟩
        have HT : Hid (r = true) := hT
        have HE : Hid (I k = x) := he
        clear he hT
        generalize I k = z at *
        go_wp2
        go_ret
        exact ⟨by rw [HT.out]; rfl, rfl⟩
      · have hd : (I k == x) = false := beq_eq_false_iff_ne.2 he
        go_wp2
        go_round
        case rel => exact ⟨k + 1, by omega, by go_num, none_step HN.out he⟩
        case measure => simp [intOf]; omega
    · have hF : r = false := by
        cases hr' : r
        · rfl
        · obtain ⟨j, hj, e⟩ := H.out.1 hr'
          exact absurd e (HN.out j (by omega))
      have HF : Hid (r = false) := hF
      clear hF
      go_wp2
      go_ret
      exact ⟨by rw [HF.out]; rfl, rfl⟩

theorem beq_bytes_true {a b : ByteArray} (h : a = b) : (a.toList == b.toList) = true := by rw [h]; simp
theorem beq_bytes_false {a b : ByteArray} (h : a ≠ b) : (a.toList == b.toList) = false := by
  rw [beq_eq_false_iff_ne]
  intro e
  rw [ByteArray.toList_eq, ByteArray.toList_eq] at e
  exact h (bytes_ext e)

set_option maxRecDepth 100000 in
set_option maxHeartbeats 800000 in
theorem hasstr_any (a : Option Addr) (len cap b : Nat) (I : Nat → ByteArray) (x : ByteArray) (r : Bool) (w : World) (hl : len ≤ 2000) (hr : Row w a len b 0 (fun j => .string (I j))) (h : r = true ↔ ∃ j, j < len ∧ I j = x) :
    Calls Ybaf.prog 8 #[.slice a len cap, .string x] w fun e w' => e = .returned (.bool r) ∧ w = w' := by
  have H : Hid (r = true ↔ ∃ j, j < len ∧ I j = x) := h
  clear h
  go_enter Ybaf.func8, Ybaf.ntmps8
  go_wp2
  go_loop [9] (fun i => ∃ k : Nat, k ≤ len ∧ i = .int .i64 (k : Int) ∧ Hid (∀ j, j < k → I j ≠ x)) (fun i => len - (intOf i).toNat)
  case atStart => exact ⟨0, Nat.zero_le _, rfl, fun j hj => absurd hj (Nat.not_lt_zero _)⟩
  case round =>
    obtain ⟨k, hk, rfl, HN⟩ := hrel
    by_cases hlt : k < len
    · have hix := fun u => hr.index Ybaf.underlying26 size9 cap hlt u
      have hcx := hr.cell k hlt
      simp only [Nat.zero_add] at hix hcx
      by_cases he : I k = x
      · have hd := beq_bytes_true he
        have hT : r = true := H.out.2 ⟨k, hlt, he⟩
        have HT : Hid (r = true) := hT
        have HE : Hid (I k = x) := he
        clear he hT
        generalize I k = z at *
        go_wp2
        go_ret
        exact ⟨by rw [HT.out]; rfl, rfl⟩
      · have hd := beq_bytes_false he
        go_wp2
        go_round
        case rel => exact ⟨k + 1, by omega, by go_num, none_step HN.out he⟩
        case measure => simp [intOf]; omega
    · have hF : r = false := by
        cases hr' : r
        · rfl
        · obtain ⟨j, hj, e⟩ := H.out.1 hr'
          exact absurd e (HN.out j (by omega))
      have HF : Hid (r = false) := hF
      clear hF
      go_wp2
      go_ret
      exact ⟨by rw [HF.out]; rfl, rfl⟩
end Go.Proofs.YbulkdygFmt
