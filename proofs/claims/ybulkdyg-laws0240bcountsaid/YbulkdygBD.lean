import Derived.Test.YbulkdygBS
import Derived.BigQuiet
import Derived.Deep.QuietTactic
import Derived.Deep.LoopGhost
import Derived.Deep.DeepCutAuto
import Derived.Deep.OwnRows
import Derived.BigRegion
import Derived.WalkSmall
namespace Go.Proofs.Ybulkdyg.BC
open Go.RowKit Go.Maps

set_option maxRecDepth 100000 in
set_option maxHeartbeats 1600000 in
theorem walk (a0 a1 a2 a3 : Option Addr) (n0 c0 n1 c1 n2 c2 n3 c3 : Nat) (s : Int) (b0 o0 b1 o1 b2 o2 b3 o3 : Nat) (I D C : Nat → Int) (K : Nat → Bool) (w : World)
    (r0 : Row w a0 n0 b0 o0 (fun j => .int .i64 (I j))) (r1 : Row w a1 n1 b1 o1 (fun j => .bool (K j))) (r2 : Row w a2 n2 b2 o2 (fun j => .int .i64 (D j))) (r3 : Row w a3 n3 b3 o3 (fun j => .int .u8 (C j)))
    (hI : ∀ j, (Lit.int .i64 (I j)).wf = true) (hD : ∀ j, (Lit.int .i64 (D j)).wf = true) (hC : ∀ j, 0 ≤ C j ∧ C j ≤ 255) (hs : 0 ≤ s) (hs' : s ≤ 255) 
    (l0 : n0 ≤ 1024) (l1 : n1 ≤ 1024) (l2 : n2 ≤ 1024) (l3 : n3 ≤ 1024):
    Calls Yba.prog 5 #[.slice a0 n0 c0, .slice a1 n1 c1, .slice a2 n2 c2, .slice a3 n3 c3, .int .u8 s] w fun e w' => e = .returned (.bool true) ∧ Below w.heap.size w w' := by
  have hmm := @run_makeMap Yba.prog
  have d0 : decide ((1024 : Int) < (n0 : Int)) = false := decide_eq_false (by omega)
  have d1 : decide ((1024 : Int) < (n1 : Int)) = false := decide_eq_false (by omega)
  have d2 : decide ((1024 : Int) < (n2 : Int)) = false := decide_eq_false (by omega)
  have d3 : decide ((1024 : Int) < (n3 : Int)) = false := decide_eq_false (by omega)
  go_enter Yba.func5, Yba.ntmps5
  go_wp2_with (first | (go_at_call 10; refine (class_any _ _ (by omega) (by omega)).mono ?_; rintro e w' ⟨rfl, rfl⟩))
  clear hmm
  go_loopw [48] (fun i wr => ∃ k : Nat, k ≤ n2 ∧ i = .int .i64 k ∧ wr.ownsMap Yba.prog 3 (plainElem Yba.prog 9) w.heap.size k (Dm (cl n3 C) D k) ∧ wr.cell? ⟨w.heap.size + 1, 11, none⟩ = some (.map (some w.heap.size)) ∧ Below w.heap.size w wr ∧ w.heap.size + 2 ≤ wr.heap.size) (fun i _ => n2 - (intOf i).toNat)
  case atStart => 
    refine ⟨0, Nat.zero_le _, rfl, (World.ownsMap_made _ _ _ _).alloc _, ?_, ((Below.refl _ _).alloc (Nat.le_refl _) _).alloc (by simp) _, by simp⟩
    simp [go_sem]
  case round =>
    obtain ⟨k, hk, rfl, hown, hmc, hnx, hsz⟩ := hrel
    by_cases hlt : k < n2
    · obtain ⟨x, hx⟩ : ∃ x, x = D k := ⟨_, rfl⟩
      have q2 := r2.below hnx (Nat.le_refl _)
      have hix := fun u => q2.index Yba.underlying46 size3 c2 hlt u
      have hcx := q2.cell k hlt
      have hkey : keyOf Yba.prog 3 (.int .i64 x) = some (.int .i64 x) := keyOf_int_mk Yba.underlying3 (by rw [hx]; exact hD k)
      simp only [← hx] at hcx
      have HX : Hid (x = D k) := hx
      clear hx q2
      by_cases hj : k < n3
      · obtain ⟨y, hy⟩ : ∃ y, y = C k := ⟨_, rfl⟩
        have q3 := r3.below hnx (Nat.le_refl _)
        have hiy := fun u => q3.index Yba.underlying48 size5 c3 hj u
        have hcy := q3.cell k hj
        simp only [← hy] at hcy
        have hy0 := hC k
        rw [← hy] at hy0
        obtain ⟨hy0, hy1⟩ := hy0
        have HY : Hid (y = C k) := hy
        clear hy q3
        go_wp2_with (first | (go_at_call 10; refine (class_any _ _ (by omega) (by omega)).mono ?_; rintro e w' ⟨rfl, rfl⟩) | (at_mapUpdate; refine wpList_mapUpdate_own _ rfl _ _ _ 51 rfl 3 9 law3 Yba.underlying51 _ w.heap.size k _ rfl hown (by unfold maxLen; omega) _ _ _ rfl rfl hkey _ [] (plainElem_string Yba.underlying9 (by have := cls_size y; unfold maxLen; omega)) ?_; intro w1 hown1 hgrow1))
        have R := step1 HX.out (t := cls y) (n3 := n3) (C := C) (by rw [HY.out]; simp [cl, hj]) hmc hnx hsz hown1 hgrow1
        go_roundw
        case rel => exact ⟨k + 1, by omega, by go_num, R⟩
        case measure => simp [intOf]; omega
      · go_wp2_with (first | (at_mapUpdate; refine wpList_mapUpdate_own _ rfl _ _ _ 51 rfl 3 9 law3 Yba.underlying51 _ w.heap.size k _ rfl hown (by unfold maxLen; omega) _ _ _ rfl rfl hkey _ [] (plainElem_string Yba.underlying9 (Nat.zero_le _)) ?_; intro w1 hown1 hgrow1))
        have R := step1 HX.out (t := ⟨#[]⟩) (n3 := n3) (C := C) (by simp [cl, hj]) hmc hnx hsz hown1 hgrow1
        go_roundw
        case rel => exact ⟨k + 1, by omega, by go_num, R⟩
        case measure => simp [intOf]; omega
    · obtain rfl : n2 = k := by omega
      have mk3 := fun u => run_make_row' (P := Yba.prog) 46 3 (.int .i64 0) 8 Yba.underlying46 Yba.info3 rfl .i64 .i64 n0 (by omega) (by omega) u
      have mk25 := fun u => run_make_row' (P := Yba.prog) 55 25 (.pointer none) 8 Yba.underlying55 Yba.info25 rfl .i64 .i64 n0 (by omega) (by omega) u
      go_upto_region 13 with fail
      go_cut [16] (fun b wc => ∃ bi bc bb, b = .pointer (some ⟨bb, 0, none⟩) ∧ St w wc n2 (Dm (cl n3 C) D n2) bi bc bb n0 (fun _ => .int .i64 0) (fun _ => .pointer none))
      case first =>
        go_region
        · go_wp2_with fail
          go_meet
          exact ⟨_, _, _, rfl, mkA hown hmc hnx hsz _ rfl rfl⟩
        · go_wp2_with fail
          go_meet
          exact ⟨_, _, _, rfl, mkB hown hmc hnx hsz _ rfl rfl⟩
      case rest =>
        obtain ⟨bi, bc, bb, rfl, hst⟩ := hcut
        obtain ⟨w1, hrun, hr1, hg1⟩ := copy_run (c := c0) hst.ri (r0.below hst.bel (Nat.le_refl _)) (fun _ => rfl) 3
        have hst1 := hst.copied hr1 hg1
        have k6 := hst.c6
        clear mk3 mk25 hown hmc hnx hsz
        go_wp2
        clear hrun hr1 hg1 hst k6
        go_loopw [17] (fun i wr => ∃ (k : Nat) (ch : Nat → Option Addr), k ≤ n0 ∧ i = .int .i64 k ∧ St w wr n2 (Dm (cl n3 C) D n2) bi bc bb n0 (fun j => .int .i64 (I j)) (fun j => .pointer (ch j)) ∧ ∀ j, (ch j).isSome = (decide (j < k) && (decide (j < n1) && K j))) (fun i _ => n0 - (intOf i).toNat)
        case atStart => exact ⟨0, fun _ => none, Nat.zero_le _, rfl, hst1, fun j => by simp⟩
        case round =>
          obtain ⟨k, ch, hk, rfl, hst, hch⟩ := hrel
          clear hst1
          by_cases hlt : k < n0
          · by_cases hk1 : k < n1
            · have q1 := r1.below hst.bel (Nat.le_refl _)
              have hix := fun u => q1.index Yba.underlying47 size4 c1 hk1 u
              have hcx := q1.cell k hk1
              clear q1
              cases hKk : K k with
              | true =>
                simp only [hKk] at hcx
                have HK : Hid (K k = true) := hKk
                have HC : Hid (∀ j, (ch j).isSome = (decide (j < k) && (decide (j < n1) && K j))) := hch
                clear hKk hch
                have k8 := fun o => cell_alloc o hst.c8
                have k8' := hst.c8
                have kc := fun o => cell_alloc o (hst.rc.cell hlt)
                have kf := fun o => (hst.rc.alloc o).frozen k
                go_wp2
                go_roundw
                case rel =>
                  refine ⟨k + 1, fun j => if j = k then some ⟨wr.heap.size, 0, none⟩ else ch j, by omega, by go_num, ?_, chT HC.out hk1 HK.out⟩
                  have hh := hst.stored (.cells #[.int .i64 (-1 - k), .string ⟨#[]⟩, .string ⟨#[]⟩, .int .i64 0, .pointer none, .int .u32 0, .slice none 0 0, .slice none 0 0, .slice none 0 0, .slice none 0 0, .slice none 0 0, .slice none 0 0, .slice none 0 0] 64) k (.pointer (some ⟨wr.heap.size, 0, none⟩))
                  have e : (fun j => if j = k then Value.pointer (some ⟨wr.heap.size, 0, none⟩) else Value.pointer (ch j)) = (fun j => Value.pointer (if j = k then some ⟨wr.heap.size, 0, none⟩ else ch j)) := by
                    funext j
                    split <;> rfl
                  rw [e] at hh
                  exact hh
                case measure => simp [intOf]; omega
              | false =>
                simp only [hKk] at hcx
                have HK : Hid (K k = false) := hKk
                have HC : Hid (∀ j, (ch j).isSome = (decide (j < k) && (decide (j < n1) && K j))) := hch
                clear hKk hch
                go_wp2
                go_roundw
                case rel => exact ⟨k + 1, ch, by omega, by go_num, hst, chF HC.out (by rw [HK.out]; simp)⟩
                case measure => simp [intOf]; omega
            · have hd : decide ((k : Int) < (n1 : Int)) = false := decide_eq_false (by omega)
              have HC : Hid (∀ j, (ch j).isSome = (decide (j < k) && (decide (j < n1) && K j))) := hch
              clear hch
              go_wp2
              go_roundw
              case rel => exact ⟨k + 1, ch, by omega, by go_num, hst, chF HC.out (by simp [hk1])⟩
              case measure => simp [intOf]; omega
          · obtain rfl : n0 = k := by omega
            have HC : Hid (∀ j, (ch j).isSome = (decide (j < n0) && (decide (j < n1) && K j))) := hch
            clear hch
            have hlook : ∀ j, j < n0 → (Instr.lookup 51 (.map (some w.heap.size)) (.int .i64 (I j)) false).run Yba.prog wr = .ok (.string (look (cl n3 C) D (I j) n2)) wr := fun j _ => look_run hst.own (I j) (hI j)
            have hcs := copySize_any (w.heap.size + 1) bb bi bc w.heap.size n0 (cls s) I ch (fun j => look (cl n3 C) D (I j) n2) (pass n1 n2 n3 I D C K s) wr l0 hst.mc hst.c6 hst.c8 (fun j hj => hst.ri.cell hj) (fun j hj => hst.rc.cell hj) hlook (fun j hj => by rw [HC.out j]; simp [pass, hj])
            have HB : Hid (Below w.heap.size w wr) := hst.bel
            have HCS := hcs
            clear hlook hcs hst
            go_wp2_with fail
            refine HCS.mono ?_
            rintro e w' ⟨rfl, rfl⟩
            go_wp2_with fail
            have hbel := HB.out
            clear HB HCS HC
            go_loopw [19, 20] (fun t i wr => ∃ k : Nat, k ≤ n0 ∧ i = .int .i64 k ∧ t = .int .i64 (cnt (pass n1 n2 n3 I D C K s) k) ∧ Below w.heap.size w wr) (fun _ i _ => n0 - (intOf i).toNat)
            case atStart => exact ⟨0, Nat.zero_le _, rfl, rfl, hbel⟩
            case round =>
              clear hbel
              obtain ⟨k, hk, rfl, rfl, hnx⟩ := hrel
              have hle := cnt_le (pass n1 n2 n3 I D C K s) k
              by_cases hlt : k < n0
              · generalize hb : (decide (k < n1) && K k) = kid
                have HKD : Hid ((decide (k < n1) && K k) = kid) := hb
                clear hb
                go_upto_region 25 with fail
                go_cut [128] (fun t wc => t = .bool kid ∧ wr = wc)
                case first =>
                  by_cases hk1 : k < n1
                  · have q1 := r1.below hnx (Nat.le_refl _)
                    have hix := fun u => q1.index Yba.underlying47 size4 c1 hk1 u
                    have hcx := q1.cell k hk1
                    go_wp2
                    go_meet
                    exact ⟨by rw [← HKD.out]; simp [hk1], rfl⟩
                  · have hd : decide ((k : Int) < (n1 : Int)) = false := decide_eq_false (by omega)
                    go_wp2
                    go_meet
                    exact ⟨by rw [← HKD.out]; simp [hk1], rfl⟩
                case rest =>
                  obtain ⟨rfl, rfl⟩ := hcut
                  cases kid with
                  | true =>
                    have hs1 : cnt (pass n1 n2 n3 I D C K s) (k + 1) = cnt (pass n1 n2 n3 I D C K s) k + 1 := by simp [cnt, pass, HKD.out]
                    have HS : Hid (cnt (pass n1 n2 n3 I D C K s) (k + 1) = cnt (pass n1 n2 n3 I D C K s) k + 1) := hs1
                    clear hs1
                    go_wp2
                    go_roundw
                    case rel => exact ⟨k + 1, by omega, by go_num, by rw [HS.out]; go_num, hnx⟩
                    case measure => simp [intOf]; omega
                  | false =>
                    have HS : Hid (pass n1 n2 n3 I D C K s k = ((look (cl n3 C) D (I k) n2).toList == (cls s).toList)) := by show _ = _; simp [pass, HKD.out]
                    obtain ⟨x, hx⟩ : ∃ x, x = I k := ⟨_, rfl⟩
                    have HX : Hid (x = I k) := hx
                    clear hx
                    go_wp2_with fail
                    go_loopw [21, 22] (fun c j wi => ∃ m : Nat, m ≤ n2 ∧ j = .int .i64 m ∧ c = .string (look (cl n3 C) D x m) ∧ Below w.heap.size w wi) (fun _ j _ => n2 - (intOf j).toNat)
                    case atStart => exact ⟨0, Nat.zero_le _, rfl, rfl, hnx⟩
                    case round =>
                      clear hnx
                      obtain ⟨m, hm, rfl, rfl, hnx⟩ := hrel
                      by_cases hlm : m < n2
                      · have q0 := r0.below hnx (Nat.le_refl _)
                        have hix0 := fun u => q0.index Yba.underlying46 size3 c0 hlt u
                        have hcx0 := q0.cell k hlt
                        have q2 := r2.below hnx (Nat.le_refl _)
                        have hix2 := fun u => q2.index Yba.underlying46 size3 c2 hlm u
                        have hcx2 := q2.cell m hlm
                        clear q0 q2
                        obtain ⟨y, hy⟩ : ∃ y, y = D m := ⟨_, rfl⟩
                        simp only [← HX.out] at hcx0
                        simp only [← hy] at hcx2
                        have HY : Hid (y = D m) := hy
                        clear hy
                        have hL : look (cl n3 C) D x (m + 1) = if y = x then cl n3 C m else look (cl n3 C) D x m := by rw [HY.out]; rfl
                        have HL : Hid (look (cl n3 C) D x (m + 1) = if y = x then cl n3 C m else look (cl n3 C) D x m) := hL
                        clear hL
                        go_wp2_with fail
                        go_quiet (fail)
                        have hnq : Below w.heap.size w (wr.drewN nq) := below_drewN hnx nq
                        by_cases hxy : y = x
                        · have hd : (y == x) = true := beq_iff_eq.2 hxy
                          have HXY : Hid (y = x) := hxy
                          clear hxy
                          by_cases hj : m < n3
                          · obtain ⟨z, hz⟩ : ∃ z, z = C m := ⟨_, rfl⟩
                            have q3 := r3.below hnq (Nat.le_refl _)
                            have hiy := fun u => q3.index Yba.underlying48 size5 c3 hj u
                            have hcy := q3.cell m hj
                            simp only [← hz] at hcy
                            have hz0 := hC m
                            rw [← hz] at hz0
                            obtain ⟨hz0, hz1⟩ := hz0
                            have HZ : Hid (z = C m) := hz
                            clear hz q3
                            go_wp2_with (first | (go_at_call 10; refine (class_any _ _ (by omega) (by omega)).mono ?_; rintro e w' ⟨rfl, rfl⟩))
                            go_roundw
                            case rel => exact ⟨m + 1, by omega, by go_num, by rw [HL.out, if_pos HXY.out, HZ.out]; simp [cl, hj], hnq⟩
                            case measure => simp [intOf]; omega
                          · go_wp2
                            go_roundw
                            case rel => exact ⟨m + 1, by omega, by go_num, by rw [HL.out, if_pos HXY.out]; simp [cl, hj], hnq⟩
                            case measure => simp [intOf]; omega
                        · have hd : (y == x) = false := beq_eq_false_iff_ne.2 hxy
                          go_wp2
                          go_roundw
                          case rel => exact ⟨m + 1, by omega, by go_num, by rw [HL.out, if_neg hxy], hnq⟩
                          case measure => simp [intOf]; omega
                      · obtain rfl : n2 = m := by omega
                        go_wp2
                        · have ht : ((look (cl n3 C) D x n2).toList == (cls s).toList) = true := by assumption
                          have hs1 : cnt (pass n1 n2 n3 I D C K s) (k + 1) = cnt (pass n1 n2 n3 I D C K s) k + 1 := by
                            have e := HS.out
                            rw [← HX.out, ht] at e
                            simp [cnt, e]
                          go_roundw
                          case rel => exact ⟨k + 1, by omega, by go_num, by rw [hs1]; go_num, hnx⟩
                          case measure => simp [intOf]; omega
                        · have ht : ((look (cl n3 C) D x n2).toList == (cls s).toList) = false := by assumption
                          have hs1 : cnt (pass n1 n2 n3 I D C K s) (k + 1) = cnt (pass n1 n2 n3 I D C K s) k := by
                            have e := HS.out
                            rw [← HX.out, ht] at e
                            simp [cnt, e]
                          go_roundw
                          case rel => exact ⟨k + 1, by omega, by go_num, by rw [hs1], hnx⟩
                          case measure => simp [intOf]; omega
              · obtain rfl : n0 = k := by omega
                go_wp2
                go_ret
                exact ⟨rfl, hnx⟩
end Go.Proofs.Ybulkdyg.BC
