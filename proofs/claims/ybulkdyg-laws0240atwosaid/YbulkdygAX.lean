/-
  LawS0240AModel: THE WALK.
-/
import Derived.Test.YbulkdygAW
import Derived.Deep.DeepCutAuto
namespace Go.Proofs.Ybulkdyg.AL
open Go.RowKit Go.Deep
set_option linter.unusedVariables false

theorem size22 (u : World) : (sizeOf 22).run Yba.prog u = .ok 1 u := by kernel_rfl

theorem start1 (w : World) (o1 : Obj) (x id : Int) (n : Nat) (c : Array Value) (h0 : c[0]? = some (.int .u32 x)) (h10 : c[10]? = some (.slice none 0 0)) :
    Pl w.heap.size (((w.alloc o1).alloc (.cells (bcells id w.heap.size n) 64)).alloc (.cells c 36)) (w.heap.size + 2) x (fun _ => n) (fun _ => id) (fun k => k = w.heap.size + 1) (.slice none 0 0) [] := by
  have s1 := nblk_alloc w o1
  have s2 := nblk_alloc (w.alloc o1) (.cells (bcells id w.heap.size n) 64)
  refine pl_start (c := c) ?_ h0 h10 (by omega) ?_
  · have := blk_alloc_new ((w.alloc o1).alloc (.cells (bcells id w.heap.size n) 64)) (.cells c 36)
    rwa [s2, s1] at this
  · rintro bb rfl
    refine ⟨bcells id w.heap.size n, some ⟨w.heap.size, 0, none⟩, n, ?_, rfl, rfl⟩
    rw [blk_alloc_lt _ _ _ (by omega)]
    have := blk_alloc_new (w.alloc o1) (.cells (bcells id w.heap.size n) 64)
    rwa [s1] at this

theorem next_has (bb pos : Nat) : nextB [bb] bb pos = [bb] := by simp [nextB]
theorem next_low (bb pos : Nat) (h : pos < 32) : nextB [] bb pos = [] := by simp [nextB, h]
theorem next_high (bb pos : Nat) (h : ¬ pos < 32) : nextB [] bb pos = [bb] := by simp [nextB, h]

set_option maxRecDepth 100000 in
set_option maxHeartbeats 3200000 in
theorem model_walk (x id nr : Int) (a : Option Addr) (len cap b off : Nat) (I : Nat → Int) (w : World) (hx : 0 ≤ x) (hx' : x ≤ 4294967295) (hnr : 0 ≤ nr) (hnr' : nr ≤ 65535)
    (r3 : BC.Row w a len b off (fun j => .int .u32 (I j))) (hI : ∀ j, 0 ≤ I j ∧ I j ≤ 4294967295) (hlen : len ≤ 1024) :
    Calls Yba.prog 3 #[.int .u32 x, .int .i64 id, .int .u16 nr, .slice a len cap] w fun e w' => e = .returned (.bool true) ∧ Below w.heap.size w w' := by
  have d0 : decide ((1024 : Int) < (len : Int)) = false := decide_eq_false (by omega)
  obtain ⟨n, hn⟩ : ∃ n : Nat, 33 + nr % 268 = (n : Int) := ⟨(33 + nr % 268).toNat, by omega⟩
  have hn1 : 33 ≤ n := by omega
  have hn2 : n ≤ 300 := by omega
  go_enter Yba.func3, Yba.ntmps3
  go_wp2_with fail
  refine (bucket_any id n w hn2).mono ?_
  rintro e w1 ⟨rfl, rfl⟩
  have hwz : w.heap.size + 1 + 1 = w.heap.size + 2 := rfl
  go_wp2_with fail
  clear hn
  go_loopw [12, 13] (fun h i wr => ∃ (k : Nat) (hw : Bool) (sv : Value) (ws : List WR), k ≤ len ∧ i = .int .i64 (k : Int) ∧ h = .bool hw ∧ Pl w.heap.size wr (w.heap.size + 2) x (fun _ => n) (fun _ => id) (fun k => k = w.heap.size + 1) sv ws ∧ Hid (ws.map (·.bb) = if hw = true then [w.heap.size + 1] else []) ∧ Below w.heap.size w wr) (fun _ i _ => len - (intOf i).toNat)
  case atStart =>
    have s1 := nblk_alloc w (.cells (madeCells #[.int .i64 0] n) 3)
    have s2 := nblk_alloc (w.alloc (.cells (madeCells #[.int .i64 0] n) 3)) (.cells (bcells id w.heap.size n) 64)
    exact ⟨0, false, .slice none 0 0, [], Nat.zero_le _, rfl, rfl, start1 w _ x id n _ rfl rfl, rfl, (((Below.refl _ _).alloc (Nat.le_refl _) _).alloc (by omega) _).alloc (by omega) _⟩
  case round =>
    obtain ⟨k, hw, sv, ws, hk, rfl, rfl, hP, HWS, hnx⟩ := hrel
    by_cases hlt : k < len
    · have q3 := r3.below hnx (Nat.le_refl _)
      have hix := fun u => q3.index Yba.underlying24 size22 cap hlt u
      have hcx := q3.cell k hlt
      obtain ⟨hI0, hI1⟩ := hI k
      generalize I k = z at hcx hI0 hI1
      clear q3
      have hP' := hid hP
      clear hP
      go_upto_region 10 with fail
      go_cut [14] (fun s wc => ∃ r : Int, s = .int .u32 r ∧ 0 ≤ r ∧ r ≤ 4294967295 ∧ wr = wc)
      case first =>
        go_wp2
        go_meet
        exact ⟨_, rfl, by omega, by omega, rfl⟩
      case rest =>
        obtain ⟨r, rfl, hr0, hr1, rfl⟩ := hcut
        clear hix hcx hI0 hI1
        have hlw : ws.length ≤ 1000 := by
          have := congrArg List.length HWS.out
          rw [List.length_map] at this
          rw [this]
          split <;> simp
        obtain ⟨pos, hpos, hpn, hpt⟩ := pos_of r n (by omega)
        go_wp2_with fail
        refine (pperm_any hP'.out hx hx' r hr0 hr1 hlw (w.heap.size + 1) rfl (show 0 < n by omega) hn2).mono ?_
        rintro e w1 ⟨rfl, ⟨sv1, ws1, hP1, hbb1⟩, hb1⟩
        obtain ⟨ba, bcap, c0, c6⟩ := hP1.bucket (bb := w.heap.size + 1) rfl
        have HM := hid (model_any (w.heap.size + 1) n bcap ba x id r w1 hx hx' hr0 hr1 (by omega) hn2 c0 c6)
        rw [hpt] at HM
        have HP1 := hid hP1
        have HBB1 := hid hbb1
        have HB1 := hid hb1
        clear hP1 hbb1 hb1 c0 c6 hP'
        go_wp2_with fail
        refine HM.out.mono ?_
        rintro e w2 ⟨rfl, hb2⟩
        have hP2 := HP1.out.below hb2 (Nat.le_refl _)
        have hnx2 : Below w.heap.size w w2 := hnx.trans (HB1.out.trans (hb2.mono (by have := HB1.out.size; have := hnx.size; omega)))
        have hbbs := HBB1.out
        rw [HWS.out] at hbbs
        simp only [hpt] at hbbs
        clear HM HP1 HBB1 HB1 hb2 hnx HWS
        have hne : ¬ (n : Int) = 0 := by omega
        cases hw with
        | true =>
          rw [if_pos rfl, next_has] at hbbs
          clear hpos hpt
          obtain ⟨ao, scap, g, wb, y1, y2, y3, y4, y5⟩ := hP2.one hbbs
          have y6 := neq_same (w.heap.size + 1) w2
          have HBS := hid hbbs
          have HP2 := hid hP2
          clear hbbs hP2
          go_wp2
          go_roundw
          case rel => exact ⟨k + 1, true, sv1, ws1, by omega, by go_num, by trivial, HP2.out, HBS.out, hnx2⟩
          case measure => simp [intOf]; omega
        | false =>
          rw [if_neg (by simp)] at hbbs
          clear hpt
          by_cases hlow : pos < 32
          · rw [next_low _ _ hlow] at hbbs
            have hd : decide ((32 : Int) ≤ (pos : Int)) = false := decide_eq_false (by omega)
            obtain ⟨ao, scap, y1⟩ := hP2.zero hbbs
            have HBS := hid hbbs
            have HP2 := hid hP2
            clear hbbs hP2
            go_wp2
            go_roundw
            case rel => exact ⟨k + 1, false, sv1, ws1, by omega, by go_num, by trivial, HP2.out, HBS.out, hnx2⟩
            case measure => simp [intOf]; omega
          · rw [next_high _ _ hlow] at hbbs
            have hd : decide ((32 : Int) ≤ (pos : Int)) = true := decide_eq_true (by omega)
            obtain ⟨ao, scap, g, wb, y1, y2, y3, y4, y5⟩ := hP2.one hbbs
            have y6 := neq_same (w.heap.size + 1) w2
            have HBS := hid hbbs
            have HP2 := hid hP2
            clear hbbs hP2
            go_wp2
            go_roundw
            case rel => exact ⟨k + 1, true, sv1, ws1, by omega, by go_num, by trivial, HP2.out, HBS.out, hnx2⟩
            case measure => simp [intOf]; omega
    · go_wp2
      go_ret
      exact ⟨rfl, hnx⟩
end Go.Proofs.Ybulkdyg.AL
