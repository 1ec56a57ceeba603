/-
  LawS0240ATwo: THE WALK.
-/
import Derived.Test.YbulkdygAX
import Derived.WalkSmall
namespace Go.Proofs.Ybulkdyg.AL
open Go.RowKit Go.Deep
set_option linter.unusedVariables false

/-- The two buckets' numbers, by their blocks. -/
def two (α : Type) (B : Nat) (p q : α) (bb : Nat) : α := if bb = B + 1 then p else q
def isB (B : Nat) (bb : Nat) : Prop := bb = B + 1 ∨ bb = B + 3

theorem start2 (w : World) (o1 o2 : Obj) (x id1 id2 : Int) (n1 n2 : Nat) (c : Array Value) (h0 : c[0]? = some (.int .u32 x)) (h10 : c[10]? = some (.slice none 0 0)) :
    Pl w.heap.size (((((w.alloc o1).alloc (.cells (bcells id1 w.heap.size n1) 64)).alloc o2).alloc (.cells (bcells id2 (w.heap.size + 2) n2) 64)).alloc (.cells c 36)) (w.heap.size + 4) x (two Nat w.heap.size n1 n2) (two Int w.heap.size id1 id2) (isB w.heap.size) (.slice none 0 0) [] := by
  have s1 := nblk_alloc w o1
  have s2 := nblk_alloc (w.alloc o1) (.cells (bcells id1 w.heap.size n1) 64)
  have s3 := nblk_alloc ((w.alloc o1).alloc (.cells (bcells id1 w.heap.size n1) 64)) o2
  have s4 := nblk_alloc (((w.alloc o1).alloc (.cells (bcells id1 w.heap.size n1) 64)).alloc o2) (.cells (bcells id2 (w.heap.size + 2) n2) 64)
  refine pl_start (c := c) ?_ h0 h10 (by omega) ?_
  · have := blk_alloc_new ((((w.alloc o1).alloc (.cells (bcells id1 w.heap.size n1) 64)).alloc o2).alloc (.cells (bcells id2 (w.heap.size + 2) n2) 64)) (.cells c 36)
    rwa [s4, s3, s2, s1] at this
  · intro bb hb
    rcases hb with rfl | rfl
    · refine ⟨bcells id1 w.heap.size n1, some ⟨w.heap.size, 0, none⟩, n1, ?_, ?_, ?_⟩
      · rw [blk_alloc_lt _ _ _ (by omega), blk_alloc_lt _ _ _ (by omega), blk_alloc_lt _ _ _ (by omega)]
        have := blk_alloc_new (w.alloc o1) (.cells (bcells id1 w.heap.size n1) 64)
        rwa [s1] at this
      · simp [two, bcells]
      · simp [two, bcells]
    · refine ⟨bcells id2 (w.heap.size + 2) n2, some ⟨w.heap.size + 2, 0, none⟩, n2, ?_, ?_, ?_⟩
      · rw [blk_alloc_lt _ _ _ (by omega)]
        have := blk_alloc_new (((w.alloc o1).alloc (.cells (bcells id1 w.heap.size n1) 64)).alloc o2) (.cells (bcells id2 (w.heap.size + 2) n2) 64)
        rwa [s3, s2, s1] at this
      · simp [two, bcells]
      · simp [two, bcells]

section
variable {B : Nat} {w : World} {pb : Nat} {x : Int} {nf : Nat → Nat} {idf : Nat → Int} {sv : Value} {ws : List WR}

/-- At most one walk a bucket. -/
theorem Pl.le_two (hP : Pl B w pb x nf idf (isB B) sv ws) : ws.length ≤ 2 := by
  rcases Nat.lt_or_ge 2 ws.length with h | h
  · have p := List.pairwise_iff_getElem.1 hP.pw
    have h01 := (p 0 1 (by omega) (by omega) (by omega)).1
    have h02 := (p 0 2 (by omega) (by omega) (by omega)).1
    have h12 := (p 1 2 (by omega) (by omega) (by omega)).1
    have b0 := (hP.wk ws[0] (List.getElem_mem (by omega))).2.2.1
    have b1 := (hP.wk ws[1] (List.getElem_mem (by omega))).2.2.1
    have b2 := (hP.wk ws[2] (List.getElem_mem (by omega))).2.2.1
    unfold isB at b0 b1 b2
    omega
  · exact h
end

set_option maxRecDepth 100000 in
set_option maxHeartbeats 3200000 in
theorem two_walk (x id1 id2 nr1 nr2 : Int) (a : Option Addr) (len cap b off : Nat) (I : Nat → Int) (w : World) (hx : 0 ≤ x) (hx' : x ≤ 4294967295) (h1 : 0 ≤ nr1) (h1' : nr1 ≤ 65535) (h2 : 0 ≤ nr2) (h2' : nr2 ≤ 65535)
    (r3 : BC.Row w a len b off (fun j => .int .u32 (I j))) (hI : ∀ j, 0 ≤ I j ∧ I j ≤ 4294967295) (hlen : len ≤ 1024) :
    Calls Yba.prog 4 #[.int .u32 x, .int .i64 id1, .int .i64 id2, .int .u16 nr1, .int .u16 nr2, .slice a len cap] w fun e w' => e = .returned (.bool true) ∧ Below w.heap.size w w' := by
  have d0 : decide ((1024 : Int) < (len : Int)) = false := decide_eq_false (by omega)
  obtain ⟨n1, hn1⟩ : ∃ n : Nat, 1 + nr1 % 300 = (n : Int) := ⟨(1 + nr1 % 300).toNat, by omega⟩
  obtain ⟨n2, hn2⟩ : ∃ n : Nat, 33 + nr2 % 268 = (n : Int) := ⟨(33 + nr2 % 268).toNat, by omega⟩
  have l1 : 1 ≤ n1 := by omega
  have u1 : n1 ≤ 300 := by omega
  have l2 : 33 ≤ n2 := by omega
  have u2 : n2 ≤ 300 := by omega
  have HNF : Hid (∀ bb, 0 < two Nat w.heap.size n1 n2 bb ∧ two Nat w.heap.size n1 n2 bb ≤ 300) := fun bb => by
    unfold two
    split <;> omega
  go_enter Yba.func4, Yba.ntmps4
  go_wp2_with fail
  refine (bucket_any id1 n1 w u1).mono ?_
  rintro e w1 ⟨rfl, rfl⟩
  have hb2 := bucket_any id2 n2 ((w.alloc (.cells (madeCells #[.int .i64 0] n1) 3)).alloc (.cells (bcells id1 w.heap.size n1) 64)) u2
  have e2 : ((w.alloc (.cells (madeCells #[.int .i64 0] n1) 3)).alloc (.cells (bcells id1 w.heap.size n1) 64)).heap.size = w.heap.size + 2 := by rw [nblk_alloc, nblk_alloc]
  rw [e2] at hb2
  have HB2 := hid hb2
  clear hb2 e2
  go_wp2_with fail
  refine HB2.out.mono ?_
  rintro e w1 ⟨rfl, rfl⟩
  clear HB2
  go_wp2_with fail
  clear hn1 hn2
  go_loopw [16] (fun i wr => ∃ (k : Nat) (sv : Value) (ws : List WR), k ≤ len ∧ i = .int .i64 (k : Int) ∧ Pl w.heap.size wr (w.heap.size + 4) x (two Nat w.heap.size n1 n2) (two Int w.heap.size id1 id2) (isB w.heap.size) sv ws ∧ Below w.heap.size w wr) (fun i _ => len - (intOf i).toNat)
  case atStart =>
    have s1 := nblk_alloc w (.cells (madeCells #[.int .i64 0] n1) 3)
    have s2 := nblk_alloc (w.alloc (.cells (madeCells #[.int .i64 0] n1) 3)) (.cells (bcells id1 w.heap.size n1) 64)
    have s3 := nblk_alloc ((w.alloc (.cells (madeCells #[.int .i64 0] n1) 3)).alloc (.cells (bcells id1 w.heap.size n1) 64)) (.cells (madeCells #[.int .i64 0] n2) 3)
    have s4 := nblk_alloc (((w.alloc (.cells (madeCells #[.int .i64 0] n1) 3)).alloc (.cells (bcells id1 w.heap.size n1) 64)).alloc (.cells (madeCells #[.int .i64 0] n2) 3)) (.cells (bcells id2 (w.heap.size + 2) n2) 64)
    exact ⟨0, .slice none 0 0, [], Nat.zero_le _, rfl, start2 w _ _ x id1 id2 n1 n2 _ rfl rfl, (((((Below.refl _ _).alloc (Nat.le_refl _) _).alloc (by omega) _).alloc (by omega) _).alloc (by omega) _).alloc (by omega) _⟩
  case round =>
    obtain ⟨k, sv, ws, hk, rfl, hP, hnx⟩ := hrel
    by_cases hlt : k < len
    · have q3 := r3.below hnx (Nat.le_refl _)
      have hix := fun u => q3.index Yba.underlying24 size22 cap hlt u
      have hcx := q3.cell k hlt
      obtain ⟨hI0, hI1⟩ := hI k
      generalize I k = z at hcx hI0 hI1
      clear q3
      have HP := hid hP
      clear hP
      go_upto_if 52 with fail
      go_cut [18] (fun s wc => ∃ bb, s = .pointer (some ⟨bb, 0, none⟩) ∧ isB w.heap.size bb ∧ wr = wc)
      case first =>
        go_wp2
        · go_meet
          exact ⟨_, rfl, .inr rfl, rfl⟩
        · go_meet
          exact ⟨_, rfl, .inl rfl, rfl⟩
      case rest =>
        obtain ⟨bb, rfl, hbb, rfl⟩ := hcut
        clear hix hcx
        go_upto_region 13 with fail
        go_cut [19] (fun s wc => ∃ r : Int, s = .int .u32 r ∧ 0 ≤ r ∧ r ≤ 4294967295 ∧ wr = wc)
        case first =>
          go_wp2
          go_meet
          exact ⟨_, rfl, by omega, by omega, rfl⟩
        case rest =>
          obtain ⟨r, rfl, hr0, hr1, rfl⟩ := hcut
          clear hI0 hI1
          have hlw := HP.out.le_two
          obtain ⟨hf0, hf1⟩ := HNF.out bb
          go_wp2_with fail
          refine (pperm_any HP.out hx hx' r hr0 hr1 (by omega) bb hbb hf0 hf1).mono ?_
          rintro e w1 ⟨rfl, ⟨sv1, ws1, hP1, hbb1⟩, hb1⟩
          obtain ⟨ba, bcap, c0, c6⟩ := hP1.bucket hbb
          have HM := hid (perm_any bb (two Nat w.heap.size n1 n2 bb) bcap ba x (two Int w.heap.size id1 id2 bb) r w1 hx hx' hr0 hr1 hf0 hf1 c0 c6)
          generalize item (J x (two Int w.heap.size id1 id2 bb) (two Nat w.heap.size n1 n2 bb)) (r % (two Nat w.heap.size n1 n2 bb : Int)).toNat = it at HM ⊢
          have HP1 := hid hP1
          have HNX := hid (hnx.trans hb1)
          clear hP1 hbb1 hb1 c0 c6 HP hnx
          go_wp2_with fail
          refine HM.out.mono ?_
          rintro e w2 ⟨rfl, rfl⟩
          clear HM
          have hl2 := HP1.out.le_two
          obtain ⟨ao, scap, g, hsv, k4, k0, hrow⟩ := HP1.out.read
          clear hsv k0
          have hd2 : decide ((2 : Int) < (ws1.length : Int)) = false := decide_eq_false (by omega)
          go_upto_region 18 with fail
          go_cut [101] (fun t wc => t = .bool false ∧ ∃ nq, wc = w1.drewN nq)
          case first =>
            by_cases h22 : ws1.length = 2
            · obtain ⟨hke0, hb00, _⟩ := HP1.out.kth (k := 0) (by omega)
              obtain ⟨hke1, hb10, _⟩ := HP1.out.kth (k := 1) (by omega)
              have hi0 : ∀ u, (Instr.indexAt 34 (.slice ao ws1.length scap) (.int .i64 0)).run Yba.prog u = .ok (.pointer (some ⟨g, 0, none⟩)) u := fun u => hrow.index Yba.underlying34 size42 scap (j := 0) (by omega) u
              have hi1 : ∀ u, (Instr.indexAt 34 (.slice ao ws1.length scap) (.int .i64 1)).run Yba.prog u = .ok (.pointer (some ⟨g, 1, none⟩)) u := fun u => hrow.index Yba.underlying34 size42 scap (j := 1) (by omega) u
              have hc0 := hrow.cell 0 (by omega)
              have hc1 := hrow.cell 1 (by omega)
              simp only [hke0, hke1, Nat.zero_add] at hc0 hc1
              have hne := (List.pairwise_iff_getElem.1 HP1.out.pw 0 1 (by omega) (by omega) (by omega)).1
              have heq := fun nq => Pl.eq_other (HP1.out.below (below_drewN (Below.refl w1.heap.size w1) nq) (Nat.le_refl _)) (HP1.out.wk _ (List.getElem_mem (show 0 < ws1.length by omega))).2.2.1 (HP1.out.wk _ (List.getElem_mem (show 1 < ws1.length by omega))).2.2.1 hne
              generalize ws1[0] = q0 at *
              generalize ws1[1] = q1 at *
              have hdl : ((ws1.length : Int) == 2) = true := beq_iff_eq.2 (by omega)
              have hl1 : (0 : Int) < (ws1.length : Int) := by omega
              have hl3 : (1 : Int) < (ws1.length : Int) := by omega
              clear hke0 hke1 hne hrow
              have H22 := hid h22
              clear h22
              go_quiet (fail)
              go_wp2_with fail
              go_meet
              exact ⟨rfl, _, rfl⟩
            · have hdl : ((ws1.length : Int) == 2) = false := beq_eq_false_iff_ne.2 (by omega)
              clear hrow
              go_quiet (fail)
              go_wp2_with fail
              go_meet
              exact ⟨rfl, _, rfl⟩
          case rest =>
            obtain ⟨rfl, nq, rfl⟩ := hcut
            have hP2 : Pl w.heap.size (w1.drewN nq) (w.heap.size + 4) x (two Nat w.heap.size n1 n2) (two Int w.heap.size id1 id2) (isB w.heap.size) sv1 ws1 := HP1.out.below (below_drewN (Below.refl w1.heap.size w1) nq) (Nat.le_refl _)
            have hnx2 : Below w.heap.size w (w1.drewN nq) := below_drewN HNX.out nq
            clear HP1 HNX k4 hrow
            generalize w1.drewN nq = wq at *
            obtain ⟨ao, scap, g, hsv, k4, k0, hrow⟩ := hP2.read
            clear hsv k0
            go_wp2_with fail
            go_loopw [20] (fun v wi => ∃ m : Nat, m ≤ ws1.length ∧ v = .int .i64 (m : Int) ∧ wq = wi) (fun v _ => ws1.length - (intOf v).toNat)
            case atStart => exact ⟨0, Nat.zero_le _, rfl, rfl⟩
            case round =>
              obtain ⟨m, hm, rfl, rfl⟩ := hrel
              by_cases hml : m < ws1.length
              · have hmi : (m : Int) < (ws1.length : Int) := by omega
                obtain ⟨hke, hb0, hb1⟩ := hP2.kth hml
                have hix := fun u => hrow.index Yba.underlying34 size42 scap hml u
                have hck := hrow.cell m hml
                simp only [hke, Nat.zero_add] at hck hix
                have hBm := (hP2.wk _ (List.getElem_mem hml)).2.2.1
                generalize ws1[m] = qm at *
                clear hke hrow
                have HP2 := hid hP2
                clear hP2
                rcases hBm with e | e
                · rw [e] at hb0
                  have y1 := neq_same (w.heap.size + 1) wq
                  clear e
                  go_wp2
                  go_roundw
                  case rel => exact ⟨m + 1, by omega, by go_num, by trivial⟩
                  case measure => simp [intOf]; omega
                · rw [e] at hb0
                  have y1 := HP2.out.neq_other (b := w.heap.size + 3) (b' := w.heap.size + 1) (.inr rfl) (.inl rfl) (by omega)
                  have y2 := neq_same (w.heap.size + 3) wq
                  clear e
                  go_wp2
                  go_roundw
                  case rel => exact ⟨m + 1, by omega, by go_num, by trivial⟩
                  case measure => simp [intOf]; omega
              · have HP2 := hid hP2
                clear hP2 hrow
                go_wp2
                go_roundw
                case rel => exact ⟨k + 1, sv1, ws1, by omega, by go_num, HP2.out, hnx2⟩
                case measure => simp [intOf]; omega
    · go_wp2
      go_ret
      exact ⟨rfl, hnx⟩
end Go.Proofs.Ybulkdyg.AL
