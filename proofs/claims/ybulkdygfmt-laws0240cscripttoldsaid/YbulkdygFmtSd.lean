/-
  LawS0240CScript: THE WALK.
-/
import Derived.Test.YbulkdygFmtSc
import Derived.BigQuiet
import Derived.Deep.QuietTactic
import Derived.Deep.DeepCutAuto
import Derived.Maps.AppendAt
import Derived.WalkSmall
namespace Go.Proofs.YbulkdygFmt
open Go.RowKit Go.Maps Go.Deep
set_option linter.unusedVariables false

theorem hid {p : Prop} (h : p) : Hid p := h
theorem Ybaf.info3 : (Ybaf.prog.info? 3).map (fun i => (i.zero, i.size, i.bytes)) = some (some (.int .i64 0), 1, 8) := by kernel_rfl
theorem Ybaf.info9 : (Ybaf.prog.info? 9).map (fun i => (i.zero, i.size, i.bytes)) = some (some (.string ⟨#[]⟩), 1, 16) := by kernel_rfl

theorem ownBlock_cells {w : World} {B e : Nat} {v : Value} {n : Nat} {xs : List Value} (h : w.ownsRow B e 1 v n xs) {k : Nat} (hk : v.ownBlock = some k) : ∃ c, w.heap[k]? = some (.cells c e (0, 0)) := by
  obtain ⟨_, h2⟩ := h
  rcases h2 with ⟨e, _⟩ | ⟨g, cap, cur, e, _, h4, _⟩
  · rw [e] at hk
    simp [Value.ownBlock] at hk
  · rw [e] at hk
    simp [Value.ownBlock] at hk
    subst hk
    exact ⟨cur, h4⟩
theorem Row.below {w w' : World} {a : Option Addr} {len b off : Nat} {v : Nat → Value} (h : Row w a len b off v) (hb : Below w.heap.size w w') : Row w' a len b off v :=
  ⟨h.head, fun j hj => (hb.cell (p := ⟨b, off + j, none⟩) (lt_of_cell (h.cell j hj))).trans (h.cell j hj)⟩
theorem mem_ids (ps : List (Int × ByteArray)) (x : Int) : x ∈ ps.map (·.1) ↔ ∃ j, j < ps.length ∧ (ps.map (·.1)).getD j 0 = x := by
  rw [mem_getD (ps.map (·.1)) 0 x, List.length_map]
theorem mem_nms (ps : List (Int × ByteArray)) (x : ByteArray) : x ∈ ps.map (·.2) ↔ ∃ j, j < ps.length ∧ (ps.map (·.2)).getD j ⟨#[]⟩ = x := by
  rw [mem_getD (ps.map (·.2)) ⟨#[]⟩ x, List.length_map]
theorem yes_iff {p q : Prop} (h : p ↔ q) (hp : p) : (true = true ↔ q) := ⟨fun _ => h.1 hp, fun _ => rfl⟩
theorem no_iff {p q : Prop} (h : p ↔ q) (hp : ¬ p) : (false = true ↔ q) := ⟨fun e => (by cases e), fun hq => absurd (h.2 hq) hp⟩
theorem has_no {m : DataW Unit} {k : Lit} {p : Prop} (h : Maps.has m k = true ↔ p) (hp : ¬ p) : Maps.has m k = false := by
  cases e : Maps.has m k
  · rfl
  · exact absurd (h.1 e) hp

set_option maxRecDepth 100000 in
set_option maxHeartbeats 3200000 in
theorem script_walk (a : Option Addr) (len cap b off : Nat) (I N A : Nat → Int) (w : World) (hO : Ops w a len b off I N A) (hI : ∀ j, 0 ≤ I j ∧ I j ≤ 255) (hN : ∀ j, 0 ≤ N j ∧ N j ≤ 255) (hA : ∀ j, 0 ≤ A j ∧ A j ≤ 65535) (hlen : len ≤ 1024) :
    Calls Ybaf.prog 3 #[.slice a len cap] w fun e w' => e = .returned (.bool true) ∧ Below w.heap.size w w' := by
  have d0 : decide ((1024 : Int) < (len : Int)) = false := decide_eq_false (by omega)
  go_enter Ybaf.func3, Ybaf.ntmps3
  go_wp2_with fail
  refine (new_bld _ _).mono ?_
  rintro e w1 ⟨rfl, hB, hb1⟩
  go_wp2_with fail
  go_loopw [4, 5, 26] (fun vi vn i wr => ∃ (k : Nat) (ps : List (Int × ByteArray)), k ≤ len ∧ ps.length ≤ k ∧ i = .int .i64 (k : Int) ∧ Scr w wr vi vn ps) (fun _ _ i _ => len - (intOf i).toNat)
  case atStart => exact ⟨0, [], Nat.zero_le _, Nat.zero_le _, rfl, ⟨hB, World.ownsRow_nil _ _ _ _, World.ownsRow_nil _ _ _ _, hb1, prs_nil⟩⟩
  case round =>
    clear hB hb1
    obtain ⟨k, ps, hk, hpl, rfl, hS⟩ := hrel
    by_cases hlt : k < len
    · have hO' := hO.below hS.bel (Nat.le_refl _)
      have hix := fun u => hO'.index cap hlt u
      have g0 := hO'.c0 k hlt
      have g1 := hO'.c1 k hlt
      have g2 := hO'.c2 k hlt
      obtain ⟨i0, i1⟩ := hI k
      obtain ⟨n0, n1⟩ := hN k
      obtain ⟨t0, t1⟩ := hA k
      generalize I k = zi at *
      generalize N k = zn at *
      generalize A k = za at *
      clear hO'
      go_upto_region 12 with (first | (go_at_call 6; refine (name_any _ _ (by omega) (by omega)).mono ?_; rintro e w' ⟨rfl, rfl⟩))
      have hS1 := hS.below ((Below.refl wr.heap.size wr).alloc (Nat.le_refl _) (.cells #[.int .u8 zi, .int .u8 zn, .int .u16 za] 29))
      obtain ⟨id, hid'⟩ : ∃ id, zi % 6 - 1 = id := ⟨_, rfl⟩
      have hz := nme_size zn
      have l1 : -1 ≤ id := by omega
      have l2 : id ≤ 4 := by omega
      have hwi : (Lit.int .i64 id).wf = true := WalkArith.wf_i64 (by omega)
      rw [hid']
      clear hid' hix g0 g1 g2 hS
      generalize nme zn = nm at *
      generalize wr.alloc (.cells #[.int .u8 zi, .int .u8 zn, .int .u16 za] 29) = W at *
      have ha := assert36
      by_cases hneg : id < 0
      · have hd : decide (0 ≤ id) = false := decide_eq_false (by omega)
        have HS := hid hS1
        clear hS1
        go_wp2_with fail
        refine (typ_neg w.heap.size _ nm id za _ _ _ W HS.out.bld hneg).mono ?_
        rintro e w2 ⟨q, rfl, e0, e1, e2, hb⟩
        have HS2 := hid (HS.out.below hb)
        clear HS hb
        go_wp2
        go_roundw
        case rel => exact ⟨k + 1, ps, by omega, by omega, by go_num, HS2.out⟩
        case measure => simp [intOf]; omega
      · have hd : decide (0 ≤ id) = true := decide_eq_true (by omega)
        obtain ⟨ai, ci, gi, hvi, ri⟩ := hS1.ids
        obtain ⟨an, cn, gn, hvn, rn⟩ := hS1.names
        subst hvi
        subst hvn
        by_cases hmi : id ∈ ps.map (·.1)
        · have HH := hid (hasint_any ai ps.length ci gi (fun j => (ps.map (·.1)).getD j 0) id true W (by omega) ri (yes_iff (mem_ids ps id) hmi))
          have HT := hid (typ_id w.heap.size _ nm id za _ _ _ W hS1.bld (by omega) hwi ((hS1.prs.hN id).2 hmi))
          have HS := hid hS1
          clear hS1 ri rn hmi
          go_wp2_with fail
          refine HH.out.mono ?_
          rintro e w2 ⟨rfl, rfl⟩
          go_wp2_with fail
          refine HT.out.mono ?_
          rintro e w2 ⟨q, rfl, e0, e1, e2, hb⟩
          have HS2 := hid (HS.out.below hb)
          clear HS hb HH HT
          go_wp2
          go_roundw
          case rel => exact ⟨k + 1, ps, by omega, by omega, by go_num, HS2.out⟩
          case measure => simp [intOf]; omega
        · have HH := hid (hasint_any ai ps.length ci gi (fun j => (ps.map (·.1)).getD j 0) id false W (by omega) ri (no_iff (mem_ids ps id) hmi))
          by_cases hmn : nm ∈ ps.map (·.2)
          · have HM := hid (hasstr_any an ps.length cn gn (fun j => (ps.map (·.2)).getD j ⟨#[]⟩) nm true W (by omega) rn (yes_iff (mem_nms ps nm) hmn))
            have HT := hid (typ_name w.heap.size _ nm id za _ _ _ W hS1.bld (by omega) hwi hz (has_no (hS1.prs.hN id) hmi) ((hS1.prs.hT nm).2 hmn))
            have HS := hid hS1
            clear hS1 ri rn hmi hmn
            go_wp2_with fail
            refine HH.out.mono ?_
            rintro e w2 ⟨rfl, rfl⟩
            go_wp2_with fail
            refine HM.out.mono ?_
            rintro e w2 ⟨rfl, rfl⟩
            go_wp2_with fail
            refine HT.out.mono ?_
            rintro e w2 ⟨q, rfl, e0, e1, e2, hb⟩
            have HS2 := hid (HS.out.below hb)
            clear HS hb HH HT HM
            go_wp2
            go_roundw
            case rel => exact ⟨k + 1, ps, by omega, by omega, by go_num, HS2.out⟩
            case measure => simp [intOf]; omega
          · have HM := hid (hasstr_any an ps.length cn gn (fun j => (ps.map (·.2)).getD j ⟨#[]⟩) nm false W (by omega) rn (no_iff (mem_nms ps nm) hmn))
            have HT := hid (typ_ok2 w.heap.size _ nm id za _ _ _ W hS1.bld (by omega) hwi hz (by omega) (has_no (hS1.prs.hN id) hmi) (has_no (hS1.prs.hT nm) hmn))
            have HS := hid hS1
            have HMI := hid hmi
            have HMN := hid hmn
            clear hS1 ri rn hmi hmn
            go_wp2_with fail
            refine HH.out.mono ?_
            rintro e w2 ⟨rfl, rfl⟩
            go_wp2_with fail
            refine HM.out.mono ?_
            rintro e w2 ⟨rfl, rfl⟩
            go_wp2_with fail
            refine HT.out.mono ?_
            rintro e w2 ⟨rfl, hB2, hb2, hk2⟩
            have hoi := ownsRow_heap HS.out.oi hk2
            have hon := ownsRow_heap HS.out.on hk2
            have hz2 := hB2.sz
            obtain ⟨f3, hf3, hf30, hf31, hf32⟩ := info_parts Ybaf.info3
            obtain ⟨f9, hf9, hf90, hf91, hf92⟩ := info_parts Ybaf.info9
            have HB2 := hid hB2
            have Hb2 := hid hb2
            clear HH HM HT hB2 hb2 hk2
            go_wp2_with (first | (at_builtin; refine wpList_append_own _ rfl (.tmp 63) (.tmp 65) 25 rfl (w.heap.size + 16) 3 f3 (.int .i64 0) 1 8 Ybaf.underlying25 hf3 hf30 hf31 hf32 rfl (by decide) _ ps.length (ps.map fun p => .int .i64 p.1) rfl ?q1 ⟨w2.heap.size, 0, none⟩ 1 1 [.int .i64 id] rfl rfl ?q2 ?q3 ?q4 ?q5 ?q6 ?_))
            case q1 => exact hoi.alloc _
            case q2 => exact cell_one_new _ _ _
            case q3 => intro u hu; simp at hu; subst hu; rfl
            case q4 => unfold maxLen; omega
            case q5 => omega
            case q6 => rw [nblk_alloc]; omega
            intro v3 w3 own3 grow3 nil3
            clear nil3
            obtain ⟨g3, cap3, hv3⟩ : ∃ g cap, v3 = .slice (some ⟨g, 0, none⟩) (ps.length + 1) cap := by
              rcases own3.2 with ⟨_, e⟩ | ⟨g, cap, _, e, _⟩
              · omega
              · exact ⟨g, cap, e⟩
            subst hv3
            have sz3 := grow3.size
            rw [nblk_alloc] at sz3
            have hon3 : w3.ownsRow (w.heap.size + 16) 9 1 (.slice an ps.length cn) ps.length (ps.map fun p => .string p.2) := by
              refine (hon.alloc _).kept grow3 ?_
              rcases hh : (Value.slice an ps.length cn).ownBlock with _ | k1
              · exact .inl rfl
              · refine .inr fun e => ?_
                obtain ⟨c1, x1⟩ := ownBlock_cells hon hh
                obtain ⟨c2, x2⟩ := ownBlock_cells hoi e.symm
                rw [x1] at x2
                cases x2
            have hne : ∀ k, (Value.slice (some ⟨g3, 0, none⟩) (ps.length + 1) cap3).ownBlock = some k → some k ≠ (Value.slice an ps.length cn).ownBlock := by
              intro k1 h1 h2
              obtain ⟨c1, x1⟩ := ownBlock_cells own3 h1
              obtain ⟨c2, x2⟩ := ownBlock_cells hon3 h2.symm
              rw [x1] at x2
              cases x2
            go_wp2_with (first | (at_builtin; refine wpList_append_own _ rfl (.tmp 67) (.tmp 69) 26 rfl (w.heap.size + 16) 9 f9 (.string ⟨#[]⟩) 1 16 Ybaf.underlying26 hf9 hf90 hf91 hf92 rfl (by decide) _ ps.length (ps.map fun p => .string p.2) rfl ?q1 ⟨w3.heap.size, 0, none⟩ 1 1 [.string nm] rfl rfl ?q2 ?q3 ?q4 ?q5 ?q6 ?_))
            case q1 => exact hon3.alloc _
            case q2 => exact cell_one_new _ _ _
            case q3 => intro u hu; simp at hu; subst hu; rfl
            case q4 => unfold maxLen; omega
            case q5 => omega
            case q6 => rw [nblk_alloc]; omega
            intro v4 w4 own4 grow4 nil4
            clear nil4
            obtain ⟨g4, cap4, hv4⟩ : ∃ g cap, v4 = .slice (some ⟨g, 0, none⟩) (ps.length + 1) cap := by
              rcases own4.2 with ⟨_, e⟩ | ⟨g, cap, _, e, _⟩
              · omega
              · exact ⟨g, cap, e⟩
            subst hv4
            have HF := hid (HS.out.taken (p := (id, nm)) HMI.out HMN.out hwi hz HB2.out Hb2.out own3 grow3 own4 grow4 hne)
            clear HS HMI HMN HB2 Hb2 own3 grow3 own4 grow4 hne hon3 hon hoi hf3 hf30 hf31 hf32 hf9 hf90 hf91 hf92
            go_wp2
            go_roundw
            case rel => exact ⟨k + 1, ps ++ [(id, nm)], by omega, by rw [List.length_append]; simp; omega, by go_num, HF.out⟩
            case measure => simp [intOf]; omega
    · obtain ⟨ai, ci, gi, hvi, ri⟩ := hS.ids
      obtain ⟨an, cn, gn, hvn, rn⟩ := hS.names
      subst hvi
      subst hvn
      have lT := fun ty => len_T hS.bld ty ps.length hS.prs.zT
      have lN := fun ty => len_N hS.bld ty ps.length hS.prs.zN
      have c1 := hS.bld.c1
      have c6 := hS.bld.c6
      have m2 := hS.bld.m2
      have HS := hid hS
      have HRI := hid ri
      have HRN := hid rn
      clear hS ri rn
      go_wp2_with fail
      clear lT lN c1 c6 m2 hlt
      go_loopw [15] (fun i wq => ∃ j : Nat, j ≤ ps.length ∧ i = .int .i64 (j : Int) ∧ Below wr.heap.size wr wq) (fun i _ => ps.length - (intOf i).toNat)
      case atStart => exact ⟨0, Nat.zero_le _, rfl, Below.refl _ _⟩
      case round =>
        obtain ⟨j, hj, rfl, hb⟩ := hrel
        have hS2 := HS.out.below hb
        have c1 := hS2.bld.c1
        have c6 := hS2.bld.c6
        have m2 := hS2.bld.m2
        by_cases hlt : j < ps.length
        · have r1 := HRI.out.below hb
          have r2 := HRN.out.below hb
          have x1 := fun u => r1.index Ybaf.underlying25 size3 ci hlt u
          have x2 := fun u => r2.index Ybaf.underlying26 size9 cn hlt u
          have y1 := r1.cell j hlt
          have y2 := r2.cell j hlt
          obtain ⟨p, hp⟩ : ∃ p, ps[j] = p := ⟨_, rfl⟩
          have hm : p ∈ ps := hp ▸ List.getElem_mem hlt
          have z1 : (ps.map (·.1)).getD j 0 = p.1 := by simp [List.getD, hlt, hp]
          have z2 : (ps.map (·.2)).getD j ⟨#[]⟩ = p.2 := by simp [List.getD, hlt, hp]
          simp only [z1, z2, Nat.zero_add] at x1 x2 y1 y2
          have qT := fun nq => look_T (hS2.bld.below (below_drewN (Below.refl _ _) nq) hS2.bld.sz) hS2.prs hm
          have qN := fun nq => look_N (hS2.bld.below (below_drewN (Below.refl _ _) nq) hS2.bld.sz) hS2.prs hm
          have HSB := hid hb
          clear r1 r2 hp hm z1 z2 hS2 hb
          go_wp2_with fail
          go_quiet (fail)
          have qN2 : ∀ m, (Instr.lookup 42 (.map (some (w.heap.size + 1))) (.int .i64 p.1) true).run Ybaf.prog ((wr.drewN nq).drewN m) = .ok (.tuple #[.string p.2, .bool true]) ((wr.drewN nq).drewN m) := fun m => by
            rw [World.drewN_drewN]
            exact qN _
          have HSB2 := hid (below_drewN HSB.out nq)
          have hbe := beq_bytes_true (rfl : p.2 = p.2)
          have hbi : (p.1 == p.1) = true := beq_self_eq_true _
          clear HSB qT
          go_wp2_with fail
          go_quiet (fail)
          have HSB3 := hid (below_drewN HSB2.out nq)
          clear HSB2 qN2 qN
          go_wp2
          go_roundw
          case rel => exact ⟨j + 1, by omega, by go_num, by rw [← World.drewN_drewN]; exact HSB3.out⟩
          case measure => simp [intOf]; omega
        · have c3 := hS2.bld.c3
          have c4 := hS2.bld.c4
          have c5 := hS2.bld.c5
          have l3 := fun ty => len_empty Ybaf.underlying41 hS2.bld.e3 ty
          have l4 := fun ty => len_empty Ybaf.underlying42 hS2.bld.e4 ty
          have l5 := fun ty => len_empty Ybaf.underlying43 hS2.bld.e5 ty
          have HF := hid hS2.bel
          clear hS2 hb
          go_wp2
          go_ret
          exact ⟨rfl, HF.out⟩
end Go.Proofs.YbulkdygFmt
