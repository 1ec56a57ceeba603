/-
  mix AND hash3 BY THEIR CONTRACTS: functions of their words alone.
-/
import Derived.Test.YbulkdygBC
import Derived.OpenShut
import Derived.Deep.DeepCutAuto
namespace Go.Proofs.Ybulkdyg.AL
open Go.RowKit
set_option linter.unusedVariables false

/-- '(a - b - c) ^ c>>s' and '(a - b - c) ^ c<<s' (d = 2^s), in the walk's own words. -/
def R (a b c d : Int) : Int := bits .xor .u32 ((a - b - c) % 4294967296) (c / d)
def L (a b c d : Int) : Int := bits .xor .u32 ((a - b - c) % 4294967296) (c * d % 4294967296)
theorem R_lo (a b c d : Int) : 0 ≤ R a b c d := (bounds_u32 (wf_bits .xor .u32 _ _)).1
theorem R_hi (a b c d : Int) : R a b c d ≤ 4294967295 := (bounds_u32 (wf_bits .xor .u32 _ _)).2
theorem L_lo (a b c d : Int) : 0 ≤ L a b c d := (bounds_u32 (wf_bits .xor .u32 _ _)).1
theorem L_hi (a b c d : Int) : L a b c d ≤ 4294967295 := (bounds_u32 (wf_bits .xor .u32 _ _)).2

/-- One round of the mix. -/
def mixV (a b c : Int) : Int × Int × Int :=
  let a1 := R a b c 8192
  let b1 := L b c a1 256
  let c1 := R c a1 b1 8192
  let a2 := R a1 b1 c1 4096
  let b2 := L b1 c1 a2 65536
  let c2 := R c1 a2 b2 32
  let a3 := R a2 b2 c2 8
  let b3 := L b2 c2 a3 1024
  let c3 := R c2 a3 b3 32768
  (a3, b3, c3)
theorem mixV_bd (a b c : Int) : (0 ≤ (mixV a b c).1 ∧ (mixV a b c).1 ≤ 4294967295) ∧ (0 ≤ (mixV a b c).2.1 ∧ (mixV a b c).2.1 ≤ 4294967295) ∧ (0 ≤ (mixV a b c).2.2 ∧ (mixV a b c).2.2 ≤ 4294967295) :=
  ⟨⟨R_lo _ _ _ _, R_hi _ _ _ _⟩, ⟨L_lo _ _ _ _, L_hi _ _ _ _⟩, ⟨R_lo _ _ _ _, R_hi _ _ _ _⟩⟩

set_option maxRecDepth 100000 in
set_option maxHeartbeats 1600000 in
theorem mix_any (a b c : Int) (w : World) (ha : 0 ≤ a) (ha' : a ≤ 4294967295) (hb : 0 ≤ b) (hb' : b ≤ 4294967295) (hc : 0 ≤ c) (hc' : c ≤ 4294967295) :
    Calls Yba.prog 16 #[.int .u32 a, .int .u32 b, .int .u32 c] w fun e w' => e = .returned (.tuple #[.int .u32 (mixV a b c).1, .int .u32 (mixV a b c).2.1, .int .u32 (mixV a b c).2.2]) ∧ w = w' := by
  obtain ⟨a1, ha1⟩ : ∃ v, v = R a b c 8192 := ⟨_, rfl⟩
  have la1 : 0 ≤ a1 := by rw [ha1]; exact R_lo _ _ _ _
  have ua1 : a1 ≤ 4294967295 := by rw [ha1]; exact R_hi _ _ _ _
  obtain ⟨b1, hb1⟩ : ∃ v, v = L b c a1 256 := ⟨_, rfl⟩
  have lb1 : 0 ≤ b1 := by rw [hb1]; exact L_lo _ _ _ _
  have ub1 : b1 ≤ 4294967295 := by rw [hb1]; exact L_hi _ _ _ _
  obtain ⟨c1, hc1⟩ : ∃ v, v = R c a1 b1 8192 := ⟨_, rfl⟩
  have lc1 : 0 ≤ c1 := by rw [hc1]; exact R_lo _ _ _ _
  have uc1 : c1 ≤ 4294967295 := by rw [hc1]; exact R_hi _ _ _ _
  obtain ⟨a2, ha2⟩ : ∃ v, v = R a1 b1 c1 4096 := ⟨_, rfl⟩
  have la2 : 0 ≤ a2 := by rw [ha2]; exact R_lo _ _ _ _
  have ua2 : a2 ≤ 4294967295 := by rw [ha2]; exact R_hi _ _ _ _
  obtain ⟨b2, hb2⟩ : ∃ v, v = L b1 c1 a2 65536 := ⟨_, rfl⟩
  have lb2 : 0 ≤ b2 := by rw [hb2]; exact L_lo _ _ _ _
  have ub2 : b2 ≤ 4294967295 := by rw [hb2]; exact L_hi _ _ _ _
  obtain ⟨c2, hc2⟩ : ∃ v, v = R c1 a2 b2 32 := ⟨_, rfl⟩
  have lc2 : 0 ≤ c2 := by rw [hc2]; exact R_lo _ _ _ _
  have uc2 : c2 ≤ 4294967295 := by rw [hc2]; exact R_hi _ _ _ _
  obtain ⟨a3, ha3⟩ : ∃ v, v = R a2 b2 c2 8 := ⟨_, rfl⟩
  have la3 : 0 ≤ a3 := by rw [ha3]; exact R_lo _ _ _ _
  have ua3 : a3 ≤ 4294967295 := by rw [ha3]; exact R_hi _ _ _ _
  obtain ⟨b3, hb3⟩ : ∃ v, v = L b2 c2 a3 1024 := ⟨_, rfl⟩
  have lb3 : 0 ≤ b3 := by rw [hb3]; exact L_lo _ _ _ _
  have ub3 : b3 ≤ 4294967295 := by rw [hb3]; exact L_hi _ _ _ _
  obtain ⟨c3, hc3⟩ : ∃ v, v = R c2 a3 b3 32768 := ⟨_, rfl⟩
  have lc3 : 0 ≤ c3 := by rw [hc3]; exact R_lo _ _ _ _
  have uc3 : c3 ≤ 4294967295 := by rw [hc3]; exact R_hi _ _ _ _
  have hV : mixV a b c = (a3, b3, c3) := by rw [hc3, hb3, ha3, hc2, hb2, ha2, hc1, hb1, ha1]; rfl
  have HV : Hid (mixV a b c = (a3, b3, c3)) := hV
  clear hV
  have Ha1 : Hid (a1 = R a b c 8192) := ha1
  have Hb1 : Hid (b1 = L b c a1 256) := hb1
  have Hc1 : Hid (c1 = R c a1 b1 8192) := hc1
  have Ha2 : Hid (a2 = R a1 b1 c1 4096) := ha2
  have Hb2 : Hid (b2 = L b1 c1 a2 65536) := hb2
  have Hc2 : Hid (c2 = R c1 a2 b2 32) := hc2
  have Ha3 : Hid (a3 = R a2 b2 c2 8) := ha3
  have Hb3 : Hid (b3 = L b2 c2 a3 1024) := hb3
  have Hc3 : Hid (c3 = R c2 a3 b3 32768) := hc3
  clear ha1 hb1 hc1 ha2 hb2 hc2 ha3 hb3 hc3
  rw [HV.out]
  go_enter Yba.func16, Yba.ntmps16
  go_upto_region 1 with fail
  go_cut [0] (fun s wc => s = .int .u32 a1 ∧ w = wc)
  case first =>
    go_wp2
    go_meet
    exact ⟨by rw [Ha1.out]; rfl, rfl⟩
  obtain ⟨rfl, rfl⟩ := hcut
  go_upto_region 2 with fail
  go_cut [1] (fun s wc => s = .int .u32 b1 ∧ w = wc)
  case first =>
    go_wp2
    go_meet
    exact ⟨by rw [Hb1.out]; rfl, rfl⟩
  obtain ⟨rfl, rfl⟩ := hcut
  go_upto_region 3 with fail
  go_cut [2] (fun s wc => s = .int .u32 c1 ∧ w = wc)
  case first =>
    go_wp2
    go_meet
    exact ⟨by rw [Hc1.out]; rfl, rfl⟩
  obtain ⟨rfl, rfl⟩ := hcut
  go_upto_region 4 with fail
  go_cut [0] (fun s wc => s = .int .u32 a2 ∧ w = wc)
  case first =>
    go_wp2
    go_meet
    exact ⟨by rw [Ha2.out]; rfl, rfl⟩
  obtain ⟨rfl, rfl⟩ := hcut
  go_upto_region 5 with fail
  go_cut [1] (fun s wc => s = .int .u32 b2 ∧ w = wc)
  case first =>
    go_wp2
    go_meet
    exact ⟨by rw [Hb2.out]; rfl, rfl⟩
  obtain ⟨rfl, rfl⟩ := hcut
  go_upto_region 6 with fail
  go_cut [2] (fun s wc => s = .int .u32 c2 ∧ w = wc)
  case first =>
    go_wp2
    go_meet
    exact ⟨by rw [Hc2.out]; rfl, rfl⟩
  obtain ⟨rfl, rfl⟩ := hcut
  go_upto_region 7 with fail
  go_cut [0] (fun s wc => s = .int .u32 a3 ∧ w = wc)
  case first =>
    go_wp2
    go_meet
    exact ⟨by rw [Ha3.out]; rfl, rfl⟩
  obtain ⟨rfl, rfl⟩ := hcut
  go_upto_region 8 with fail
  go_cut [1] (fun s wc => s = .int .u32 b3 ∧ w = wc)
  case first =>
    go_wp2
    go_meet
    exact ⟨by rw [Hb3.out]; rfl, rfl⟩
  obtain ⟨rfl, rfl⟩ := hcut
  go_upto_region 9 with fail
  go_cut [2] (fun s wc => s = .int .u32 c3 ∧ w = wc)
  case first =>
    go_wp2
    go_meet
    exact ⟨by rw [Hc3.out]; rfl, rfl⟩
  obtain ⟨rfl, rfl⟩ := hcut
  go_wp2
  go_ret3
  exact ⟨rfl, rfl⟩

/-- The store's hash of three words. -/
def hash3V (a b c : Int) : Int :=
  let h0 := bits .xor .u32 (bits .xor .u32 (bits .xor .u32 1315423911 a) b) c
  let m1 := mixV a b h0
  let m2 := mixV c 231232 m1.2.2
  let m3 := mixV 1232 m1.1 m2.2.2
  let m4 := mixV m1.2.1 m2.2.1 m3.2.2
  let m5 := mixV m3.1 m2.1 m4.2.2
  m5.2.2
theorem hash3V_bd (a b c : Int) : 0 ≤ hash3V a b c ∧ hash3V a b c ≤ 4294967295 := (mixV_bd _ _ _).2.2

set_option maxRecDepth 100000 in
set_option maxHeartbeats 1600000 in
theorem hash3_any (a b c : Int) (w : World) (ha : 0 ≤ a) (ha' : a ≤ 4294967295) (hb : 0 ≤ b) (hb' : b ≤ 4294967295) (hc : 0 ≤ c) (hc' : c ≤ 4294967295) :
    Calls Yba.prog 15 #[.int .u32 a, .int .u32 b, .int .u32 c] w fun e w' => e = .returned (.int .u32 (hash3V a b c)) ∧ w = w' := by
  obtain ⟨h0, hh0⟩ : ∃ v, v = bits .xor .u32 (bits .xor .u32 (bits .xor .u32 1315423911 a) b) c := ⟨_, rfl⟩
  have l0 : 0 ≤ h0 := by rw [hh0]; exact (bounds_u32 (wf_bits .xor .u32 _ _)).1
  have u0 : h0 ≤ 4294967295 := by rw [hh0]; exact (bounds_u32 (wf_bits .xor .u32 _ _)).2
  have HH : Hid (h0 = bits .xor .u32 (bits .xor .u32 (bits .xor .u32 1315423911 a) b) c) := hh0
  clear hh0
  go_enter Yba.func15, Yba.ntmps15
  go_upto_region 1 with fail
  go_cut [7] (fun s wc => s = .int .u32 h0 ∧ w = wc)
  case first =>
    go_wp2
    go_meet
    exact ⟨by rw [HH.out], rfl⟩
  obtain ⟨rfl, rfl⟩ := hcut
  have HQ : Hid (∀ m1 m2 m3 m4 m5, mixV a b h0 = m1 → mixV c 231232 m1.2.2 = m2 → mixV 1232 m1.1 m2.2.2 = m3 → mixV m1.2.1 m2.2.1 m3.2.2 = m4 → mixV m3.1 m2.1 m4.2.2 = m5 → m5.2.2 = hash3V a b c) := by
    intro m1 m2 m3 m4 m5 e1 e2 e3 e4 e5
    subst e5 e4 e3 e2 e1
    rw [HH.out]
    rfl
  go_wp2_with fail
  refine (mix_any (a) (b) (h0) _ ha ha' hb hb' l0 u0).mono ?_
  rintro e w' ⟨rfl, rfl⟩
  obtain ⟨⟨x11, x12⟩, ⟨x13, x14⟩, ⟨x15, x16⟩⟩ := mixV_bd (a) (b) (h0)
  generalize hm1 : mixV (a) (b) (h0) = m1 at x11 x12 x13 x14 x15 x16 ⊢
  have H1 : Hid (mixV (a) (b) (h0) = m1) := hm1
  clear hm1
  go_wp2_with fail
  refine (mix_any (c) (231232) (m1.2.2) _ hc hc' (by omega) (by omega) x15 x16).mono ?_
  rintro e w' ⟨rfl, rfl⟩
  obtain ⟨⟨x21, x22⟩, ⟨x23, x24⟩, ⟨x25, x26⟩⟩ := mixV_bd (c) (231232) (m1.2.2)
  generalize hm2 : mixV (c) (231232) (m1.2.2) = m2 at x21 x22 x23 x24 x25 x26 ⊢
  have H2 : Hid (mixV (c) (231232) (m1.2.2) = m2) := hm2
  clear hm2
  go_wp2_with fail
  refine (mix_any (1232) (m1.1) (m2.2.2) _ (by omega) (by omega) x11 x12 x25 x26).mono ?_
  rintro e w' ⟨rfl, rfl⟩
  obtain ⟨⟨x31, x32⟩, ⟨x33, x34⟩, ⟨x35, x36⟩⟩ := mixV_bd (1232) (m1.1) (m2.2.2)
  generalize hm3 : mixV (1232) (m1.1) (m2.2.2) = m3 at x31 x32 x33 x34 x35 x36 ⊢
  have H3 : Hid (mixV (1232) (m1.1) (m2.2.2) = m3) := hm3
  clear hm3
  go_wp2_with fail
  refine (mix_any (m1.2.1) (m2.2.1) (m3.2.2) _ x13 x14 x23 x24 x35 x36).mono ?_
  rintro e w' ⟨rfl, rfl⟩
  obtain ⟨⟨x41, x42⟩, ⟨x43, x44⟩, ⟨x45, x46⟩⟩ := mixV_bd (m1.2.1) (m2.2.1) (m3.2.2)
  generalize hm4 : mixV (m1.2.1) (m2.2.1) (m3.2.2) = m4 at x41 x42 x43 x44 x45 x46 ⊢
  have H4 : Hid (mixV (m1.2.1) (m2.2.1) (m3.2.2) = m4) := hm4
  clear hm4
  go_wp2_with fail
  refine (mix_any (m3.1) (m2.1) (m4.2.2) _ x31 x32 x21 x22 x45 x46).mono ?_
  rintro e w' ⟨rfl, rfl⟩
  obtain ⟨⟨x51, x52⟩, ⟨x53, x54⟩, ⟨x55, x56⟩⟩ := mixV_bd (m3.1) (m2.1) (m4.2.2)
  generalize hm5 : mixV (m3.1) (m2.1) (m4.2.2) = m5 at x51 x52 x53 x54 x55 x56 ⊢
  have H5 : Hid (mixV (m3.1) (m2.1) (m4.2.2) = m5) := hm5
  clear hm5
  go_wp2
  go_ret
  exact ⟨congrArg (fun v => Ending.returned (.int .u32 v)) (HQ.out m1 m2 m3 m4 m5 H1.out H2.out H3.out H4.out H5.out), rfl⟩
end Go.Proofs.Ybulkdyg.AL
