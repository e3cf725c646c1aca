import Derived.Test.YtljaoopfomcaoaaGreatDoorM18
set_option linter.all false
open Go.Lib (hid)
namespace Go.Proofs.YtljaoopfomcaoaaGreatDoor
section
open Go.RowKit
theorem and_i64_nat (a b : Nat) (ha : a < 9223372036854775808) (hb : b < 9223372036854775808) : bits .and .i64 (a : Int) (b : Int) = ((a &&& b : Nat) : Int) := by
 have hx : a &&& b < 2 ^ 63 := Nat.and_lt_two_pow _ (by omega); have h1 : (BitVec.ofInt 64 (a : Int)).toNat = a := by
  rw [BitVec.ofInt_natCast, BitVec.toNat_ofNat]; exact Nat.mod_eq_of_lt (by omega)
 have h2 : (BitVec.ofInt 64 (b : Int)).toNat = b := by
  rw [BitVec.ofInt_natCast, BitVec.toNat_ofNat]; exact Nat.mod_eq_of_lt (by omega)
 show IntKind.i64.wrap ((BitVec.ofInt 64 (a : Int) &&& BitVec.ofInt 64 (b : Int)).toNat : Int) = _
 rw [BitVec.toNat_and, h1, h2, IntWalk.i64_in _ (by omega)]
theorem and1_i64 (a : Nat) (ha : a < 9223372036854775808) : bits .and .i64 (a : Int) 1 = ((a % 2 : Nat) : Int) := by
 have h := and_i64_nat a 1 ha (by omega); rw [Nat.and_one_is_mod] at h; exact h
structure Mt (mant k : Nat) (E : Int) : Prop where
 pos : 1 ≤ mant
 lt : mant * 2 ^ k < 9007199254740992
 ge : 4503599627370496 ≤ mant * 2 ^ k
 e1 : -1074 ≤ E
 e2 : E ≤ 971
 kl : k ≤ 52
 sub : k = 0 ∨ E = -1074
theorem Mt.small {mant k : Nat} {E : Int} (h : Mt mant k E) : mant < 9007199254740992 := by
 have h1 := h.lt; have h2 : mant * 1 ≤ mant * 2 ^ k := Nat.mul_le_mul_left _ (pow2_pos k); omega
theorem sOf_sub : Fl.sOf (-1085) false = 6 := by decide
theorem shift_lt {mant k : Nat} {E : Int} (h : Mt mant k E) (sk : Bool) (hsk : sk = decide (mant = 2 ^ 52 ∧ -1074 < E)) :
  (Fl.sOf (E - 11) sk).toNat + k < 64 ∧ 0 ≤ Fl.sOf (E - 11) sk := by
 have F := Fl.fits (E - 11) sk (by have := h.e1; omega) (by have := h.e2; omega); refine ⟨?_, F.s0⟩; rcases h.sub with hk | hE
 · have := F.s1
   have := F.s0; omega
 ·
  have hs : sk = false := by
   rw [hsk]; exact decide_eq_false (by omega)
  rw [hs, hE, show (-1074 : Int) - 11 = -1085 from by omega, sOf_sub]; have := h.kl
  show 6 + k < 64
  omega
theorem unr_small {y : Nat} {E : Int} {sk : Bool} (h1 : -1074 ≤ E) (h2 : E ≤ 971) (hy : y ≤ 2 ^ 55) : Fl.unr (y * (2 ^ 9 * Fl.nu (Fl.pOf (E - 11) sk) (E - 11 + 2))) (Fl.de (Fl.pOf (E - 11) sk) (E - 11 + 2)) < 1152921504606846976 := by
 have F := Fl.fits (E - 11) sk (by omega) (by omega); have hw := F.wide; obtain ⟨A, hA⟩ : ∃ A, A = 2 ^ 9 * Fl.nu (Fl.pOf (E - 11) sk) (E - 11 + 2) := ⟨_, rfl⟩; obtain ⟨B, hB⟩ : ∃ B, B = Fl.de (Fl.pOf (E - 11) sk) (E - 11 + 2) := ⟨_, rfl⟩; have hBp : 0 < B := by rw [hB]; exact Fl.de_pos _ _
 rw [← hA, ← hB] at hw ⊢; have hAB : A ≤ 14 * B := by
  cases sk with
  | true => simp only [if_true] at hw; omega
  | false =>
   have : B ≤ A ∧ A < 10 * B := hw; omega
 have h3 : y * A ≤ 2 ^ 55 * 14 * B := by
  calc y * A ≤ 2 ^ 55 * (14 * B) := Nat.mul_le_mul hy hAB
   _ = 2 ^ 55 * 14 * B := by rw [Nat.mul_assoc]
 have h4 : y * A / B ≤ 2 ^ 55 * 14 := Nat.div_le_of_le_mul (by rw [Nat.mul_comm B]; exact h3); unfold Fl.unr
 split
 · omega
 · have := Fl.or_one (y * A / B)
   omega
theorem uscale_st (w : World) (b mant k y x : Nat) (E : Int) (sk : Bool) (h : Mt mant k E) (hsk : sk = decide (mant = 2 ^ 52 ∧ -1074 < E)) (hx : x = y * 2 ^ (9 + k)) (hx64 : x < 18446744073709551616) (hy1 : 1 ≤ y) (hy2 : y ≤ 2 ^ 55)
  (hP : PreAt w b (Fl.row (Fl.pOf (E - 11) sk)).1 (Fl.row (Fl.pOf (E - 11) sk)).2 (((Fl.sOf (E - 11) sk).toNat + k : Nat) : Int)) :
  Calls Tryz.prog 111 #[.int .u64 x, .pointer (some ⟨b, 0, none⟩)] w fun r w' => r = .returned (.int .u64 (Fl.unr (y * (2 ^ 9 * Fl.nu (Fl.pOf (E - 11) sk) (E - 11 + 2))) (Fl.de (Fl.pOf (E - 11) sk) (E - 11 + 2)) : Nat)) ∧ w'.heap = w.heap ∧ Kp [] w w' := by
 have F := Fl.fits (E - 11) sk (by have := h.e1; omega) (by have := h.e2; omega); have R := Fl.row_ok (Fl.pOf (E - 11) sk) F.p0 F.p1; have hs := (shift_lt h sk hsk).1; have hc := Fl.uscale_case (E - 11) sk (by have := h.e1; omega) (by have := h.e2; omega) k y x hx hx64 hy1 hy2; have hx2 : 2 ≤ x := by
  rw [hx]; have h1 : 2 ^ 1 ≤ 2 ^ (9 + k) := Nat.pow_le_pow_right (by omega) (by omega); exact Nat.le_trans h1 (Nat.le_mul_of_pos_left _ hy1)
 refine (uscale_is w b x _ _ _ _ rfl hx64 R.hi1 R.lo hs hP ?_).mono ?_
 · have h1 : 2 * 2 ^ 63 ≤ x * (Fl.row (Fl.pOf (E - 11) sk)).1 := Nat.mul_le_mul hx2 R.hi0
   omega
 · rintro r w' ⟨rfl, h1, h2⟩
   rw [hc]; exact ⟨rfl, h1, h2⟩
theorem unr_pos {a d : Nat} (hd : 0 < d) (h : d ≤ a) : 1 ≤ Fl.unr a d := by
 have h1 : 1 ≤ a / d := (Nat.le_div_iff_mul_le hd).2 (by omega); unfold Fl.unr
 split
 · exact h1
 · have := Fl.or_one (a / d)
   omega
set_option maxRecDepth 100000 in
set_option maxHeartbeats 4000000 in
theorem short_is (w : World) (mant k m : Nat) (E e : Int) (h : Mt mant k E) (hm : m = mant * 2 ^ (11 + k)) (he : e = E - 11 - k) (hT : PowTab w) (hw : 5 ≤ w.heap.size) :
  Calls Tryz.prog 85 #[.int .u64 m, .int .i64 e] w fun r w' => ∃ (d : Nat) (P : Int), r = .returned (.tuple #[.int .u64 d, .int .i64 P]) ∧ Fl.InIv mant E d P ∧ 1 ≤ d ∧ d < 10 ^ 17 ∧ -348 ≤ P ∧ P ≤ 349 ∧ Kp [] w w' := by
 obtain ⟨Q, hQ⟩ : ∃ Q, Q = mant * 2 ^ k := ⟨_, rfl⟩; have hmQ : m = Q * 2048 := by rw [hm, hQ, Nat.pow_add, Nat.mul_comm (2 ^ 11), ← Nat.mul_assoc]
 have hQ1 := h.lt; have hQ2 := h.ge; rw [← hQ] at hQ1 hQ2; have H := hid h; have HT := hid hT; have HM := hid hm; have HQ := hid hQ; have HE := hid he; have hE1 := h.e1; have hE2 := h.e2; have hkl := h.kl; have hm1 : 9223372036854775808 ≤ m := by omega
 have hm2 : m < 18446744073709551616 := by omega
 obtain ⟨sk, hsk⟩ : ∃ sk, sk = decide (mant = 2 ^ 52 ∧ -1074 < E) := ⟨_, rfl⟩; have HSk := hid hsk; have hskf : (m = 9223372036854775808 ∧ e > -1085) ↔ sk = true := by
  rw [hsk, decide_eq_true_iff]; constructor
  ·
   rintro ⟨h1, h2⟩
   rcases h.sub with h3 | h3
   · rw [h3, Nat.pow_zero, Nat.mul_one] at hQ
     omega
   · have : k = 0 := by omega
     rw [this, Nat.pow_zero, Nat.mul_one] at hQ; omega
  · rintro ⟨h1, h2⟩
    have h3 : k = 0 := by rcases h.sub with h3 | h3 <;> omega
    rw [h3, Nat.pow_zero, Nat.mul_one] at hQ; omega
 have HSf := hid hskf; clear h hT hm hQ hsk hskf; have he1 : -1200 ≤ e := by omega
 have he2 : e ≤ 1000 := by omega
 have hm3 : m ≤ 18446744073709549568 := by omega
 clear he hmQ; go_enter Tryz.func85, Tryz.ntmps85
 go_upto_region 12 with fail
 go_cut [28] (fun s28 wx => s28 = .bool sk ∧ wx = w)
 case first =>
  by_cases c1 : m = 9223372036854775808
  ·
   have k1 : ((m : Int) == 9223372036854775808) = true := by rw [beq_iff_eq]; omega
   by_cases c2 : e > -1085
   · have k2 : decide (e > -1085) = true := decide_eq_true c2
     have hs : sk = true := HSf.out.1 ⟨c1, c2⟩; clear c1; go_wp2_with fail
     go_meet; exact ⟨by rw [hs], rfl⟩
   ·
    have k2 : decide (e > -1085) = false := decide_eq_false c2; have hs : sk = false := by
     cases hh : sk with
     | false => rfl
     | true => exact absurd (HSf.out.2 hh).2 c2
    clear c1; go_wp2_with fail
    go_meet; exact ⟨by rw [hs], rfl⟩
  ·
   have k1 : ((m : Int) == 9223372036854775808) = false := by rw [beq_eq_false_iff_ne]; omega
   have hs : sk = false := by
    cases hh : sk with
    | false => rfl
    | true => exact absurd (HSf.out.2 hh).1 c1
   clear c1; go_wp2_with fail
   go_meet; exact ⟨by rw [hs], rfl⟩
 case rest =>
 obtain ⟨rfl, hwx⟩ := hcut; have hwx2 := hwx.symm; subst hwx2; go_upto_if 28 with fail
 obtain ⟨o, hoo⟩ : ∃ o, mant % 2 = o := ⟨_, rfl⟩; have ho1 : o ≤ 1 := by omega
 have HOo := hid hoo; clear hoo; obtain ⟨umin, humin⟩ : ∃ umin, umin = (4 * mant - Fl.gap mant E) * 2 ^ (9 + k) := ⟨_, rfl⟩; obtain ⟨umax, humax⟩ : ∃ umax, umax = (4 * mant + 2) * 2 ^ (9 + k) := ⟨_, rfl⟩; have HUi := hid humin; have HUa := hid humax; clear humin humax; have hP1 : -400 ≤ Fl.pOf (E - 11) sk := by have := (Fl.fits (E - 11) sk (by omega) (by omega)).p0; omega
 have hP2 : Fl.pOf (E - 11) sk ≤ 400 := by have := (Fl.fits (E - 11) sk (by omega) (by omega)).p1; omega
 go_cut [1, 5, 8, 9, 10, 11] (fun s1 s5 s8 s9 s10 s11 wx => s1 = .int .i64 e ∧ s5 = .int .i64 (Fl.pOf (E - 11) sk) ∧ s8 = .int .u64 (umin : Int) ∧ s9 = .int .u64 (umax : Int) ∧ s10 = .int .i64 (o : Int) ∧ wx = w ∧ umin < 18446744073709551616 ∧ umax < 18446744073709551616)
 case first =>
  cases sk with
  | true =>
   have hs := of_decide_eq_true HSk.out.symm; have hk0 : k = 0 := by rcases H.out.sub with h3 | h3 <;> omega
   have hm4 : m = mant * 2048 := by rw [HM.out, hk0]
   have hui : umin = m - 512 := by rw [HUi.out, hk0]; unfold Fl.gap; rw [if_pos hs]; omega
   have hua : umax = m + 1024 := by rw [HUa.out, hk0]; omega
   have hbo : bits .and .i64 ((m : Int) / 2048) 1 = (o : Int) := by
    have h9 := and1_i64 mant (by omega); rw [HOo.out] at h9; rw [show (m : Int) / 2048 = (mant : Int) from by omega]; exact h9
   have hee : e = E - 11 := by have := HE.out; omega
   have hbo2 := hbo; have hpo : Fl.skw (e + 11) = -Fl.pOf (E - 11) true := by rw [hee]; unfold Fl.pOf; simp
   have HPo := hid hpo; have HBo := hid hbo; have HUi2 := hid hui; have HUa2 := hid hua; clear hs hk0 hm4 hui hua hee hpo hbo2 hbo; go_wp2_with fail
   refine (skewed_is _ _ (by omega) (by omega)).mono ?_
   rintro e1 w1 ⟨rfl, hw1⟩
   have hw1 := hw1.symm; subst hw1; rw [HPo.out]; go_wp2_with fail
   go_meet; refine ⟨rfl, rfl, ?_, ?_, by rw [HBo.out], rfl, by have := HUi2.out; omega, by have := HUa2.out; omega⟩
   · have := HUi2.out
     congr 1
     omega
   · have := HUa2.out
     rw [this]
     congr 1
  | false =>
   have hs := of_decide_eq_false HSk.out.symm; have hgap : Fl.gap mant E = 2 := by unfold Fl.gap; rw [if_neg hs]
   have hmp := H.out.pos; have hpe : Fl.lg10 (E - 11 + 11) = -Fl.pOf (E - 11) false := by unfold Fl.pOf; simp
   by_cases hk0 : k = 0
   ·
    have hm4 : m = mant * 2048 := by rw [HM.out, hk0]
    have hui : umin = m - 1024 := by rw [HUi.out, hk0, hgap]; omega
    have hua : umax = m + 1024 := by rw [HUa.out, hk0]; omega
    have hbo : bits .and .i64 ((m : Int) / 2048) 1 = (o : Int) := by
     have h9 := and1_i64 mant (by omega); rw [HOo.out] at h9; rw [show (m : Int) / 2048 = (mant : Int) from by omega]; exact h9
    have hee : e = E - 11 := by have := HE.out; omega
    have he3 : -1085 ≤ e := by omega
    have hpe2 : Fl.lg10 (e + 11) = -Fl.pOf (E - 11) false := by rw [hee]; exact hpe
    have HPo := hid hpe2; have HBo := hid hbo; have HUi2 := hid hui; have HUa2 := hid hua; have HEe := hid hee; clear hs hk0 hm4 hui hua hee hpe hpe2 hbo hgap hmp; go_wp2_with fail
    refine (log10_is _ _ (by omega) (by omega)).mono ?_
    rintro e1 w1 ⟨rfl, hw1⟩
    have hw1 := hw1.symm; subst hw1; rw [HPo.out]; go_wp2_with fail
    go_meet; refine ⟨rfl, rfl, ?_, ?_, by rw [HBo.out], rfl, by have := HUi2.out; omega, by have := HUa2.out; omega⟩
    · have := HUi2.out
      congr 1
      omega
    · have := HUa2.out
      rw [this]
      congr 1
   ·
    have hE0 : E = -1074 := by rcases H.out.sub with h3 | h3 <;> omega
    have hee : e = -1085 - (k : Int) := by have := HE.out; omega
    have hk1 : 1 ≤ k := by omega
    have hpe2 : Fl.lg10 (-1074) = -Fl.pOf (E - 11) false := by rw [← hpe, hE0]; rfl
    obtain ⟨T, hT⟩ : ∃ T, T = 2 ^ (10 + k) := ⟨_, rfl⟩; have hTle : T ≤ 2 ^ 62 := by rw [hT]; exact Nat.pow_le_pow_right (by omega) (by omega)
    have hm4 : m = 2 * mant * T := by rw [HM.out, hT, show 11 + k = (10 + k) + 1 from by omega, Nat.pow_succ]; simp only [Nat.mul_comm, Nat.mul_left_comm, Nat.mul_assoc]
    have h2T : T = 2 * 2 ^ (9 + k) := by rw [hT, show 10 + k = (9 + k) + 1 from by omega, Nat.pow_succ, Nat.mul_comm]
    have hui : umin + T = m := by
     rw [HUi.out, hgap, hm4, show 4 * mant - 2 = 2 * (2 * mant - 1) from by omega, show 2 * (2 * mant - 1) * 2 ^ (9 + k) = (2 * mant - 1) * T from by rw [h2T, ← Nat.mul_assoc (2 * mant - 1) 2, Nat.mul_comm (2 * mant - 1) 2]]; rw [← Nat.succ_mul]
     congr 1
     omega
    have hua : umax = m + T := by
     rw [HUa.out, hm4, show 4 * mant + 2 = 2 * (2 * mant + 1) from by omega, show 2 * (2 * mant + 1) * 2 ^ (9 + k) = (2 * mant + 1) * T from by rw [h2T, ← Nat.mul_assoc (2 * mant + 1) 2, Nat.mul_comm (2 * mant + 1) 2]]; rw [Nat.succ_mul]
    have hT1 : 2 ≤ T := by
     rw [hT]; have : 2 ^ 1 ≤ 2 ^ (10 + k) := Nat.pow_le_pow_right (by omega) (by omega); exact this
    have hmT : m + T < 18446744073709551616 := by
     have h5 : mant * 2 ^ k < 2 ^ 53 := by rw [← HQ.out]; exact hQ1
     have h6 : mant * 2 ^ k + 2 ^ k ≤ 2 ^ 53 := by
      obtain ⟨z, hz⟩ : ∃ z, 53 = k + z := ⟨53 - k, by omega⟩; rw [hz, Nat.pow_add, Nat.mul_comm (2 ^ k)] at h5 ⊢; rw [Nat.mul_comm mant] at h5; have h7 : mant < 2 ^ z := Nat.lt_of_mul_lt_mul_left (by rw [Nat.mul_comm (2 ^ z)] at h5; exact h5); have h8 : (mant + 1) * 2 ^ k ≤ 2 ^ z * 2 ^ k := Nat.mul_le_mul_right _ h7; rw [Nat.succ_mul] at h8; exact h8
     have h9 : T = 2 ^ k * 1024 := by rw [hT, Nat.pow_add, Nat.mul_comm]
     have h10 : m = mant * 2 ^ k * 2048 := by rw [hm4, h9, Nat.mul_assoc 2, ← Nat.mul_assoc mant]; omega
     omega
    obtain ⟨b0, hb0⟩ : ∃ b0 : Nat, b0 = 11 + k := ⟨_, rfl⟩; obtain ⟨b9, hb9⟩ : ∃ b9 : Nat, b9 = 10 + k := ⟨_, rfl⟩; have hbo : bits .and .i64 ((m : Int) / 2 ^ b0) 1 = (o : Int) := by
     have h9 := and1_i64 mant (by have := H.out.small; omega); rw [HOo.out] at h9; have e1 : (m : Int) / 2 ^ b0 = (mant : Int) := by
      have : m / 2 ^ b0 = mant := by rw [HM.out, hb0]; exact Nat.mul_div_cancel _ (pow2_pos _)
      exact_mod_cast this
     rw [e1]; exact h9
    have hTi : (2 : Int) ^ b9 = (T : Int) := by rw [hT, hb9]; push_cast; rfl
    have hmq : m / 2 ^ b0 = mant := by rw [HM.out, hb0]; exact Nat.mul_div_cancel _ (pow2_pos _)
    have hmqi : (m : Int) / 2 ^ b0 = (mant : Int) := by exact_mod_cast hmq
    have hmsm := H.out.small; have HPo := hid hpe2; have HBo := hid hbo; have HUi2 := hid hui; have HUa2 := hid hua; have HTi := hid hTi; have HMq := hid hmqi; have hb1 : (11 : Int) + (-1085 - e) = (b0 : Int) := by omega
    have hb2 : (b0 : Int) - 1 = (b9 : Int) := by omega
    have hb0l : b0 < 64 := by omega
    have hb9l : b9 < 63 := by omega
    have k5 : decide (e ≥ -1085) = false := by rw [decide_eq_false_iff_not]; omega
    have hpe3 : e + (b0 : Int) = -1074 := by omega
    have hw8 : IntKind.u64.wrap (1 * 2 ^ b9) = 2 ^ b9 := by
     rw [hTi, Int.one_mul]
     show _ % 18446744073709551616 = _
     omega
    have HW8 := hid hw8; have HPe3 := hid hpe3; clear hs hk0 hm4 hui hua hee hpe hpe2 hbo hgap hmp hT h2T hE0 hb0 hb9 hTi hmq hmqi hw8 hpe3; go_wp2_with fail
    refine (log10_is _ _ (by omega) (by omega)).mono ?_
    rintro e1 w1 ⟨rfl, hw1⟩
    have hw1 := hw1.symm; subst hw1; rw [HPe3.out, HPo.out]; go_wp2_with fail
    go_meet; refine ⟨rfl, rfl, ?_, ?_, ?_, rfl, by have := HUi2.out; omega, by have := HUa2.out; omega⟩
    · have h1 := HUi2.out
      rw [HTi.out]
      congr 1
      show ((m : Int) - (T : Int) % 18446744073709551616) % 18446744073709551616 = _
      omega
    · have h1 := HUa2.out
      rw [HTi.out]
      congr 1
      show ((m : Int) + (T : Int) % 18446744073709551616) % 18446744073709551616 = _
      omega
    · have h1 : wrap64 (mant : Int) = (mant : Int) := by unfold wrap64; omega
      rw [HMq.out, h1]; have h2 := HBo.out; rw [HMq.out] at h2; rw [h2]
 case rest =>
 obtain ⟨rfl, rfl, rfl, rfl, rfl, hwx, humi, huma⟩ := hcut; have hwx2 := hwx.symm; subst hwx2; have hsl := shift_lt H.out sk HSk.out; have hs0 := hsl.2; have hs1 := hsl.1; obtain ⟨p, hp⟩ : ∃ p, p = Fl.pOf (E - 11) sk := ⟨_, rfl⟩; have F := Fl.fits (E - 11) sk (by omega) (by omega); have hp0 := F.p0; have hp1 := F.p1; rw [← hp] at hP1 hP2 hp0 hp1 ⊢; obtain ⟨kp, hkp⟩ : ∃ kp : Nat, p = (kp : Int) - 348 := ⟨(p + 348).toNat, by omega⟩; have hkpl : kp < 696 := by omega
 have hlg : Fl.lg2 p = -(e + 3) - ((Fl.sOf (E - 11) sk).toNat + k : Nat) := by
  have h1 : Fl.sOf (E - 11) sk = -(E - 11 + Fl.lg2 p + 3) := by rw [hp]; rfl
  have h2 := HE.out; omega
 have hlgb : -2000 ≤ Fl.lg2 p ∧ Fl.lg2 p ≤ 2000 := by unfold Fl.lg2; omega
 have HP := hid hp; have HKp := hid hkp; have HLg := hid hlg; obtain ⟨lp, hlp⟩ : ∃ lp, lp = Fl.lg2 p := ⟨_, rfl⟩; rw [← hlp] at hlgb; have hlg1 := hlgb.1; have hlg2 := hlgb.2; have HLp := hid hlp; clear hp hkp hlg hlp hlgb hsl F; go_upto_region 28 with fail
 generalize hW : w.alloc (.cells #[.int .u64 0, .int .u64 0, .int .i64 0] 183) = w1; have hPr : PreAt w1 w.heap.size 0 0 0 := by rw [← hW]; exact heap_alloc_new _ _
 have hK1 : Kp [] w w1 := by rw [← hW]; exact (Kp.refl _ _).alloc _
 have HPr := hid hPr; have HK1 := hid hK1; have hT1 : PowTab w1 := HT.out.heap (by rw [← hW]; exact Below.heap_alloc _ _ _ (by omega)); have HT1 := hid hT1; clear hW hPr hK1 hT1; go_wp2_with fail
 refine (log2_is p _ (by omega) (by omega)).mono ?_
 rintro e1 w2 ⟨rfl, hw2⟩
 have hw2 := hw2.symm; subst hw2; rw [← HLp.out]; go_wp2_with fail
 refine (prescale_is w1 w.heap.size kp e p lp HKp.out hkpl HT1.out HPr.out (by omega) (by omega) (by omega) hlg1 hlg2).mono ?_
 rintro e2 w2 ⟨rfl, hP2, hK2⟩
 have hS : -(e + lp + 3) = (((Fl.sOf (E - 11) sk).toNat + k : Nat) : Int) := by
  have h1 := HLg.out; rw [HLp.out]; omega
 rw [hS, HP.out] at hP2; have HP2 := hid hP2; have HK2 := hid ((Kp.mono HK1.out (S' := [w.heap.size]) (fun _ _ h => by simp at h)).trans hK2); have hms := H.out.small; have hmp := H.out.pos; have hg2 : Fl.gap mant E ≤ 2 := by unfold Fl.gap; split <;> omega
 have hus := fun y (h1 : 1 ≤ y) (h2 : y ≤ 2 ^ 55) x hx hx6 w' hP' => uscale_st w' w.heap.size mant k y x E sk H.out HSk.out hx hx6 h1 h2 hP'
 obtain ⟨A, hA⟩ : ∃ A, A = 2 ^ 9 * Fl.nu (Fl.pOf (E - 11) sk) (E - 11 + 2) := ⟨_, rfl⟩; obtain ⟨B, hB⟩ : ∃ B, B = Fl.de (Fl.pOf (E - 11) sk) (E - 11 + 2) := ⟨_, rfl⟩; have hsm := fun y (h : y ≤ 2 ^ 55) => unr_small (y := y) (sk := sk) hE1 hE2 h
 rw [← hA, ← hB] at hus hsm; obtain ⟨vmin, hvmin⟩ : ∃ v, v = Fl.unr ((4 * mant - Fl.gap mant E) * A) B := ⟨_, rfl⟩; obtain ⟨vmax, hvmax⟩ : ∃ v, v = Fl.unr ((4 * mant + 2) * A) B := ⟨_, rfl⟩; obtain ⟨vmid, hvmid⟩ : ∃ v, v = Fl.unr (4 * mant * A) B := ⟨_, rfl⟩; have hv1 : vmin < 1152921504606846976 := by rw [hvmin]; exact hsm _ (by omega)
 have hv2 : vmax < 1152921504606846976 := by rw [hvmax]; exact hsm _ (by omega)
 have hv3 : vmid < 1152921504606846976 := by rw [hvmid]; exact hsm _ (by omega)
 have hu1 := hus (4 * mant - Fl.gap mant E) (by omega) (by omega) umin HUi.out humi; have hu2 := hus (4 * mant + 2) (by omega) (by omega) umax HUa.out huma; have hu3 := hus (4 * mant) (by omega) (by omega) m (by rw [HM.out, show 11 + k = 9 + k + 1 + 1 from by omega, Nat.pow_succ, Nat.pow_succ, ← Nat.mul_assoc, ← Nat.mul_assoc, Nat.mul_assoc 4]; omega) hm2; rw [← hvmin] at hu1; rw [← hvmax] at hu2; rw [← hvmid] at hu3; have hso := Fl.short_ok mant E hmp hms hE1 hE2; simp only at hso; rw [← HSk.out, ← hA, ← hB, ← hvmin, ← hvmax, ← hvmid, ← HP.out, HOo.out] at hso; obtain ⟨d, P, hpick, hres⟩ := hso; have HPick := hid hpick; have HRes := hid hres; have HU1 := hid hu1; have HU2 := hid hu2; have HU3 := hid hu3; have hvm0 : 1 ≤ vmax := by
  rw [hvmax]; have hw9 := (Fl.fits (E - 11) sk (by omega) (by omega)).wide; rw [← hA, ← hB] at hw9; have hBp : 0 < B := by rw [hB]; exact Fl.de_pos _ _
  refine unr_pos hBp ?_; have h6 : 6 * A ≤ (4 * mant + 2) * A := Nat.mul_le_mul_right _ (by omega)
  cases sk with
  | true => simp only [if_true] at hw9; omega
  | false =>
   have : B ≤ A ∧ A < 10 * B := hw9; omega
 have hw02 : w.heap.size < w2.heap.size := lt_of_block hP2; clear hpick hres hu1 hu2 hu3 hus hsm hvmin hvmax hvmid hA hB hP2 hK2 hS; go_wp2_with fail
 refine (HU1.out w2 HP2.out).mono ?_
 rintro e3 w3 ⟨rfl, hh3, hK3⟩
 have HP3 : Hid (PreAt w3 w.heap.size (Fl.row (Fl.pOf (E - 11) sk)).1 (Fl.row (Fl.pOf (E - 11) sk)).2 (((Fl.sOf (E - 11) sk).toNat + k : Nat) : Int)) := by show _ = _; rw [hh3]; exact HP2.out
 have HK3 : Hid (Kp [w.heap.size] w w3) := HK2.out.trans (Kp.mono hK3 (fun _ _ h => by simp at h)); clear hh3 hK3; go_wp2_with fail
 refine (nudge_up vmin o _ (by omega) ho1).mono ?_
 rintro e4 w4 ⟨rfl, hw4⟩
 have hw4 := hw4.symm; subst hw4; go_wp2_with fail
 refine (ceil_is (vmin + o) _ (by omega)).mono ?_
 rintro e5 w5 ⟨rfl, hw5⟩
 have hw5 := hw5.symm; subst hw5; obtain ⟨dmin, hdmin⟩ : ∃ dmin, dmin = (vmin + o + 3) / 4 := ⟨_, rfl⟩; rw [← hdmin]; have HDmin := hid hdmin; have hdml : dmin ≤ 300000000000000000 := by omega
 clear hdmin; go_wp2_with fail
 refine (HU2.out w3 HP3.out).mono ?_
 rintro e6 w6 ⟨rfl, hh6, hK6⟩
 have HP6 : Hid (PreAt w6 w.heap.size (Fl.row (Fl.pOf (E - 11) sk)).1 (Fl.row (Fl.pOf (E - 11) sk)).2 (((Fl.sOf (E - 11) sk).toNat + k : Nat) : Int)) := by show _ = _; rw [hh6]; exact HP3.out
 have HK6 : Hid (Kp [w.heap.size] w w6) := HK3.out.trans (Kp.mono hK6 (fun _ _ h => by simp at h)); clear hh6 hK6; go_wp2_with fail
 refine (nudge_down vmax o _ rfl _ (by omega) ho1 (by omega)).mono ?_
 rintro e7 w7 ⟨rfl, hw7⟩
 have hw7 := hw7.symm; subst hw7; go_wp2_with fail
 refine (floor_is (vmax - o) _ (by omega)).mono ?_
 rintro e8 w8 ⟨rfl, hw8⟩
 have hw8 := hw8.symm; subst hw8; obtain ⟨dmax, hdmax⟩ : ∃ dmax, dmax = (vmax - o) / 4 := ⟨_, rfl⟩; rw [← hdmax]; have HDmax := hid hdmax; have hdmx : dmax ≤ 300000000000000000 := by omega
 clear hdmax; obtain ⟨dq, hdq⟩ : ∃ dq, dq = dmax / 10 := ⟨_, rfl⟩; have hdqi : (dmax : Int) / 10 = (dq : Int) := by omega
 have hdql : dq ≤ dmax := by omega
 have HDq := hid hdq; clear hdq; have hpk := HPick.out; unfold Fl.pick at hpk; rw [← HDmin.out, ← HDmax.out, ← HDq.out] at hpk; have HKf : Hid (∀ w', Kp [w.heap.size] w w' → Kp [] w w') := fun w' h => Kp.mono h (fun k hk h => by simp at h; omega)
 by_cases c1 : dmin ≤ dq * 10
 ·
  rw [if_pos c1] at hpk; have k1 : decide ((dq : Int) * 10 ≥ (dmin : Int)) = true := by rw [decide_eq_true_eq]; omega
  have HPk := hid hpk; clear hpk; go_wp2_with fail
  go_ret2
  have h9 := HPk.out
  injection h9 with h9 h10
  rw [← h9, ← h10] at HRes; exact ⟨dq, -(p - 1), rfl, HRes.out.1, HRes.out.2.1, HRes.out.2.2.1, HRes.out.2.2.2.1, HRes.out.2.2.2.2, HKf.out _ HK6.out⟩
 ·
  rw [if_neg c1] at hpk; have k1 : decide ((dq : Int) * 10 ≥ (dmin : Int)) = false := by rw [decide_eq_false_iff_not]; omega
  by_cases c2 : dmin < dmax
  ·
   rw [if_pos c2] at hpk; have k2 : decide ((dmin : Int) < (dmax : Int)) = true := by rw [decide_eq_true_eq]; omega
   have HPk := hid hpk; clear hpk; go_wp2_with fail
   refine (HU3.out w6 HP6.out).mono ?_
   rintro e9 w9 ⟨rfl, hh9, hK9⟩
   have HK9 : Hid (Kp [w.heap.size] w w9) := HK6.out.trans (Kp.mono hK9 (fun _ _ h => by simp at h)); clear hh9 hK9; go_wp2_with fail
   refine (round_is vmid _ (by omega)).mono ?_
   rintro e10 w10 ⟨rfl, hw10⟩
   have hw10 := hw10.symm; subst hw10; go_wp2_with fail
   go_ret2
   have h9 := HPk.out
   injection h9 with h9 h10
   rw [← h9, ← h10] at HRes; exact ⟨_, -p, rfl, HRes.out.1, HRes.out.2.1, HRes.out.2.2.1, HRes.out.2.2.2.1, HRes.out.2.2.2.2, HKf.out _ HK9.out⟩
  ·
   rw [if_neg c2] at hpk; have k2 : decide ((dmin : Int) < (dmax : Int)) = false := by rw [decide_eq_false_iff_not]; omega
   have HPk := hid hpk; clear hpk; go_wp2_with fail
   go_ret2
   have h9 := HPk.out
   injection h9 with h9 h10
   rw [← h9, ← h10] at HRes; exact ⟨dmin, -p, rfl, HRes.out.1, HRes.out.2.1, HRes.out.2.2.1, HRes.out.2.2.2.1, HRes.out.2.2.2.2, HKf.out _ HK6.out⟩
end
end Go.Proofs.YtljaoopfomcaoaaGreatDoor
