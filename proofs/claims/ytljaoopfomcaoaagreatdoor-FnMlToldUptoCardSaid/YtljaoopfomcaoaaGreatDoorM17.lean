import Derived.Test.YtljaoopfomcaoaaGreatDoorM16
set_option linter.all false
open Go.Lib (hid)
namespace Go.Proofs.YtljaoopfomcaoaaGreatDoor
section
open Go.RowKit
theorem Dst.keepAll {w w' : World} {B b L N M : Nat} (h : Dst w B b L N M) (hk : ∀ j, j < w.heap.size → w'.heap[j]? = w.heap[j]?) : Dst w' B b L N M := by
 obtain ⟨g, cap, ds, dp, h1, h2⟩ := h; exact ⟨g, cap, ds, dp, h1.keep (hk b h1.lt) (hk g h1.ownd.2), h2⟩
theorem hK1c {w w1 : World} {o : Obj} {b k : Nat} (hW : w.alloc o = w1) (hb : b < w.heap.size) : w1.cell? ⟨b, k, none⟩ = w.cell? ⟨b, k, none⟩ := by
 rw [← hW]; exact cell_of_heap (p := ⟨b, k, none⟩) (Below.heap_alloc _ _ _ hb)
theorem few_halves {N M c : Nat} (h1 : M * 2 ^ c ≤ N) (h2 : N < M * 10 ^ 310) (hM : 0 < M) : c < 1030 := by
 have h3 : M * 2 ^ c < M * 10 ^ 310 := Nat.lt_of_le_of_lt h1 h2; have h4 : 2 ^ c < 10 ^ 310 := Nat.lt_of_mul_lt_mul_left h3; have h5 : (10 : Nat) ^ 310 < 2 ^ 1030 := by decide +kernel
 exact (Nat.pow_lt_pow_iff_right (by omega : 1 < 2)).1 (Nat.lt_trans h4 h5)
def FormAt (w : World) (f : Nat) : Prop := w.heap[f]? = some (.cells #[.int .i64 52, .int .i64 11, .int .i64 (-1023)] 236 (0, 0))
theorem FormAt.c0 {w : World} {f : Nat} (h : FormAt w f) : w.cell? ⟨f, 0, none⟩ = some (.int .i64 52) := by unfold FormAt at h; simp [World.cell?, h]
theorem FormAt.c1 {w : World} {f : Nat} (h : FormAt w f) : w.cell? ⟨f, 1, none⟩ = some (.int .i64 11) := by unfold FormAt at h; simp [World.cell?, h]
theorem FormAt.c2 {w : World} {f : Nat} (h : FormAt w f) : w.cell? ⟨f, 2, none⟩ = some (.int .i64 (-1023)) := by unfold FormAt at h; simp [World.cell?, h]
structure B1 (w : World) (B b f L N M c : Nat) (wr : World) : Prop where
 d : Dst wr B b (L + 60 * c) N (M * 2 ^ c)
 kp : Kp [b] w wr
 form : FormAt wr f
 cl : c ≤ 1100
 low : M * 2 ^ c ≤ N * 2 ^ 1100
structure B2 (w : World) (B b f L N M c a : Nat) (wr : World) : Prop where
 d : Dst wr B b (L + 60 * c + 60 * a) (N * 2 ^ a) (M * 2 ^ c)
 kp : Kp [b] w wr
 form : FormAt wr f
 lt : N * 2 ^ a < M * 2 ^ c
 al : a ≤ 1100
theorem few_doubles {N M c a : Nat} (h1 : N * 2 ^ a < M * 2 ^ c) (h2 : M * 2 ^ c ≤ N * 2 ^ 1100) : a ≤ 1100 := by
 have h3 : N * 2 ^ a < N * 2 ^ 1100 := Nat.lt_of_lt_of_le h1 h2; have h4 : 2 ^ a < 2 ^ 1100 := Nat.lt_of_mul_lt_mul_left h3; have := (Nat.pow_lt_pow_iff_right (by omega : 1 < 2)).1 h4; omega
theorem B2.next {w wr w2 : World} {B b f L N M c a k : Nat} (h : B2 w B b f L N M c a wr) (hlow : M * 2 ^ c ≤ N * 2 ^ 1100) (hd : Dst w2 B b (L + 60 * c + 60 * a + 60) (N * 2 ^ a * 2 ^ k) (M * 2 ^ c)) (hK : Kp [b] wr w2)
  (hf : f ≠ b) (hlt : N * 2 ^ a * 2 ^ k < M * 2 ^ c) (hk : 1 ≤ k) : B2 w B b f L N M c (a + k) w2 := by
 rw [Nat.mul_assoc, ← Nat.pow_add] at hd hlt; refine ⟨hd.more (by omega), h.kp.trans hK, ?_, hlt, few_doubles hlt hlow⟩; unfold FormAt; rw [hK.block _ (lt_of_block h.form) (by simp; omega)]; exact h.form
theorem low_start {N M : Nat} (h : M ≤ N * 10 ^ 330) : M * 2 ^ 0 ≤ N * 2 ^ 1100 := by
 rw [Nat.pow_zero, Nat.mul_one]; refine Nat.le_trans h (Nat.mul_le_mul_left _ ?_)
 decide +kernel
theorem pow_up {k n : Nat} (h : k ≤ n) : 2 ^ k ≤ 2 ^ n := Nat.pow_le_pow_right (by omega) h
theorem low_next {N M c k : Nat} (h : M * 2 ^ c ≤ N) (hk : k ≤ 59) : M * 2 ^ (c + k) ≤ N * 2 ^ 1100 := by
 rw [Nat.pow_add, ← Nat.mul_assoc]; exact Nat.mul_le_mul h (pow_up (k := k) (n := 1100) (by omega))
theorem and52 (t : Nat) (h : t < 9007199254740992) : bits .and .u64 (t : Int) 4503599627370496 = if t < 4503599627370496 then 0 else 4503599627370496 := by
 have e : (4503599627370496 : Int) = ((4503599627370496 : Nat) : Int) := rfl; rw [e, bits_and_u64_nat t 4503599627370496 (by omega) (by omega)]; have h2 : t &&& 4503599627370496 = t &&& 2 ^ 52 := rfl; rw [h2]; by_cases hl : t < 4503599627370496
 ·
  rw [if_pos hl]; have : t &&& 2 ^ 52 = 0 := by
   apply Nat.eq_of_testBit_eq; intro i; rw [Nat.testBit_and, Nat.testBit_two_pow, Nat.zero_testBit]; by_cases hi : 52 = i
   · subst hi
     rw [Nat.testBit_lt_two_pow hl]; rfl
   · rw [decide_eq_false hi, Bool.and_false]
  rw [this]; rfl
 ·
  rw [if_neg hl]; have : t &&& 2 ^ 52 = 2 ^ 52 := by
   apply Nat.eq_of_testBit_eq; intro i; rw [Nat.testBit_and, Nat.testBit_two_pow]; by_cases hi : 52 = i
   · subst hi
     have h3 : t / 2 ^ 52 = 1 := by omega
     rw [Nat.testBit_eq_decide_div_mod_eq, h3]; rfl
   · rw [decide_eq_false hi, Bool.and_false]
  rw [this]
theorem and52_lo (t : Nat) (h : t < 4503599627370496) : bits .and .u64 (t : Int) 4503599627370496 = 0 := by rw [and52 t (by omega), if_pos h]
theorem and52_hi (t : Nat) (h : 4503599627370496 ≤ t) (h2 : t < 9007199254740992) : bits .and .u64 (t : Int) 4503599627370496 = 4503599627370496 := by rw [and52 t h2, if_neg (by omega)]
theorem low52 (t : Nat) (h : t < 18446744073709551616) : bits .and .u64 (t : Int) 4503599627370495 = ((t % 4503599627370496 : Nat) : Int) := by
 have := mask_is t 52 h (by omega); exact this
theorem or52 (a e : Nat) (h : a < 4503599627370496) (he : e < 4096) : bits .or .u64 (a : Int) ((e * 4503599627370496 : Nat) : Int) = ((a + e * 4503599627370496 : Nat) : Int) := by
 rw [bits_or_u64_nat a _ (by omega) (by omega)]; have h1 := Nat.shiftLeft_add_eq_or_of_lt (b := a) (i := 52) (by omega) e; rw [Nat.shiftLeft_eq] at h1; have h2 : e * 4503599627370496 = e * 2 ^ 52 := rfl; rw [h2, Nat.or_comm, ← h1, Nat.add_comm]
theorem fin52 (t z R : Nat) (F : Int) (hF : F + 1022 = (z : Int)) (hz : z ≤ 2045) (h1 : 4503599627370496 ≤ t) (h2 : t < 9007199254740992) (hR : t + z * 4503599627370496 = R) :
  bits .or .u64 (bits .and .u64 (t : Int) 4503599627370495) ((F + 1023) * 4503599627370496) = (R : Int) := by
 have hm : t % 4503599627370496 = t - 4503599627370496 := by omega
 have h3 := or52 (t - 4503599627370496) (z + 1) (by omega) (by omega); rw [low52 t (by omega), hm]; have e9 : (F + 1023) * 4503599627370496 = (((z + 1) * 4503599627370496 : Nat) : Int) := by omega
 rw [e9, h3]; omega
set_option maxRecDepth 100000 in
set_option maxHeartbeats 2000000 in
theorem bits_is (w : World) (B b L N M : Nat) (h : Dst w B b L N M) (hb : B ≤ b) (hbw : b < w.heap.size) (hB : B ≤ w.heap.size) (hL : L ≤ 1000) (hM : 0 < M) (hlo : M ≤ N * 10 ^ 330) (hhi : N < M * 10 ^ 310)
  (E : Int) (x y r : Nat) (hxy : (x : Int) - y = 52 - E) (hE1 : -1022 ≤ E) (hE2 : E ≤ 1023) (hr : r = rne (N * 2 ^ x) (M * 2 ^ y)) (hup : N * 2 ^ x < M * 2 ^ (y + 53))
  (hdn : E = -1022 ∨ M * 2 ^ (y + 52) ≤ N * 2 ^ x) (hnz : M * 2 ^ y ≤ N * 2 ^ (x + 1)) (hov : E < 1023 ∨ r < 2 ^ 53) :
  Calls Tryz.prog 165 #[.pointer (some ⟨b, 0, none⟩), .agg #[.int .i64 52, .int .i64 11, .int .i64 (-1023)]] w fun e w' =>
   e = .returned (.tuple #[.int .u64 ((r + (E + 1022).toNat * 2 ^ 52 : Nat) : Int), .bool false]) ∧ Kp [b] w w' := by
 obtain ⟨g, cap, ds, dp, h1, h2, h3, h4, h5, h6, h7, h8⟩ := id h; have hdp1 : -330 ≤ dp := by
  by_cases hh : -330 ≤ dp
  · exact hh
  · exfalso
    have := h5.ub h2 hM (j := 0) (j' := 330) (by omega); rw [Nat.pow_zero, Nat.mul_one] at this; omega
 have hdp2 : dp ≤ 310 := by
  by_cases hh : dp ≤ 310
  · exact hh
  · exfalso
    have := h5.lb h2 h3 (j := 310) (j' := 0) (by omega); rw [Nat.pow_zero, Nat.mul_one] at this; omega
 have H := hid h; have HX := hid hxy; have HR := hid hr; have HU := hid hup; have HDn := hid hdn; have HNz := hid hnz; have HOv := hid hov; have HLo := hid hlo; have HHi := hid hhi; have c0 := h1.c0; have c1 := h1.c1; have hlen : 0 < ds.length := List.length_pos_iff.2 h3; have q1 : ((ds.length : Int) == 0) = false := beq_eq_false_iff_ne.2 (by omega); have q2 : decide (dp < -330) = false := by rw [decide_eq_false_iff_not]; omega
 have q3 : decide (dp > 310) = false := by rw [decide_eq_false_iff_not]; omega
 clear h hxy hr hup hdn hnz hov hlo hhi h1 h2 h3 h4 h5; go_enter Tryz.func165, Tryz.ntmps165
 go_wp2_with fail
 generalize hW : w.alloc (.cells #[.int .i64 52, .int .i64 11, .int .i64 (-1023)] 236) = w1; have hD1 : Dst w1 B b L N M := by
  rw [← hW]; exact H.out.keepAll fun j hj => Below.heap_alloc _ _ _ hj
 have hF1 : FormAt w1 w.heap.size := by rw [← hW]; exact heap_alloc_new _ _
 have hK1 : Kp [b] w w1 := by rw [← hW]; exact (Kp.refl _ _).alloc _
 have hs1 : w.heap.size < w1.heap.size := lt_of_block hF1; have hc0 : w1.cell? ⟨b, 0, none⟩ = w.cell? ⟨b, 0, none⟩ := hK1c hW hbw; have hc1 : w1.cell? ⟨b, 1, none⟩ = w.cell? ⟨b, 1, none⟩ := hK1c hW hbw; rw [c0] at hc0; rw [c1] at hc1; have HD1 := hid hD1; have HF1 := hid hF1; have HK1 := hid hK1; have e0 := hF1.c0; have e1 := hF1.c1; have e2 := hF1.c2; clear hW hD1 hF1 hK1 c0 c1; go_quiet (fail)
 go_wp2_with fail
 clear hc0 hc1 q1 q2 q3; go_loopw [7, 8] (fun v7 v8 wr => ∃ c : Nat, v7 = .int .i64 (c : Int) ∧ B1 w B b w.heap.size L N M c wr) (fun v7 v8 wr => 1100 - (intOf v7).toNat)
 case atStart => exact ⟨0, rfl, ⟨by rw [Nat.mul_zero, Nat.add_zero, Nat.pow_zero, Nat.mul_one]; exact HD1.out.hp rfl, HK1.out.drewN _, HF1.out, by omega, low_start HLo.out⟩⟩
 case round =>
  obtain ⟨c, rfl, hI⟩ := hrel; have HI := hid hI; obtain ⟨g1, cap1, ds1, dp1, p1, p2, p3, p4, p5, p6, p7, p8⟩ := id hI.d; have c0 := p1.c0; have c1 := p1.c1; have hcl := hI.cl; have hBr : B ≤ wr.heap.size := Nat.le_trans hB hI.kp.size; have P1 := hid p1; have P2 := hid p2; have P3 := hid p3; have P5 := hid p5; clear e0 e1 e2; have e0 := hI.form.c0; have e1 := hI.form.c1; have e2 := hI.form.c2; clear hI p1 p2 p3 p4 p5; by_cases hpos : 0 < dp1
  ·
   have g1 : decide (dp1 > 0) = true := by rw [decide_eq_true_eq]; omega
   have hw : IntKind.i64.wrap (3 * dp1) = 3 * dp1 := IntWalk.i64_in _ (by omega); go_wp2_with fail
   obtain ⟨k, hk⟩ : ∃ k : Nat, min (3 * dp1) 59 = (k : Int) := ⟨(min (3 * dp1) 59).toNat, by omega⟩; have hk1 : 1 ≤ k := by omega
   have hk2 : k ≤ 59 := by omega
   have HOne : Hid (M * 2 ^ c ≤ N) := P5.out.one P2.out P3.out hpos; have hc3 : c < 1030 := few_halves (P5.out.one P2.out P3.out hpos) HHi.out hM; refine (half_st wr B b k _ _ _ _ hk HI.out.d hb hBr hk1 hk2 (by omega)).mono ?_
   rintro e3 w2 ⟨rfl, hD2, hK2⟩
   have HD2 := hid hD2; have HK2 := hid hK2; have HKk := hid hk; clear hD2 hK2 hk; go_wp2_with fail
   rw [HKk.out]; refine ⟨⟨c + k, by congr 1, ⟨?_, HI.out.kp.trans HK2.out, ?_, by omega, low_next HOne.out hk2⟩⟩, ?_⟩
   · have h9 := HD2.out
     rw [Nat.mul_assoc, ← Nat.pow_add] at h9; exact h9.more (L' := L + 60 * (c + k)) (by omega)
   · unfold FormAt
     rw [HK2.out.block _ (lt_of_block HI.out.form) (by simp; omega)]; exact HI.out.form
   · show 1100 - ((c : Int) + k).toNat < 1100 - ((c : Int)).toNat
     omega
  ·
   have g1 : decide (dp1 > 0) = false := by rw [decide_eq_false_iff_not]; omega
   go_wp2_with fail
   have hMc : 0 < M * 2 ^ c := Nat.mul_pos hM (pow2_pos c); have HBel : Hid (N < M * 2 ^ c) := P5.out.below P2.out hMc (by omega); clear c0 c1 g1 p6 p7 p8 hpos P5 P3 P2 P1; go_loopw [7, 9] (fun v7 v9 wq => ∃ a : Nat, v7 = .int .i64 ((c : Int) - a) ∧ B2 w B b w.heap.size L N M c a wq) (fun v7 v9 wq => ((intOf v7) + 1200).toNat)
   case atStart => exact ⟨0, by simp, ⟨by rw [Nat.mul_zero, Nat.add_zero, Nat.pow_zero, Nat.mul_one]; exact HI.out.d, HI.out.kp, HI.out.form, by rw [Nat.pow_zero, Nat.mul_one]; exact HBel.out, by omega⟩⟩
   case round =>
    obtain ⟨a, rfl, hJ⟩ := hrel; have HJ := hid hJ; obtain ⟨g2, cap2, ds2, dp2, p1, p2, p3, p4, p5, p6, p7, p8⟩ := id hJ.d; have c0 := p1.c0; have c1 := p1.c1; have hlen2 : 0 < ds2.length := List.length_pos_iff.2 p3; have hd0 := p1.dig 0 hlen2; have hd9 := dg_lt p2.small 0; have hal := hJ.al; have hBr2 : B ≤ wr.heap.size := Nat.le_trans hB hJ.kp.size; have P1' := hid p1; have P2' := hid p2; have P3' := hid p3; have P5' := hid p5; clear e0 e1 e2; have e0 := hJ.form.c0; have e1 := hJ.form.c1; have e2 := hJ.form.c2; have hdp0 : dp2 ≤ 0 := by
     by_cases hh : dp2 ≤ 0
     · exact hh
     · exfalso
       have := p5.one p2 p3 (by omega); have := hJ.lt; omega
    clear hJ p1 p2 p3 p4 p5; by_cases hneg : dp2 < 0
    ·
     have g2 : decide (dp2 < 0) = true := by rw [decide_eq_true_eq]; omega
     have hw : IntKind.i64.wrap (-3 * dp2) = -3 * dp2 := IntWalk.i64_in _ (by omega); go_wp2_with fail
     obtain ⟨k, hk⟩ : ∃ k : Nat, min (-3 * dp2) 59 = (k : Int) := ⟨(min (-3 * dp2) 59).toNat, by omega⟩; have hk1 : 1 ≤ k := by omega
     have hk2 : k ≤ 59 := by omega
     have hlt := P5'.out.small (k := k) P2'.out hMc (by omega); have HLT := hid hlt; refine (double_st wr B b k _ _ _ _ hk HJ.out.d hb hBr2 hk2 (by omega)).mono ?_
     rintro e3 w2 ⟨rfl, hD2, hK2⟩
     have HD2 := hid hD2; have HK2 := hid hK2; have HKk := hid hk; clear hD2 hK2 hk hlt; go_wp2_with fail
     rw [HKk.out]; refine ⟨⟨a + k, by congr 1; omega, HJ.out.next HI.out.low HD2.out HK2.out (by omega) HLT.out hk1⟩, ?_⟩
     show (((c : Int) - a - k) + 1200).toNat < (((c : Int) - a) + 1200).toNat
     omega
    ·
     have g2 : decide (dp2 < 0) = false := by rw [decide_eq_false_iff_not]; omega
     have hdz : dp2 = 0 := by omega
     have P6 := hid (P5'.out); rw [hdz] at P6 c1; have hbb : b < wr.heap.size := P1'.out.lt; clear hdz g2 hdp0 hneg P5' P1' p7 p8; by_cases h5 : dg ds2 0 < 5
     ·
      have hlt := (P6.out.half P2'.out P3'.out hMc).2 h5; have HLT : Hid (N * 2 ^ a * 2 ^ 1 < M * 2 ^ c) := by show _ < _; omega
      clear hlt; have g5 : decide ((dg ds2 0 : Int) < 5) = true := by rw [decide_eq_true_eq]; omega
      go_wp2_with fail
      refine (double_st wr B b 1 _ _ _ 1 rfl HJ.out.d hb hBr2 (by omega) (by omega)).mono ?_
      rintro e3 w2 ⟨rfl, hD2, hK2⟩
      have HD2 := hid hD2; have HK2 := hid hK2; clear hD2 hK2; go_wp2_with fail
      refine ⟨⟨a + 1, by congr 1; omega, HJ.out.next HI.out.low HD2.out HK2.out (by omega) HLT.out (by omega)⟩, ?_⟩
      show (((c : Int) - a - 1) + 1200).toNat < (((c : Int) - a) + 1200).toNat
      omega
     ·
      have hge := (P6.out.half P2'.out P3'.out hMc).1 (by omega); have HGE := hid hge; have hbin := binade HJ.out.lt hge HX.out HU.out HDn.out; have HB2 := hid hbin.2; have hb1 := hbin.1; have hal2 := HJ.out.al; have g5 : decide ((dg ds2 0 : Int) < 5) = false := by rw [decide_eq_false_iff_not]; omega
      clear hge hbin h5; have hff : w.heap.size < wr.heap.size := lt_of_block HJ.out.form; have hfb : w.heap.size ≠ b := by omega
      have HFm := hid HJ.out.form; have HKj := hid HJ.out.kp; have HDj := hid HJ.out.d; clear HJ; obtain ⟨X, hX⟩ : ∃ X : Int, X = (c : Int) - a := ⟨_, rfl⟩; have hXc : (c : Int) - a = X := hX.symm; have hX1 : -1100 ≤ X := by omega
      have hX2 : X ≤ 1100 := by omega
      rw [hXc]; have HXc := hid hXc; clear hX hXc hal2; clear h6 h7 h8 hdp1 hdp2 hlen; go_upto_if 96 with fail
      clear hd0 hd9 hMc; go_cut [7, 10] (fun s7 s10 wx => s7 = .int .i64 E ∧ ∃ c' : Nat, (c' : Int) - a = E + 1 ∧ Dst wx B b (L + 60 * c + 60 * a + 1300) (N * 2 ^ a) (M * 2 ^ c') ∧ Kp [b] w wx ∧ FormAt wx w.heap.size)
      case first =>
       by_cases hlow : X - 1 < -1022
       ·
        have HE : Hid (E = -1022) := by have := HB2.out; have := HXc.out; show _ = _; omega
        obtain ⟨k, hk⟩ : ∃ k : Nat, X = -1021 - (k : Int) := ⟨(-1021 - X).toNat, by omega⟩; have HK := hid hk; rw [hk]; have hk1 : 1 ≤ k := by omega
        have hk2 : k ≤ 1200 := by omega
        clear hk hlow hb1 hX1 hX2; rw [show (-1022 : Int) - (-1021 - (k : Int) - 1) = k from by omega, show (-1021 : Int) - k - 1 = -(k : Int) - 1022 from by omega]; have g9 : decide (-(k : Int) - 1022 < -1022) = true := by rw [decide_eq_true_eq]; omega
        rw [g9]; clear g9; go_wp2_with fail
        refine (shift_down wr B b k _ _ _ HDj.out hb hBr2 hk2 (by omega) _ (by omega)).mono ?_
        rintro e3 w2 ⟨rfl, hD2, hK2⟩
        have HD2 := hid hD2; have HK2 := hid hK2; clear hD2 hK2; go_wp2_with fail
        go_meet; refine ⟨by congr 1; have := HE.out; omega, c + k, ?_, ?_, HKj.out.trans HK2.out, ?_⟩
        · have := HE.out; have := HK.out; have := HXc.out; omega
        · have := HD2.out
          rwa [Nat.mul_assoc, ← Nat.pow_add] at this
        · unfold FormAt
          rw [HK2.out.block _ hff (by simp; exact hfb)]; exact HFm.out
       ·
        have hXE : X = E + 1 := by have := HB2.out; have := HXc.out; omega
        have HXE := hid hXE; rw [hXE, show (-1022 : Int) - (E + 1 - 1) = -1022 - E from by omega, show E + 1 - 1 = E from by omega]; have g9 : decide (E < -1022) = false := by rw [decide_eq_false_iff_not]; omega
        rw [g9]; clear g9; clear hXE hlow hb1 hX1 hX2; go_wp2_with fail
        go_meet; refine ⟨rfl, c, ?_, HDj.out.more (by omega), HKj.out, HFm.out⟩; have := HXE.out; have := HXc.out; omega
      case rest =>
      obtain ⟨rfl, c', hc', hD, hK, hF⟩ := hcut; have HC := hid hc'; have HD3 := hid hD; have HK3 := hid hK; have hbw3 : b < wc.heap.size := Nat.lt_of_lt_of_le hbw hK.size; have hBw3 : B ≤ wc.heap.size := Nat.le_trans hB hK.size; have HFin := hid (fin_facts hc' HX.out HU.out HNz.out); clear e0 e1 e2 c0 c1 hb1 hX1 hX2; have e0 := hF.c0; have e1 := hF.c1; have e2 := hF.c2; have HF3 := hid hF; clear hc' hD hK hF; go_upto_region 22 with fail
      go_quiet (fail)
      go_upto_if 112 with fail
      rw [show decide (2047 ≤ E + 1023) = false from by rw [decide_eq_false_iff_not]; omega]; have HD4 : Hid (Dst (wc.drewN nq) B b (L + 60 * c + 60 * a + 1300) (N * 2 ^ a) (M * 2 ^ c')) := HD3.out.hp rfl; have HK4 : Hid (Kp [b] w (wc.drewN nq)) := HK3.out.drewN nq; have HF4 : Hid (FormAt (wc.drewN nq) w.heap.size) := HF3.out; generalize hw4 : wc.drewN nq = w4 at *; have hb4 : b < w4.heap.size := by rw [← hw4]; exact hbw3
      have hB4 : B ≤ w4.heap.size := by rw [← hw4]; exact hBw3
      have hf4 : w.heap.size < w4.heap.size := lt_of_block HF4.out; clear e0 e1 e2 hw4; have e0 := HF4.out.c0; have e1 := HF4.out.c1; have e2 := HF4.out.c2; go_wp2_with fail
      refine (shift_up w4 B b 53 _ _ _ HD4.out hb hB4 (by omega) (by omega)).mono ?_
      rintro e5 w5 ⟨rfl, hD5, hK5⟩
      have HD5 := hid hD5; have HK5 := hid (HK4.out.trans hK5); have HF5 : Hid (FormAt w5 w.heap.size) := by
       show _ = _
       rw [hK5.block _ hf4 (by simp; exact hfb)]; exact HF4.out
      clear hD5 hK5 e0 e1 e2; have e0 := HF5.out.c0; have e1 := HF5.out.c1; have e2 := HF5.out.c2; go_wp2_with fail
      refine (whole_st w5 B b _ _ _ HD5.out (Nat.mul_pos hM (pow2_pos _)) (by omega) HFin.out.1 HFin.out.2.1 r (by rw [HR.out]; exact HFin.out.2.2.symm)).mono ?_
      rintro e6 w6 ⟨rfl, rfl⟩
      have hrl : r ≤ 9007199254740992 := by
       have h9 := rne_le (N := N * 2 ^ x) (M := M * 2 ^ y) (T := 2 ^ 53) (Nat.mul_pos hM (pow2_pos _)) (by rw [Nat.mul_assoc, ← Nat.pow_add]; exact HU.out); rw [← HR.out] at h9; omega
      have hrg : E = -1022 ∨ 4503599627370496 ≤ r := by
       rcases HDn.out with h9 | h9
       · exact Or.inl h9
       · right
         have h10 := rne_ge (N := N * 2 ^ x) (M := M * 2 ^ y) (T := 2 ^ 52) (Nat.mul_pos hM (pow2_pos _)) (by rw [Nat.mul_assoc, ← Nat.pow_add]; exact h9); rw [← HR.out] at h10; omega
      have hov : E < 1023 ∨ r < 9007199254740992 := by
       rcases HOv.out with h9 | h9
       · exact Or.inl h9
       · right; omega
      have HRg := hid hrg; have HOv2 := hid hov; clear hrg hov; go_upto_if 125 with fail
      go_cut [7, 11] (fun s7 s11 wx => ∃ (t : Nat) (F : Int), s7 = .int .i64 F ∧ s11 = .int .u64 (t : Int) ∧ t < 9007199254740992 ∧ -1022 ≤ F ∧ F ≤ 1023 ∧ (F = -1022 ∨ 4503599627370496 ≤ t) ∧ t + (F + 1022).toNat * 2 ^ 52 = r + (E + 1022).toNat * 2 ^ 52 ∧ Kp [b] w wx ∧ FormAt wx w.heap.size)
      case first =>
       by_cases h53 : r = 9007199254740992
       ·
        have hE3 : E < 1023 := by have := HOv2.out; omega
        have HR53 := hid h53; have hri : (r : Int) = 9007199254740992 := by omega
        rw [show ((r : Int) == 9007199254740992) = true from by rw [beq_iff_eq]; exact hri]; rw [hri]; clear h53 hri hrl; go_upto_region 29 with fail
        go_quiet (fail)
        go_upto_if 138 with fail
        rw [show decide (2047 ≤ E + 1 + 1023) = false from by rw [decide_eq_false_iff_not]; omega]; go_wp2_with fail
        go_meet; refine ⟨4503599627370496, E + 1, rfl, rfl, by omega, by omega, by omega, Or.inr (by omega), ?_, HK5.out.drewN _, HF5.out⟩; rw [HR53.out, show (E + 1 + 1022).toNat = (E + 1022).toNat + 1 from by omega]; omega
       · have hE3 : ((r : Int) == 9007199254740992) = false := by rw [beq_eq_false_iff_ne]; omega
         rw [hE3]; clear hE3; go_wp2_with fail
         go_meet; exact ⟨r, E, rfl, rfl, by omega, hE1, hE2, HRg.out, rfl, HK5.out, HF5.out⟩
      case rest =>
      obtain ⟨t, F, rfl, rfl, ht, hF1, hF2, hF3, hF4, hF5, hF6⟩ := hcut; have HF3 := hid hF3; have HF4 := hid hF4; have HF5 := hid hF5; have HF6 := hid hF6; clear hF3 hF4 hF5 e0 e1 e2 hrl hE1 hE2; have e0 := hF6.c0; have e1 := hF6.c1; have e2 := hF6.c2; clear hF6; go_upto_if 145 with fail
      by_cases hlo : t < 4503599627370496
      ·
       rw [and52_lo t hlo, show ((0 : Int) == 0) = true from rfl]; have hF : F = -1022 := by have := HF3.out; omega
       have HFq := hid hF; clear hF; go_upto_region 33 with fail
       go_quiet (fail)
       have hfin : bits .or .u64 (bits .and .u64 (t : Int) 4503599627370495) 0 = ((r + (E + 1022).toNat * 2 ^ 52 : Nat) : Int) := by
        have h1 := or52 t 0 hlo (by omega); rw [low52 t (by omega), Nat.mod_eq_of_lt hlo, ← HF4.out, HFq.out]; have e9 : ((0 * 4503599627370496 : Nat) : Int) = 0 := rfl; rw [e9] at h1; rw [h1]; simp
       have HFi := hid hfin; clear hfin; go_wp2_with fail
       go_ret2
       exact ⟨by rw [HFi.out]; rfl, HF5.out.drewN _⟩
      ·
       rw [and52_hi t (by omega) ht, show ((4503599627370496 : Int) == 0) = false from rfl]; go_upto_region 33 with fail
       go_quiet (fail)
       have hfin : bits .or .u64 (bits .and .u64 (t : Int) 4503599627370495) ((F + 1023) * 4503599627370496) = ((r + (E + 1022).toNat * 2 ^ 52 : Nat) : Int) := by
        obtain ⟨z, hz⟩ : ∃ z : Nat, F + 1022 = (z : Int) := ⟨(F + 1022).toNat, by omega⟩; refine fin52 t z _ F hz (by omega) (by omega) ht ?_; have h9 := HF4.out; rw [hz, Int.toNat_natCast] at h9; exact h9
       have HFi := hid hfin; clear hfin; go_wp2_with fail
       go_ret2
       exact ⟨by rw [HFi.out]; rfl, HF5.out.drewN _⟩
end
end Go.Proofs.YtljaoopfomcaoaaGreatDoor
