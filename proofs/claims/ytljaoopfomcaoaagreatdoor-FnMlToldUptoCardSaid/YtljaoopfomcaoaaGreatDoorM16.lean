import Derived.Test.YtljaoopfomcaoaaGreatDoorM15
set_option linter.all false
open Go.Lib (hid)
namespace Go.Proofs.YtljaoopfomcaoaaGreatDoor
section
open Go.RowKit
def Dst (w : World) (B b L : Nat) (N M : Nat) : Prop :=
 ∃ g cap ds dp, DecAt w B b g cap ds dp ∧ Dig ds ∧ ds ≠ [] ∧ Ends ds ∧ Is ds dp N M ∧ ds.length ≤ L ∧ -(L : Int) ≤ dp ∧ dp ≤ L
theorem Dst.hp {w w' : World} {B b L N M : Nat} (h : Dst w B b L N M) (e : w'.heap = w.heap) : Dst w' B b L N M := by
 obtain ⟨g, cap, ds, dp, h1, h2⟩ := h; exact ⟨g, cap, ds, dp, h1.hp e, h2⟩
theorem Dst.drew {w : World} {B b L N M : Nat} (h : Dst w B b L N M) : Dst w.drew B b L N M := h.hp rfl
theorem Dst.more {w : World} {B b L L' N M : Nat} (h : Dst w B b L N M) (hl : L ≤ L') : Dst w B b L' N M := by
 obtain ⟨g, cap, ds, dp, h1, h2, h3, h4, h5, h6, h7, h8⟩ := h; exact ⟨g, cap, ds, dp, h1, h2, h3, h4, h5, by omega, by omega, by omega⟩
theorem half_st (w : World) (B b k L N M : Nat) (x : Int) (hx : x = (k : Int)) (h : Dst w B b L N M) (hb : B ≤ b) (hB : B ≤ w.heap.size) (hk1 : 1 ≤ k) (hk2 : k ≤ 59) (hL : L ≤ 390000) :
  Calls Tryz.prog 177 #[.pointer (some ⟨b, 0, none⟩), .int .i64 x] w fun e w' => e = .returned (.tuple #[]) ∧ Dst w' B b (L + 60) N (M * 2 ^ k) ∧ Kp [b] w w' := by
 subst hx; obtain ⟨g, cap, ds, dp, h1, h2, h3, h4, h5, h6, h7, h8⟩ := h; refine (half_is w B b g cap k ds dp h1 h2 h3 hb hB hk1 hk2 (by omega) (by omega) (by omega)).mono ?_
 rintro e w' ⟨rfl, g', cap', ds', dp', q1, q2, q3, q4, q5, q6, q7, q8, q9⟩
 exact ⟨rfl, ⟨g', cap', ds', dp', q1, q2, q3, q4, q6 N M h5, by omega, by omega, by omega⟩, q5⟩
theorem double_st (w : World) (B b k L N M : Nat) (x : Int) (hx : x = (k : Int)) (h : Dst w B b L N M) (hb : B ≤ b) (hB : B ≤ w.heap.size) (hk2 : k ≤ 59) (hL : L ≤ 390000) :
  Calls Tryz.prog 178 #[.pointer (some ⟨b, 0, none⟩), .int .i64 x] w fun e w' => e = .returned (.tuple #[]) ∧ Dst w' B b (L + 60) (N * 2 ^ k) M ∧ Kp [b] w w' := by
 subst hx; obtain ⟨g, cap, ds, dp, h1, h2, h3, h4, h5, h6, h7, h8⟩ := h; refine (double_is w B b g cap k ds dp h1 h2 h3 hb hB hk2 (by omega) (by omega) (by omega)).mono ?_
 rintro e w' ⟨rfl, g', cap', ds', dp', q1, q2, q3, q4, q5, q6, q7, q8, q9⟩
 exact ⟨rfl, ⟨g', cap', ds', dp', q1, q2, q3, q4, q6 N M h5, by omega, by omega, by omega⟩, q5⟩
theorem pow_step (N a t : Nat) : N * 2 ^ (a * t) * 2 ^ a = N * 2 ^ (a * (t + 1)) := by rw [Nat.mul_assoc, ← Nat.pow_add, Nat.mul_succ]
set_option maxRecDepth 100000 in
set_option maxHeartbeats 2000000 in
theorem shift_up (w : World) (B b k L N M : Nat) (h : Dst w B b L N M) (hb : B ≤ b) (hB : B ≤ w.heap.size) (hk : k ≤ 1200) (hL : L ≤ 300000) :
  Calls Tryz.prog 175 #[.pointer (some ⟨b, 0, none⟩), .int .i64 k] w fun e w' => e = .returned (.tuple #[]) ∧ Dst w' B b (L + 1300) (N * 2 ^ k) M ∧ Kp [b] w w' := by
 have H := hid h; clear h; go_enter Tryz.func175, Tryz.ntmps175
 go_wp2_with fail
 go_loopw [1] (fun v1 wr => ∃ t j : Nat, v1 = .int .i64 (j : Int) ∧ k = 59 * t + j ∧ Dst wr B b (L + 60 * t) (N * 2 ^ (59 * t)) M ∧ Kp [b] w wr) (fun v1 wr => (intOf v1).toNat)
 case atStart => exact ⟨0, k, rfl, by omega, by simpa using H.out, Kp.refl _ _⟩
 case round =>
  obtain ⟨t, j, rfl, hkj, hD, hK⟩ := hrel; have HD := hid hD; have HK := hid hK; have hBr : B ≤ wr.heap.size := Nat.le_trans hB hK.size; have HKJ := hid hkj; have hkj1 : k ≤ 59 * t + j := by omega
  have hkj2 : 59 * t + j ≤ k := by omega
  clear hD hK hkj; by_cases hj : 59 < j
  ·
   have g1 : decide ((j : Int) > 59) = true := by rw [decide_eq_true_eq]; omega
   go_wp2_with fail
   refine (double_st wr B b 59 _ _ _ 59 rfl HD.out hb hBr (by omega) (by omega)).mono ?_
   rintro e1 w1 ⟨rfl, hD1, hK1⟩
   have HD1 := hid hD1; have HK1 := hid hK1; clear hD1 hK1; go_wp2_with fail
   refine ⟨⟨t + 1, j - 59, by congr 1; omega, by omega, ?_, HK.out.trans HK1.out⟩, ?_⟩
   · have := HD1.out
     rw [pow_step] at this; rwa [Nat.mul_succ 60 t, ← Nat.add_assoc]
   · show ((j : Int) - 59).toNat < ((j : Int)).toNat
     omega
  ·
   have g1 : decide ((j : Int) > 59) = false := by rw [decide_eq_false_iff_not]; omega
   go_wp2_with fail
   go_loop [1] (fun v1 => v1 = .int .i64 (j : Int)) (fun _ => 0)
   case atStart => rfl
   case round =>
    subst hrel; have g2 : decide ((j : Int) < -59) = false := by rw [decide_eq_false_iff_not]; omega
    have hL2 : L + 60 * t + 60 ≤ L + 1300 := by omega
    by_cases h0 : j = 0
    · subst h0
      go_wp2_with fail
      first | (refine bodyPost_ret (results_none rfl _ _ _) rfl ?_) | (refine bodyPost_end (results_none rfl _ _ _) rfl ?_)
      refine ⟨rfl, ?_, HK.out⟩; have := HD.out; rw [show 59 * t = k from by omega] at this; exact this.more (L' := L + 1300) (by omega)
    ·
     have g3 : decide ((j : Int) > 0) = true := by rw [decide_eq_true_eq]; omega
     go_wp2_with fail
     refine (double_st wr B b j _ _ _ _ rfl HD.out hb hBr (by omega) (by omega)).mono ?_
     rintro e1 w1 ⟨rfl, hD1, hK1⟩
     have HD1 := hid hD1; have HK1 := hid hK1; clear hD1 hK1; go_wp2_with fail
     first | (refine bodyPost_ret (results_none rfl _ _ _) rfl ?_) | (refine bodyPost_end (results_none rfl _ _ _) rfl ?_)
     refine ⟨rfl, ?_, HK.out.trans HK1.out⟩; have := HD1.out; rw [Nat.mul_assoc, ← Nat.pow_add, ← HKJ.out] at this; exact this.more hL2
set_option maxRecDepth 100000 in
set_option maxHeartbeats 2000000 in
theorem shift_down (w : World) (B b k L N M : Nat) (h : Dst w B b L N M) (hb : B ≤ b) (hB : B ≤ w.heap.size) (hk : k ≤ 1200) (hL : L ≤ 300000) (x : Int) (hx : x = -(k : Int)) :
  Calls Tryz.prog 175 #[.pointer (some ⟨b, 0, none⟩), .int .i64 x] w fun e w' => e = .returned (.tuple #[]) ∧ Dst w' B b (L + 1300) N (M * 2 ^ k) ∧ Kp [b] w w' := by
 subst hx; have H := hid h; clear h; go_enter Tryz.func175, Tryz.ntmps175
 go_wp2_with fail
 go_loop [1] (fun v1 => v1 = .int .i64 (-(k : Int))) (fun _ => 0)
 case atStart => rfl
 case round =>
  subst hrel; have g0 : decide (-(k : Int) > 59) = false := by rw [decide_eq_false_iff_not]; omega
  go_wp2_with fail
  go_loopw [1] (fun v1 wr => ∃ t j : Nat, v1 = .int .i64 (-(j : Int)) ∧ k = 59 * t + j ∧ Dst wr B b (L + 60 * t) N (M * 2 ^ (59 * t)) ∧ Kp [b] w wr) (fun v1 wr => (-(intOf v1)).toNat)
  case atStart => exact ⟨0, k, rfl, by omega, by simpa using H.out, Kp.refl _ _⟩
  case round =>
   obtain ⟨t, j, rfl, hkj, hD, hK⟩ := hrel; have HD := hid hD; have HK := hid hK; have hBr : B ≤ wr.heap.size := Nat.le_trans hB hK.size; have HKJ := hid hkj; have hkj1 : k ≤ 59 * t + j := by omega
   have hkj2 : 59 * t + j ≤ k := by omega
   clear hD hK hkj; by_cases hj : 59 < j
   ·
    have g1 : decide (-(j : Int) < -59) = true := by rw [decide_eq_true_eq]; omega
    go_wp2_with fail
    refine (half_st wr B b 59 _ _ _ 59 rfl HD.out hb hBr (by omega) (by omega) (by omega)).mono ?_
    rintro e1 w1 ⟨rfl, hD1, hK1⟩
    have HD1 := hid hD1; have HK1 := hid hK1; clear hD1 hK1; go_wp2_with fail
    refine ⟨⟨t + 1, j - 59, by congr 1; omega, by omega, ?_, HK.out.trans HK1.out⟩, ?_⟩
    · have := HD1.out
      rw [pow_step] at this; rwa [Nat.mul_succ 60 t, ← Nat.add_assoc]
    · show (-(-(j : Int) + 59)).toNat < (-(-(j : Int))).toNat
      omega
   ·
    have g1 : decide (-(j : Int) < -59) = false := by rw [decide_eq_false_iff_not]; omega
    have g2 : decide (-(j : Int) > 0) = false := by rw [decide_eq_false_iff_not]; omega
    have hL2 : L + 60 * t + 60 ≤ L + 1300 := by omega
    by_cases h0 : j = 0
    · subst h0
      go_wp2_with fail
      first | (refine bodyPost_ret (results_none rfl _ _ _) rfl ?_) | (refine bodyPost_end (results_none rfl _ _ _) rfl ?_)
      refine ⟨rfl, ?_, HK.out⟩; have := HD.out; rw [show 59 * t = k from by omega] at this; exact this.more (L' := L + 1300) (by omega)
    ·
     have g3 : decide (-(j : Int) < 0) = true := by rw [decide_eq_true_eq]; omega
     go_wp2_with fail
     refine (half_st wr B b j _ _ _ _ (by omega) HD.out hb hBr (by omega) (by omega) (by omega)).mono ?_
     rintro e1 w1 ⟨rfl, hD1, hK1⟩
     have HD1 := hid hD1; have HK1 := hid hK1; clear hD1 hK1; go_wp2_with fail
     first | (refine bodyPost_ret (results_none rfl _ _ _) rfl ?_) | (refine bodyPost_end (results_none rfl _ _ _) rfl ?_)
     refine ⟨rfl, ?_, HK.out.trans HK1.out⟩; have := HD1.out; rw [Nat.mul_assoc, ← Nat.pow_add, ← HKJ.out] at this; exact this.more hL2
end
section
open Go.RowKit
set_option maxRecDepth 100000 in
theorem digit_dec (w : World) (B b g cap i : Nat) (ds : List Nat) (dp : Int) (h : DecAt w B b g cap ds dp) (hl : ds.length ≤ 1000000) :
  Calls Tryz.prog 183 #[.pointer (some ⟨b, 0, none⟩), .int .i64 i] w fun e w' => e = .returned (.int .u8 (dg ds i)) ∧ w' = w := by
 have c0 := h.c0; have hcap := h.cap; by_cases hi : i < ds.length
 ·
  have hd := h.dig i hi; clear h; go_enter Tryz.func183, Tryz.ntmps183
  go_wp2_with fail
  go_ret; exact ⟨rfl, rfl⟩
 ·
  rw [dg_past (by omega)]; clear h; go_enter Tryz.func183, Tryz.ntmps183
  go_wp2_with fail
  go_ret; exact ⟨rfl, rfl⟩
def up (ds : List Nat) (n : Nat) : Bool :=
 if ds.length ≤ n then false else if dg ds n = 5 ∧ n + 1 = ds.length then decide (0 < n ∧ dg ds (n - 1) % 2 ≠ 0) else decide (5 ≤ dg ds n)
set_option maxRecDepth 100000 in
set_option maxHeartbeats 1000000 in
theorem nearUp_is (w : World) (B b g cap n : Nat) (ds : List Nat) (dp : Int) (h : DecAt w B b g cap ds dp) (hd : Dig ds) (hl : ds.length ≤ 1000000) (hn : n ≤ 1000000) :
  Calls Tryz.prog 184 #[.pointer (some ⟨b, 0, none⟩), .int .i64 n] w fun e w' => e = .returned (.bool (up ds n)) ∧ w' = w := by
 have c0 := h.c0; have hcap := h.cap; have H := hid h; have hdl := dg_lt hd.small n; have k0 : decide ((n : Int) < 0) = false := by rw [decide_eq_false_iff_not]; omega
 clear h; by_cases hi : n < ds.length
 ·
  have hx := H.out.dig n hi; by_cases h5 : dg ds n = 5
  ·
   have k1 : ((dg ds n : Int) == 5) = true := by rw [beq_iff_eq]; omega
   by_cases hq : n + 1 = ds.length
   ·
    have k2 : ((n : Int) + 1 == (ds.length : Int)) = true := by rw [beq_iff_eq]; omega
    by_cases hz : n = 0
    ·
     have e : up ds n = false := by unfold up; rw [if_neg (by omega), if_pos ⟨h5, hq⟩]; simp; omega
     rw [e]; have k3 : decide ((n : Int) > 0) = false := by rw [decide_eq_false_iff_not]; omega
     have k4 : decide (0 < n) = false := by rw [decide_eq_false_iff_not]; omega
     have k5 : ¬ 0 < n := by omega
     clear hz; go_enter Tryz.func184, Tryz.ntmps184
     go_wp2_with fail
     go_ret; exact ⟨rfl, rfl⟩
    ·
     have e : up ds n = (((dg ds (n - 1) % 2 : Nat) : Int) != 0) := by
      unfold up; rw [if_neg (by omega), if_pos ⟨h5, hq⟩]; rcases Nat.mod_two_eq_zero_or_one (dg ds (n - 1)) with hh | hh
      · simp [hh]
      · simp [hh]; omega
     rw [e]; have hy := H.out.dig (n - 1) (by omega); have hdy := dg_lt hd.small (n - 1); have k3 : decide ((n : Int) > 0) = true := by rw [decide_eq_true_eq]; omega
     have hw : IntKind.i64.wrap ((n : Int) - 1) = ((n - 1 : Nat) : Int) := by rw [IntWalk.i64_in _ (by omega)]; omega
     go_enter Tryz.func184, Tryz.ntmps184
     go_wp2_with fail
     go_ret; refine ⟨?_, rfl⟩
     show Ending.returned (.bool _) = Ending.returned (.bool _)
     congr 2
   ·
    have e : up ds n = true := by unfold up; rw [if_neg (by omega), if_neg (by omega), h5]; rfl
    rw [e]; have k2 : ((n : Int) + 1 == (ds.length : Int)) = false := by rw [beq_eq_false_iff_ne]; omega
    go_enter Tryz.func184, Tryz.ntmps184
    go_wp2_with fail
    go_ret; exact ⟨rfl, rfl⟩
  ·
   have e : up ds n = decide ((dg ds n : Int) ≥ 5) := by
    unfold up; rw [if_neg (by omega), if_neg (by omega)]; by_cases hh : 5 ≤ dg ds n
    · rw [decide_eq_true hh, decide_eq_true (by omega)]
    · rw [decide_eq_false hh, decide_eq_false (by omega)]
   rw [e]; have k1 : ((dg ds n : Int) == 5) = false := by rw [beq_eq_false_iff_ne]; omega
   go_enter Tryz.func184, Tryz.ntmps184
   go_wp2_with fail
   go_ret; exact ⟨rfl, rfl⟩
 ·
  have e : up ds n = false := by unfold up; rw [if_pos (by omega)]
  rw [e]; go_enter Tryz.func184, Tryz.ntmps184
  go_wp2_with fail
  go_ret; exact ⟨rfl, rfl⟩
end
section
def rne (N M : Nat) : Nat := if 2 * (N % M) < M then N / M else if M < 2 * (N % M) then N / M + 1 else N / M + N / M % 2
theorem num_pos_last {l : List Nat} (h : l ≠ []) (hl : dg l (l.length - 1) ≠ 0) : 0 < num l := by
 obtain ⟨m, x, rfl⟩ : ∃ m x, l = m ++ [x] := ⟨l.dropLast, l.getLast h, (List.dropLast_concat_getLast _).symm⟩; rw [num_snoc]; simp [dg] at hl; omega
theorem drop_dg (ds : List Nat) (n : Nat) (h : n < ds.length) : ds.drop n = dg ds n :: ds.drop (n + 1) := by
 rw [List.drop_eq_getElem_cons h]
 congr 1
 unfold dg; rw [List.getD_eq_getElem?_getD, List.getElem?_eq_getElem h]; rfl
theorem whole_law {ds : List Nat} {n N M : Nat} (h : Is ds (n : Int) N M) (hd : Dig ds) (hE : Ends ds) (hne : ds ≠ []) (hM : 0 < M) : rne N M = pre ds n + (if up ds n then 1 else 0) := by
 have hlen : 0 < ds.length := List.length_pos_iff.2 hne; by_cases hn : ds.length ≤ n
 ·
  obtain ⟨m, rfl⟩ := Nat.exists_eq_add_of_le hn; have e := h.any (c := m) (c' := 0) (by push_cast; omega); rw [← pre_past, Nat.pow_zero, Nat.mul_one] at e; have hu : up ds (ds.length + m) = false := by unfold up; rw [if_pos (by omega)]
  rw [hu, ← e]; unfold rne; rw [Nat.mul_mod_left, Nat.mul_div_cancel _ hM, if_pos (by omega)]; rfl
 ·
  obtain ⟨m, hm⟩ : ∃ m, ds.length = n + (m + 1) := ⟨ds.length - n - 1, by omega⟩; have e := h.any (c := 0) (c' := m + 1) (by rw [hm]; push_cast; omega); rw [Nat.pow_zero, Nat.mul_one] at e; have hsplit : num ds = pre ds n * 10 ^ (m + 1) + num (ds.drop n) := by
   conv => lhs; rw [← List.take_append_drop n ds]
   rw [num_append, pre_take ds n (by omega)]
   congr 3
   simp; omega
  have hdr := drop_dg ds n (by omega); have hsm : ∀ k, ∀ x ∈ ds.drop k, x < 10 := fun k x hx => hd.small x (List.mem_of_mem_drop hx)
  have hrest : num (ds.drop n) = dg ds n * 10 ^ m + num (ds.drop (n + 1)) := by
   rw [hdr, num_cons]
   congr 3
   simp; omega
  have hr2 : num (ds.drop (n + 1)) < 10 ^ m := by
   have := num_lt (hsm (n + 1)); rwa [show (ds.drop (n + 1)).length = m by simp; omega] at this
  have hdl : dg ds n < 10 := dg_lt hd.small n; obtain ⟨U, hU⟩ : ∃ U, U = 10 ^ m := ⟨_, rfl⟩; have hUp : 0 < U := by rw [hU]; exact pow10_pos m
  obtain ⟨P, hP⟩ : ∃ P, P = pre ds n := ⟨_, rfl⟩; obtain ⟨r2, hr⟩ : ∃ r2, r2 = num (ds.drop (n + 1)) := ⟨_, rfl⟩; obtain ⟨d, hdd⟩ : ∃ d, d = dg ds n := ⟨_, rfl⟩; rw [hrest, Nat.pow_succ, ← hU, ← hP, ← hr, ← hdd] at hsplit; rw [← hr, ← hU] at hr2; rw [← hdd] at hdl; rw [hsplit, Nat.pow_succ, ← hU] at e; have hlt : d * U + r2 < U * 10 := by
   have : d * U ≤ 9 * U := Nat.mul_le_mul_right _ (by omega); omega
  have e' : N * (U * 10) = P * (M * (U * 10)) + (d * U + r2) * M := by
   rw [← e, Nat.add_mul]
   congr 1
   simp only [Nat.mul_assoc, Nat.mul_comm, Nat.mul_left_comm]
  have hlt2 : (d * U + r2) * M < M * (U * 10) := by
   rw [Nat.mul_comm M]; exact Nat.mul_lt_mul_of_pos_right hlt hM
  have hT : 0 < M * (U * 10) := Nat.mul_pos hM (by omega); have hq : N / M = P := by
   have h1 : N * (U * 10) / (M * (U * 10)) = N / M := Nat.mul_div_mul_right _ _ (by omega); rw [← h1, e', Nat.mul_comm P, Nat.mul_add_div hT, Nat.div_eq_of_lt hlt2]; omega
  have hrm : N % M * (U * 10) = (d * U + r2) * M := by
   have h1 : N * (U * 10) % (M * (U * 10)) = N % M * (U * 10) := Nat.mul_mod_mul_right _ _ _; rw [← h1, e', Nat.mul_comm P, Nat.mul_add_mod, Nat.mod_eq_of_lt hlt2]
  have key : ∀ x : Nat, (2 * (N % M) < M ↔ 2 * (d * U + r2) < U * 10) ∧ (M < 2 * (N % M) ↔ U * 10 < 2 * (d * U + r2)) := by
   intro _; have hA : 2 * (N % M) * (U * 10) = 2 * (d * U + r2) * M := by rw [Nat.mul_assoc, hrm, Nat.mul_assoc]
   have hT10 : 0 < U * 10 := by omega
   constructor
   · rw [← Nat.mul_lt_mul_right hT10, hA, Nat.mul_comm M (U * 10)]
     exact Nat.mul_lt_mul_right hM
   · rw [← Nat.mul_lt_mul_right hT10, hA, Nat.mul_comm M (U * 10)]
     exact Nat.mul_lt_mul_right hM
  obtain ⟨k1, k2⟩ := key 0; unfold rne; rw [hq]; have hup : up ds n = if d = 5 ∧ n + 1 = ds.length then decide (0 < n ∧ dg ds (n - 1) % 2 ≠ 0) else decide (5 ≤ d) := by
   unfold up; rw [if_neg (by omega), ← hdd]
  have hlast : n + 1 ≠ ds.length → 0 < r2 := by
   intro hne'; rw [hr]; apply num_pos_last
   · intro hnil
     have := congrArg List.length hnil; simp at this; omega
   · have : dg (ds.drop (n + 1)) ((ds.drop (n + 1)).length - 1) = dg ds (ds.length - 1) := by
      unfold dg; rw [List.getD_eq_getElem?_getD, List.getD_eq_getElem?_getD, List.getElem?_drop]
      congr 2
      simp; omega
     rw [this]; exact hE
  have hzero : n + 1 = ds.length → r2 = 0 := by
   intro he; rw [hr, List.drop_eq_nil_of_le (by omega)]; rfl
  have hpar : P % 2 = if 0 < n ∧ dg ds (n - 1) % 2 ≠ 0 then 1 else 0 := by
   rw [hP]
   cases n with
   | zero => simp [pre]
   | succ n =>
    rw [pre]; simp only [Nat.add_sub_cancel]
    split <;> omega
  rw [← hP]; rcases Nat.lt_trichotomy d 5 with h5 | h5 | h5
  · have hb : d * U ≤ 4 * U := Nat.mul_le_mul_right _ (by omega)
    have hv : up ds n = false := by rw [hup, if_neg (by omega), decide_eq_false (by omega)]
    rw [hv, if_pos (k1.2 (by omega))]; rfl
  ·
   subst h5; by_cases hl : n + 1 = ds.length
   · have hz := hzero hl
     have hv : up ds n = decide (0 < n ∧ dg ds (n - 1) % 2 ≠ 0) := by rw [hup, if_pos ⟨rfl, hl⟩]
     rw [hv, if_neg (fun c => by have := k1.1 c; omega), if_neg (fun c => by have := k2.1 c; omega), hpar]; by_cases hc : 0 < n ∧ dg ds (n - 1) % 2 ≠ 0
     · rw [if_pos hc, decide_eq_true hc]; rfl
     · rw [if_neg hc, decide_eq_false hc]; rfl
   · have := hlast hl
     have hv : up ds n = true := by rw [hup, if_neg (by omega)]; rfl
     rw [hv, if_neg (fun c => by have := k1.1 c; omega), if_pos (k2.2 (by omega))]; rfl
  · have hb : 6 * U ≤ d * U := Nat.mul_le_mul_right _ (by omega)
    have hv : up ds n = true := by rw [hup, if_neg (by omega), decide_eq_true (by omega)]
    rw [hv, if_neg (fun c => by have := k1.1 c; omega), if_pos (k2.2 (by omega))]; rfl
end
section
open Go.RowKit
theorem pre_lt {ds : List Nat} (h : ∀ d ∈ ds, d < 10) : ∀ i, pre ds i < 10 ^ i
 | 0 => by simp [pre]
 | i + 1 => by
  have := pre_lt h i; have := dg_lt h i; rw [pre, Nat.pow_succ]; omega
set_option maxRecDepth 100000 in
set_option maxHeartbeats 1000000 in
theorem whole_is (w : World) (B b g cap n : Nat) (ds : List Nat) (y : Int) (hy : y = (n : Int)) (h : DecAt w B b g cap ds y) (hd : Dig ds) (hl : ds.length ≤ 1000000) (hn : n ≤ 18) (r : Nat) (hr : r = pre ds n + (if up ds n then 1 else 0)) :
  Calls Tryz.prog 179 #[.pointer (some ⟨b, 0, none⟩)] w fun e w' => e = .returned (.int .u64 (r : Int)) ∧ w' = w := by
 have HR := hid hr; clear hr; subst hy; have c1 := h.c1; have H := hid h; have HD := hid hd; have hpn : pre ds n < 10 ^ 18 := Nat.lt_of_lt_of_le (pre_lt hd.small n) (Nat.pow_le_pow_right (by omega) hn); clear h hd; go_enter Tryz.func179, Tryz.ntmps179
 go_wp2_with fail
 go_loop [3, 4] (fun v3 v4 => ∃ i : Nat, i ≤ n ∧ v3 = .int .u64 ((pre ds i : Nat) : Int) ∧ v4 = .int .i64 (i : Int)) (fun v3 v4 => n - (intOf v4).toNat)
 case atStart => exact ⟨0, by omega, rfl, rfl⟩
 case round =>
  obtain ⟨i, hi, rfl, rfl⟩ := hrel; have hpi : pre ds i < 10 ^ 18 := Nat.lt_of_lt_of_le (pre_lt HD.out.small i) (Nat.pow_le_pow_right (by omega) (by omega)); have hdl := dg_lt HD.out.small i; by_cases hlt : i < n
  ·
   have hpi2 : pre ds (i + 1) < 10 ^ 18 := Nat.lt_of_lt_of_le (pre_lt HD.out.small (i + 1)) (Nat.pow_le_pow_right (by omega) (by omega)); have hpe : pre ds i * 10 + dg ds i < 1000000000000000000 := by rw [pre] at hpi2; omega
   have hpe2 : pre ds i * 10 < 1000000000000000000 := by omega
   clear hpi2; go_wp2_with fail
   refine (digit_dec w B b g cap i ds _ H.out hl).mono ?_
   rintro e1 w1 ⟨rfl, rfl⟩
   go_wp2_with fail
   refine ⟨⟨i + 1, by omega, ?_, by congr 1⟩, ?_⟩
   · rw [pre]; congr 1; push_cast; omega
   · show n - ((i : Int) + 1).toNat < n - ((i : Int)).toNat
     omega
  ·
   obtain rfl : i = n := by omega
   go_wp2_with fail
   refine (nearUp_is w B b g cap i ds _ H.out HD.out hl (by omega)).mono ?_
   rintro e1 w1 ⟨rfl, rfl⟩
   obtain ⟨v, hv⟩ : ∃ v, v = up ds i := ⟨_, rfl⟩; rw [← hv]; have HV := hid hv; clear hv
   cases v with
   | false =>
    go_wp2_with fail
    go_ret; refine ⟨?_, rfl⟩; have hr := HR.out; rw [← HV.out] at hr; simp at hr; rw [hr]; rfl
   | true =>
    go_wp2_with fail
    go_ret; refine ⟨?_, rfl⟩; have hr := HR.out; rw [← HV.out] at hr; simp at hr; rw [hr]; rfl
end
section
theorem num_ge {ds : List Nat} (hd : Dig ds) (hne : ds ≠ []) : 10 ^ (ds.length - 1) ≤ num ds := by
 have h := pre_ge hd hne (ds.length - 1); have hl : 0 < ds.length := List.length_pos_iff.2 hne; rwa [show ds.length - 1 + 1 = ds.length from by omega, pre_len] at h
theorem Is.ub {ds : List Nat} {dp : Int} {N M : Nat} (h : Is ds dp N M) (hd : Dig ds) (hM : 0 < M) {j j' : Nat} (hj : dp ≤ (j : Int) - j') : N * 10 ^ j' < M * 10 ^ j := by
 obtain ⟨c, c', hc, he⟩ := h; have h1 := num_lt hd.small; have h2 : N * 10 ^ c' < 10 ^ (ds.length + c) * M := by
  rw [← he, Nat.pow_add]; exact Nat.mul_lt_mul_of_pos_right (Nat.mul_lt_mul_of_pos_right h1 (pow10_pos c)) hM
 have h3 : N * 10 ^ j' * 10 ^ c' < M * 10 ^ j * 10 ^ c' := by
  have e1 : N * 10 ^ j' * 10 ^ c' = N * 10 ^ c' * 10 ^ j' := by simp only [Nat.mul_assoc, Nat.mul_comm, Nat.mul_left_comm]
  have e2 : M * 10 ^ j * 10 ^ c' = 10 ^ (c' + j) * M := by rw [Nat.pow_add]; simp only [Nat.mul_assoc, Nat.mul_comm, Nat.mul_left_comm]
  rw [e1, e2]; refine Nat.lt_of_lt_of_le (Nat.mul_lt_mul_of_pos_right h2 (pow10_pos j')) ?_; have e3 : 10 ^ (ds.length + c) * M * 10 ^ j' = 10 ^ (ds.length + c + j') * M := by rw [Nat.pow_add _ _ j']; simp only [Nat.mul_assoc, Nat.mul_comm, Nat.mul_left_comm]
  rw [e3]; exact Nat.mul_le_mul_right _ (Nat.pow_le_pow_right (by omega) (by omega))
 exact Nat.lt_of_mul_lt_mul_right h3
theorem Is.lb {ds : List Nat} {dp : Int} {N M : Nat} (h : Is ds dp N M) (hd : Dig ds) (hne : ds ≠ []) {j j' : Nat} (hj : (j : Int) - j' ≤ dp - 1) : M * 10 ^ j ≤ N * 10 ^ j' := by
 obtain ⟨c, c', hc, he⟩ := h; have h1 := num_ge hd hne; have hl : 0 < ds.length := List.length_pos_iff.2 hne; have h2 : 10 ^ (ds.length - 1 + c) * M ≤ N * 10 ^ c' := by
  rw [← he, Nat.pow_add]; exact Nat.mul_le_mul_right _ (Nat.mul_le_mul_right _ h1)
 have h3 : M * 10 ^ j * 10 ^ c' ≤ N * 10 ^ j' * 10 ^ c' := by
  have e1 : N * 10 ^ j' * 10 ^ c' = N * 10 ^ c' * 10 ^ j' := by simp only [Nat.mul_assoc, Nat.mul_comm, Nat.mul_left_comm]
  have e2 : M * 10 ^ j * 10 ^ c' = 10 ^ (c' + j) * M := by rw [Nat.pow_add]; simp only [Nat.mul_assoc, Nat.mul_comm, Nat.mul_left_comm]
  rw [e1, e2]; refine Nat.le_trans ?_ (Nat.mul_le_mul_right (10 ^ j') h2); have e3 : 10 ^ (ds.length - 1 + c) * M * 10 ^ j' = 10 ^ (ds.length - 1 + c + j') * M := by rw [Nat.pow_add _ _ j']; simp only [Nat.mul_assoc, Nat.mul_comm, Nat.mul_left_comm]
  rw [e3]; exact Nat.mul_le_mul_right _ (Nat.pow_le_pow_right (by omega) (by omega))
 exact Nat.le_of_mul_le_mul_right h3 (pow10_pos c')
theorem Is.one {ds : List Nat} {dp : Int} {N M : Nat} (h : Is ds dp N M) (hd : Dig ds) (hne : ds ≠ []) (hp : 0 < dp) : M ≤ N := by
 have := h.lb hd hne (j := 0) (j' := 0) (by omega); simpa using this
theorem Is.below {ds : List Nat} {dp : Int} {N M : Nat} (h : Is ds dp N M) (hd : Dig ds) (hM : 0 < M) (hp : dp ≤ 0) : N < M := by
 have := h.ub hd hM (j := 0) (j' := 0) (by omega); simpa using this
theorem Is.small {ds : List Nat} {dp : Int} {N M k : Nat} (h : Is ds dp N M) (hd : Dig ds) (hM : 0 < M) (hk : (k : Int) ≤ -3 * dp) : N * 2 ^ k < M := by
 obtain ⟨j, hj⟩ : ∃ j : Nat, dp ≤ -(j : Int) ∧ k ≤ 3 * j := ⟨(-dp).toNat, by omega, by omega⟩; have h1 := h.ub hd hM (j := 0) (j' := j) (by omega); have h2 : 2 ^ k ≤ 10 ^ j := by
  refine Nat.le_trans (Nat.pow_le_pow_right (by omega) hj.2) ?_; rw [Nat.pow_mul]; exact Nat.pow_le_pow_left (by omega) j
 have h3 := Nat.mul_le_mul_left N h2; simp at h1; omega
theorem Is.half {ds : List Nat} {N M : Nat} (h : Is ds 0 N M) (hd : Dig ds) (hne : ds ≠ []) (hM : 0 < M) : (5 ≤ dg ds 0 → M ≤ 2 * N) ∧ (dg ds 0 < 5 → 2 * N < M) := by
 have hl : 0 < ds.length := List.length_pos_iff.2 hne; have e := h.any (c := 0) (c' := ds.length) (by omega); rw [Nat.pow_zero, Nat.mul_one] at e; have hdr := drop_dg ds 0 hl; rw [List.drop_zero] at hdr; have hn : num ds = dg ds 0 * 10 ^ (ds.length - 1) + num (ds.drop 1) := by
  conv => lhs; rw [hdr]
  rw [num_cons]
  congr 3
  simp
 have hr : num (ds.drop 1) < 10 ^ (ds.length - 1) := by
  have := num_lt (l := ds.drop 1) fun x hx => hd.small x (List.mem_of_mem_drop hx)
  simpa using this
 obtain ⟨U, hU⟩ : ∃ U, U = 10 ^ (ds.length - 1) := ⟨_, rfl⟩; have hT : 10 ^ ds.length = U * 10 := by rw [hU, ← Nat.pow_succ]; congr 1; omega
 rw [← hU] at hn hr; rw [hT] at e; have hUp : 0 < U := by rw [hU]; exact pow10_pos _
 constructor
 ·
  intro h5; have h6 : 5 * U ≤ dg ds 0 * U := Nat.mul_le_mul_right _ h5; have h7 : U * 10 * M ≤ 2 * num ds * M := Nat.mul_le_mul_right _ (by omega); rw [Nat.mul_assoc 2, e] at h7; have h8 : M * (U * 10) ≤ 2 * N * (U * 10) := by rw [Nat.mul_comm M, Nat.mul_assoc 2]; exact h7
  exact Nat.le_of_mul_le_mul_right h8 (by omega)
 ·
  intro h5; have h6 : dg ds 0 * U ≤ 4 * U := Nat.mul_le_mul_right _ (by omega); have h7 : 2 * num ds * M < U * 10 * M := Nat.mul_lt_mul_of_pos_right (by omega) hM; rw [Nat.mul_assoc 2, e] at h7; have h8 : 2 * N * (U * 10) < M * (U * 10) := by rw [Nat.mul_comm M, Nat.mul_assoc 2]; exact h7
  exact Nat.lt_of_mul_lt_mul_right h8
end
section
theorem rne_scale (N M t : Nat) (ht : 0 < t) : rne (N * t) (M * t) = rne N M := by
 unfold rne; rw [Nat.mul_div_mul_right _ _ ht, Nat.mul_mod_mul_right]; have e1 : (2 * (N % M * t) < M * t) ↔ 2 * (N % M) < M := by
  rw [← Nat.mul_assoc]; exact Nat.mul_lt_mul_right ht
 have e2 : (M * t < 2 * (N % M * t)) ↔ M < 2 * (N % M) := by
  rw [← Nat.mul_assoc]; exact Nat.mul_lt_mul_right ht
 simp only [e1, e2]
theorem pow2_pos (n : Nat) : 0 < 2 ^ n := Nat.pow_pos (by omega)
theorem rne_pow (N M : Nat) {x y x' y' : Nat} (h : (x : Int) - y = (x' : Int) - y') : rne (N * 2 ^ x) (M * 2 ^ y) = rne (N * 2 ^ x') (M * 2 ^ y') := by
 rcases Nat.le_total x x' with hl | hl
 · obtain ⟨t, rfl⟩ := Nat.exists_eq_add_of_le hl
   have : y' = y + t := by omega
   subst this; rw [Nat.pow_add, Nat.pow_add, ← Nat.mul_assoc, ← Nat.mul_assoc, rne_scale _ _ _ (pow2_pos t)]
 · obtain ⟨t, rfl⟩ := Nat.exists_eq_add_of_le hl
   have : y = y' + t := by omega
   subst this; rw [Nat.pow_add, Nat.pow_add, ← Nat.mul_assoc, ← Nat.mul_assoc, rne_scale _ _ _ (pow2_pos t)]
theorem lt_pow {N M : Nat} {x y x' y' : Nat} (h : (x : Int) - y = (x' : Int) - y') (hl : N * 2 ^ x < M * 2 ^ y) : N * 2 ^ x' < M * 2 ^ y' := by
 rcases Nat.le_total x x' with hle | hle
 ·
  obtain ⟨t, rfl⟩ := Nat.exists_eq_add_of_le hle; have : y' = y + t := by omega
  subst this; rw [Nat.pow_add, Nat.pow_add, ← Nat.mul_assoc, ← Nat.mul_assoc]; exact Nat.mul_lt_mul_of_pos_right hl (pow2_pos t)
 ·
  obtain ⟨t, rfl⟩ := Nat.exists_eq_add_of_le hle; have : y = y' + t := by omega
  subst this; rw [Nat.pow_add, Nat.pow_add, ← Nat.mul_assoc, ← Nat.mul_assoc] at hl; exact Nat.lt_of_mul_lt_mul_right hl
theorem le_pow {N M : Nat} {x y x' y' : Nat} (h : (x : Int) - y = (x' : Int) - y') (hl : M * 2 ^ y ≤ N * 2 ^ x) : M * 2 ^ y' ≤ N * 2 ^ x' := by
 rcases Nat.lt_or_ge (N * 2 ^ x') (M * 2 ^ y') with g | g
 · have := lt_pow h.symm g
   omega
 · exact g
theorem pow_between {N M : Nat} {x y x' y' : Nat} (h1 : M * 2 ^ y ≤ N * 2 ^ x) (h2 : N * 2 ^ x' < M * 2 ^ y') : (y : Int) - x < (y' : Int) - x' := by
 by_cases g : (y : Int) - x < (y' : Int) - x'
 · exact g
 ·
  exfalso
  obtain ⟨t, ht⟩ : ∃ t : Nat, (y : Int) - x = (y' : Int) - x' + t := ⟨((y : Int) - x - ((y' : Int) - x')).toNat, by omega⟩; have h3 : N * 2 ^ x' < M * 2 ^ (y' + t) := by
   refine Nat.lt_of_lt_of_le h2 (Nat.mul_le_mul_left _ (Nat.pow_le_pow_right (by omega) (by omega)))
  have h4 := lt_pow (x' := x) (y' := y) (by omega) h3; omega
end
section
open Go.RowKit
theorem binade {N M a c x y : Nat} {E : Int} (h1 : N * 2 ^ a < M * 2 ^ c) (h2 : M * 2 ^ c ≤ 2 * (N * 2 ^ a)) (hxy : (x : Int) - y = 52 - E) (hup : N * 2 ^ x < M * 2 ^ (y + 53))
  (hdn : E = -1022 ∨ M * 2 ^ (y + 52) ≤ N * 2 ^ x) : (c : Int) - a - 1 ≤ E ∧ (E = -1022 ∨ E ≤ (c : Int) - a - 1) := by
 constructor
 · have h3 : M * 2 ^ c ≤ N * 2 ^ (a + 1) := by rw [Nat.pow_succ, ← Nat.mul_assoc]; omega
   have := pow_between h3 hup; omega
 ·
  rcases hdn with h | h
  · exact Or.inl h
  · have := pow_between h h1
    right
    omega
theorem rne_le {N M T : Nat} (hM : 0 < M) (h : N < M * T) : rne N M ≤ T := by
 have h1 : N / M < T := Nat.div_lt_of_lt_mul h; unfold rne
 split
 · omega
 · split
   · omega
   · omega
theorem rne_ge {N M T : Nat} (hM : 0 < M) (h : M * T ≤ N) : T ≤ rne N M := by
 have h1 : T ≤ N / M := (Nat.le_div_iff_mul_le hM).2 (by rw [Nat.mul_comm]; exact h); unfold rne
 split
 · omega
 · split <;> omega
theorem fin_range {ds : List Nat} {dp : Int} {N M : Nat} (h : Is ds dp N M) (hd : Dig ds) (hne : ds ≠ []) (hM : 0 < M) (h1 : M ≤ 2 * N) (h2 : N < M * 2 ^ 53) : 0 ≤ dp ∧ dp ≤ 16 := by
 constructor
 ·
  by_cases hh : 0 ≤ dp
  · exact hh
  · exfalso
    have := h.ub hd hM (j := 0) (j' := 1) (by omega); omega
 ·
  by_cases hh : dp ≤ 16
  · exact hh
  · exfalso
    have := h.lb hd hne (j := 16) (j' := 0) (by omega); have h3 : M * 2 ^ 53 ≤ M * 10 ^ 16 := Nat.mul_le_mul_left _ (by decide +kernel); omega
theorem whole_st (w : World) (B b L N M : Nat) (h : Dst w B b L N M) (hM : 0 < M) (hL : L ≤ 1000000) (h1 : M ≤ 2 * N) (h2 : N < M * 2 ^ 53) (r : Nat) (hr : r = rne N M) :
  Calls Tryz.prog 179 #[.pointer (some ⟨b, 0, none⟩)] w fun e w' => e = .returned (.int .u64 (r : Int)) ∧ w' = w := by
 obtain ⟨g, cap, ds, dp, q1, q2, q3, q4, q5, q6, q7, q8⟩ := h; obtain ⟨k1, k2⟩ := fin_range q5 q2 q3 hM h1 h2; obtain ⟨n, hn⟩ : ∃ n : Nat, dp = (n : Int) := ⟨dp.toNat, by omega⟩; rw [hn] at q5; exact whole_is w B b g cap n ds dp hn q1 q2 (by omega) (by omega) r (by rw [hr]; exact whole_law q5 q2 q4 q3 hM)
theorem fin_facts {N M a c x y : Nat} {E : Int} (hc : (c : Int) - a = E + 1) (hxy : (x : Int) - y = 52 - E) (hup : N * 2 ^ x < M * 2 ^ (y + 53)) (hnz : M * 2 ^ y ≤ N * 2 ^ (x + 1)) :
  M * 2 ^ c ≤ 2 * (N * 2 ^ a * 2 ^ 53) ∧ N * 2 ^ a * 2 ^ 53 < M * 2 ^ c * 2 ^ 53 ∧ rne (N * 2 ^ a * 2 ^ 53) (M * 2 ^ c) = rne (N * 2 ^ x) (M * 2 ^ y) := by
 rw [Nat.mul_assoc N, ← Nat.pow_add, Nat.mul_assoc M, ← Nat.pow_add]; refine ⟨?_, lt_pow (x := x) (y := y + 53) (by push_cast; omega) hup, rne_pow N M (by push_cast; omega)⟩; have h := le_pow (x := x + 1) (y := y) (x' := a + 53 + 1) (y' := c) (by push_cast; omega) hnz; rw [Nat.pow_succ, ← Nat.mul_assoc] at h; omega
end
end Go.Proofs.YtljaoopfomcaoaaGreatDoor
