import Derived.Test.YtljaoopfomcaoaaGreatDoorM04
set_option linter.all false
open Go.Lib (hid)
namespace Go.Proofs.YtljaoopfomcaoaaGreatDoor
section
open Go.RowKit
structure TLi (n : Nat) (w : World) (nb bx k : Nat) (v : JV) (kp : Option Addr) (kc : Nat) (lp : Option Addr) (lc : Nat) (i k' a : Nat) (wr : World) : Prop where
 cnt : CntAt wr nb (k' : Int)
 kp' : Kp [nb] w wr
 rem : RightL (RightC n) (v.l.take i) a
 tot : k = k' + (1 + a)
 cou : i ≤ a
 box : BxAt wr bx v kp kc lp lc
theorem rightC_pos {n c : Nat} {v : JV} (h : RightC n v c) : 1 ≤ c := by
 cases n with
 | zero => exact h.elim
 | succ n =>
  obtain ⟨_, _, h⟩ := h; rcases h with ⟨_, h⟩ | ⟨_, _, h⟩ | ⟨_, m, h, _⟩ <;> omega
theorem rightL_snoc {T : JV → Nat → Prop} {x : JV} {b : Nat} (hx : T x b) : ∀ {l : List JV} {a : Nat}, RightL T l a → RightL T (l ++ [x]) (a + b)
 | [], a, h => ⟨b, 0, hx, rfl, by have h : a = 0 := h; omega⟩
 | y :: r, a, ⟨p, q, h1, h2, e⟩ => ⟨p, q + b, h1, rightL_snoc hx h2, by omega⟩
theorem TLi.next {n : Nat} {w : World} {nb bx k : Nat} {v : JV} {kp : Option Addr} {kc : Nat} {lp : Option Addr} {lc i k' a c k'' : Nat} {wr w3 w4 : World}
  (h : TLi n w nb bx k v kp kc lp lc i k' a wr) (hi : i < v.l.length) (hnb : nb < w.heap.size) (hbx : w.heap.size ≤ bx) (k3 : Kp [] wr w3) (k4 : Kp [nb] w3 w4) (hc : CntAt w4 nb (k'' : Int)) (hR : RightC n v.l[i] c) (he : k' = k'' + c) :
  TLi n w nb bx k v kp kc lp lc (i + 1) k'' (a + c) w4 := by
 have h1 := rightC_pos hR; have hb := h.box.lt; have s3 := k3.size; refine ⟨hc, (h.kp'.trans (k3.mono (fun _ _ h => by simp at h))).trans k4, ?_, by have := h.tot; omega, by have := h.cou; omega, ?_⟩
 · rw [← List.take_append_getElem hi]
   exact rightL_snoc hR h.rem
 · refine (h.box.keep k3 (by simp)).keep k4 ?_
   simp; omega
set_option maxRecDepth 100000 in
set_option maxHeartbeats 2000000 in
theorem tb_list (n : Nat) (IH : TbDoes n) (d m : Nat) (w0 w : World) (nb k : Nat) (v : JV) (kp lp : Option Addr) (kc lc : Nat) (y : Int) (hy : y = (n : Int) + 1) (hd : Deep (d + 1) w0 v kp lp) (hF : Fits (m + 1) v) (hk0 : Kp [] w0 w) (hnb : w0.heap.size ≤ nb) (hc : CntAt w nb k) (hk : k ≤ 1000) (hn : n + 1 ≤ 100) (h1 : 0 < k) (hks : v.ks = []) (h : v.kind = 6) :
  Calls Tryz.prog 17 #[valOf v kp kc lp lc, .int .i64 y, .pointer (some ⟨nb, 0, none⟩)] w (TbPost (n + 1) w nb k v) := by
 have HKs0 := hid hks; have HKd := hid h; clear hks h; have HYn := hid hy; have hy1 : 1 ≤ y := by omega
 have hy2 : y ≤ 100 := by omega
 have k1 : decide ((k : Int) - 1 < 0) = false := by rw [decide_eq_false_iff_not]; omega
 have k2 : decide (y < 1) = false := by rw [decide_eq_false_iff_not]; omega
 obtain ⟨hks0, hdl⟩ := hd; obtain ⟨⟨_, _, _, _, hkslen, hllen, _⟩, hft⟩ := hF; have HDl := hid hdl; have HKs := hid hks0; have HFt := hid hft; have HIH := hid IH; have HK0 := hid hk0; clear hks0 hdl hft IH hk0 hy; have HIn := hid (tb_in w nb k ((k : Int) - 1) v kp kc lp lc hc); have hlt := hc.lt; have hc1 : CntAt (w.alloc (.cells #[.int .i64 v.kind, .bool v.b, .int .i64 v.i, .float .f64 v.f, .string v.t, .slice kp v.ks.length kc, .slice lp v.l.length lc] 26)) nb k := hc.kp (S := []) ((Kp.refl _ _).alloc _) (by simp); have c0 := hc1.c0; have f0 := hc1.fr; clear hc1 hc; unfold valOf; go_enter Tryz.func17, Tryz.ntmps17
 go_upto_region 2 with fail
 generalize hW : World.alloc (World.setCell _ _ _) _ = w1 at *; clear c0 f0 hW; have c0 := HIn.out.cnt.c0; have b0 := HIn.out.box.c0; have b3 := HIn.out.box.c3; have b5 := HIn.out.box.c5; have b6 := HIn.out.box.c6; rw [HKs0.out] at b5; rw [HKd.out] at b0; have hst : TLi n w nb w.heap.size k v kp kc lp lc 0 (k - 1) 0 w1 := ⟨by rw [show ((k - 1 : Nat) : Int) = (k : Int) - 1 by omega]; exact HIn.out.cnt, HIn.out.kp', by simp [RightL], by omega, Nat.zero_le _, HIn.out.box⟩; have HSt := hid hst; clear hst; go_wp2_with fail
 go_loopw [9, 93] (fun _ s93 wx => ∃ (i k' a : Nat), s93 = .int .i64 (i : Int) ∧ i ≤ v.l.length ∧ TLi n w nb w.heap.size k v kp kc lp lc i k' a wx) (fun _ s93 _ => v.l.length - (intOf s93).toNat)
 case atStart => exact ⟨0, k - 1, 0, rfl, Nat.zero_le _, HSt.out⟩
 case round =>
  obtain ⟨i, k', a, rfl, hi, hI⟩ := hrel; have HI := hid hI; have htot1 : k ≤ k' + (1 + a) := Nat.le_of_eq hI.tot; have htot2 : k' + (1 + a) ≤ k := Nat.le_of_eq hI.tot.symm; have hcou := hI.cou; clear hI HSt c0 b0 b3 b5 b6; by_cases hil : i < v.l.length
  ·
   have q1 : decide ((i : Int) < (v.l.length : Int)) = true := by rw [decide_eq_true_eq]; omega
   rcases HDl.out with h0 | ⟨g, o, hlp, hcs⟩
   · rw [h0] at hil; simp at hil
   obtain ⟨kp', kc', lp', lc', ⟨a0, a1, a2, a3, a4, a5, a6⟩, hdeep⟩ := hcs i hil; have hkw : Kp [] w0 wr := HK0.out.over HI.out.kp' (by simp; exact hnb); have d0 := cell_kp a0 hkw; have d1 := cell_kp a1 hkw; have d2 := cell_kp a2 hkw; have d3 := cell_kp a3 hkw; have d4 := cell_kp a4 hkw; have d5 := cell_kp a5 hkw; have d6 := cell_kp a6 hkw; have HDeep := hid hdeep; have HKw := hid hkw; clear a0 a1 a2 a3 a4 a5 a6 hcs hdeep hkw; subst hlp; obtain ⟨x, hx⟩ : ∃ x, x = v.l[i] := ⟨_, rfl⟩; have HX := hid hx; rw [← hx] at d0 d1 d2 d3 d4 d5 d6 HDeep; clear hx
   go_upto_region 25 with (refine wpList_store_row rfl 26 _ _ rfl wr.heap.size #[.int .i64 x.kind, .bool x.b, .int .i64 x.i, .float .f64 x.f, .string x.t, .slice kp' x.ks.length kc', .slice lp' x.l.length lc'] ?_ ?_ 26 #[.int .i64 0, .bool false, .int .i64 0, .float .f64 0, .string ⟨#[]⟩, .slice none 0 0, .slice none 0 0] ?_ ?_ ?_ ?_ ?_; go_must (rfl); go_must (rfl); go_must (exact heap_alloc_new _ _); go_must (kernel_rfl); go_must (rfl); go_must (simp [Value.oneCell']))
   have hcopy := copy_kp' wr #[.int .i64 x.kind, .bool x.b, .int .i64 x.i, .float .f64 x.f, .string x.t, .slice kp' x.ks.length kc', .slice lp' x.l.length lc'] #[.int .i64 0, .bool false, .int .i64 0, .float .f64 0, .string ⟨#[]⟩, .slice none 0 0, .slice none 0 0]; have hbx2 : BxAt ((wr.alloc (.cells #[.int .i64 0, .bool false, .int .i64 0, .float .f64 0, .string ⟨#[]⟩, .slice none 0 0, .slice none 0 0] 26)).setRow wr.heap.size #[.int .i64 x.kind, .bool x.b, .int .i64 x.i, .float .f64 x.f, .string x.t, .slice kp' x.ks.length kc', .slice lp' x.l.length lc']) wr.heap.size x kp' kc' lp' lc' := setRow_heap _ _ _ _ 26 _ (heap_alloc_new _ _); generalize hW : World.setRow _ _ _ = w3 at *; have HCp := hid hcopy; have e0 := hbx2.c0; have e1 := hbx2.c1; have e2 := hbx2.c2; have e3 := hbx2.c3; have e4 := hbx2.c4; have e5 := hbx2.c5; have e6 := hbx2.c6
   have hc := HIH.out d m w0 w3 nb k' x kp' lp' kc' lc' (y - 1) (by have := HYn.out; omega) HDeep.out (by rw [HX.out]; exact HFt.out _ (List.getElem_mem hil)) (HKw.out.trans hcopy) hnb (HI.out.cnt.kp hcopy (by simp)) (by omega) (by omega); have HC := hid hc; clear d0 d1 d2 d3 d4 d5 d6 hW hcopy hbx2 hc; go_wp2_with fail
   refine HC.out.mono ?_
   rintro e7 w4 ⟨b, z, rfl, hc4, hk4, hb⟩
   have HC4 := hid hc4; have HK4 := hid hk4; have HB := hid hb; have hkw4 : Kp [nb] w w4 := (HI.out.kp'.trans (HCp.out.mono (fun _ _ h => by simp at h))).trans hk4; have HKw4 := hid hkw4; clear e0 e1 e2 e3 e4 e5 e6 hc4 hk4 HC hkw4 hb
   cases b with
   | false =>
    go_wp2_with fail
    go_ret; exact TbPost.no HC4.out HKw4.out
   | true =>
    obtain ⟨c, k'', hR, he, hz⟩ := HB.out rfl; have HR := hid hR; have HZ := hid hz; have HE := hid he; clear hR hz he; have hil63 : (i : Int) + 1 ≤ 3000 := by omega
    go_wp2_with fail
    go_roundw
    case measure => simp [intOf]; omega
    case rel => exact ⟨i + 1, k'', a + c, by push_cast; rfl, by omega, HI.out.next hil hlt (Nat.le_refl _) HCp.out HK4.out (by have h := HC4.out; rw [HZ.out] at h; exact h) (by rw [← HX.out]; exact HR.out) HE.out⟩
  ·
   obtain rfl : i = v.l.length := by omega
   have q1 : decide ((v.l.length : Int) < (v.l.length : Int)) = false := by simp
   have b6 := HI.out.box.c6; go_wp2_with fail
   go_ret; refine TbPost.yes (c := 1 + a) HI.out.cnt HI.out.kp' ?_ HI.out.tot; have hrem := HI.out.rem; rw [List.take_length] at hrem; exact ⟨fun h => by have := HKd.out; omega, fun _ => HKs0.out, Or.inr (Or.inr ⟨Or.inl HKd.out, a, rfl, hrem⟩)⟩
def RiseTo (ks : List ByteArray) (i : Nat) : Prop := ∀ j, 1 ≤ j → (h : j < ks.length) → j < i → kb (ks[j - 1]'(by omega)) ks[j] = true
theorem rise_of {ks : List ByteArray} (h : RiseTo ks ks.length) : Rise ks := by
 unfold Rise; rw [List.pairwise_iff_getElem]; intro i j hi hj hij; have : ∀ m, ∀ hm : i + 1 + m < ks.length, kb ks[i] ks[i + 1 + m] = true := by
  intro m
  induction m with
  | zero => intro hm; exact h (i + 1) (by omega) hm hm
  | succ m ih =>
   intro hm; have a1 := ih (by omega); have a2 := h (i + 1 + m + 1) (by omega) hm hm; exact kb_trans a1 a2
 have e := this (j - (i + 1)) (by omega); have e2 : i + 1 + (j - (i + 1)) = j := by omega
 simp only [e2] at e; exact e
structure TKi (w : World) (nb bx k : Nat) (v : JV) (kp : Option Addr) (kc : Nat) (lp : Option Addr) (lc : Nat) (i : Nat) (wr : World) : Prop where
 inn : AnyIn w wr nb bx ((k : Int) - 1) v kp kc lp lc
 rise : RiseTo v.ks i
theorem AnyIn.drewN {w w1 : World} {nb bx : Nat} {k : Int} {v : JV} {kp : Option Addr} {kc : Nat} {lp : Option Addr} {lc : Nat} (h : AnyIn w w1 nb bx k v kp kc lp lc) (q : Nat) : AnyIn w (w1.drewN q) nb bx k v kp kc lp lc :=
 ⟨h.cnt.kp (S := []) ((Kp.refl _ _).drewN _) (by simp), h.box.keep (S := []) ((Kp.refl _ _).drewN _) (by simp), h.kp'.drewN q, h.bx', h.nbw⟩
theorem TKi.next {w wr : World} {nb bx k : Nat} {v : JV} {kp : Option Addr} {kc : Nat} {lp : Option Addr} {lc i : Nat} {q : Nat} (h : TKi w nb bx k v kp kc lp lc (i + 1) wr) (hi : i + 1 < v.ks.length) (hb : kb v.ks[i] v.ks[i + 1] = true) :
  TKi w nb bx k v kp kc lp lc (i + 1 + 1) (wr.drewN q) := by
 refine ⟨h.inn.drewN q, fun j h1 h2 h3 => ?_⟩; rcases Nat.lt_or_ge j (i + 1) with hj | hj
 · exact h.rise j h1 h2 hj
 · obtain rfl : j = i + 1 := by omega
   exact hb
set_option maxRecDepth 100000 in
set_option maxHeartbeats 2000000 in
theorem tb_map (n : Nat) (IH : TbDoes n) (d m : Nat) (w0 w : World) (nb k : Nat) (v : JV) (kp lp : Option Addr) (kc lc : Nat) (y : Int) (hy : y = (n : Int) + 1) (hd : Deep (d + 1) w0 v kp lp) (hF : Fits (m + 1) v) (hk0 : Kp [] w0 w) (hnb : w0.heap.size ≤ nb) (hc : CntAt w nb k) (hk : k ≤ 1000) (hn : n + 1 ≤ 100) (h1 : 0 < k) (h : v.kind = 7) :
  Calls Tryz.prog 17 #[valOf v kp kc lp lc, .int .i64 y, .pointer (some ⟨nb, 0, none⟩)] w (TbPost (n + 1) w nb k v) := by
 have HKd := hid h; clear h; have HYn := hid hy; have hy1 : 1 ≤ y := by omega
 have hy2 : y ≤ 100 := by omega
 have k1 : decide ((k : Int) - 1 < 0) = false := by rw [decide_eq_false_iff_not]; omega
 have k2 : decide (y < 1) = false := by rw [decide_eq_false_iff_not]; omega
 obtain ⟨hks0, hdl⟩ := hd; obtain ⟨⟨_, _, _, _, hkslen, hllen, _⟩, hft⟩ := hF; have HDl := hid hdl; have HKs := hid hks0; have HFt := hid hft; have HIH := hid IH; have HK0 := hid hk0; clear hks0 hdl hft IH hk0 hy; have HIn := hid (tb_in w nb k ((k : Int) - 1) v kp kc lp lc hc); have hlt := hc.lt; have hc1 : CntAt (w.alloc (.cells #[.int .i64 v.kind, .bool v.b, .int .i64 v.i, .float .f64 v.f, .string v.t, .slice kp v.ks.length kc, .slice lp v.l.length lc] 26)) nb k := hc.kp (S := []) ((Kp.refl _ _).alloc _) (by simp); have c0 := hc1.c0; have f0 := hc1.fr; clear hc1 hc; unfold valOf; go_enter Tryz.func17, Tryz.ntmps17
 go_upto_region 2 with fail
 generalize hW : World.alloc (World.setCell _ _ _) _ = w1 at *; clear c0 f0 hW; have c0 := HIn.out.cnt.c0; have b0 := HIn.out.box.c0; have b3 := HIn.out.box.c3; have b5 := HIn.out.box.c5; have b6 := HIn.out.box.c6; rw [HKd.out] at b0; have hst0 : TKi w nb w.heap.size k v kp kc lp lc 1 w1 := ⟨HIn.out, fun j h1 _ h3 => by omega⟩; have HSt0 := hid hst0; clear hst0; go_wp2_with fail
 go_loopw [7] (fun s7 wx => ∃ i : Nat, s7 = .int .i64 (i : Int) ∧ 1 ≤ i ∧ (i ≤ v.ks.length ∨ i = 1) ∧ TKi w nb w.heap.size k v kp kc lp lc i wx) (fun s7 _ => v.ks.length - (intOf s7).toNat)
 case atStart => exact ⟨1, rfl, Nat.le_refl _, Or.inr rfl, HSt0.out⟩
 case round =>
  obtain ⟨i, rfl, hi1, hi, hI⟩ := hrel; obtain ⟨i, rfl⟩ : ∃ i', i = i' + 1 := ⟨i - 1, by omega⟩; have HI := hid hI; clear hI HSt0 c0 b0 b3 b5 b6; have b5 := HI.out.inn.box.c5; by_cases hil : i + 1 < v.ks.length
  ·
   have q1 : decide (((i + 1 : Nat) : Int) < (v.ks.length : Int)) = true := by rw [decide_eq_true_eq]; omega
   rcases HKs.out with h0 | ⟨g, o, hkp, hcs⟩
   · rw [h0] at hil; simp at hil
   have hkw : Kp [] w0 wr := HK0.out.over HI.out.inn.kp' (by simp; exact hnb); have d0 := cell_kp (hcs i (by omega)) hkw; have d1 := cell_kp (hcs (i + 1) hil) hkw; obtain ⟨x0, hx0⟩ : ∃ x, x = v.ks[i] := ⟨_, rfl⟩; obtain ⟨x1, hx1⟩ : ∃ x, x = v.ks[i + 1] := ⟨_, rfl⟩; rw [← hx0] at d0; rw [← hx1] at d1; have HX0 := hid hx0; have HX1 := hid hx1; have hb1 : (i : Int) < (v.ks.length : Int) := by omega
   have hb2 : (i : Int) + 1 < (v.ks.length : Int) := by omega
   subst hkp; clear hcs hkw hx0 hx1; by_cases hkb : kb x0 x1 = true
   ·
    have q3 : (!Op.bytesLess x0.toList x1.toList) = false := by rw [less_kb, hkb]; rfl
    have HKb := hid hkb; clear hkb; go_wp2_with fail
    go_quiet (fail)
    go_wp2_with fail
    go_roundw
    case measure => simp [intOf]; omega
    case rel => exact ⟨i + 1 + 1, by push_cast; rfl, by omega, Or.inl (by omega), HI.out.next hil (by rw [← HX0.out, ← HX1.out]; exact HKb.out)⟩
   ·
    have q3 : (!Op.bytesLess x0.toList x1.toList) = true := by rw [less_kb]; simpa using hkb
    clear hkb; go_wp2_with fail
    go_quiet (fail)
    go_wp2_with fail
    go_ret; exact TbPost.no (HI.out.inn.cnt.kp ((Kp.refl [] _).drewN _) (by simp)) (HI.out.inn.kp'.drewN _)
  ·
   have q1 : decide (((i + 1 : Nat) : Int) < (v.ks.length : Int)) = false := by rw [decide_eq_false_iff_not]; omega
   have HRt := hid (show RiseTo v.ks v.ks.length from fun j h1 h2 h3 => HI.out.rise j h1 h2 (by omega)); have HInn := hid HI.out.inn; have b6 := HI.out.inn.box.c6; have b0 := HI.out.inn.box.c0; rw [HKd.out] at b0; clear hi HI hil; generalize ((i + 1 : Nat) : Int) = z7 at *; by_cases hlen : v.ks.length = v.l.length
   ·
    have q2 : ((v.ks.length : Int) != (v.l.length : Int)) = false := by rw [hlen]; simp
    have HLen := hid hlen; have HIn2 := hid HInn.out; have HRs := hid (rise_of HRt.out); clear hlen; have hst : TLi n w nb w.heap.size k v kp kc lp lc 0 (k - 1) 0 wr := ⟨by rw [show ((k - 1 : Nat) : Int) = (k : Int) - 1 by omega]; exact HIn2.out.cnt, HIn2.out.kp', by simp [RightL], by omega, Nat.zero_le _, HIn2.out.box⟩; have HSt := hid hst; clear hst; go_wp2_with fail
    go_loopw [9, 93] (fun _ s93 wx => ∃ (i k' a : Nat), s93 = .int .i64 (i : Int) ∧ i ≤ v.l.length ∧ TLi n w nb w.heap.size k v kp kc lp lc i k' a wx) (fun _ s93 _ => v.l.length - (intOf s93).toNat)
    case atStart => exact ⟨0, k - 1, 0, rfl, Nat.zero_le _, HSt.out⟩
    case round =>
     obtain ⟨i, k', a, rfl, hi, hI⟩ := hrel; have HI := hid hI; have htot1 : k ≤ k' + (1 + a) := Nat.le_of_eq hI.tot; have htot2 : k' + (1 + a) ≤ k := Nat.le_of_eq hI.tot.symm; have hcou := hI.cou; clear hI HSt b0 b5 b6; by_cases hil : i < v.l.length
     ·
      have q1 : decide ((i : Int) < (v.l.length : Int)) = true := by rw [decide_eq_true_eq]; omega
      rcases HDl.out with h0 | ⟨g, o, hlp, hcs⟩
      · rw [h0] at hil; simp at hil
      obtain ⟨kp', kc', lp', lc', ⟨a0, a1, a2, a3, a4, a5, a6⟩, hdeep⟩ := hcs i hil; have hkw : Kp [] w0 wr := HK0.out.over HI.out.kp' (by simp; exact hnb); have d0 := cell_kp a0 hkw; have d1 := cell_kp a1 hkw; have d2 := cell_kp a2 hkw; have d3 := cell_kp a3 hkw; have d4 := cell_kp a4 hkw; have d5 := cell_kp a5 hkw; have d6 := cell_kp a6 hkw; have HDeep := hid hdeep; have HKw := hid hkw; clear a0 a1 a2 a3 a4 a5 a6 hcs hdeep hkw; subst hlp; obtain ⟨x, hx⟩ : ∃ x, x = v.l[i] := ⟨_, rfl⟩; have HX := hid hx; rw [← hx] at d0 d1 d2 d3 d4 d5 d6 HDeep; clear hx
      go_upto_region 25 with (refine wpList_store_row rfl 26 _ _ rfl wr.heap.size #[.int .i64 x.kind, .bool x.b, .int .i64 x.i, .float .f64 x.f, .string x.t, .slice kp' x.ks.length kc', .slice lp' x.l.length lc'] ?_ ?_ 26 #[.int .i64 0, .bool false, .int .i64 0, .float .f64 0, .string ⟨#[]⟩, .slice none 0 0, .slice none 0 0] ?_ ?_ ?_ ?_ ?_; go_must (rfl); go_must (rfl); go_must (exact heap_alloc_new _ _); go_must (kernel_rfl); go_must (rfl); go_must (simp [Value.oneCell']))
      have hcopy := copy_kp' wr #[.int .i64 x.kind, .bool x.b, .int .i64 x.i, .float .f64 x.f, .string x.t, .slice kp' x.ks.length kc', .slice lp' x.l.length lc'] #[.int .i64 0, .bool false, .int .i64 0, .float .f64 0, .string ⟨#[]⟩, .slice none 0 0, .slice none 0 0]; have hbx2 : BxAt ((wr.alloc (.cells #[.int .i64 0, .bool false, .int .i64 0, .float .f64 0, .string ⟨#[]⟩, .slice none 0 0, .slice none 0 0] 26)).setRow wr.heap.size #[.int .i64 x.kind, .bool x.b, .int .i64 x.i, .float .f64 x.f, .string x.t, .slice kp' x.ks.length kc', .slice lp' x.l.length lc']) wr.heap.size x kp' kc' lp' lc' := setRow_heap _ _ _ _ 26 _ (heap_alloc_new _ _); generalize hW : World.setRow _ _ _ = w3 at *; have HCp := hid hcopy; have e0 := hbx2.c0; have e1 := hbx2.c1; have e2 := hbx2.c2; have e3 := hbx2.c3; have e4 := hbx2.c4; have e5 := hbx2.c5; have e6 := hbx2.c6
      have hc := HIH.out d m w0 w3 nb k' x kp' lp' kc' lc' (y - 1) (by have := HYn.out; omega) HDeep.out (by rw [HX.out]; exact HFt.out _ (List.getElem_mem hil)) (HKw.out.trans hcopy) hnb (HI.out.cnt.kp hcopy (by simp)) (by omega) (by omega); have HC := hid hc; clear d0 d1 d2 d3 d4 d5 d6 hW hcopy hbx2 hc; go_wp2_with fail
      refine HC.out.mono ?_
      rintro e7 w4 ⟨b, z, rfl, hc4, hk4, hb⟩
      have HC4 := hid hc4; have HK4 := hid hk4; have HB := hid hb; have hkw4 : Kp [nb] w w4 := (HI.out.kp'.trans (HCp.out.mono (fun _ _ h => by simp at h))).trans hk4; have HKw4 := hid hkw4; clear e0 e1 e2 e3 e4 e5 e6 hc4 hk4 HC hkw4 hb
      cases b with
      | false =>
       go_wp2_with fail
       go_ret; exact TbPost.no HC4.out HKw4.out
      | true =>
       obtain ⟨c, k'', hR, he, hz⟩ := HB.out rfl; have HR := hid hR; have HZ := hid hz; have HE := hid he; clear hR hz he; have hil63 : (i : Int) + 1 ≤ 3000 := by omega
       go_wp2_with fail
       go_roundw
       case measure => simp [intOf]; omega
       case rel => exact ⟨i + 1, k'', a + c, by push_cast; rfl, by omega, HI.out.next hil hlt (Nat.le_refl _) HCp.out HK4.out (by have h := HC4.out; rw [HZ.out] at h; exact h) (by rw [← HX.out]; exact HR.out) HE.out⟩
     ·
      obtain rfl : i = v.l.length := by omega
      have q1 : decide ((v.l.length : Int) < (v.l.length : Int)) = false := by simp
      have b6 := HI.out.box.c6; go_wp2_with fail
      go_ret; refine TbPost.yes (c := 1 + a) HI.out.cnt HI.out.kp' ?_ HI.out.tot; have hrem := HI.out.rem; rw [List.take_length] at hrem; exact ⟨fun h => by have := HKd.out; omega, fun h => absurd HKd.out h, Or.inr (Or.inr ⟨Or.inr ⟨HKd.out, HRs.out, HLen.out⟩, a, rfl, hrem⟩)⟩
   · have q2 : ((v.ks.length : Int) != (v.l.length : Int)) = true := by simp; omega
     go_wp2_with fail
     go_ret; exact TbPost.no HInn.out.cnt HInn.out.kp'
theorem tb_does : ∀ n, TbDoes n
 | 0 => fun d m w0 w nb k v kp lp kc lc y hy hd hF hk0 hnb hc hk hn => tb_none w nb k v kp lp kc lc y 0 hc hk hy hn (Or.inr rfl)
 | n + 1 => by
  intro d m w0 w nb k v kp lp kc lc y hy hd hF hk0 hnb hc hk hn; rcases Nat.eq_zero_or_pos k with h0 | h0
  · exact tb_none w nb k v kp lp kc lc y (n + 1) hc hk hy hn (Or.inl h0)
  by_cases hbad : (v.kind < 6 ∧ v.l ≠ []) ∨ (v.kind ≠ 7 ∧ v.ks ≠ [])
  · exact tb_bad w nb k v kp lp kc lc y (n + 1) hc hk hy hn h0 (by omega) hbad
  have hl : v.kind < 6 → v.l = [] := fun h => by
   rcases Classical.em (v.l = []) with h1 | h1
   · exact h1
   · exact absurd (Or.inl ⟨h, h1⟩) hbad
  have hks : v.kind ≠ 7 → v.ks = [] := fun h => by
   rcases Classical.em (v.ks = []) with h1 | h1
   · exact h1
   · exact absurd (Or.inr ⟨h, h1⟩) hbad
  cases d with
  | zero => exact hd.elim
  | succ d =>
   cases m with
   | zero => exact hF.elim
   | succ m =>
    by_cases h7 : v.kind = 7
    · exact tb_map n (tb_does n) d m w0 w nb k v kp lp kc lc y (by omega) hd hF hk0 hnb hc hk hn h0 h7
    by_cases h6 : v.kind = 6
    · exact tb_list n (tb_does n) d m w0 w nb k v kp lp kc lc y (by omega) hd hF hk0 hnb hc hk hn h0 (hks h7) h6
    by_cases h4 : v.kind = 4
    · exact tb_float w nb k v kp lp kc lc y (n + 1) hc hk hy hn h0 (by omega) hl hks h4
    by_cases hp : v.kind = 0 ∨ v.kind = 1 ∨ v.kind = 2 ∨ v.kind = 5
    · exact tb_plain w nb k v kp lp kc lc y (n + 1) hc hk hy hn h0 (by omega) hl hks hp
    · exact tb_other w nb k v kp lp kc lc y (n + 1) hc hk hy hn h0 (by omega) hl hks (by omega)
def RightPost (w : World) (q : Nat) (v : JV) (e : Ending) (w' : World) : Prop :=
 ∃ b : Bool, e = .returned (.bool b) ∧ Kp [] w w' ∧ (b = true → ∃ c : Nat, RightC 50 v c ∧ c ≤ q)
set_option maxRecDepth 100000 in
set_option maxHeartbeats 1000000 in
theorem right_is (d m q : Nat) (w : World) (v : JV) (kp lp : Option Addr) (kc lc : Nat) (y : Int) (hy : y = (q : Int)) (hq : q ≤ 1000) (hd : Deep d w v kp lp) (hF : Fits m v) :
  Calls Tryz.prog 5 #[valOf v kp kc lp lc, .int .i64 y] w (RightPost w q v) := by
 have hk0 : Kp [] w ((w.alloc (.cells #[.int .i64 v.kind, .bool v.b, .int .i64 v.i, .float .f64 v.f, .string v.t, .slice kp v.ks.length kc, .slice lp v.l.length lc] 26)).alloc (.cells #[.int .i64 y] 3)) := ((Kp.refl _ _).alloc _).alloc _; have hcnt : CntAt ((w.alloc (.cells #[.int .i64 v.kind, .bool v.b, .int .i64 v.i, .float .f64 v.f, .string v.t, .slice kp v.ks.length kc, .slice lp v.l.length lc] 26)).alloc (.cells #[.int .i64 y] 3)) (w.heap.size + 1) ((q : Nat) : Int) := by
  rw [← hy]
  show ((w.heap.push _).push _)[w.heap.size + 1]? = _
  rw [Array.getElem?_push]; simp
 have hc := tb_does 50 d m w _ (w.heap.size + 1) q v kp lp kc lc 50 rfl hd hF hk0 (by omega) hcnt hq (by omega); have HC := hid hc; have HK0 := hid hk0; clear hc hk0 hcnt hy hd hF; unfold valOf; unfold valOf at HC; go_enter Tryz.func5, Tryz.ntmps5
 go_wp2_with fail
 refine HC.out.mono ?_
 rintro e w2 ⟨b, z, rfl, hc2, hk2, hb⟩
 have hpost : RightPost w q v (.returned (.bool b)) w2 := by
  refine ⟨b, rfl, HK0.out.over hk2 (by simp), fun h => ?_⟩; obtain ⟨c, k', hR, he, _⟩ := hb h; exact ⟨c, hR, by omega⟩
 have HPost := hid hpost; clear hc2 hk2 hb hpost HC; go_wp2_with fail
 go_ret; exact HPost.out
end
end Go.Proofs.YtljaoopfomcaoaaGreatDoor
