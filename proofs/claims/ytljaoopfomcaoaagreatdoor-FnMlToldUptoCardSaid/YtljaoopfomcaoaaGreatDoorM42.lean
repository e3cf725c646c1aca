import Derived.Test.YtljaoopfomcaoaaGreatDoorM28
import Derived.Test.YtljaoopfomcaoaaGreatDoorM41
set_option linter.all false
open Go.Lib (hid)
namespace Go.Proofs.YtljaoopfomcaoaaGreatDoor
section
open Go.RowKit
structure SmB (w : World) (ba bb : Nat) (a : JV) (kp : Option Addr) (kc : Nat) (lp : Option Addr) (lc : Nat) (b : JV) (kq : Option Addr) (kd : Nat) (lq : Option Addr) (ld : Nat) (wr : World) : Prop where
 boxa : BxAt wr ba a kp kc lp lc
 boxb : BxAt wr bb b kq kd lq ld
 kp' : Kp [] w wr
theorem SmB.new (w : World) (a : JV) (kp : Option Addr) (kc : Nat) (lp : Option Addr) (lc : Nat) (b : JV) (kq : Option Addr) (kd : Nat) (lq : Option Addr) (ld : Nat) :
  SmB w w.heap.size (w.heap.size + 1) a kp kc lp lc b kq kd lq ld ((w.alloc (.cells #[.int .i64 a.kind, .bool a.b, .int .i64 a.i, .float .f64 a.f, .string a.t, .slice kp a.ks.length kc, .slice lp a.l.length lc] 26)).alloc (.cells #[.int .i64 b.kind, .bool b.b, .int .i64 b.i, .float .f64 b.f, .string b.t, .slice kq b.ks.length kd, .slice lq b.l.length ld] 26)) := by
 refine ⟨(bxAt_fresh w a kp kc lp lc).keep (S := []) ((Kp.refl _ _).alloc _) (by simp), ?_, ((Kp.refl _ _).alloc _).alloc _⟩; have h := bxAt_fresh (w.alloc (.cells #[.int .i64 a.kind, .bool a.b, .int .i64 a.i, .float .f64 a.f, .string a.t, .slice kp a.ks.length kc, .slice lp a.l.length lc] 26)) b kq kd lq ld; have e : (w.alloc (.cells #[.int .i64 a.kind, .bool a.b, .int .i64 a.i, .float .f64 a.f, .string a.t, .slice kp a.ks.length kc, .slice lp a.l.length lc] 26)).heap.size = w.heap.size + 1 := by simp
 rw [e] at h; exact h
theorem SmB.next {w : World} {ba bb : Nat} {a : JV} {kp : Option Addr} {kc : Nat} {lp : Option Addr} {lc : Nat} {b : JV} {kq : Option Addr} {kd : Nat} {lq : Option Addr} {ld : Nat} {wr w' : World} (h : SmB w ba bb a kp kc lp lc b kq kd lq ld wr) (k : Kp [] wr w') :
  SmB w ba bb a kp kc lp lc b kq kd lq ld w' := ⟨h.boxa.keep k (by simp), h.boxb.keep k (by simp), h.kp'.trans k⟩
def SamPost (w : World) (e : Ending) (w' : World) : Prop := e = .returned (.bool true) ∧ Kp [] w w'
def SamDoes (n : Nat) : Prop :=
 ∀ (d d2 m m2 : Nat) (w0 w : World) (a b : JV) (kp lp : Option Addr) (kc lc : Nat) (kq lq : Option Addr) (kd ld : Nat), JSame n a b → Deep d w0 a kp lp → Deep d2 w0 b kq lq → Fits m a → Fits m2 b → Kp [] w0 w →
  Calls Tryz.prog 15 #[valOf a kp kc lp lc, valOf b kq kd lq ld] w (SamPost w)
theorem order_self {f : Nat} (h : FinE f) : FloatKind.f64.format.order f f = some .eq := by
 obtain ⟨s, m, i, e⟩ := fin_read h
 show Ieee.double.order f f = some .eq
 unfold Ieee.Format.order; rw [e]
 cases s <;> simp [Ieee.Datum.order]
set_option maxRecDepth 100000 in
set_option maxHeartbeats 2000000 in
theorem sam_1 (w : World) (a b : JV) (kp lp : Option Addr) (kc lc : Nat) (kq lq : Option Addr) (kd ld : Nat) (hk : a.kind = 1) (hk2 : a.kind = b.kind) (h : a.b = b.b) :
  Calls Tryz.prog 15 #[valOf a kp kc lp lc, valOf b kq kd lq ld] w (SamPost w) := by
 have HKd := hid hk; have HKe := hid (hk2.symm.trans hk); clear hk hk2; have H := hid h; clear h; have HB0 := hid (SmB.new w a kp kc lp lc b kq kd lq ld); unfold valOf; go_enter Tryz.func15, Tryz.ntmps15
 go_upto_region 1 with fail
 generalize hW : World.alloc _ _ = w1 at *; clear hW; have a0 := HB0.out.boxa.c0; have a6 := HB0.out.boxa.c6; have b0 := HB0.out.boxb.c0; have b6 := HB0.out.boxb.c6; rw [HKd.out] at a0; rw [HKe.out] at b0; have a1 := HB0.out.boxa.c1; have b1 := HB0.out.boxb.c1; rw [← H.out] at b1; go_wp2_with fail
 all_goals
  go_ret; exact ⟨rfl, HB0.out.kp'⟩
set_option maxRecDepth 100000 in
set_option maxHeartbeats 2000000 in
theorem sam_2 (w : World) (a b : JV) (kp lp : Option Addr) (kc lc : Nat) (kq lq : Option Addr) (kd ld : Nat) (hk : a.kind = 2) (hk2 : a.kind = b.kind) (h : a.i = b.i) :
  Calls Tryz.prog 15 #[valOf a kp kc lp lc, valOf b kq kd lq ld] w (SamPost w) := by
 have HKd := hid hk; have HKe := hid (hk2.symm.trans hk); clear hk hk2; have H := hid h; clear h; have HB0 := hid (SmB.new w a kp kc lp lc b kq kd lq ld); unfold valOf; go_enter Tryz.func15, Tryz.ntmps15
 go_upto_region 1 with fail
 generalize hW : World.alloc _ _ = w1 at *; clear hW; have a0 := HB0.out.boxa.c0; have a6 := HB0.out.boxa.c6; have b0 := HB0.out.boxb.c0; have b6 := HB0.out.boxb.c6; rw [HKd.out] at a0; rw [HKe.out] at b0; have a1 := HB0.out.boxa.c2; have b1 := HB0.out.boxb.c2; rw [← H.out] at b1; go_wp2_with fail
 all_goals
  go_ret; exact ⟨rfl, HB0.out.kp'⟩
set_option maxRecDepth 100000 in
set_option maxHeartbeats 2000000 in
theorem sam_5 (w : World) (a b : JV) (kp lp : Option Addr) (kc lc : Nat) (kq lq : Option Addr) (kd ld : Nat) (hk : a.kind = 5) (hk2 : a.kind = b.kind) (h : a.t = b.t) :
  Calls Tryz.prog 15 #[valOf a kp kc lp lc, valOf b kq kd lq ld] w (SamPost w) := by
 have HKd := hid hk; have HKe := hid (hk2.symm.trans hk); clear hk hk2; have H := hid h; clear h; have HB0 := hid (SmB.new w a kp kc lp lc b kq kd lq ld); unfold valOf; go_enter Tryz.func15, Tryz.ntmps15
 go_upto_region 1 with fail
 generalize hW : World.alloc _ _ = w1 at *; clear hW; have a0 := HB0.out.boxa.c0; have a6 := HB0.out.boxa.c6; have b0 := HB0.out.boxb.c0; have b6 := HB0.out.boxb.c6; rw [HKd.out] at a0; rw [HKe.out] at b0; have a1 := HB0.out.boxa.c4; have b1 := HB0.out.boxb.c4; rw [← H.out] at b1; go_wp2_with fail
 all_goals
  go_ret; exact ⟨rfl, HB0.out.kp'⟩
set_option maxRecDepth 100000 in
set_option maxHeartbeats 2000000 in
theorem sam_4 (w : World) (a b : JV) (kp lp : Option Addr) (kc lc : Nat) (kq lq : Option Addr) (kd ld : Nat) (hk : a.kind = 4) (hk2 : a.kind = b.kind) (h : a.f = b.f) (hf : FinE a.f) :
  Calls Tryz.prog 15 #[valOf a kp kc lp lc, valOf b kq kd lq ld] w (SamPost w) := by
 have HKd := hid hk; have HKe := hid (hk2.symm.trans hk); clear hk hk2; have H := hid h; have ho := order_self hf; clear h hf; have HB0 := hid (SmB.new w a kp kc lp lc b kq kd lq ld); unfold valOf; go_enter Tryz.func15, Tryz.ntmps15
 go_upto_region 1 with fail
 generalize hW : World.alloc _ _ = w1 at *; clear hW; have a0 := HB0.out.boxa.c0; have a6 := HB0.out.boxa.c6; have b0 := HB0.out.boxb.c0; have b6 := HB0.out.boxb.c6; rw [HKd.out] at a0; rw [HKe.out] at b0; have a1 := HB0.out.boxa.c3; have b1 := HB0.out.boxb.c3; rw [← H.out] at b1; go_wp2_with fail
 all_goals
  go_ret; exact ⟨rfl, HB0.out.kp'⟩
set_option maxRecDepth 100000 in
set_option maxHeartbeats 2000000 in
theorem sam_none (w : World) (a b : JV) (kp lp : Option Addr) (kc lc : Nat) (kq lq : Option Addr) (kd ld : Nat) (hk : a.kind < 6) (hk2 : a.kind = b.kind) (h1 : a.kind ≠ 1) (h2 : a.kind ≠ 2) (h4 : a.kind ≠ 4) (h5 : a.kind ≠ 5) :
  Calls Tryz.prog 15 #[valOf a kp kc lp lc, valOf b kq kd lq ld] w (SamPost w) := by
 have HKe := hid hk2.symm; clear hk2; have HB0 := hid (SmB.new w a kp kc lp lc b kq kd lq ld); unfold valOf; go_enter Tryz.func15, Tryz.ntmps15
 go_upto_region 1 with fail
 generalize hW : World.alloc _ _ = w1 at *; clear hW; have a0 := HB0.out.boxa.c0; have a6 := HB0.out.boxa.c6; have b0 := HB0.out.boxb.c0; have b6 := HB0.out.boxb.c6; rw [HKe.out] at b0; generalize a.kind = K at *; have h7 : ¬ K = 7 := by omega
 go_wp2_with fail
 all_goals
  go_loopw [7] (fun s7 wx => s7 = .int .i64 0 ∧ wx = w1) (fun _ _ => 0)
  case atStart => exact ⟨rfl, rfl⟩
  case round =>
   obtain ⟨rfl, hw⟩ := hrel; subst hw; go_wp2_with fail
   go_ret; exact ⟨rfl, HB0.out.kp'⟩
set_option maxRecDepth 100000 in
set_option maxHeartbeats 2000000 in
theorem sam_list (n : Nat) (IH : SamDoes n) (d d2 m m2 : Nat) (w0 w : World) (a b : JV) (kp lp : Option Addr) (kc lc : Nat) (kq lq : Option Addr) (kd ld : Nat) (hk2 : a.kind = b.kind) (hlen : a.l.length = b.l.length) (hel : ∀ i (h : i < a.l.length) (h' : i < b.l.length), JSame n a.l[i] b.l[i]) (hd : Deep (d + 1) w0 a kp lp) (hd2 : Deep (d2 + 1) w0 b kq lq) (hF : Fits (m + 1) a) (hF2 : Fits (m2 + 1) b) (hk0 : Kp [] w0 w) (hk6 : 6 ≤ a.kind) (hk7 : a.kind ≠ 7) :
  Calls Tryz.prog 15 #[valOf a kp kc lp lc, valOf b kq kd lq ld] w (SamPost w) := by
 obtain ⟨hks0, hdl⟩ := hd; obtain ⟨hks02, hdl2⟩ := hd2; obtain ⟨⟨_, _, _, _, hkslen, hllen, _⟩, hft⟩ := hF; obtain ⟨_, hft2⟩ := hF2; have HDl := hid hdl; have HDl2 := hid hdl2; have HKs := hid hks0; have HKs2 := hid hks02; have HFt := hid hft; have HFt2 := hid hft2; have HIH := hid IH; have HK0 := hid hk0; have HEl := hid hel; have HLen := hid hlen.symm; have HKe := hid hk2.symm; clear hks0 hdl hks02 hdl2 hft hft2 IH hk0 hel hlen hk2; have HB0 := hid (SmB.new w a kp kc lp lc b kq kd lq ld); unfold valOf; go_enter Tryz.func15, Tryz.ntmps15
 go_upto_region 1 with fail
 generalize hW : World.alloc _ _ = w1 at *; clear hW; have a0 := HB0.out.boxa.c0; have a6 := HB0.out.boxa.c6; have b0 := HB0.out.boxb.c0; have b6 := HB0.out.boxb.c6; rw [HKe.out] at b0; rw [HLen.out] at b6; have HB1 := hid HB0.out; have e1 : (a.kind == 1) = false := by simp; omega
 have e2 : (a.kind == 2) = false := by simp; omega
 have e4 : (a.kind == 4) = false := by simp; omega
 have e5 : (a.kind == 5) = false := by simp; omega
 have e7 : (a.kind == 7) = false := by simp; omega
 clear HB0; go_wp2_with fail
 go_loopw [7] (fun s7 wx => ∃ i : Nat, s7 = .int .i64 (i : Int) ∧ i ≤ a.l.length ∧ SmB w w.heap.size (w.heap.size + 1) a kp kc lp lc b kq kd lq ld wx) (fun s7 _ => a.l.length - (intOf s7).toNat)
 case atStart => exact ⟨0, rfl, Nat.zero_le _, HB1.out⟩
 case round =>
  obtain ⟨i, rfl, hi, hB⟩ := hrel; have HB := hid hB; have a0 := hB.boxa.c0; have a6 := hB.boxa.c6; have b6 := hB.boxb.c6; rw [HLen.out] at b6; clear hB HB1; by_cases hil : i < a.l.length
  ·
   have q1 : decide ((i : Int) < (a.l.length : Int)) = true := by rw [decide_eq_true_eq]; omega
   have hilb : i < b.l.length := by rw [HLen.out]; exact hil
   have hkw : Kp [] w0 wr := HK0.out.trans HB.out.kp'; rcases HDl.out with h0 | ⟨g, o, hlp, hcs⟩
   · rw [h0] at hil; simp at hil
   rcases HDl2.out with h0 | ⟨g2, o2, hlq, hcs2⟩
   · rw [h0] at hilb; simp at hilb
   obtain ⟨kp', kc', lp', lc', ⟨x0, x1, x2, x3, x4, x5, x6⟩, hdeep⟩ := hcs i hil; obtain ⟨kq', kd', lq', ld', ⟨y0, y1, y2, y3, y4, y5, y6⟩, hdeep2⟩ := hcs2 i hilb; obtain ⟨x, hx⟩ : ∃ x, x = a.l[i] := ⟨_, rfl⟩; obtain ⟨y, hy⟩ : ∃ y, y = b.l[i] := ⟨_, rfl⟩; have HX := hid hx; have HY := hid hy; have hc := HIH.out d d2 m m2 w0 wr.drew x y kp' lp' kc' lc' kq' lq' kd' ld' (by rw [hx, hy]; exact HEl.out i hil hilb) (by rw [hx]; exact hdeep) (by rw [hy]; exact hdeep2) (by rw [hx]; exact HFt.out _ (List.getElem_mem hil)) (by rw [hy]; exact HFt2.out _ (List.getElem_mem hilb)) hkw.drew; unfold valOf at hc; have HC := hid hc; rw [← hx] at x0 x1 x2 x3 x4 x5 x6; rw [← hy] at y0 y1 y2 y3 y4 y5 y6; have x0 := cell_kp x0 hkw; have x1 := cell_kp x1 hkw; have x2 := cell_kp x2 hkw; have x3 := cell_kp x3 hkw; have x4 := cell_kp x4 hkw; have x5 := cell_kp x5 hkw; have x6 := cell_kp x6 hkw
   have y0 := cell_kp y0 hkw; have y1 := cell_kp y1 hkw; have y2 := cell_kp y2 hkw; have y3 := cell_kp y3 hkw; have y4 := cell_kp y4 hkw; have y5 := cell_kp y5 hkw; have y6 := cell_kp y6 hkw; have hil63 : (i : Int) + 1 ≤ 3000000 := by omega
   have hib : (i : Int) < (a.l.length : Int) := by omega
   clear hcs hcs2 hdeep hdeep2 hx hy hc hkw; subst hlp hlq; go_upto_region 24 with fail
   go_still_tail 10, (by kernel_rfl)
   go_wp2_with fail
   refine HC.out.mono ?_
   rintro e7 w4 ⟨rfl, hk4⟩
   have HK4 := hid hk4; clear hk4 HC x0 x1 x2 x3 x4 x5 x6 y0 y1 y2 y3 y4 y5 y6; go_wp2_with fail
   go_roundw
   case measure => simp [intOf]; omega
   case rel => exact ⟨i + 1, by push_cast; rfl, by omega, HB.out.next (((Kp.refl _ _).drew).trans HK4.out)⟩
  · obtain rfl : i = a.l.length := by omega
    have q1 : decide ((a.l.length : Int) < (a.l.length : Int)) = false := by simp
    go_wp2_with fail
    go_ret; exact ⟨rfl, HB.out.kp'⟩
set_option maxRecDepth 100000 in
set_option maxHeartbeats 2000000 in
theorem sam_map (n : Nat) (IH : SamDoes n) (d d2 m m2 : Nat) (w0 w : World) (a b : JV) (kp lp : Option Addr) (kc lc : Nat) (kq lq : Option Addr) (kd ld : Nat) (hk2 : a.kind = b.kind) (hlen : a.l.length = b.l.length) (hel : ∀ i (h : i < a.l.length) (h' : i < b.l.length), JSame n a.l[i] b.l[i]) (hd : Deep (d + 1) w0 a kp lp) (hd2 : Deep (d2 + 1) w0 b kq lq) (hF : Fits (m + 1) a) (hF2 : Fits (m2 + 1) b) (hk0 : Kp [] w0 w) (hk7 : a.kind = 7) (hks : a.ks = b.ks) :
  Calls Tryz.prog 15 #[valOf a kp kc lp lc, valOf b kq kd lq ld] w (SamPost w) := by
 have HK7 := hid hk7; have HKq := hid hks.symm; clear hk7 hks; obtain ⟨hks0, hdl⟩ := hd; obtain ⟨hks02, hdl2⟩ := hd2; obtain ⟨⟨_, _, _, _, hkslen, hllen, _⟩, hft⟩ := hF; obtain ⟨_, hft2⟩ := hF2; have HDl := hid hdl; have HDl2 := hid hdl2; have HKs := hid hks0; have HKs2 := hid hks02; have HFt := hid hft; have HFt2 := hid hft2; have HIH := hid IH; have HK0 := hid hk0; have HEl := hid hel; have HLen := hid hlen.symm; have HKe := hid hk2.symm; clear hks0 hdl hks02 hdl2 hft hft2 IH hk0 hel hlen hk2; have HB0 := hid (SmB.new w a kp kc lp lc b kq kd lq ld); unfold valOf; go_enter Tryz.func15, Tryz.ntmps15
 go_upto_region 1 with fail
 generalize hW : World.alloc _ _ = w1 at *; clear hW; have a0 := HB0.out.boxa.c0; have a6 := HB0.out.boxa.c6; have b0 := HB0.out.boxb.c0; have b6 := HB0.out.boxb.c6; rw [HKe.out] at b0; rw [HK7.out] at a0 b0; rw [HLen.out] at b6; have a5 := HB0.out.boxa.c5; have b5 := HB0.out.boxb.c5; rw [HKq.out] at b5; go_wp2_with fail
 go_loopw [5, 6, 69] (fun _ _ s69 wx => ∃ i : Nat, s69 = .int .i64 (i : Int) ∧ i ≤ a.ks.length ∧ SmB w w.heap.size (w.heap.size + 1) a kp kc lp lc b kq kd lq ld wx) (fun _ _ s69 _ => a.ks.length - (intOf s69).toNat)
 case atStart => exact ⟨0, rfl, Nat.zero_le _, HB0.out⟩
 case round =>
  obtain ⟨i, rfl, hi, hB⟩ := hrel; have HB1 := hid hB; clear hB a0 a6 b0 b6 a5 b5; by_cases hil : i < a.ks.length
  ·
   have q1 : decide ((i : Int) < (a.ks.length : Int)) = true := by rw [decide_eq_true_eq]; omega
   have hilb : i < b.ks.length := by rw [HKq.out]; exact hil
   have hkw : Kp [] w0 wr := HK0.out.trans HB1.out.kp'; have b5 := HB1.out.boxb.c5; rw [HKq.out] at b5; rcases HKs.out with h0 | ⟨g, o, hkp, hcs⟩
   · rw [h0] at hil; simp at hil
   rcases HKs2.out with h0 | ⟨g2, o2, hkq, hcs2⟩
   · rw [h0] at hilb; simp at hilb
   have d0 := cell_kp (hcs i hil) hkw; have d1 := cell_kp (hcs2 i hilb) hkw; obtain ⟨x, hx⟩ : ∃ x, x = a.ks[i] := ⟨_, rfl⟩; have hxb : b.ks[i] = x := by rw [hx]; simp only [HKq.out]
   rw [hxb] at d1; rw [← hx] at d0; have hib : (i : Int) < (a.ks.length : Int) := by omega
   have hi63 : (i : Int) + 1 ≤ 3000000 := by omega
   clear hcs hcs2 hkw hx hxb; subst hkp hkq; go_wp2_with fail
   go_roundw
   case measure => simp [intOf]; omega
   case rel => exact ⟨i + 1, by push_cast; rfl, by omega, HB1.out⟩
  ·
   obtain rfl : i = a.ks.length := by omega
   have q1 : decide ((a.ks.length : Int) < (a.ks.length : Int)) = false := by simp
   have a0 := HB1.out.boxa.c0; have a6 := HB1.out.boxa.c6; rw [HK7.out] at a0; go_wp2_with fail
   go_loopw [7] (fun s7 wx => ∃ i : Nat, s7 = .int .i64 (i : Int) ∧ i ≤ a.l.length ∧ SmB w w.heap.size (w.heap.size + 1) a kp kc lp lc b kq kd lq ld wx) (fun s7 _ => a.l.length - (intOf s7).toNat)
   case atStart => exact ⟨0, rfl, Nat.zero_le _, HB1.out⟩
   case round =>
    obtain ⟨i, rfl, hi, hB⟩ := hrel; have HB := hid hB; have a0 := hB.boxa.c0; have a6 := hB.boxa.c6; have b6 := hB.boxb.c6; rw [HK7.out] at a0; rw [HLen.out] at b6; clear hB HB1; by_cases hil : i < a.l.length
    ·
     have q1 : decide ((i : Int) < (a.l.length : Int)) = true := by rw [decide_eq_true_eq]; omega
     have hilb : i < b.l.length := by rw [HLen.out]; exact hil
     have hkw : Kp [] w0 wr := HK0.out.trans HB.out.kp'; rcases HDl.out with h0 | ⟨g, o, hlp, hcs⟩
     · rw [h0] at hil; simp at hil
     rcases HDl2.out with h0 | ⟨g2, o2, hlq, hcs2⟩
     · rw [h0] at hilb; simp at hilb
     obtain ⟨kp', kc', lp', lc', ⟨x0, x1, x2, x3, x4, x5, x6⟩, hdeep⟩ := hcs i hil; obtain ⟨kq', kd', lq', ld', ⟨y0, y1, y2, y3, y4, y5, y6⟩, hdeep2⟩ := hcs2 i hilb; obtain ⟨x, hx⟩ : ∃ x, x = a.l[i] := ⟨_, rfl⟩; obtain ⟨y, hy⟩ : ∃ y, y = b.l[i] := ⟨_, rfl⟩; have HX := hid hx; have HY := hid hy; have hc := HIH.out d d2 m m2 w0 wr.drew x y kp' lp' kc' lc' kq' lq' kd' ld' (by rw [hx, hy]; exact HEl.out i hil hilb) (by rw [hx]; exact hdeep) (by rw [hy]; exact hdeep2) (by rw [hx]; exact HFt.out _ (List.getElem_mem hil)) (by rw [hy]; exact HFt2.out _ (List.getElem_mem hilb)) hkw.drew; unfold valOf at hc; have HC := hid hc; rw [← hx] at x0 x1 x2 x3 x4 x5 x6; rw [← hy] at y0 y1 y2 y3 y4 y5 y6; have x0 := cell_kp x0 hkw; have x1 := cell_kp x1 hkw; have x2 := cell_kp x2 hkw; have x3 := cell_kp x3 hkw; have x4 := cell_kp x4 hkw; have x5 := cell_kp x5 hkw; have x6 := cell_kp x6 hkw
     have y0 := cell_kp y0 hkw; have y1 := cell_kp y1 hkw; have y2 := cell_kp y2 hkw; have y3 := cell_kp y3 hkw; have y4 := cell_kp y4 hkw; have y5 := cell_kp y5 hkw; have y6 := cell_kp y6 hkw; have hil63 : (i : Int) + 1 ≤ 3000000 := by omega
     have hib : (i : Int) < (a.l.length : Int) := by omega
     clear hcs hcs2 hdeep hdeep2 hx hy hc hkw; subst hlp hlq; go_upto_region 24 with fail
     go_still_tail 10, (by kernel_rfl)
     go_wp2_with fail
     refine HC.out.mono ?_
     rintro e7 w4 ⟨rfl, hk4⟩
     have HK4 := hid hk4; clear hk4 HC x0 x1 x2 x3 x4 x5 x6 y0 y1 y2 y3 y4 y5 y6; go_wp2_with fail
     go_roundw
     case measure => simp [intOf]; omega
     case rel => exact ⟨i + 1, by push_cast; rfl, by omega, HB.out.next (((Kp.refl _ _).drew).trans HK4.out)⟩
    · obtain rfl : i = a.l.length := by omega
      have q1 : decide ((a.l.length : Int) < (a.l.length : Int)) = false := by simp
      go_wp2_with fail
      go_ret; exact ⟨rfl, HB.out.kp'⟩
theorem sam_does : ∀ n, SamDoes n
 | 0 => fun _ _ _ _ _ _ _ _ _ _ _ _ _ _ _ _ h => h.elim
 | n + 1 => by
  intro d d2 m m2 w0 w a b kp lp kc lc kq lq kd ld h hd hd2 hF hF2 hk0; obtain ⟨hk, h1, h2, h4, h5, h7, h6⟩ := h
  cases d with
  | zero => exact hd.elim
  | succ d =>
  cases d2 with
  | zero => exact hd2.elim
  | succ d2 =>
  cases m with
  | zero => exact hF.elim
  | succ m =>
  cases m2 with
  | zero => exact hF2.elim
  | succ m2 =>
  by_cases c6 : 6 ≤ a.kind
  · obtain ⟨hl, hel⟩ := h6 c6
    by_cases c7 : a.kind = 7
    · exact sam_map n (sam_does n) d d2 m m2 w0 w a b kp lp kc lc kq lq kd ld hk hl hel hd hd2 hF hF2 hk0 c7 (h7 c7)
    · exact sam_list n (sam_does n) d d2 m m2 w0 w a b kp lp kc lc kq lq kd ld hk hl hel hd hd2 hF hF2 hk0 c6 c7
  by_cases c1 : a.kind = 1
  · exact sam_1 w a b kp lp kc lc kq lq kd ld c1 hk (h1 c1)
  by_cases c2 : a.kind = 2
  · exact sam_2 w a b kp lp kc lc kq lq kd ld c2 hk (h2 c2)
  by_cases c4 : a.kind = 4
  · exact sam_4 w a b kp lp kc lc kq lq kd ld c4 hk (h4 c4).1 (h4 c4).2
  by_cases c5 : a.kind = 5
  · exact sam_5 w a b kp lp kc lc kq lq kd ld c5 hk (h5 c5)
  · exact sam_none w a b kp lp kc lc kq lq kd ld (by omega) hk c1 c2 c4 c5
end
section
open Go.RowKit
def ovI (u v : JV) (i : Nat) : JV := if i = 0 then u else tabJV (putAll (prs u) ((prs v).take i))
theorem prs_tab (P : List (ByteArray × JV)) : prs (tabJV P) = P := by
 show (P.map (·.1)).zip (P.map (·.2)) = P
 induction P with
 | nil => rfl
 | cons p P ih => simp [ih]
theorem ovI_prs (u v : JV) (i : Nat) : prs (ovI u v i) = putAll (prs u) ((prs v).take i) := by
 unfold ovI
 split
 · rename_i h; subst h; rfl
 · rw [prs_tab]
theorem ovI_len {u : JV} (v : JV) (i : Nat) (h : u.ks.length = u.l.length) : (ovI u v i).ks.length = (ovI u v i).l.length := by
 unfold ovI
 split
 · exact h
 · simp [tabJV, JV.ks, JV.l]
theorem ovI_rise {u : JV} (v : JV) (i : Nat) (h : Rise u.ks) (hl : u.ks.length = u.l.length) : Rise (ovI u v i).ks := by
 unfold ovI
 split
 · exact h
 · have h1 : RiseP (prs u) := (riseP_iff _).2 (by unfold prs; rw [zip_fst _ _ hl]; exact h)
   exact (riseP_iff _).1 (putAll_rise _ _ h1)
theorem ovI_size {u : JV} (v : JV) (i : Nat) : (ovI u v i).ks.length ≤ u.ks.length + i := by
 unfold ovI
 split
 · omega
 ·
  have h1 := putAll_len ((prs v).take i) (prs u); have h2 : (prs u).length ≤ u.ks.length := by unfold prs; rw [List.length_zip]; omega
  have h3 : ((prs v).take i).length ≤ i := by rw [List.length_take]; omega
  have h4 : (tabJV (putAll (prs u) ((prs v).take i))).ks.length = (putAll (prs u) ((prs v).take i)).length := by simp [tabJV, JV.ks]
  omega
theorem ovI_next {u v : JV} {i : Nat} (hi : i < (prs v).length) : tabJV (insK (prs (ovI u v i)) (prs v)[i].1 (prs v)[i].2) = ovI u v (i + 1) := by
 rw [ovI_prs]; unfold ovI; rw [if_neg (by omega), ← List.take_append_getElem hi]; unfold putAll; rw [List.foldl_append]; rfl
theorem ovI_end {u v : JV} (h : v.ks.length = v.l.length) : ovI u v v.ks.length = overJV u v := by
 unfold ovI overJV; by_cases hk : v.ks = []
 · rw [if_pos (by rw [hk]; rfl), if_pos hk]
 · have : 0 < v.ks.length := List.length_pos_iff.2 hk
   rw [if_neg (by omega), if_neg hk, List.take_of_length_le (by unfold prs; rw [List.length_zip]; omega)]
structure OvR (n : Nat) (F : Nat → Prop) (W1 : World) (b2 : Nat) (cu : JV) (ckp : Option Addr) (ckc : Nat) (clp : Option Addr) (clc : Nat) (wr : World) : Prop where
 box : BxAt wr b2 cu ckp ckc clp clc
 deep : DeepF (n + 1) (fun g => F g ∨ Made W1 wr g) wr cu ckp clp
 kp1 : Kp [b2] W1 wr
 lt : b2 < W1.heap.size ∧ ∀ g, F g → g < b2
theorem OvR.next {n : Nat} {F : Nat → Prop} {W1 : World} {b2 : Nat} {cu cn : JV} {ckp : Option Addr} {ckc : Nat} {clp : Option Addr} {clc : Nat} {nkp : Option Addr} {nkc : Nat} {nlp : Option Addr} {nlc : Nat} {wr w3 w4 : World} (h : OvR n F W1 b2 cu ckp ckc clp clc wr) (k3 : Kp [] wr w3) (k4 : Kp [] w3 w4)
  (hd : DeepF (n + 1) (fun g => (F g ∨ Made W1 wr g) ∨ Made w3 w4 g) w4 cn nkp nlp) : OvR n F W1 b2 cn nkp nkc nlp nlc (w4.setRow b2 #[.int .i64 cn.kind, .bool cn.b, .int .i64 cn.i, .float .f64 cn.f, .string cn.t, .slice nkp cn.ks.length nkc, .slice nlp cn.l.length nlc]) := by
 have s3 := k3.size; have s4 := k4.size; have s1 := h.kp1.size; have hE := kp_setRow w4 b2 #[.int .i64 cn.kind, .bool cn.b, .int .i64 cn.i, .float .f64 cn.f, .string cn.t, .slice nkp cn.ks.length nkc, .slice nlp cn.l.length nlc]; have hlt := h.lt.1; have hb4 : w4.heap[b2]? = some (.cells #[.int .i64 cu.kind, .bool cu.b, .int .i64 cu.i, .float .f64 cu.f, .string cu.t, .slice ckp cu.ks.length ckc, .slice clp cu.l.length clc] 26 (0, 0)) := by rw [k4.block b2 (by omega) (by simp), k3.block b2 (by omega) (by simp)]; exact h.box
 refine ⟨setRow_heap _ _ _ _ 26 _ hb4, hd.keep hE.size ?_, ((h.kp1.over k3 (by simp)).over k4 (by simp)).trans hE, h.lt⟩; intro g hg hgs; have hne : g ≠ b2 := by
  rcases hg with (hg | hg) | hg
  · have := h.lt.2 g hg; omega
  · have := hg.1; omega
  · have := hg.1; omega
 refine ⟨?_, hE.block g hgs (by simpa using hne)⟩; have := hE.size; rcases hg with (hg | hg) | hg
 · exact Or.inl hg
 · exact Or.inr ⟨hg.1, by omega⟩
 · exact Or.inr ⟨by have := hg.1; omega, by omega⟩
theorem heap_new3c (w : World) (a b c : Obj) : (((w.alloc a).alloc b).alloc c).heap[w.heap.size + 1 + 1]? = some c := by
 have e : ((w.alloc a).alloc b).heap.size = w.heap.size + 1 + 1 := by simp
 rw [← e]; exact heap_alloc_new _ _
theorem heap_new3b (w : World) (a b c : Obj) : (((w.alloc a).alloc b).alloc c).heap[w.heap.size + 1]? = some b := by
 have e : (w.alloc a).heap.size = w.heap.size + 1 := by simp
 rw [Below.heap_alloc _ _ _ (by simp), ← e]; exact heap_alloc_new _ _
theorem heap_new3a (w : World) (a b c : Obj) : (((w.alloc a).alloc b).alloc c).heap[w.heap.size]? = some a := by
 rw [Below.heap_alloc _ _ _ (by simp; omega), Below.heap_alloc _ _ _ (by simp)]; exact heap_alloc_new _ _
set_option maxRecDepth 100000 in
set_option maxHeartbeats 2000000 in
theorem over_is (n : Nat) (F : Nat → Prop) (w : World) (u v : JV) (ukp ulp : Option Addr) (ukc ulc : Nat) (kp lp : Option Addr) (kc lc : Nat) (hul : u.ks.length = u.l.length) (hur : Rise u.ks) (hvl : v.ks.length = v.l.length) (hub : u.ks.length ≤ 2000) (hvb : v.ks.length ≤ 2000)
  (hdu : DeepF (n + 1) F w u ukp ulp) (hdv : DeepF (n + 1) F w v kp lp) (hF : ∀ g, F g → g < w.heap.size) :
  Calls Tryz.prog 11 #[valOf u ukp ukc ulp ulc, valOf v kp kc lp lc] w (PutPost n F w (overJV u v)) := by
 have hb2 : BxAt (((w.alloc (.cells #[.int .i64 u.kind, .bool u.b, .int .i64 u.i, .float .f64 u.f, .string u.t, .slice ukp u.ks.length ukc, .slice ulp u.l.length ulc] 26)).alloc (.cells #[.int .i64 v.kind, .bool v.b, .int .i64 v.i, .float .f64 v.f, .string v.t, .slice kp v.ks.length kc, .slice lp v.l.length lc] 26)).alloc (.cells #[.int .i64 0, .bool false, .int .i64 0, .float .f64 0, .string ⟨#[]⟩, .slice none 0 0, .slice none 0 0] 26)) w.heap.size u ukp ukc ulp ulc := heap_new3a _ _ _ _
 have hb3 : BxAt (((w.alloc (.cells #[.int .i64 u.kind, .bool u.b, .int .i64 u.i, .float .f64 u.f, .string u.t, .slice ukp u.ks.length ukc, .slice ulp u.l.length ulc] 26)).alloc (.cells #[.int .i64 v.kind, .bool v.b, .int .i64 v.i, .float .f64 v.f, .string v.t, .slice kp v.ks.length kc, .slice lp v.l.length lc] 26)).alloc (.cells #[.int .i64 0, .bool false, .int .i64 0, .float .f64 0, .string ⟨#[]⟩, .slice none 0 0, .slice none 0 0] 26)) (w.heap.size + 1) v kp kc lp lc := heap_new3b _ _ _ _
 have hr0 : (((w.alloc (.cells #[.int .i64 u.kind, .bool u.b, .int .i64 u.i, .float .f64 u.f, .string u.t, .slice ukp u.ks.length ukc, .slice ulp u.l.length ulc] 26)).alloc (.cells #[.int .i64 v.kind, .bool v.b, .int .i64 v.i, .float .f64 v.f, .string v.t, .slice kp v.ks.length kc, .slice lp v.l.length lc] 26)).alloc (.cells #[.int .i64 0, .bool false, .int .i64 0, .float .f64 0, .string ⟨#[]⟩, .slice none 0 0, .slice none 0 0] 26)).heap[w.heap.size + 1 + 1]? = some (.cells #[.int .i64 0, .bool false, .int .i64 0, .float .f64 0, .string ⟨#[]⟩, .slice none 0 0, .slice none 0 0] 26 (0, 0)) := heap_new3c _ _ _ _
 have hk1 : Kp [] w (((w.alloc (.cells #[.int .i64 u.kind, .bool u.b, .int .i64 u.i, .float .f64 u.f, .string u.t, .slice ukp u.ks.length ukc, .slice ulp u.l.length ulc] 26)).alloc (.cells #[.int .i64 v.kind, .bool v.b, .int .i64 v.i, .float .f64 v.f, .string v.t, .slice kp v.ks.length kc, .slice lp v.l.length lc] 26)).alloc (.cells #[.int .i64 0, .bool false, .int .i64 0, .float .f64 0, .string ⟨#[]⟩, .slice none 0 0, .slice none 0 0] 26)) := (((Kp.refl _ _).alloc _).alloc _).alloc _
 have hs1 : (((w.alloc (.cells #[.int .i64 u.kind, .bool u.b, .int .i64 u.i, .float .f64 u.f, .string u.t, .slice ukp u.ks.length ukc, .slice ulp u.l.length ulc] 26)).alloc (.cells #[.int .i64 v.kind, .bool v.b, .int .i64 v.i, .float .f64 v.f, .string v.t, .slice kp v.ks.length kc, .slice lp v.l.length lc] 26)).alloc (.cells #[.int .i64 0, .bool false, .int .i64 0, .float .f64 0, .string ⟨#[]⟩, .slice none 0 0, .slice none 0 0] 26)).heap.size = w.heap.size + 1 + 1 + 1 := by simp
 have HUl := hid hul; have HUr := hid hur; have HVl := hid hvl; have HDu := hid hdu; obtain ⟨hks0, hdl⟩ := hdv; have HKs := hid hks0; have HDl := hid hdl; have HF := hid hF; have HPl := hid (show (prs v).length = v.ks.length by unfold prs; rw [List.length_zip]; omega); clear hul hur hvl hdu hks0 hdl hF; unfold valOf; go_enter Tryz.func11, Tryz.ntmps11
 go_upto_region 1 with fail
 generalize hW : World.alloc _ _ = w1 at *; clear hW; generalize hb : w.heap.size = b2 at *; generalize hbb : b2 + 1 = b3 at *; generalize hrb : b3 + 1 = rb at *; have HBs := hid (show w.heap.size = b2 ∧ b2 + 1 = b3 ∧ b3 + 1 = rb ∧ w1.heap.size = rb + 1 by omega); have hst : OvR n F w1 b2 (ovI u v 0) ukp ukc ulp ulc w1 := ⟨hb2, HDu.out.keep hk1.size fun g h1 h2 => ⟨Or.inl h1, hk1.block g h2 (by simp)⟩, Kp.refl _ _, by omega, fun g h => by have := HF.out g h; omega⟩; have HSt := hid hst; have HB3 := hid hb3; have HR0 := hid hr0; have HK1 := hid hk1; have c5 := hb3.c5; clear hb2 hb3 hr0 hk1 hs1 hb hrb hbb hst; go_wp2_with fail
 go_loopw [5, 6, 10] (fun _ _ s10 wx => ∃ (i : Nat) (ckp : Option Addr) (ckc : Nat) (clp : Option Addr) (clc : Nat), s10 = .int .i64 (i : Int) ∧ i ≤ v.ks.length ∧ OvR n F w1 b2 (ovI u v i) ckp ckc clp clc wx) (fun _ _ s10 _ => v.ks.length - (intOf s10).toNat)
 case atStart => exact ⟨0, _, _, _, _, rfl, Nat.zero_le _, HSt.out⟩
 case round =>
  obtain ⟨i, ckp, ckc, clp, clc, rfl, hi, hI⟩ := hrel; have hcl := ovI_len (u := u) v i HUl.out; have hcr := ovI_rise (u := u) v i HUr.out HUl.out; have hcs := ovI_size (u := u) v i; have hnx := @ovI_next u v i; obtain ⟨cu, hcu⟩ : ∃ cu, cu = ovI u v i := ⟨_, rfl⟩; rw [← hcu] at hI hcl hcr hcs hnx; have HI := hid hI; have HCl := hid hcl; have HCr := hid hcr; have HNx := hid hnx; have HCu := hid hcu; have hb3 := HB3.out.keep hI.kp1 (by have := HBs.out; simp; omega); have hkw : Kp [] w wr := HK1.out.over hI.kp1 (by have := HBs.out; simp; omega); have HKw := hid hkw; have e6 := hb3.c6; have u0 := hI.box.c0; have u1 := hI.box.c1; have u2 := hI.box.c2; have u3 := hI.box.c3; have u4 := hI.box.c4; have u5 := hI.box.c5; have u6 := hI.box.c6; clear hI HSt hcl hcr hnx hcu hb3 hkw c5; by_cases hil : i < v.ks.length
  ·
   have q1 : decide ((i : Int) < (v.ks.length : Int)) = true := by rw [decide_eq_true_eq]; omega
   have hil2 : i < v.l.length := by have := HVl.out; omega
   have hilP : i < (prs v).length := by have := HPl.out; omega
   rcases HDl.out with h0 | ⟨g, o, hlp, hFg, hg, hcs2⟩
   · rw [h0] at hil2; simp at hil2
   rcases HKs.out with h0 | ⟨gk, ok, hkp, _, _, hck⟩
   · rw [h0] at hil; simp at hil
   obtain ⟨kp', kc', lp', lc', ⟨a0, a1, a2, a3, a4, a5, a6⟩, hdeep⟩ := hcs2 i hil2; obtain ⟨x, hx⟩ : ∃ x, x = v.l[i] := ⟨_, rfl⟩; obtain ⟨k, hk⟩ : ∃ k, k = v.ks[i] := ⟨_, rfl⟩; rw [← hx] at a0 a1 a2 a3 a4 a5 a6 hdeep; have d0 := cell_kp a0 HKw.out; have d1 := cell_kp a1 HKw.out; have d2 := cell_kp a2 HKw.out; have d3 := cell_kp a3 HKw.out; have d4 := cell_kp a4 HKw.out; have d5 := cell_kp a5 HKw.out; have d6 := cell_kp a6 HKw.out; have dk := hck i hil; rw [← hk] at dk; have dk2 := cell_kp dk HKw.out; have hP1 : (prs v)[i].1 = k := by rw [hk]; simp [prs]
   have hP2 : (prs v)[i].2 = x := by rw [hx]; simp [prs]
   have hnx := HNx.out hilP; rw [hP1, hP2] at hnx; have HNn := hid hnx; have hdx0 : DeepF n (fun g => F g ∨ Made w1 wr g) wr x kp' lp' := hdeep.keep HKw.out.size fun g h1 h2 => ⟨Or.inl h1, HKw.out.block g h2 (by simp)⟩
   have hdx : DeepF n (fun g => F g ∨ Made w1 wr g) wr.drew x kp' lp' := DeepF.keep (w := wr) (w' := wr.drew) (Nat.le_refl _) (fun g h1 _ => ⟨h1, rfl⟩) hdx0; have hcall := put_is n (fun g => F g ∨ Made w1 wr g) wr.drew cu ckp clp ckc clc k x kp' lp' kc' lc' HCl.out HCr.out (by omega) (DeepF.keep (w := wr) (w' := wr.drew) (Nat.le_refl _) (fun g h1 _ => ⟨h1, rfl⟩) HI.out.deep) hdx; unfold valOf at hcall; have HC := hid hcall; have hil63 : (i : Int) + 1 ≤ 3000000 := by omega
   have hib : (i : Int) < (v.l.length : Int) := by omega
   clear a0 a1 a2 a3 a4 a5 a6 hcs2 hdeep hFg dk hck hx hk hP1 hP2 hnx hdx hdx0 hcall; subst hlp hkp; go_upto_region 4 with fail
   go_still_tail 7, (by kernel_rfl)
   go_wp2_with fail
   refine HC.out.mono ?_
   rintro e7 w4 ⟨nkp, nkc, nlp, nlc, he, hd4, hk4⟩
   obtain ⟨cn, hcn⟩ : ∃ cn, cn = ovI u v (i + 1) := ⟨_, rfl⟩; rw [HNn.out, ← hcn] at he hd4; have HCn := hid hcn; unfold valOf at he; subst he; have hN := hid (HI.out.next (nkc := nkc) (nlc := nlc) (Kp.refl _ _).drew hk4 hd4); have hb4 : w4.heap[b2]? = some (.cells #[.int .i64 cu.kind, .bool cu.b, .int .i64 cu.i, .float .f64 cu.f, .string cu.t, .slice ckp cu.ks.length ckc, .slice clp cu.l.length clc] 26 (0, 0)) := by
    have := HI.out.box.lt; rw [hk4.block b2 this (by simp)]; exact HI.out.box
   have HB4 := hid hb4; clear hcn hd4 hk4 hb4 HC d0 d1 d2 d3 d4 d5 d6 dk2 u0 u1 u2 u3 u4 u5 u6 e6; go_wp2_with (refine wpList_store_row rfl 26 _ _ rfl b2 #[.int .i64 cn.kind, .bool cn.b, .int .i64 cn.i, .float .f64 cn.f, .string cn.t, .slice nkp cn.ks.length nkc, .slice nlp cn.l.length nlc] ?_ ?_ 26 #[.int .i64 cu.kind, .bool cu.b, .int .i64 cu.i, .float .f64 cu.f, .string cu.t, .slice ckp cu.ks.length ckc, .slice clp cu.l.length clc] ?_ ?_ ?_ ?_ ?_; go_must (rfl); go_must (rfl); go_must (exact HB4.out); go_must (kernel_rfl); go_must (rfl); go_must (simp [Value.oneCell']))
   go_roundw
   case measure => simp [intOf]; omega
   case rel => exact ⟨i + 1, nkp, nkc, nlp, nlc, by push_cast; rfl, by omega, by rw [← HCn.out]; exact hN.out⟩
  ·
   obtain rfl : i = v.ks.length := by omega
   have q1 : decide ((v.ks.length : Int) < (v.ks.length : Int)) = false := by simp
   have hbs := HBs.out; have s1 := HI.out.kp1.size; have hrb2 : wr.heap[rb]? = some (.cells #[.int .i64 0, .bool false, .int .i64 0, .float .f64 0, .string ⟨#[]⟩, .slice none 0 0, .slice none 0 0] 26 (0, 0)) := by rw [HI.out.kp1.block rb (by omega) (by simp; omega)]; exact HR0.out
   have hE := kp_setRow wr rb #[.int .i64 cu.kind, .bool cu.b, .int .i64 cu.i, .float .f64 cu.f, .string cu.t, .slice ckp cu.ks.length ckc, .slice clp cu.l.length clc]; have s5 := hE.size; have hEh : (wr.setRow rb #[.int .i64 cu.kind, .bool cu.b, .int .i64 cu.i, .float .f64 cu.f, .string cu.t, .slice ckp cu.ks.length ckc, .slice clp cu.l.length clc]).heap[rb]? = some (.cells #[.int .i64 cu.kind, .bool cu.b, .int .i64 cu.i, .float .f64 cu.f, .string cu.t, .slice ckp cu.ks.length ckc, .slice clp cu.l.length clc] 26 (0, 0)) := setRow_heap _ _ _ _ 26 _ hrb2
   have hpost : PutPost n F w (overJV u v) (.returned (.agg #[.int .i64 cu.kind, .bool cu.b, .int .i64 cu.i, .float .f64 cu.f, .string cu.t, .slice ckp cu.ks.length ckc, .slice clp cu.l.length clc])) (wr.setRow rb #[.int .i64 cu.kind, .bool cu.b, .int .i64 cu.i, .float .f64 cu.f, .string cu.t, .slice ckp cu.ks.length ckc, .slice clp cu.l.length clc]) := by
    rw [← ovI_end HVl.out, ← HCu.out]; refine ⟨ckp, ckc, clp, clc, rfl, HI.out.deep.keep s5 ?_, HKw.out.over hE (by simp; omega)⟩; intro g hg hgs; rcases hg with hg | hg
    · have := HF.out g hg
      exact ⟨Or.inl hg, hE.block g hgs (by simp; omega)⟩
    · have h1 := hg.1
      have h2 := hg.2; exact ⟨Or.inr ⟨by omega, by omega⟩, hE.block g hgs (by simp; omega)⟩
   have HPo := hid hpost; have HEh := hid hEh; have HRb2 := hid hrb2; have HBk := hid HI.out.box; clear hbs s1 hrb2 hE s5 hEh hpost; go_wp2_with (first | (refine wpList_load_row rfl 26 _ rfl b2 rfl 26 _ (0, 0) _ HBk.out Tryz.underlying26 rfl (by kernel_rfl) ?_) | (refine wpList_store_row rfl 26 _ _ rfl rb #[.int .i64 cu.kind, .bool cu.b, .int .i64 cu.i, .float .f64 cu.f, .string cu.t, .slice ckp cu.ks.length ckc, .slice clp cu.l.length clc] ?_ ?_ 26 #[.int .i64 0, .bool false, .int .i64 0, .float .f64 0, .string ⟨#[]⟩, .slice none 0 0, .slice none 0 0] ?_ ?_ ?_ ?_ ?_; go_must (rfl); go_must (rfl); go_must (exact HRb2.out); go_must (kernel_rfl); go_must (rfl); go_must (simp [Value.oneCell'])))
   refine bodyPost_ret (results_cell_row rfl _ _ rb 26 _ (0, 0) _ rfl HEh.out Tryz.underlying26 rfl (by kernel_rfl)) rfl ?_; exact HPo.out
end
section
open Go.RowKit
theorem fits_nil (k : Int) (b : Bool) (i : Int) (f : Nat) (t : ByteArray) (m : Nat) (h1 : -9223372036854775808 ≤ i) (h2 : i ≤ 9223372036854775807) (h3 : f < 18446744073709551616) (h4 : t.size ≤ 2000000) : Fits (m + 1) (.mk k b i f t [] []) :=
 ⟨⟨h1, h2, h3, h4, Nat.zero_le _, Nat.zero_le _, fun q hq => by cases hq⟩, fun x hx => by cases hx⟩
theorem fits_nrm : ∀ {m : Nat} (k : Nat) {x : JV}, Fits m x → Fits m (nrm k x)
 | 0, _, _, h => h.elim
 | m + 1, 0, _, h => h
 | m + 1, k + 1, x, h => by
  obtain ⟨⟨h1, h2, h3, h4, h5, h6, h7⟩, h8⟩ := h; have hz : (⟨#[]⟩ : ByteArray).size ≤ 2000000 := Nat.zero_le _; unfold nrm
  split
  · exact fits_nil _ _ _ _ _ _ (by omega) (by omega) (by omega) hz
  split
  · exact fits_nil _ _ _ _ _ _ h1 h2 (by omega) hz
  split
  · exact fits_nil _ _ _ _ _ _ (by omega) (by omega) h3 hz
  split
  · exact fits_nil _ _ _ _ _ _ (by omega) (by omega) (by omega) h4
  split
  · refine ⟨⟨by show -9223372036854775808 ≤ (0 : Int); omega, by show (0 : Int) ≤ 9223372036854775807; omega, by show (0 : Nat) < _; omega, hz, Nat.zero_le _, by show (x.l.map (nrm k)).length ≤ _; rw [List.length_map]; exact h6, fun q hq => by cases hq⟩, fun y hy => ?_⟩
    obtain ⟨z, hz1, rfl⟩ := List.mem_map.1 hy; exact fits_nrm k (h8 z hz1)
  split
  · refine ⟨⟨by show -9223372036854775808 ≤ (0 : Int); omega, by show (0 : Int) ≤ 9223372036854775807; omega, by show (0 : Nat) < _; omega, hz, h5, by show (x.l.map (nrm k)).length ≤ _; rw [List.length_map]; exact h6, h7⟩, fun y hy => ?_⟩
    obtain ⟨z, hz1, rfl⟩ := List.mem_map.1 hy; exact fits_nrm k (h8 z hz1)
  · exact fits_nil _ _ _ _ _ _ (by omega) (by omega) (by omega) hz
theorem f64_lt (i : Int) (h0 : -9223372036854775808 ≤ i) (h1 : i ≤ 9223372036854775807) : F64 i < 18446744073709551616 := by
 by_cases hz : i = 0
 · subst hz; unfold F64; decide
 ·
  obtain ⟨F, r, hF, e⟩ := int_flt i hz (by omega); have hs := hF.small (by omega); unfold F64; rw [e]; have : r + (F + 1022).toNat * 2 ^ 52 < 9223372036854775808 := hs
  split <;> omega
theorem fits_flo : ∀ {m : Nat} (k : Nat) {x : JV}, Fits m x → Fits m (flo F64 k x)
 | 0, _, _, h => h.elim
 | m + 1, 0, _, h => h
 | m + 1, k + 1, x, h => by
  obtain ⟨⟨h1, h2, h3, h4, h5, h6, h7⟩, h8⟩ := h; rw [flo_eq]
  split
  · exact fits_nil _ _ _ _ _ _ (by omega) (by omega) (f64_lt _ h1 h2) (Nat.zero_le _)
  · refine ⟨⟨h1, h2, h3, h4, h5, by show (x.l.map (flo F64 k)).length ≤ _; rw [List.length_map]; exact h6, h7⟩, fun y hy => ?_⟩
    obtain ⟨z, hz1, rfl⟩ := List.mem_map.1 hy; exact fits_flo k (h8 z hz1)
theorem fits_tab {m : Nat} {K : List (ByteArray × JV)} (h : ∀ q ∈ K, q.1.size ≤ 2000000 ∧ Fits m q.2) (hl : K.length ≤ 2000000) : Fits (m + 1) (tabJV K) := by
 refine ⟨⟨by show -9223372036854775808 ≤ (0 : Int); omega, by show (0 : Int) ≤ 9223372036854775807; omega, by show (0 : Nat) < _; omega, Nat.zero_le _, by show (K.map (·.1)).length ≤ _; rw [List.length_map]; exact hl, by show (K.map (·.2)).length ≤ _; rw [List.length_map]; exact hl, fun q hq => ?_⟩, fun x hx => ?_⟩
 · obtain ⟨p, hp, rfl⟩ := List.mem_map.1 hq
   exact (h p hp).1
 · obtain ⟨p, hp, rfl⟩ := List.mem_map.1 hx
   exact (h p hp).2
theorem fits_prs {m : Nat} {v : JV} (h : Fits (m + 1) v) : ∀ q ∈ prs v, q.1.size ≤ 2000000 ∧ Fits m q.2 := fun q hq => by
 obtain ⟨h1, h2⟩ := List.of_mem_zip hq; exact ⟨h.1.2.2.2.2.2.2 _ h1, h.2 _ h2⟩
theorem fits_short : ∀ {n c m : Nat} {v : JV}, RightC n v c → Fits m v → Short n v
 | 0, _, _, _, h, _ => h.elim
 | n + 1, _, 0, _, _, h => h.elim
 | n + 1, c, m + 1, v, ⟨q1, q2, h⟩, ⟨hf, h8⟩ => by
  refine ⟨fun q hq => by have := hf.2.2.2.2.2.2 q hq; omega, fun x hx => ?_⟩; rcases h with ⟨h, _⟩ | ⟨h, _, _⟩ | ⟨_, m', _, hl⟩
  · rw [q1 (by omega)] at hx; cases hx
  · rw [q1 (by omega)] at hx; cases hx
  · obtain ⟨a, h4, _⟩ := hl.mem x hx
    exact fits_short h4 (h8 x hx)
theorem fits_ints : ∀ {n c m : Nat} {v : JV}, RightC n v c → Fits m v → Ints n v
 | 0, _, _, _, h, _ => h.elim
 | n + 1, _, 0, _, _, h => h.elim
 | n + 1, c, m + 1, v, ⟨q1, q2, h⟩, ⟨hf, h8⟩ => by
  refine ⟨⟨hf.1, hf.2.1, hf.2.2.1⟩, fun x hx => ?_⟩; rcases h with ⟨h, _⟩ | ⟨h, _, _⟩ | ⟨_, m', _, hl⟩
  · rw [q1 (by omega)] at hx; cases hx
  · rw [q1 (by omega)] at hx; cases hx
  · obtain ⟨a, h4, _⟩ := hl.mem x hx
    exact fits_ints h4 (h8 x hx)
theorem deep_right {w : World} : ∀ {n c d : Nat} {v : JV} {kp lp : Option Addr}, RightC n v c → Deep d w v kp lp → Deep n w v kp lp
 | 0, _, _, _, _, _, h, _ => h.elim
 | n + 1, _, 0, _, _, _, _, h => h.elim
 | n + 1, c, d + 1, v, kp, lp, ⟨q1, q2, h⟩, ⟨hk, hl⟩ => by
  refine ⟨hk, ?_⟩; by_cases hv : v.l = []
  · exact Or.inl hv
  rcases hl with hl | ⟨g, o, h1, h2⟩
  · exact Or.inl hl
  ·
   refine Or.inr ⟨g, o, h1, fun i hi => ?_⟩; obtain ⟨a, b, e, f, h3, h4⟩ := h2 i hi; rcases h with ⟨h, _⟩ | ⟨h, _, _⟩ | ⟨_, m', _, hl⟩
   · exact absurd (q1 (by omega)) hv
   · exact absurd (q1 (by omega)) hv
   · obtain ⟨a', h5, _⟩ := hl.mem v.l[i] (List.getElem_mem hi)
     exact ⟨a, b, e, f, h3, deep_right h5 h4⟩
theorem right_table_parts {n c : Nat} {v : JV} (h : RightC (n + 1) v c) (hk : v.kind = 7) : Rise v.ks ∧ v.ks.length = v.l.length ∧ v.l.length ≤ c ∧ ∀ x ∈ v.l, ∃ a, a ≤ c ∧ RightC n x a := by
 obtain ⟨_, _, h⟩ := h; rcases h with ⟨h, _⟩ | ⟨h, _, _⟩ | ⟨h | ⟨_, h1, h2⟩, m, hc, hl⟩
 · omega
 · omega
 · omega
 · refine ⟨h1, h2, by have := hl.len; omega, fun x hx => ?_⟩
   obtain ⟨a, h4, h5⟩ := hl.mem x hx; exact ⟨a, by omega, h4⟩
theorem told_prs {n : Nat} {v : JV} (hk : v.kind = 7) : prs (flo F64 (n + 1) v) = told n v := by
 rw [flo_eq, if_neg (by omega)]; rfl
end
section
open Go.RowKit
def awS : ByteArray := ⟨#[97, 61, 91, 110, 117, 108, 108, 93]⟩
def awN : JV := .mk 0 false 0 0 ⟨#[]⟩ [] []
def awL : JV := .mk 6 false 0 0 ⟨#[]⟩ [] [awN]
def awK : ByteArray := ⟨#[97]⟩
theorem aw_bt (k : Nat) : bt awS k = [97, 61, 91, 110, 117, 108, 108, 93].getD k 0 := by
 unfold bt awS
 show (([97, 61, 91, 110, 117, 108, 108, 93] : List UInt8).getD k 0).toNat = _
 rcases k with _ | _ | _ | _ | _ | _ | _ | _ | k <;> rfl
theorem aw_line : LineAt numSem (bt awS) 2 0 awS.size [(awK, awL)] := by
 show PairAt numSem (bt awS) 2 0 8 awK awL
 refine ⟨1, 2, 8, [97], ⟨1, ⟨Or.inl (by decide), Or.inl ⟨by decide, by decide, by decide, by decide, by decide, ?_, by decide⟩⟩, rfl⟩, by decide, by rw [aw_bt]; rfl, ⟨by omega, fun k h1 h2 => by omega⟩, ?_, ⟨by omega, fun k h1 h2 => by omega⟩⟩
 · intro k hk
   have hk : k < 1 := hk; obtain rfl : k = 0 := by omega
   rw [aw_bt]; rfl
 ·
  refine Or.inr (Or.inr (Or.inr (Or.inr (Or.inr (Or.inl ⟨7, by rw [aw_bt]; rfl, by rw [aw_bt]; rfl, rfl, Or.inr ?_, rfl⟩))))); refine ⟨3, 7, ⟨by omega, fun k h1 h2 => by omega⟩, Or.inl ⟨?_, rfl, rfl⟩, ⟨by omega, fun k h1 h2 => by omega⟩⟩; intro k hk; have hk : k < 4 := hk; rw [aw_bt]; rcases k with _ | _ | _ | _ | k
  · rfl
  · rfl
  · rfl
  · rfl
  · omega
theorem aw_brk : Brk (bt awS) awS.size := by
 intro a k h1 h2 h3 h4 h5 h6; have h2 : k ≤ 8 := h2; have ha : a = 2 := by
  rw [aw_bt] at h3; rcases a with _ | _ | _ | _ | _ | _ | _ | _ | a
  · simp at h3
  · simp at h3
  · rfl
  · simp at h3
  · simp at h3
  · simp at h3
  · simp at h3
  · simp at h3
  · omega
 subst ha; rcases Nat.lt_or_ge 3 k with hk | hk
 · have := h5 3 (by omega) hk
   rw [aw_bt] at this; unfold plc at this; simp at this
 · omega
theorem aw_right : RightC 3 awL 2 := by
 refine ⟨fun h => by simp [awL, JV.kind] at h, fun _ => rfl, Or.inr (Or.inr ⟨Or.inl rfl, 1, rfl, 1, 0, ?_, rfl, rfl⟩)⟩; exact ⟨fun _ => rfl, fun _ => rfl, Or.inl ⟨Or.inl rfl, rfl⟩⟩
theorem aw_empty : RightC 2 (tabJV []) 1 := ⟨fun h => by simp [tabJV, JV.kind] at h, fun h => absurd rfl h, Or.inr (Or.inr ⟨Or.inr ⟨rfl, List.Pairwise.nil, rfl⟩, 0, rfl, rfl⟩)⟩
def awJ : JV := nrm 4 (tabJV [(awK, awL)])
set_option maxRecDepth 100000 in
set_option maxHeartbeats 2000000 in
theorem awake_is (w : World) (hE : Env w) : Calls Tryz.prog 8 #[] w fun e w' => e = .returned (.bool true) ∧ Kp [] w w' := by
 have hcall := pji_is 1 0 2 3 400 w (tabJV []) none none 0 0 1 awS [(awK, awL)] rfl aw_empty ⟨(fun q hq => by cases hq), (fun x hx => by cases hx)⟩ ⟨Or.inl rfl, Or.inl rfl⟩ (by omega) (by omega) (by decide) aw_brk hE aw_line
  (by intro q hq; obtain rfl := List.mem_singleton.1 hq; exact ⟨by decide, by decide⟩) (by omega) (by omega) (by omega) (by decide) (by omega) (by intro q hq; cases hq) (by intro q hq; obtain rfl := List.mem_singleton.1 hq; exact ⟨2, by omega, aw_right⟩) (by decide) List.Pairwise.nil
 have hput : putAll ((tabJV []).ks.zip (tabJV []).l) [(awK, awL)] = [(awK, awL)] := rfl; rw [hput] at hcall; have HC := hid hcall; clear hcall hput hE; unfold valOf tabJV awS at HC; go_enter Tryz.func8, Tryz.ntmps8
 go_wp2_with fail
 refine HC.out.mono ?_
 rintro e1 w1 ⟨kp, kc, lp, lc, he, hd, hk⟩
 obtain ⟨g, o, hlp, kp2, kc2, lp2, lc2, d0, d6⟩ : ∃ (g o : Nat), lp = some ⟨g, o, none⟩ ∧ ∃ (kp2 : Option Addr) (kc2 : Nat) (lp2 : Option Addr) (lc2 : Nat), w1.cell? ⟨g, o, none⟩ = some (.int .i64 6) ∧ w1.cell? ⟨g, o + 6, none⟩ = some (.slice lp2 1 lc2) := by
  rcases hd.2 with h | ⟨g, o, h, _, _, hc⟩
  · have := congrArg List.length h
    exact absurd (show (1 : Nat) = 0 from this) (by decide)
  · obtain ⟨a, b, c, d, h5, _⟩ := hc 0 (show 0 < 1 by decide)
    have h0 := h5.1; have h6 := h5.2.2.2.2.2.2; rw [Nat.zero_mul, Nat.add_zero] at h0 h6; exact ⟨g, o, h, a, b, c, d, h0, h6⟩
 subst hlp; have he2 : e1 = .returned (.tuple #[.agg #[.int .i64 7, .bool false, .int .i64 0, .float .f64 0, .string ⟨#[]⟩, .slice kp 1 kc, .slice (some ⟨g, o, none⟩) 1 lc], .int .i64 0]) := he; have hcopy := copy_kp' w1 #[.int .i64 7, .bool false, .int .i64 0, .float .f64 0, .string ⟨#[]⟩, .slice kp 1 kc, .slice (some ⟨g, o, none⟩) 1 lc] #[.int .i64 0, .bool false, .int .i64 0, .float .f64 0, .string ⟨#[]⟩, .slice none 0 0, .slice none 0 0]
 have hbx : ((w1.alloc (.cells #[.int .i64 0, .bool false, .int .i64 0, .float .f64 0, .string ⟨#[]⟩, .slice none 0 0, .slice none 0 0] 26)).setRow w1.heap.size #[.int .i64 7, .bool false, .int .i64 0, .float .f64 0, .string ⟨#[]⟩, .slice kp 1 kc, .slice (some ⟨g, o, none⟩) 1 lc]).heap[w1.heap.size]? = some (.cells #[.int .i64 7, .bool false, .int .i64 0, .float .f64 0, .string ⟨#[]⟩, .slice kp 1 kc, .slice (some ⟨g, o, none⟩) 1 lc] 26 (0, 0)) := setRow_heap _ _ _ _ 26 _ (heap_alloc_new _ _); have HK := hid (hk.trans hcopy); subst he2; clear he hd hk HC
 go_upto_region 2 with (refine wpList_store_row rfl 26 _ _ rfl w1.heap.size #[.int .i64 7, .bool false, .int .i64 0, .float .f64 0, .string ⟨#[]⟩, .slice kp 1 kc, .slice (some ⟨g, o, none⟩) 1 lc] ?_ ?_ 26 #[.int .i64 0, .bool false, .int .i64 0, .float .f64 0, .string ⟨#[]⟩, .slice none 0 0, .slice none 0 0] ?_ ?_ ?_ ?_ ?_; go_must (rfl); go_must (rfl); go_must (exact heap_alloc_new _ _); go_must (kernel_rfl); go_must (rfl); go_must (simp [Value.oneCell']))
 generalize hW : World.setRow _ _ _ = w3 at *; have b5 : w3.cell? ⟨w1.heap.size, 5, none⟩ = some (.slice kp 1 kc) := by simp [World.cell?, hbx]
 have b6 : w3.cell? ⟨w1.heap.size, 6, none⟩ = some (.slice (some ⟨g, o, none⟩) 1 lc) := by simp [World.cell?, hbx]
 have d0 := cell_kp d0 hcopy; have d6 := cell_kp d6 hcopy; clear hW hcopy hbx; go_wp2_with fail
 go_ret; exact ⟨rfl, HK.out⟩
end
end Go.Proofs.YtljaoopfomcaoaaGreatDoor
