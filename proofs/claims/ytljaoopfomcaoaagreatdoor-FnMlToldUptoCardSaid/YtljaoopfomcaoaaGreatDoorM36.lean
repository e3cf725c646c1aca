import Derived.Test.YtljaoopfomcaoaaGreatDoorM35
set_option linter.all false
open Go.Lib (hid)
namespace Go.Proofs.YtljaoopfomcaoaaGreatDoor
section
open Go.RowKit
structure ALi (n : Nat) (w : World) (nb bx tot : Nat) (v : JV) (kp : Option Addr) (kc : Nat) (lp : Option Addr) (lc : Nat) (i : Nat) (l : Value) (xs : List Value) (k c : Nat) (wr : World) : Prop where
 own : wr.ownsRow w.heap.size 20 1 l i xs
 reps : ∀ j (_ : j < i) (hx : j < xs.length) (hl : j < v.l.length), AnyRep n (Fl w wr l) wr xs[j] v.l[j]
 kp' : Kp [nb] w wr
 cnt : CntAt wr nb k
 rem : RightL (RightC n) (v.l.drop i) c
 tot' : k + c = tot
 box : BxAt wr bx v kp kc lp lc
theorem ALi.next {n : Nat} {w : World} {nb bx tot : Nat} {v : JV} {kp : Option Addr} {kc : Nat} {lp : Option Addr} {lc i : Nat} {l l' x : Value} {xs : List Value} {k c a : Nat} {wr w3 w4 w5 : World} {o : Obj}
  (h : ALi n w nb bx tot v kp kc lp lc i l xs k c wr) (hi : i < v.l.length) (hnb : nb < w.heap.size) (hbx : w.heap.size ≤ bx) (hbx2 : some bx ≠ l.ownBlock) (k3 : Kp [] wr w3) (k4 : Kp [nb] w3 w4) (hx : AnyRep n (Made w3 w4) w4 x v.l[i]) (hc : CntAt w4 nb ((k + a : Nat) : Int))
  (hr : RightL (RightC n) (v.l.drop (i + 1)) (c - a)) (hac : a ≤ c) (ho : w5.ownsRow w.heap.size 20 1 l' (i + 1) (xs ++ [x])) (hg : (w4.alloc o).grownBy w5 l.ownBlock) (hl : l'.ownBlock = l.ownBlock ∨ l'.ownBlock = some (w4.alloc o).heap.size) :
  ALi n w nb bx tot v kp kc lp lc (i + 1) l' (xs ++ [x]) (k + a) (c - a) w5 := by
 have s3 := k3.size; have s4 := k4.size; have s5 := hg.size; have sa : (w4.alloc o).heap.size = w4.heap.size + 1 := by simp
 have sw := h.kp'.size; have hlo : ∀ g', l.ownBlock = some g' → w.heap.size ≤ g' ∧ g' < wr.heap.size := fun g' e => h.own.lt g' e
 have blk : ∀ g, g < w4.heap.size → some g ≠ l.ownBlock → w5.heap[g]? = w4.heap[g]? := fun g h1 h2 => by
  rw [hg.block g (by omega) h2, Below.heap_alloc _ _ _ h1]
 have hnbl : some nb ≠ l.ownBlock := fun e => by have := (hlo nb e.symm).1; omega
 have hlen : xs.length = i := by have := h.own.1; omega
 refine ⟨ho, ?_, ?_, ?_, hr, by have := h.tot'; omega, ?_⟩
 ·
  intro j hj hjx hjl; by_cases hji : j < i
  ·
   have e : (xs ++ [x])[j] = xs[j]'(by omega) := List.getElem_append_left (by omega); rw [e]; refine (h.reps j hji (by omega) hjl).keep (by omega) ?_
   rintro g ⟨ga, gb, gc⟩ gs
   refine ⟨⟨ga, by omega, ?_⟩, ?_⟩
   · rcases hl with hl | hl
     · rw [hl]; exact gc
     · rw [hl]; intro e; have := Option.some.inj e; omega
   · rw [blk g (by omega) gc, k4.block g (by omega) (by simp; omega), k3.block g gs (by simp)]
  ·
   obtain rfl : j = i := by omega
   have e : (xs ++ [x])[j] = x := by rw [List.getElem_append_right (by omega)]; simp [hlen]
   rw [e]; refine hx.keep (by omega) ?_
   rintro g ⟨ga, gb⟩ gs
   have gc : some g ≠ l.ownBlock := fun e => by have := (hlo g e.symm).2; omega
   refine ⟨⟨by omega, by omega, ?_⟩, blk g gb gc⟩; rcases hl with hl | hl
   · rw [hl]; exact gc
   · rw [hl]; intro e; have := Option.some.inj e; omega
 · refine ⟨hg.os.trans (k4.os.trans (k3.os.trans h.kp'.os)), hg.tape.trans (k4.tape.trans (k3.tape.trans h.kp'.tape)), hg.output.trans (k4.output.trans (k3.output.trans h.kp'.output)), by omega, fun g h1 h2 => ?_⟩
   have gc : some g ≠ l.ownBlock := fun e => by have := (hlo g e.symm).1; omega
   rw [blk g (by omega) gc, k4.block g (by omega) h2, k3.block g (by omega) (by simp), h.kp'.block g h1 h2]
 · unfold CntAt
   rw [blk nb (by omega) hnbl]; exact hc
 · have hb := h.box.lt
   unfold BxAt; rw [blk bx (by omega) hbx2, k4.block bx (by omega) (by simp; omega), k3.block bx hb (by simp)]; exact h.box
theorem bx_ne {w : World} {B n bx : Nat} {l : Value} {xs : List Value} {v : JV} {kp : Option Addr} {kc : Nat} {lp : Option Addr} {lc : Nat} (h : w.ownsRow B 20 1 l n xs) (hb : BxAt w bx v kp kc lp lc) : some bx ≠ l.ownBlock := by
 rcases h.2 with ⟨rfl, _⟩ | ⟨g, cap, cur, rfl, _, hh, _⟩
 · simp [Value.ownBlock]
 ·
  intro e; simp [Value.ownBlock] at e; subst e; rw [show w.heap[bx]? = _ from hb] at hh
  injection hh with hh
  injection hh with _ e _
  exact absurd e (by decide)
theorem anys_new (w w1 : World) (h : w.heap.size ≤ w1.heap.size) : (w1.alloc (.cells #[] 20)).ownsRow w.heap.size 20 1 (.slice (some ⟨w1.heap.size, 0, none⟩) 0 0) 0 [] :=
 ⟨rfl, Or.inr ⟨w1.heap.size, 0, #[], rfl, h, by show (w1.heap.push _)[w1.heap.size]? = _; simp, Nat.le_refl _, by unfold maxLen; omega, rfl, rfl⟩⟩
theorem ALi.done {n : Nat} {w : World} {nb bx tot : Nat} {v : JV} {kp : Option Addr} {kc : Nat} {lp : Option Addr} {lc : Nat} {l : Value} {xs : List Value} {k c : Nat} {wr : World}
  (h : ALi n w nb bx tot v kp kc lp lc v.l.length l xs k c wr) (hk : v.kind = 6) : AnyRep (n + 1) (Made w wr) wr (.iface 85 l) v := by
 obtain ⟨o1, o2⟩ := h.own; refine Or.inr (Or.inr (Or.inr (Or.inr (Or.inr (Or.inl ⟨hk, ?_⟩))))); rcases o2 with ⟨rfl, hn⟩ | ⟨g, cap, cur, rfl, hg, hh, _, _, hsz, ht⟩
 · have hv : v.l = [] := List.length_eq_zero_iff.1 hn
   exact ⟨none, 0, by rw [hn], Or.inl hv⟩
 ·
  refine ⟨some ⟨g, 0, none⟩, cap, rfl, Or.inr ⟨g, rfl, ⟨hg, lt_of_block hh⟩, lt_of_block hh, ?_⟩⟩; intro i hi; have hix : i < xs.length := by omega
  refine ⟨xs[i], ?_, (h.reps i hi hix hi).keep (Nat.le_refl _) fun g' ⟨h1, h2, _⟩ _ => ⟨⟨h1, h2⟩, rfl⟩⟩; simp only [World.cell?, hh]; simp only [Option.isSome_none, Bool.false_eq_true, if_false]; have e : cur[i]? = xs[i]? := by
   rw [← ht, List.getElem?_take, if_pos (by omega), Array.getElem?_toList]
  rw [e, List.getElem?_eq_getElem hix]
set_option maxRecDepth 100000 in
set_option maxHeartbeats 2000000 in
theorem any_list (n : Nat) (IH : AnyDoes n) (d : Nat) (w0 w : World) (nb k c dep : Nat) (v : JV) (kp lp : Option Addr) (kc lc : Nat) (hk : v.kind = 6) (hR : RightL (RightC n) v.l c) (hS : ∀ x ∈ v.l, Short n x) (hd : Deep (d + 1) w0 v kp lp) (hk0 : Kp [] w0 w) (hnb : w0.heap.size ≤ nb) (hc : CntAt w nb k) (hk2 : k + (1 + c) ≤ 2000) (hdep : dep + (n + 1) ≤ 61) :
  Calls Tryz.prog 37 #[valOf v kp kc lp lc, .int .i64 dep, .pointer (some ⟨nb, 0, none⟩)] w (AnyPost (n + 1) w nb k (1 + c) v) := by
 have k1 : decide ((dep : Int) > 60) = false := by rw [decide_eq_false_iff_not]; omega
 have k2 : decide ((k : Int) + 1 > 2000) = false := by rw [decide_eq_false_iff_not]; omega
 have hlt := hc.lt; have hcount : v.l.length ≤ 2000 := by
  have : ∀ (l : List JV) (c : Nat), RightL (RightC n) l c → l.length ≤ c := by
   intro l
   induction l with
   | nil => intro c _; simp
   | cons x r ih =>
    rintro c ⟨a, b, h1, h2, e⟩
    have h3 := ih b h2; have h4 : 1 ≤ a := by
     cases n with
     | zero => exact h1.elim
     | succ n =>
      obtain ⟨_, _, h⟩ := h1; rcases h with ⟨_, h⟩ | ⟨_, _, h⟩ | ⟨_, m, h, _⟩ <;> omega
    simp; omega
  have := this v.l c hR; omega
 obtain ⟨hks, hdl⟩ := hd; have HDl := hid hdl; have HR := hid hR; have HS := hid hS; clear hS; have HIH := hid IH; have HK0 := hid hk0; have HIn := hid (any_in w nb k v kp kc lp lc hc); have hc1 : CntAt (w.alloc (.cells #[.int .i64 v.kind, .bool v.b, .int .i64 v.i, .float .f64 v.f, .string v.t, .slice kp v.ks.length kc, .slice lp v.l.length lc] 26)) nb k := hc.kp (S := []) ((Kp.refl _ _).alloc _) (by simp); have c0 := hc1.c0; have f0 := hc1.fr; clear hc1 hc hks hdl hR IH hk0; unfold valOf; generalize hvk : v.kind = K at *; have HKd := hid hvk; clear hvk; subst hk; obtain ⟨i0, hi0, hz0, hz1, hz2⟩ := info_parts info20; go_enter Tryz.func37, Tryz.ntmps37
 go_upto_region 2 with fail
 generalize hW : World.alloc (World.setCell _ _ _) _ = w1 at *; clear c0 f0 hW; have c0 := HIn.out.cnt.c0; have b0 := HIn.out.box.c0; rw [HKd.out] at b0; have b6 := HIn.out.box.c6; have hbl1 := HIn.out.box.lt; have hs1 := HIn.out.kp'.size; have HBe := hid (show w.heap.size = w.heap.size from rfl); obtain ⟨bx, hbx⟩ : ∃ bx, w.heap.size = bx := ⟨_, rfl⟩; have hown0 := anys_new w w1 hs1; have hkp1 : Kp [] w1 (w1.alloc (.cells #[] 20)) := (Kp.refl _ _).alloc _; have hst : ALi n w nb w.heap.size (k + 1 + c) v kp kc lp lc 0 (.slice (some ⟨w1.heap.size, 0, none⟩) 0 0) [] (k + 1) c (w1.alloc (.cells #[] 20)) :=
  ⟨hown0, fun j h => absurd h (Nat.not_lt_zero j), HIn.out.kp'.trans (hkp1.mono (fun _ _ h => by simp at h)), by have h := HIn.out.cnt.kp hkp1 (by simp); rw [show ((k + 1 : Nat) : Int) = (k : Int) + 1 from by push_cast; rfl]; exact h, by simpa using HR.out, rfl, HIn.out.box.keep hkp1 (by simp)⟩
 have HSt := hid hst; clear hown0 hkp1 hst hbx HBe; go_wp2_with fail
 generalize hw2 : w1.alloc (.cells #[] 20) = w2 at *; clear hw2; go_loopw [8, 10, 11, 12, 61] (fun s8 s10 s11 s12 s61 wx => ∃ (i k' c' : Nat) (xs : List Value), s61 = .int .i64 (i : Int) ∧ i ≤ v.l.length ∧ ALi n w nb w.heap.size (k + 1 + c) v kp kc lp lc i s8 xs k' c' wx) (fun _ _ _ _ s61 _ => v.l.length - (intOf s61).toNat)
 case atStart => exact ⟨0, k + 1, c, [], rfl, Nat.zero_le _, HSt.out⟩
 case round =>
  obtain ⟨i, k', c', xs, rfl, hi, hI⟩ := hrel; have HI := hid hI; clear hI HSt c0 b0 b6; by_cases hil : i < v.l.length
  ·
   have q1 : decide ((i : Int) < (v.l.length : Int)) = true := by rw [decide_eq_true_eq]; omega
   rcases HDl.out with h0 | ⟨g, o, hlp, hcs⟩
   · rw [h0] at hil; simp at hil
   obtain ⟨kp', kc', lp', lc', ⟨a0, a1, a2, a3, a4, a5, a6⟩, hdeep⟩ := hcs i hil; have hkw : Kp [] w0 wr := HK0.out.over HI.out.kp' (by simp; exact hnb); have d0 := cell_kp a0 hkw; have d1 := cell_kp a1 hkw; have d2 := cell_kp a2 hkw; have d3 := cell_kp a3 hkw; have d4 := cell_kp a4 hkw; have d5 := cell_kp a5 hkw; have d6 := cell_kp a6 hkw; have HDeep := hid hdeep; have HKw := hid hkw; clear a0 a1 a2 a3 a4 a5 a6 hcs hdeep hkw; subst hlp; obtain ⟨x, hx⟩ : ∃ x, x = v.l[i] := ⟨_, rfl⟩; have HX := hid hx; rw [← hx] at d0 d1 d2 d3 d4 d5 d6 HDeep; clear hx; obtain ⟨a, cr, hra, hrr, hca⟩ : ∃ a cr, RightC n x a ∧ RightL (RightC n) (v.l.drop (i + 1)) cr ∧ c' = a + cr := by
    have h := HI.out.rem; rw [List.drop_eq_getElem_cons hil, ← HX.out] at h; exact h
   have htot := HI.out.tot'; have HRa := hid hra; have HRr := hid hrr; have hil63 : (i : Int) + 1 ≤ 3000 := by omega
   clear hra hrr; go_upto_region 20 with (refine wpList_store_row rfl 26 _ _ rfl wr.heap.size #[.int .i64 x.kind, .bool x.b, .int .i64 x.i, .float .f64 x.f, .string x.t, .slice kp' x.ks.length kc', .slice lp' x.l.length lc'] ?_ ?_ 26 #[.int .i64 0, .bool false, .int .i64 0, .float .f64 0, .string ⟨#[]⟩, .slice none 0 0, .slice none 0 0] ?_ ?_ ?_ ?_ ?_; go_must (rfl); go_must (rfl); go_must (exact heap_alloc_new _ _); go_must (kernel_rfl); go_must (rfl); go_must (simp [Value.oneCell']))
   have hcopy := copy_kp' wr #[.int .i64 x.kind, .bool x.b, .int .i64 x.i, .float .f64 x.f, .string x.t, .slice kp' x.ks.length kc', .slice lp' x.l.length lc'] #[.int .i64 0, .bool false, .int .i64 0, .float .f64 0, .string ⟨#[]⟩, .slice none 0 0, .slice none 0 0]; have hbx2 : BxAt ((wr.alloc (.cells #[.int .i64 0, .bool false, .int .i64 0, .float .f64 0, .string ⟨#[]⟩, .slice none 0 0, .slice none 0 0] 26)).setRow wr.heap.size #[.int .i64 x.kind, .bool x.b, .int .i64 x.i, .float .f64 x.f, .string x.t, .slice kp' x.ks.length kc', .slice lp' x.l.length lc']) wr.heap.size x kp' kc' lp' lc' := setRow_heap _ _ _ _ 26 _ (heap_alloc_new _ _); generalize hW : World.setRow _ _ _ = w3 at *; have HCp := hid hcopy; have e0 := hbx2.c0; have e1 := hbx2.c1; have e2 := hbx2.c2; have e3 := hbx2.c3; have e4 := hbx2.c4; have e5 := hbx2.c5; have e6 := hbx2.c6
   have hc := HIH.out d w0 w3 nb k' a (dep + 1) x kp' lp' kc' lc' HRa.out (by rw [HX.out]; exact HS.out _ (List.getElem_mem hil)) HDeep.out (HKw.out.trans hcopy) hnb (HI.out.cnt.kp hcopy (by simp)) (by omega) (by omega); rw [show ((dep + 1 : Nat) : Int) = (dep : Int) + 1 from by push_cast; rfl] at hc; have HC := hid hc; clear d0 d1 d2 d3 d4 d5 d6 hW hcopy hbx2 hc; go_wp2_with fail
   refine HC.out.mono ?_
   rintro e7 w4 ⟨y, rfl, hy, hc4, hk4⟩
   have HY := hid hy; have HC4 := hid hc4; have HK4 := hid hk4; have hown4 : w4.ownsRow w.heap.size 20 1 _ i xs := own_kp (own_kp HI.out.own HCp.out (by simp)) hk4 (by simp; omega); have HO4 := hid hown4; have hkw4 : Kp [nb] w w4 := (HI.out.kp'.trans (HCp.out.mono (fun _ _ h => by simp at h))).trans hk4; have HKw4 := hid hkw4; clear e0 e1 e2 e3 e4 e5 e6 hy hc4 hk4 HC hown4 hkw4; have hil2 : i ≤ 3000 := by omega
   rcases HY.out.form with hyf | ⟨ty, yy, hyf⟩; all_goals
    subst hyf; go_wp2_with (at_builtin; go_must (refine wp_append_at rfl _ _ 85 rfl w [nb] 20 i0 .nilIface 1 16 Tryz.underlying85 hi0 hz0 hz1 hz2 rfl (by decide) _ i xs rfl (HO4.out.alloc _) ⟨w4.heap.size, 0, none⟩ 1 _ (by decide) [_] rfl rfl (one_new _ _ _ _) (by intro u' hu'; simp at hu'; subst hu'; rfl) (by unfold maxLen; omega) (by omega) (HKw4.out.alloc _) ?_); intro l5 w5 ho5 hk5 hg5 hl5; have HO5 := hid ho5; have HG5 := hid hg5; have HL5 := hid hl5; clear ho5 hk5 hg5 hl5)
    go_roundw
    case measure => simp [intOf]; omega
    case rel => exact ⟨i + 1, k' + a, c' - a, xs ++ [_], by push_cast; rfl, by omega, HI.out.next hil hlt (Nat.le_refl _) (bx_ne HI.out.own HI.out.box) HCp.out HK4.out (by have h := HY.out; rw [HX.out] at h; exact h) HC4.out (by rw [show c' - a = cr from by omega]; exact HRr.out) (by omega) HO5.out HG5.out HL5.out⟩
  ·
   obtain rfl : i = v.l.length := by omega
   have q1 : decide ((v.l.length : Int) < (v.l.length : Int)) = false := by simp
   go_wp2_with fail
   go_ret2
   refine ⟨_, rfl, HI.out.done HKd.out, ?_, HI.out.kp'⟩; have h := HI.out.cnt; have hr := HI.out.rem; rw [List.drop_length] at hr; have hr0 : c' = 0 := hr; have ht := HI.out.tot'; rw [show k + (1 + c) = k' from by omega]; exact h
end
section
open Go.RowKit
theorem rise_next {ks : List ByteArray} (h : Rise ks) (i : Nat) (hi : i + 1 < ks.length) : kb (ks[i]'(by omega)) ks[i + 1] = true := by
 unfold Rise at h; exact (List.pairwise_iff_getElem.1 h) i (i + 1) (by omega) hi (by omega)
structure AMi (n : Nat) (w : World) (nb bx tot r : Nat) (v : JV) (kp : Option Addr) (kc : Nat) (lp : Option Addr) (lc : Nat) (i : Nat) (es : List (ByteArray × Value)) (k c : Nat) (wr : World) : Prop where
 map : MapIs wr r i es
 keys : es.map (·.1) = v.ks.take i
 len : es.length = i
 reps : ∀ j (_ : j < i) (hx : j < es.length) (hl : j < v.l.length), AnyRep n (Fm w wr r) wr es[j].2 v.l[j]
 kp' : Kp [nb] w wr
 cnt : CntAt wr nb k
 rem : RightL (RightC n) (v.l.drop i) c
 tot' : k + c = tot
 box : BxAt wr bx v kp kc lp lc
 rr : w.heap.size ≤ r ∧ r < wr.heap.size
theorem AMi.next {n : Nat} {w : World} {nb bx tot r : Nat} {v : JV} {kp : Option Addr} {kc : Nat} {lp : Option Addr} {lc i : Nat} {x : Value} {es : List (ByteArray × Value)} {k c a : Nat} {wr w4 w5 : World}
  (h : AMi n w nb bx tot r v kp kc lp lc i es k c wr) (hi : i < v.l.length) (hik : i < v.ks.length) (hrise : Rise v.ks) (hnb : nb < w.heap.size) (hbx : w.heap.size ≤ bx) (k4 : Kp [nb] wr w4) (hx : AnyRep n (Made wr w4) w4 x v.l[i]) (hc : CntAt w4 nb ((k + a : Nat) : Int))
  (hr : RightL (RightC n) (v.l.drop (i + 1)) (c - a)) (hac : a ≤ c) (ho : w5.ownsMap Tryz.prog 9 RV r (i + 1) ((DataW.map (es.map entry)).put (.string v.ks[i].data.toList) (.held x))) (hg : w4.grownBy w5 (some r)) :
  AMi n w nb bx tot r v kp kc lp lc (i + 1) (es ++ [(v.ks[i], x)]) (k + a) (c - a) w5 := by
 have s4 := k4.size; have s5 := hg.size; have sw := h.kp'.size; have hrr := h.rr; have blk : ∀ g, g < w4.heap.size → g ≠ r → w5.heap[g]? = w4.heap[g]? := fun g h1 h2 => hg.block g h1 (fun e => h2 (Option.some.inj e))
 have hlen := h.len; have hput := put_last es v.ks[i] x (fun p hp => by
  have hk : p.1 ∈ v.ks.take i := by rw [← h.keys]; exact List.mem_map_of_mem hp
  unfold Rise at hrise; rw [← List.take_append_drop i v.ks, List.pairwise_append] at hrise; exact hrise.2.2 p.1 hk v.ks[i] (List.mem_iff_getElem.2 ⟨0, by simp; omega, by simp⟩))
 refine ⟨?_, ?_, by simp [hlen], ?_, ?_, ?_, hr, by have := h.tot'; omega, ?_, ⟨hrr.1, by omega⟩⟩
 · unfold MapIs
   rw [← hput]; exact ho
 · rw [List.map_append, h.keys, ← List.take_append_getElem hik]; rfl
 ·
  intro j hj hjx hjl; by_cases hji : j < i
  · have e : (es ++ [(v.ks[i], x)])[j] = es[j]'(by omega) := List.getElem_append_left (by omega)
    rw [e]; refine (h.reps j hji (by omega) hjl).keep (by omega) ?_
    rintro g ⟨ga, gb, gc⟩ gs
    exact ⟨⟨ga, by omega, gc⟩, by rw [blk g (by omega) gc, k4.block g gs (by simp; omega)]⟩
  ·
   obtain rfl : j = i := by omega
   have e : (es ++ [(v.ks[j], x)])[j] = (v.ks[j], x) := by rw [List.getElem_append_right (by omega)]; simp [hlen]
   rw [e]; refine hx.keep (by omega) ?_
   rintro g ⟨ga, gb⟩ gs
   exact ⟨⟨by omega, by omega, by omega⟩, blk g gb (by omega)⟩
 · refine ⟨hg.os.trans (k4.os.trans h.kp'.os), hg.tape.trans (k4.tape.trans h.kp'.tape), hg.output.trans (k4.output.trans h.kp'.output), by omega, fun g h1 h2 => ?_⟩
   rw [blk g (by omega) (by omega), k4.block g (by omega) h2, h.kp'.block g h1 h2]
 · unfold CntAt
   rw [blk nb (by omega) (by omega)]; exact hc
 ·
  have hb := h.box.lt; have hne : bx ≠ r := by
   rintro rfl
   obtain ⟨a', b', h1, _⟩ := h.map; rw [show wr.heap[bx]? = _ from h.box] at h1
   injection h1 with h1
   cases h1
  unfold BxAt; rw [blk bx (by omega) hne, k4.block bx (by omega) (by simp; omega)]; exact h.box
theorem AMi.done {n : Nat} {w : World} {nb bx tot r : Nat} {v : JV} {kp : Option Addr} {kc : Nat} {lp : Option Addr} {lc : Nat} {es : List (ByteArray × Value)} {k c : Nat} {wr : World}
  (h : AMi n w nb bx tot r v kp kc lp lc v.l.length es k c wr) (hk : v.kind = 7) (hkl : v.ks.length = v.l.length) : AnyRep (n + 1) (Made w wr) wr (.iface 55 (.map (some r))) v := by
 refine Or.inr (Or.inr (Or.inr (Or.inr (Or.inr (Or.inr ⟨hk, r, v.l.length, es, rfl, ⟨h.rr.1, h.rr.2⟩, h.rr.2, h.map, ?_, h.len, ?_⟩)))))
 · rw [h.keys, List.take_of_length_le (by omega)]
 · intro j hj hj'
   refine (h.reps j hj hj' hj).keep (Nat.le_refl _) ?_
   rintro g ⟨ga, gb, _⟩ _
   exact ⟨⟨ga, gb⟩, rfl⟩
def MapPost (n : Nat) (w : World) (nb : Nat) (k c : Nat) (v : JV) (e : Ending) (w' : World) : Prop :=
 ∃ (r : Nat) (es : List (ByteArray × Value)), e = .returned (.tuple #[.iface 55 (.map (some r)), .bool true]) ∧ MapIs w' r v.l.length es ∧ es.map (·.1) = v.ks ∧ es.length = v.l.length ∧
  (∀ j (hx : j < es.length) (hl : j < v.l.length), AnyRep n (Fm w w' r) w' es[j].2 v.l[j]) ∧ (w.heap.size ≤ r ∧ r < w'.heap.size) ∧ CntAt w' nb ((k + c : Nat) : Int) ∧ Kp [nb] w w'
theorem MapPost.any {n : Nat} {w : World} {nb k c : Nat} {v : JV} {e : Ending} {w' : World} (hk : v.kind = 7) (h : MapPost n w nb k c v e w') : AnyPost (n + 1) w nb k c v e w' := by
 obtain ⟨r, es, rfl, h1, h2, h3, h4, h5, h6, h7⟩ := h; refine ⟨_, rfl, Or.inr (Or.inr (Or.inr (Or.inr (Or.inr (Or.inr ⟨hk, r, v.l.length, es, rfl, h5, h5.2, h1, h2, h3, fun j hj hj' => ?_⟩))))), h6, h7⟩; refine (h4 j hj' hj).keep (Nat.le_refl _) ?_
 rintro g ⟨ga, gb, _⟩ _
 exact ⟨⟨ga, gb⟩, rfl⟩
set_option maxRecDepth 100000 in
set_option maxHeartbeats 2000000 in
theorem any_map0 (n : Nat) (IH : AnyDoes n) (d : Nat) (w0 w : World) (nb k c dep : Nat) (v : JV) (kp lp : Option Addr) (kc lc : Nat) (hk : v.kind = 7) (hrise : Rise v.ks) (hkl : v.ks.length = v.l.length) (hR : RightL (RightC n) v.l c) (hS : ∀ x ∈ v.l, Short n x) (hd : Deep (d + 1) w0 v kp lp) (hk0 : Kp [] w0 w) (hnb : w0.heap.size ≤ nb) (hc : CntAt w nb k) (hk2 : k + (1 + c) ≤ 2000) (hdep : dep + (n + 1) ≤ 61) (hksz : ∀ q ∈ v.ks, q.size ≤ 100000000) :
  Calls Tryz.prog 37 #[valOf v kp kc lp lc, .int .i64 dep, .pointer (some ⟨nb, 0, none⟩)] w (MapPost n w nb k (1 + c) v) := by
 have k1 : decide ((dep : Int) > 60) = false := by rw [decide_eq_false_iff_not]; omega
 have k2 : decide ((k : Int) + 1 > 2000) = false := by rw [decide_eq_false_iff_not]; omega
 have hlt := hc.lt; have hcount : v.l.length ≤ 2000 := by
  have : ∀ (l : List JV) (c : Nat), RightL (RightC n) l c → l.length ≤ c := by
   intro l
   induction l with
   | nil => intro c _; simp
   | cons x r ih =>
    rintro c ⟨a, b, h1, h2, e⟩
    have h3 := ih b h2; have h4 : 1 ≤ a := by
     cases n with
     | zero => exact h1.elim
     | succ n =>
      obtain ⟨_, _, h⟩ := h1; rcases h with ⟨_, h⟩ | ⟨_, _, h⟩ | ⟨_, m, h, _⟩ <;> omega
    simp; omega
  have := this v.l c hR; omega
 obtain ⟨hks, hdl⟩ := hd; have HKs := hid hks; have HRise := hid hrise; have HKl := hid hkl; clear hrise hkl; have HDl := hid hdl; have HR := hid hR; have HS := hid hS; clear hS; have HIH := hid IH; have HK0 := hid hk0; have HIn := hid (any_in w nb k v kp kc lp lc hc); have hc1 : CntAt (w.alloc (.cells #[.int .i64 v.kind, .bool v.b, .int .i64 v.i, .float .f64 v.f, .string v.t, .slice kp v.ks.length kc, .slice lp v.l.length lc] 26)) nb k := hc.kp (S := []) ((Kp.refl _ _).alloc _) (by simp); have c0 := hc1.c0; have f0 := hc1.fr; clear hc1 hc hks hdl hR IH hk0; unfold valOf; generalize hvk : v.kind = K at *; have HKd := hid hvk; clear hvk; subst hk; go_enter Tryz.func37, Tryz.ntmps37
 go_upto_region 2 with fail
 generalize hW : World.alloc (World.setCell _ _ _) _ = w1 at *; clear c0 f0 hW; have c0 := HIn.out.cnt.c0; have b0 := HIn.out.box.c0; rw [HKd.out] at b0; have b5 := HIn.out.box.c5; have b6 := HIn.out.box.c6; have hbl1 := HIn.out.box.lt; have hs1 := HIn.out.kp'.size; have hmm := @run_makeMap Tryz.prog; have hkp1 : Kp [] w1 (w1.alloc (.map #[] 0)) := (Kp.refl _ _).alloc _; have hst : AMi n w nb w.heap.size (k + 1 + c) w1.heap.size v kp kc lp lc 0 [] (k + 1) c (w1.alloc (.map #[] 0)) :=
  ⟨MapIs.new w1, rfl, rfl, fun j h => absurd h (Nat.not_lt_zero j), HIn.out.kp'.trans (hkp1.mono (fun _ _ h => by simp at h)), by have h := HIn.out.cnt.kp hkp1 (by simp); rw [show ((k + 1 : Nat) : Int) = (k : Int) + 1 from by push_cast; rfl]; exact h, by simpa using HR.out, rfl, HIn.out.box.keep hkp1 (by simp), ⟨hs1, by simp⟩⟩
 have HSt := hid hst; have hklb : ((v.ks.length : Int) != (v.l.length : Int)) = false := by rw [bne_eq_false_iff_eq, HKl.out]
 clear hkp1 hst; go_wp2_with fail
 generalize hw2 : w1.alloc (.map #[] 0) = w2 at *; generalize hrr : w1.heap.size = r at *; clear hw2; go_loopw [14, 15, 16, 17, 95] (fun s14 s15 s16 s17 s95 wx => ∃ (i k' c' : Nat) (es : List (ByteArray × Value)), s95 = .int .i64 (i : Int) ∧ i ≤ v.l.length ∧ AMi n w nb w.heap.size (k + 1 + c) r v kp kc lp lc i es k' c' wx) (fun _ _ _ _ s95 _ => v.l.length - (intOf s95).toNat)
 case atStart => exact ⟨0, k + 1, c, [], rfl, Nat.zero_le _, HSt.out⟩
 case round =>
  obtain ⟨i, k', c', es, rfl, hi, hI⟩ := hrel; have HI := hid hI; clear hI HSt c0 b0 b5 b6 hklb; by_cases hil : i < v.l.length
  ·
   have hik : i < v.ks.length := by rw [HKl.out]; exact hil
   have q1 : decide ((i : Int) < (v.ks.length : Int)) = true := by rw [decide_eq_true_eq]; omega
   rcases HDl.out with h0 | ⟨g, o, hlp, hcs⟩
   · rw [h0] at hil; simp at hil
   rcases HKs.out with h0 | ⟨gk, ok, hkp, hck⟩
   · rw [h0] at hik; simp at hik
   obtain ⟨kp', kc', lp', lc', ⟨a0, a1, a2, a3, a4, a5, a6⟩, hdeep⟩ := hcs i hil; have hkw : Kp [] w0 wr := HK0.out.over HI.out.kp' (by simp; exact hnb); have d0 := cell_kp a0 hkw; have d1 := cell_kp a1 hkw; have d2 := cell_kp a2 hkw; have d3 := cell_kp a3 hkw; have d4 := cell_kp a4 hkw; have d5 := cell_kp a5 hkw; have d6 := cell_kp a6 hkw; have dk := cell_kp (hck i hik) hkw; have HCk := hid hck; have HDeep := hid hdeep; have HKw := hid hkw; clear a0 a1 a2 a3 a4 a5 a6 hcs hdeep hkw hck; subst hlp hkp; obtain ⟨x, hx⟩ : ∃ x, x = v.l[i] := ⟨_, rfl⟩; have HX := hid hx; rw [← hx] at d0 d1 d2 d3 d4 d5 d6 HDeep; obtain ⟨ky, hky⟩ : ∃ ky, ky = v.ks[i] := ⟨_, rfl⟩; have HKy := hid hky; rw [← hky] at dk; have hkysz : ky.size ≤ maxLen := by have := hksz ky (by rw [hky]; exact List.getElem_mem hik); unfold maxLen; omega
   clear hx hky; have b6 := HI.out.box.c6; obtain ⟨a, cr, hra, hrr2, hca⟩ : ∃ a cr, RightC n x a ∧ RightL (RightC n) (v.l.drop (i + 1)) cr ∧ c' = a + cr := by
    have h := HI.out.rem; rw [List.drop_eq_getElem_cons hil, ← HX.out] at h; exact h
   have htot := HI.out.tot'; have HRr := hid hrr2; have hi63 : (i : Int) + 1 ≤ 3000 := by omega
   have hil2 : (i : Int) < (v.l.length : Int) := by omega
   have hc := HIH.out d w0 wr nb k' a (dep + 1) x kp' lp' kc' lc' hra (by rw [HX.out]; exact HS.out _ (List.getElem_mem hil)) HDeep.out HKw.out hnb HI.out.cnt (by omega) (by omega); rw [show ((dep + 1 : Nat) : Int) = (dep : Int) + 1 from by push_cast; rfl] at hc; have HC := hid hc; clear hra hrr2 hc; go_wp2_with fail
   refine HC.out.mono ?_
   rintro e7 w4 ⟨y, rfl, hy, hc4, hk4⟩
   have HY := hid hy; have HC4 := hid hc4; have HK4 := hid hk4; have hbox4 := HI.out.box.keep hk4 (by simp; omega); have b5 := hbox4.c5; have HBox4 := hid hbox4; have HM4 := hid (ownsMap_blk HI.out.map (hk4.block r HI.out.rr.2 (by have := HI.out.rr.1; simp; omega))); have HKw4 := hid (HKw.out.over hk4 (by simp; exact hnb)); clear d0 d1 d2 d3 d4 d5 d6 dk b6 hy hc4 hk4 HC hbox4; by_cases hi0 : i = 0
   · subst hi0
     go_wp2_with (at_mapUpdate; go_must (refine wpList_mapUpdate_own _ rfl _ _ _ 55 rfl 9 20 strKeyed Tryz.underlying55 RV r 0 (.map (es.map entry)) rfl HM4.out (by unfold maxLen; omega) (.string ky) _ (.string ky.data.toList) rfl rfl (keyOf_str _ hkysz) (.held y) [] rfl ?_); intro w5 ho5 hg5; have HO5 := hid ho5; have HG5 := hid hg5; clear ho5 hg5)
     go_roundw
     case measure => simp [intOf]; omega
     case rel => exact ⟨0 + 1, k' + a, c' - a, es ++ [(v.ks[0], y)], by push_cast; rfl, by omega, HI.out.next hil hik HRise.out hlt (Nat.le_refl _) HK4.out (by have h := HY.out; rw [HX.out] at h; exact h) HC4.out (by rw [show c' - a = cr from by omega]; exact HRr.out) (by omega) (by have h := HO5.out; rw [HKy.out] at h; exact h) HG5.out⟩
   ·
    obtain ⟨i', rfl⟩ : ∃ i', i = i' + 1 := ⟨i - 1, by omega⟩; have dk1 := cell_kp (HCk.out i' (by omega)) HKw4.out; have hk1b : (i' : Int) < (v.ks.length : Int) := by omega
    have q2 : decide (((i' + 1 : Nat) : Int) > 0) = true := by rw [decide_eq_true_eq]; omega
    obtain ⟨kz, hkz⟩ : ∃ kz, kz = v.ks[i'] := ⟨_, rfl⟩; rw [← hkz] at dk1; have q3 : (!Op.bytesLess kz.toList ky.toList) = false := by
     rw [less_kb, hkz, HKy.out, rise_next HRise.out i' hik]; rfl
    clear hkz; go_wp2_with (at_mapUpdate; go_must (refine wpList_mapUpdate_own _ rfl _ _ _ 55 rfl 9 20 strKeyed Tryz.underlying55 RV r (i' + 1) (.map (es.map entry)) rfl HM4.out (by unfold maxLen; omega) (.string ky) _ (.string ky.data.toList) rfl rfl (keyOf_str _ hkysz) (.held y) [] rfl ?_); intro w5 ho5 hg5; have HO5 := hid ho5; have HG5 := hid hg5; clear ho5 hg5)
    go_roundw
    case measure => simp [intOf]; omega
    case rel => exact ⟨(i' + 1) + 1, k' + a, c' - a, es ++ [(v.ks[(i' + 1)], y)], by push_cast; rfl, by omega, HI.out.next hil hik HRise.out hlt (Nat.le_refl _) HK4.out (by have h := HY.out; rw [HX.out] at h; exact h) HC4.out (by rw [show c' - a = cr from by omega]; exact HRr.out) (by omega) (by have h := HO5.out; rw [HKy.out] at h; exact h) HG5.out⟩
  ·
   obtain rfl : i = v.l.length := by omega
   have q1 : decide ((v.l.length : Int) < (v.ks.length : Int)) = false := by rw [HKl.out]; simp
   have hnl : ¬ (v.l.length < v.ks.length) := by rw [HKl.out]; omega
   go_wp2_with fail
   go_ret2
   refine ⟨r, es, rfl, HI.out.map, by rw [HI.out.keys, List.take_of_length_le (by rw [HKl.out]; omega)], HI.out.len, fun j hx hl => HI.out.reps j hl hx hl, HI.out.rr, ?_, HI.out.kp'⟩; have h := HI.out.cnt; have hr := HI.out.rem; rw [List.drop_length] at hr; have hr0 : c' = 0 := hr; have ht := HI.out.tot'; rw [show k + (1 + c) = k' from by omega]; exact h
theorem any_does : ∀ n, AnyDoes n
 | 0 => fun d w0 w nb k c dep v kp lp kc lc h _ _ _ _ _ _ _ => h.elim
 | n + 1 => by
  intro d w0 w nb k c dep v kp lp kc lc hR hS hd hk0 hnb hc hk2 hdep
  cases d with
  | zero => exact hd.elim
  | succ d =>
   obtain ⟨_, _, h⟩ := hR; rcases h with ⟨h, rfl⟩ | ⟨h, _, rfl⟩ | ⟨h | ⟨h, h1, h2⟩, m, rfl, hl⟩
   · exact any_scalar n w nb k dep v kp lp kc lc (by omega) hc hk2 (by omega)
   · exact any_scalar n w nb k dep v kp lp kc lc (by omega) hc hk2 (by omega)
   · exact any_list n (any_does n) d w0 w nb k m dep v kp lp kc lc h hl hS.2 hd hk0 hnb hc hk2 hdep
   · exact (any_map0 n (any_does n) d w0 w nb k m dep v kp lp kc lc h h1 h2 hl hS.2 hd hk0 hnb hc hk2 hdep hS.1).mono fun e w' hh => hh.any h
end
section
open Go.RowKit
def TablePost (n : Nat) (w : World) (v : JV) (e : Ending) (w' : World) : Prop :=
 ∃ r : Nat, e = .returned (.tuple #[.map (some r), .bool true]) ∧ TabAt w' r v.l.length n (fun g => g ≠ r) (v.ks.zip v.l) ∧ w.heap.size ≤ r ∧ Kp [] w w'
theorem P2.of_get {α β : Type} {R : α → β → Prop} : ∀ {es : List (ByteArray × α)} {ks : List ByteArray} {l : List β}, es.map (·.1) = ks → es.length = l.length → (∀ j (hx : j < es.length) (hl : j < l.length), R es[j].2 l[j]) → P2 R es (ks.zip l)
 | [], ks, l, h1, h2, _ => by
  subst h1
  cases l with
  | nil => exact trivial
  | cons _ _ => simp at h2
 | (k, x) :: es, ks, l, h1, h2, h3 => by
  subst h1
  cases l with
  | nil => simp at h2
  | cons y l =>
   refine ⟨rfl, h3 0 (by simp) (by simp), P2.of_get rfl (by simpa using h2) (fun j hx hl => ?_)⟩; exact h3 (j + 1) (by simpa using hx) (by simpa using hl)
theorem as55_map (r : Nat) (w : World) : (Instr.typeAssert (.iface 55 (.map (some r))) 20 55 true).run Tryz.prog w = .ok (.tuple #[.map (some r), .bool true]) w := by kernel_rfl
attribute [local go_sem] as55_map
set_option maxRecDepth 100000 in
set_option maxHeartbeats 1000000 in
theorem table_is (n d : Nat) (w : World) (v : JV) (kp lp : Option Addr) (kc lc c : Nat) (hk : v.kind = 7) (hR : RightC (n + 1) v c) (hS : Short (n + 1) v) (hd : Deep (d + 1) w v kp lp) (hc : c ≤ 2000) (hn : n + 1 ≤ 61) :
  Calls Tryz.prog 26 #[valOf v kp kc lp lc] w (TablePost n w v) := by
 obtain ⟨_, _, hR⟩ := hR; obtain ⟨hrise, hkl, m, rfl, hl⟩ : Rise v.ks ∧ v.ks.length = v.l.length ∧ ∃ m, c = 1 + m ∧ RightL (RightC n) v.l m := by
  rcases hR with ⟨h, _⟩ | ⟨h, _⟩ | ⟨h | ⟨_, h1, h2⟩, h3⟩
  · omega
  · omega
  · omega
  · exact ⟨h1, h2, h3⟩
 have hW : Kp [] w (((w.alloc (.cells #[.int .i64 v.kind, .bool v.b, .int .i64 v.i, .float .f64 v.f, .string v.t, .slice kp v.ks.length kc, .slice lp v.l.length lc] 26)).alloc (.cells #[.int .i64 0] 3))) := ((Kp.refl _ _).alloc _).alloc _; have hcnt : CntAt (((w.alloc (.cells #[.int .i64 v.kind, .bool v.b, .int .i64 v.i, .float .f64 v.f, .string v.t, .slice kp v.ks.length kc, .slice lp v.l.length lc] 26)).alloc (.cells #[.int .i64 0] 3))) (w.heap.size + 1) ((0 : Nat) : Int) := by
  show ((w.heap.push _).push _)[w.heap.size + 1]? = _
  rw [Array.getElem?_push]; simp
 have hbx : BxAt (((w.alloc (.cells #[.int .i64 v.kind, .bool v.b, .int .i64 v.i, .float .f64 v.f, .string v.t, .slice kp v.ks.length kc, .slice lp v.l.length lc] 26)).alloc (.cells #[.int .i64 0] 3))) w.heap.size v kp kc lp lc := (bxAt_fresh w v kp kc lp lc).keep (S := []) ((Kp.refl _ _).alloc _) (by simp); have hc := any_map0 n (any_does n) d w _ (w.heap.size + 1) 0 m 0 v kp lp kc lc hk hrise hkl hl hS.2 hd hW (by omega) hcnt (by omega) (by omega) hS.1; have HC := hid hc; have HRise := hid hrise; have HKl := hid hkl; have HKd := hid hk; have hsz : (((w.alloc (.cells #[.int .i64 v.kind, .bool v.b, .int .i64 v.i, .float .f64 v.f, .string v.t, .slice kp v.ks.length kc, .slice lp v.l.length lc] 26)).alloc (.cells #[.int .i64 0] 3))).heap.size = w.heap.size + 1 + 1 := by simp
 have HSz := hid hsz; have HW := hid hW; clear hc hrise hkl hR hl hd hW hcnt hbx hsz hk hS; unfold valOf; unfold valOf at HC; go_enter Tryz.func26, Tryz.ntmps26
 go_wp2_with fail
 refine HC.out.mono ?_
 rintro e w2 ⟨r, es, rfl, hM, hks, hlen, hreps, hrr, hcnt, hK⟩
 have hpost : TablePost n w v (.returned (.tuple #[.map (some r), .bool true])) w2 := by
  have e1 := HSz.out; refine ⟨r, rfl, ⟨es, hM, ?_, ?_⟩, by omega, HW.out.over hK (by simp)⟩
  · rw [riseP_iff, hks]; exact HRise.out
  · refine P2.of_get hks hlen (fun j hx hl => (hreps j hx hl).keep (Nat.le_refl _) ?_)
    rintro g ⟨_, _, gc⟩ _
    exact ⟨gc, rfl⟩
 have HPost := hid hpost; clear hM hks hlen hreps hrr hcnt hK hpost HC; go_upto_region 4 with fail
 go_quiet (fail)
 go_wp2_with fail
 go_ret2
 obtain ⟨r', e1, h2, h3, h4⟩ := HPost.out; refine ⟨r, rfl, ?_, ?_, ?_⟩
 ·
  injection e1 with e1
  injection e1 with e1
  have : r = r' := by simpa using e1
  subst this; exact h2.keep rfl (Nat.le_refl _) (fun g hg _ => ⟨hg, rfl⟩)
 ·
  injection e1 with e1
  injection e1 with e1
  have : r = r' := by simpa using e1
  subst this; exact h3
 · exact h4.drewN _
end
end Go.Proofs.YtljaoopfomcaoaaGreatDoor
