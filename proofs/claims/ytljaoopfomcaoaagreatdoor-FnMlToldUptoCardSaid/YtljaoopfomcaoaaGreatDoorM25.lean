import Derived.Test.YtljaoopfomcaoaaGreatDoorM24
set_option linter.all false
open Go.Lib (hid)
namespace Go.Proofs.YtljaoopfomcaoaaGreatDoor
section
open Go.RowKit
structure LInv6 (n : Nat) (w0 w : World) (pw pb bx : Nat) (l : List Nat) (v : JV) (kp : Option Addr) (kc : Nat) (lp : Option Addr) (lc : Nat) (i : Nat) (t : List Nat) (u : Value) (wr : World) : Prop where
 part : EPart numSem n t ((v.l.map (flo F64 n)).take i)
 len : t.length ≤ 2 + ((v.l.take i).map (fun x => 20 + wt n x)).sum
 pen : PenAt w0 wr pw pb u (l ++ [91] ++ t)
 kx : Kx [pw, pb] w wr
 box : BoxAt wr bx v kp kc lp lc
set_option maxRecDepth 100000 in
set_option maxHeartbeats 8000000 in
theorem value_6 (n : Nat) (IH : ValueDoes n) (d : Nat) (w0 w : World) (pw pb : Nat) (u : Value) (l : List Nat) (v : JV) (kp lp : Option Addr) (kc lc : Nat) (hk : v.kind = 6) (hg : ∀ x ∈ v.l, Good n x) (hd : Deep (d + 1) w0 v kp lp) (hE : PenEnv w0) (h : PenAt w0 w pw pb u l) (hl : l.length + wt (n + 1) v ≤ 90000000) :
  Calls Tryz.prog 22 #[.pointer (some ⟨pw, 0, none⟩), valOf v kp kc lp lc] w (PenPost w0 w pw pb l (fun t => TxT numSem (n + 1) t (flo F64 (n + 1) v) ∧ t.length ≤ wt (n + 1) v)) := by
 have hwt : 40 + (v.ks.map (fun k => 20 + 12 * k.size)).sum + (v.l.map (fun x => 20 + wt n x)).sum ≤ wt (n + 1) v := by rw [wt]; omega
 have hflo : flo F64 (n + 1) v = .mk v.kind v.b v.i v.f v.t v.ks (v.l.map (flo F64 n)) := by rw [flo, if_neg (by rw [hk]; decide)]
 have hcnt := sum_ge (fun x => 20 + wt n x) v.l (fun x => by omega); have hcount : v.l.length ≤ 90000000 := by omega
 obtain ⟨hks, hdl⟩ := hd; have HDl := hid hdl; have HG := hid hg; have HFlo := hid hflo; have HIH := hid IH; have HEn := hid hE; have HBx := hid (boxAt_fresh w v kp kc lp lc); have HP := hid (h.alloc (.cells #[.int .i64 v.kind, .bool v.b, .int .i64 v.i, .float .f64 v.f, .string v.t, .slice kp v.ks.length kc, .slice lp v.l.length lc] 26)); have HK := hid ((Kx.refl [pw, pb] w).alloc (.cells #[.int .i64 v.kind, .bool v.b, .int .i64 v.i, .float .f64 v.f, .string v.t, .slice kp v.ks.length kc, .slice lp v.l.length lc] 26)); have hbx1 : w.heap.size ≠ pw := by have := h.lt; omega
 have hbx2 : w.heap.size ≠ pb := by have := h.ltb; omega
 have hbx : Hid (w.heap.size ∉ [pw, pb]) := by intro hm; simp at hm; omega
 clear hks hdl hg hflo IH hE h; generalize hpf : PenPost w0 w pw pb l (fun t => TxT numSem (n + 1) t (flo F64 (n + 1) v) ∧ t.length ≤ wt (n + 1) v) = PF at *; have HPF := hid hpf; clear hpf; unfold valOf; generalize hvk : v.kind = K at *; have HKd := hid hvk; clear hvk; subst hk; go_enter Tryz.func22, Tryz.ntmps22
 go_upto_region 16 with fail
 generalize hW1 : w.alloc (.cells #[.int .i64 6, .bool v.b, .int .i64 v.i, .float .f64 v.f, .string v.t, .slice kp v.ks.length kc, .slice lp v.l.length lc] 26) = w1 at *; clear hW1; have c1 := HP.out.c1; have f1 := HP.out.fr 1; have hlt := HP.out.lt; go_cut [] (fun wx => ∃ u', PenAt w0 wx pw pb u' (l ++ [91]) ∧ Kx [pw, pb] w wx ∧ BoxAt wx w.heap.size v kp kc lp lc)
 case first =>
  go_region_law (refine step_pen_int rfl _ _ rfl w0 w1 pw pb u u _ (by simp [Act.eval, Act.put]) (by first | exact (HP.out.alloc _).drew | exact HP.out.drew.alloc _) ((Kx.refl _ _).alloc _).drew ⟨w1.heap.size, 0, none⟩ 1 _ (by simp [Act.eval, Act.put]) (by show World.cell? (World.alloc _ _) _ = _; rw [cells_new]; rfl) (by omega) (by omega) ?_; intro p2 n2 c2 w2 hP2 hK2; have e1 := hP2.c1; have g1 := hP2.fr 1; have HP2 := hid hP2.store; have HK2 := hid (hK2.setCell (p := ⟨pw, 1, none⟩) (by simp) (.slice p2 n2 c2)); clear hP2 hK2)
  all_goals
   go_wp2_with fail
   go_meet; exact ⟨_, HP2.out, HK.out.trans HK2.out, HBx.out.kx HK2.out hbx.out⟩
 case rest =>
  obtain ⟨u1, hP1, hK1, hB1⟩ := hcut; clear c1 f1 hlt HP HK HBx; have HP := hid hP1; have HK := hid hK1; have HB := hid hB1; clear hP1 hK1 hB1; go_wp2_with fail
  refine (gap_is w0 _ pw pb _ _ HP.out (by simp; omega)).mono ?_
  rintro e2 w2 ⟨rfl, u2, t0, hg0, hP2, hK2⟩
  have HB2 := hid (HB.out.kx hK2 hbx.out); have HK3 := hid (HK.out.trans hK2); have HG0 := hid hg0; clear HP HK HB hg0; have HP := hid hP2; have HK := hid HK3.out; have HB := hid HB2.out; have b6 := HB.out.c6; clear hP2 hK2 HB2 HK3; go_wp2_with fail
  go_loopw [5, 6, 89] (fun v5 v6 v89 wr => ∃ (i : Nat) (t : List Nat) (u : Value), v89 = .int .i64 (i : Int) ∧ i ≤ v.l.length ∧ LInv6 n w0 w pw pb w.heap.size l v kp kc lp lc i t u wr) (fun _ _ v89 _ => v.l.length - (intOf v89).toNat)
  case atStart => exact ⟨0, t0, u2, rfl, Nat.zero_le _, ⟨Or.inl ⟨by simp, HG0.out.1⟩, by have := HG0.out.2; omega, HP.out, HK.out, HB.out⟩⟩
  case round =>
   obtain ⟨i, t, u, rfl, hi, hinv⟩ := hrel; have HI := hid hinv; clear hinv HP HK HB b6 HG0; by_cases hlt : i < v.l.length
   ·
    have k1 : decide ((i : Int) < (v.l.length : Int)) = true := by rw [decide_eq_true_eq]; omega
    rcases HDl.out with h0 | ⟨g, o, hlp, hcs⟩
    · rw [h0] at hlt; simp at hlt
    obtain ⟨kp', kc', lp', lc', ⟨a0, a1, a2, a3, a4, a5, a6⟩, hdeep⟩ := hcs i hlt; have hkp0 := HI.out.pen.out.kp; have d0 := cell_kp a0 hkp0; have d1 := cell_kp a1 hkp0; have d2 := cell_kp a2 hkp0; have d3 := cell_kp a3 hkp0; have d4 := cell_kp a4 hkp0; have d5 := cell_kp a5 hkp0; have d6 := cell_kp a6 hkp0; have HDeep := hid hdeep; have HKp0 := hid hkp0; clear a0 a1 a2 a3 a4 a5 a6 hcs hdeep hkp0; subst hlp; obtain ⟨x, hx⟩ : ∃ x, x = v.l[i] := ⟨_, rfl⟩; have HX := hid hx; rw [← hx] at d0 d1 d2 d3 d4 d5 d6 HDeep; clear hx
    go_upto_if 95 with (refine wpList_store_row rfl 26 _ _ rfl wr.heap.size #[.int .i64 x.kind, .bool x.b, .int .i64 x.i, .float .f64 x.f, .string x.t, .slice kp' x.ks.length kc', .slice lp' x.l.length lc'] ?_ ?_ 26 #[.int .i64 0, .bool false, .int .i64 0, .float .f64 0, .string ⟨#[]⟩, .slice none 0 0, .slice none 0 0] ?_ ?_ ?_ ?_ ?_; go_must (rfl); go_must (rfl); go_must (exact heap_alloc_new _ _); go_must (kernel_rfl); go_must (rfl); go_must (simp [Value.oneCell']))
    have hcopy := copy_kp wr #[.int .i64 x.kind, .bool x.b, .int .i64 x.i, .float .f64 x.f, .string x.t, .slice kp' x.ks.length kc', .slice lp' x.l.length lc'] #[.int .i64 0, .bool false, .int .i64 0, .float .f64 0, .string ⟨#[]⟩, .slice none 0 0, .slice none 0 0]; have hbx2 : BoxAt ((wr.alloc (.cells #[.int .i64 0, .bool false, .int .i64 0, .float .f64 0, .string ⟨#[]⟩, .slice none 0 0, .slice none 0 0] 26)).setRow wr.heap.size #[.int .i64 x.kind, .bool x.b, .int .i64 x.i, .float .f64 x.f, .string x.t, .slice kp' x.ks.length kc', .slice lp' x.l.length lc']) wr.heap.size x kp' kc' lp' lc' := setRow_heap _ _ _ _ 26 _ (heap_alloc_new _ _); generalize hW : World.setRow _ _ _ = w3 at *; have HCp := hid hcopy; have HBx := hid hbx2; have hxw : wr.heap.size ≠ pw := by have := HI.out.pen.lt; omega
    have hxb : wr.heap.size ≠ pb := by have := HI.out.pen.ltb; omega
    have hxn : Hid (wr.heap.size ∉ [pw, pb]) := by intro hm; simp at hm; omega
    generalize hxs : wr.heap.size = xb at *; have HP := hid (HI.out.pen.kp0 hcopy); have HK := hid (HI.out.kx.kp0 hcopy); have HB := hid (HI.out.box.kp hcopy); have hilen := HI.out.len; have c1 := HP.out.c1; have f1 := HP.out.fr 1; have htk := sum_take (fun x => 20 + wt n x) v.l i hlt; have htl := sum_take_le (fun x => 20 + wt n x) v.l (i + 1); clear hW hcopy hbx2 d0 d1 d2 d3 d4 d5 d6 hxs; go_cut [] (fun wx => ∃ (t1 : List Nat) (u1 : Value), EReady numSem n t1 ((v.l.map (flo F64 n)).take i) ∧ t1.length ≤ t.length + 3 ∧ PenAt w0 wx pw pb u1 (l ++ [91] ++ t1) ∧ Kx [pw, pb] w wx ∧ BoxAt wx w.heap.size v kp kc (some ⟨g, o, none⟩) lc ∧ BoxAt wx xb x kp' kc' lp' lc')
    case first =>
     by_cases hi0 : i = 0
     · subst hi0
       go_wp2_with fail
       go_meet; exact ⟨t, u, EReady.of (by simp) HI.out.part, by omega, HP.out, HK.out, HB.out, HBx.out⟩
     ·
      have k2 : decide ((i : Int) > 0) = true := by rw [decide_eq_true_eq]; omega
      go_wp2_with (at_builtin; go_must (refine wp_pen_int rfl _ _ rfl w0 w3 pw pb _ _ _ rfl (HP.out.alloc _) ((Kx.refl _ _).alloc _) _ _ _ rfl (cell_new _ _ _ _) ?_ ?_ ?_); go_must (omega); go_must (simp only [List.length_append, List.length_cons, List.length_nil]; omega); intro p2 n2 c2 w2 hP2 hK2; have c1 := hP2.c1; have f1 := hP2.fr 1; clear HP; have HP := hid hP2.store; have HK2 := hid (hK2.setCell (p := ⟨pw, 1, none⟩) (by simp) (.slice p2 n2 c2)); clear hP2 hK2)
      generalize hw5 : World.setCell _ _ _ = w5 at *; clear hw5 c1 f1; refine (gap_is w0 _ pw pb _ _ HP.out (by simp only [List.length_append, List.length_cons, List.length_nil]; omega)).mono ?_
      rintro e3 w6 ⟨rfl, u3, g3, hg3, hP3, hK3⟩
      have HG3 := hid hg3; have HP3 := hid hP3; have HK4 := hid (HK2.out.trans hK3); clear hg3 hP3 hK3; go_wp2_with fail
      go_meet; exact ⟨t ++ [44] ++ g3, u3, HI.out.part.ready (by intro h; have := congrArg List.length h; rw [List.length_take, List.length_map, List.length_nil] at this; omega) HG3.out.1, by have := HG3.out.2; simp; omega, by have h := HP3.out; simpa using h, HK.out.trans HK4.out, HB.out.kx HK4.out hbx.out, HBx.out.kx HK4.out hxn.out⟩
    case rest =>
     obtain ⟨t1, u1, hr1, hl1, hP1, hK1, hB1, hX1⟩ := hcut; have HR1 := hid hr1; clear c1 f1 HP HK HB HBx hr1; have HP := hid hP1; have HK := hid hK1; have HB := hid hB1; have HBx := hid hX1; have b0 := hB1.c0; rw [HKd.out] at b0; have e0 := hX1.c0; have e1 := hX1.c1; have e2 := hX1.c2; have e3 := hX1.c3; have e4 := hX1.c4; have e5 := hX1.c5; have e6 := hX1.c6; clear hP1 hK1 hB1 hX1; go_wp2_with fail
     have hwx : 20 + wt n x = 20 + wt n v.l[i] := by rw [HX.out]
     refine (HIH.out d w0 _ pw pb u1 _ x kp' lp' kc' lc' (by rw [HX.out]; exact HG.out _ (List.getElem_mem hlt)) HDeep.out HEn.out HP.out (by simp only [List.length_append, List.length_cons, List.length_nil]; omega)).mono ?_
     rintro e7 w4 ⟨rfl, u4, tv, htv, hP4, hK4⟩
     have HTv := hid htv; have hltv := htv.2; have HK5 := hid (HK.out.trans hK4); have HB5 := hid (HB.out.kx hK4 hbx.out); clear HP HK HB HBx b0 e0 e1 e2 e3 e4 e5 e6 htv; have HP := hid hP4; have HK := hid HK5.out; have HB := hid HB5.out; clear hP4 hK4 HK5 HB5; go_wp2_with fail
     refine (gap_is w0 _ pw pb _ _ HP.out (by simp only [List.length_append, List.length_cons, List.length_nil]; omega)).mono ?_
     rintro e8 w5 ⟨rfl, u5, g5, hg5, hP5, hK5⟩
     have HG5 := hid hg5; have HP5 := hid hP5; have HK5 := hid (HK.out.trans hK5); have HB5 := hid (HB.out.kx hK5 hbx.out); clear hg5 hP5 hK5; go_wp2_with fail
     go_roundw
     case measure => simp [intOf]; omega
     case rel =>
      refine ⟨i + 1, t1 ++ tv ++ g5, u5, by push_cast; rfl, by omega, ⟨?_, ?_, ?_, HK5.out, HB5.out⟩⟩
      · rw [flo_take F64 n v.l i hlt]
        have h := HTv.out.1; rw [HX.out] at h; exact HR1.out.next h HG5.out.1
      · have := HG5.out.2
        simp only [List.length_append]; omega
      · have h := HP5.out
        simpa only [List.append_assoc] using h
   ·
    have k1 : decide ((i : Int) < (v.l.length : Int)) = false := by rw [decide_eq_false_iff_not]; omega
    have c1 := HI.out.pen.c1; have f1 := HI.out.pen.fr 1; have hlt2 := HI.out.pen.lt; have hlen := HI.out.len; have htl := sum_take_le (fun x => 20 + wt n x) v.l i; go_upto_region 32 with fail
    go_region_law (refine step_pen_int rfl _ _ rfl w0 wr pw pb u u _ (by simp [Act.eval, Act.put]) (by first | exact (HI.out.pen.alloc _).drew | exact HI.out.pen.drew.alloc _) ((Kx.refl _ _).alloc _).drew ⟨wr.heap.size, 0, none⟩ 1 _ (by simp [Act.eval, Act.put]) (by show World.cell? (World.alloc _ _) _ = _; rw [cells_new]; rfl) (by omega) (by simp only [List.length_append, List.length_cons, List.length_nil]; omega) ?_; intro p2 n2 c2 w2 hP2 hK2; have e1 := hP2.c1; have g1 := hP2.fr 1; have HP2 := hid hP2.store; have HK2 := hid (hK2.setCell (p := ⟨pw, 1, none⟩) (by simp) (.slice p2 n2 c2)); clear hP2 hK2)
    all_goals
     generalize hw5 : World.setCell _ _ _ = w5 at *; clear hw5 e1 g1; go_wp2_with fail
     first | (refine bodyPost_ret (results_none rfl _ _ _) rfl ?_) | (refine bodyPost_end (results_none rfl _ _ _) rfl ?_)
     rw [← HPF.out]; have hfin : PenAt w0 w5 pw pb (.slice p2 n2 c2) (l ++ [91] ++ t ++ [93]) := HP2.out; refine ⟨rfl, _, [91] ++ t ++ [93], ⟨?_, ?_⟩, by simpa only [List.append_assoc] using hfin, HI.out.kx.trans HK2.out⟩
     · rw [HFlo.out]
       refine EPart.whole ?_ rfl; have h := HI.out.part; rw [List.take_of_length_le (by simp; omega)] at h; exact h
     · simp only [List.length_append, List.length_cons, List.length_nil]
       omega
end
section
open Go.RowKit
theorem parts_of (f : Nat) (h : Fin64 f) : ∃ (neg : Bool) (mant : Nat) (E : Int) (e0 fr : Nat), Parts f neg mant E e0 fr := by
 obtain ⟨h1, h2⟩ := h; have ht : f / 9223372036854775808 = 0 ∨ f / 9223372036854775808 = 1 := by omega
 have hb : ∃ b : Bool, f / 9223372036854775808 = if b then 1 else 0 := by
  rcases ht with h | h
  · exact ⟨false, h⟩
  · exact ⟨true, h⟩
 obtain ⟨b, hb⟩ := hb; by_cases hz : f / 4503599627370496 % 2048 = 0
 · exact ⟨b, f % 4503599627370496, -1074, 0, _, hb, hz, rfl, by omega, Or.inl ⟨rfl, rfl, rfl⟩, h1⟩
 · exact ⟨b, f % 4503599627370496 + 4503599627370496, ((f / 4503599627370496 % 2048 : Nat) : Int) - 1075, _, _, hb, rfl, rfl, h2, Or.inr ⟨by omega, rfl, rfl⟩, h1⟩
theorem num_tx {n : Nat} {m : Num} {v : JV} (h1 : m.Ok) (h2 : numSem m v.f) (h3 : v.kind = 4) : TxT numSem (n + 1) m.text v :=
 Or.inr (Or.inr (Or.inr (Or.inl ⟨m, h1, gl_at0 _, by omega, h2, h3⟩)))
theorem num_len {m : Num} {f : Nat} (h : numSem m f) : m.text.length ≤ 600 := by
 obtain ⟨h1, _, _, h4, _⟩ := h; obtain ⟨neg, ip, fp, ex⟩ := m; unfold Num.all at h1; simp only [List.length_append] at h1; have h2 : (if neg = true then [45] else ([] : List Nat)).length ≤ 1 := by split <;> simp
 have h3 : (if fp = [] then ([] : List Nat) else 46 :: fp.map (48 + ·)).length ≤ 1 + fp.length := by split <;> simp; omega
 cases ex with
 | none =>
  unfold Num.text digs; simp only [List.length_append, List.length_map, List.length_nil]; omega
 | some q =>
  obtain ⟨c, sg, ds⟩ := q; have := h4 c sg ds rfl; unfold Num.text digs; simp only [List.length_append, List.length_map, List.length_cons]; omega
theorem pen_of {w0 w : World} {pw pb : Nat} {v0 v : Value} {l : List Nat} {k : Nat} {args : Array Value} {T : List Nat → Prop} (h : PenM w0 w pw pb v0 v l)
  (hc : Calls Tryz.prog k args w fun e w' => ∃ v' t, e = .returned v' ∧ T t ∧ Out w0 [] w' v' (l ++ t) ∧ Kt w w') :
  Calls Tryz.prog k args w fun e w' => ∃ (p : Option Addr) (n c : Nat) (t : List Nat), e = .returned (.slice p n c) ∧ T t ∧ PenM w0 w' pw pb v0 (.slice p n c) (l ++ t) ∧ Kt w w' := by
 refine hc.mono ?_
 rintro e w' ⟨v', t, rfl, ht, hO, hK⟩
 obtain ⟨p, n, c, rfl⟩ := hO.form; exact ⟨p, n, c, t, rfl, ht, h.grow hK hO, hK⟩
theorem pen_bool (w0 w : World) (pw pb : Nat) (v0 v : Value) (l : List Nat) (b : Bool) (h : PenM w0 w pw pb v0 v l) (hl : l.length ≤ 100000000) :
  Calls Tryz.prog 32 #[v, .bool b] w fun e w' => ∃ (p : Option Addr) (n c : Nat) (t : List Nat), e = .returned (.slice p n c) ∧ t = (if b then [116, 114, 117, 101] else [102, 97, 108, 115, 101]) ∧ PenM w0 w' pw pb v0 (.slice p n c) (l ++ t) ∧ Kt w w' :=
 pen_of (T := fun t => t = (if b then [116, 114, 117, 101] else [102, 97, 108, 115, 101])) h ((appendBool_is w0 w [] v l b h.out hl).mono (by rintro e w' ⟨v', rfl, h1, h2⟩; exact ⟨v', _, rfl, rfl, h1, h2⟩))
theorem pen_int (w0 w : World) (pw pb : Nat) (v0 v : Value) (l : List Nat) (i : Int) (h0 : -9223372036854775808 ≤ i) (h1 : i ≤ 9223372036854775807) (hE : PenEnv w0) (h : PenM w0 w pw pb v0 v l) (hl : l.length ≤ 100000000) :
  Calls Tryz.prog 33 #[v, .int .i64 i, .int .i64 10] w fun e w' => ∃ (p : Option Addr) (n c : Nat) (t : List Nat), e = .returned (.slice p n c) ∧ (∃ m : Num, m.Ok ∧ numSem m (F64 i) ∧ t = m.text) ∧ PenM w0 w' pw pb v0 (.slice p n c) (l ++ t) ∧ Kt w w' :=
 pen_of (T := fun t => ∃ m : Num, m.Ok ∧ numSem m (F64 i) ∧ t = m.text) h ((appendInt_is w0 w [] v l i h0 h1 h.out hl (hE.kp h.out.kp).ten (by have := hE.size; omega)).mono (by rintro e w' ⟨v', m, rfl, h1, h2, h3, h4⟩; exact ⟨v', _, rfl, ⟨m, h1, h2, rfl⟩, h3, h4⟩))
def fmOf (r : Nat) : Nat := [103, 101, 69].getD r 103
theorem fm_form (r : Nat) (h : r < 3) : fmOf r = 103 ∨ fmOf r = 101 ∨ fmOf r = 69 := by
 rcases (show r = 0 ∨ r = 1 ∨ r = 2 from by omega) with rfl | rfl | rfl <;> simp [fmOf]
theorem fm_sel (r : Nat) (h : r < 3) : (#[.int .u8 103, .int .u8 101, .int .u8 69] : Array Value)[r]? = some (.int .u8 (fmOf r)) := by
 rcases (show r = 0 ∨ r = 1 ∨ r = 2 from by omega) with rfl | rfl | rfl <;> rfl
theorem fm_get (r : Nat) (h : r < 3) (h' : r < 3) : ([.int .u8 103, .int .u8 101, .int .u8 69] : List Value)[r]'(h') = .int .u8 (fmOf r) := by
 rcases (show r = 0 ∨ r = 1 ∨ r = 2 from by omega) with rfl | rfl | rfl <;> rfl
theorem fm_cell {w w' : World} {pb r : Nat} {t : TypeId} {f : Nat × Nat} (h : r < 3) (k : Kp [pb] (w.alloc (.cells #[.int .u8 103, .int .u8 101, .int .u8 69] t f)).drew w') (hb : pb < w.heap.size) : w'.cell? ⟨w.heap.size, r, none⟩ = some (.int .u8 (fmOf r)) := by
 rw [k.cell (p := ⟨w.heap.size, r, none⟩) (by simp) (by simp; omega)]
 show World.cell? (w.alloc _) _ = _
 rw [cells_new]; exact fm_sel r h
theorem pen_float (w0 w : World) (pw pb : Nat) (v0 v : Value) (l : List Nat) (f r : Nat) (x : Value) (hr : r < 3) (hx : x = .int .u8 (fmOf r)) (hF : Fin64 f) (hE : PenEnv w0) (h : PenM w0 w pw pb v0 v l) (hl : l.length ≤ 100000000) :
  Calls Tryz.prog 34 #[v, .float .f64 f, x, .int .i64 (-1), .int .i64 64] w fun e w' => ∃ (p : Option Addr) (n c : Nat) (t : List Nat), e = .returned (.slice p n c) ∧ (∃ m : Num, m.Ok ∧ numSem m f ∧ t = m.text) ∧ PenM w0 w' pw pb v0 (.slice p n c) (l ++ t) ∧ Kt w w' := by
 subst hx; obtain ⟨neg, mant, E, e0, fr, hP⟩ := parts_of f hF; have hE' := hE.kp h.out.kp; exact pen_of (T := fun t => ∃ m : Num, m.Ok ∧ numSem m f ∧ t = m.text) h ((appendFloat_is w0 w [] v l f mant e0 fr E neg (fmOf r) h.out hl hP (fm_form r hr) hE'.pow hE'.ten (by have := hE'.size; omega)).mono (by rintro e w' ⟨v', m, rfl, h1, h2, h3, h4⟩; exact ⟨v', _, rfl, ⟨m, h1, h2, rfl⟩, h3, h4⟩))
set_option maxRecDepth 100000 in
set_option maxHeartbeats 8000000 in
theorem value_0 (n : Nat) (w0 w : World) (pw pb : Nat) (u : Value) (l : List Nat) (v : JV) (kp lp : Option Addr) (kc lc : Nat) (hk : v.kind = 0) (h : PenAt w0 w pw pb u l) (hl : l.length + wt (n + 1) v ≤ 90000000) :
  Calls Tryz.prog 22 #[.pointer (some ⟨pw, 0, none⟩), valOf v kp kc lp lc] w (PenPost w0 w pw pb l (fun t => TxT numSem (n + 1) t (flo F64 (n + 1) v) ∧ t.length ≤ wt (n + 1) v)) := by
 have hwt : 600 + 12 * v.t.size ≤ wt (n + 1) v := by rw [wt]; omega
 have hflo : flo F64 (n + 1) v = .mk v.kind v.b v.i v.f v.t v.ks (v.l.map (flo F64 n)) := by rw [flo, if_neg (by rw [hk]; decide)]
 have htx : TxT numSem (n + 1) [110, 117, 108, 108] (flo F64 (n + 1) v) := by
  rw [hflo]; exact Or.inl ⟨gl_at0 _, rfl, hk⟩
 have HTx := hid htx; clear htx hflo; have HBx := hid (boxAt_fresh w v kp kc lp lc); have HP := hid (h.alloc (.cells #[.int .i64 v.kind, .bool v.b, .int .i64 v.i, .float .f64 v.f, .string v.t, .slice kp v.ks.length kc, .slice lp v.l.length lc] 26)); have HK := hid ((Kx.refl [pw, pb] w).alloc (.cells #[.int .i64 v.kind, .bool v.b, .int .i64 v.i, .float .f64 v.f, .string v.t, .slice kp v.ks.length kc, .slice lp v.l.length lc] 26)); clear h; generalize hpf : PenPost w0 w pw pb l (fun t => TxT numSem (n + 1) t (flo F64 (n + 1) v) ∧ t.length ≤ wt (n + 1) v) = PF at *; have HPF := hid hpf; clear hpf; unfold valOf; generalize hvk : v.kind = K at *; have HKd := hid hvk; clear hvk; subst hk; go_enter Tryz.func22, Tryz.ntmps22
 go_upto_region 2 with fail
 generalize hW1 : w.alloc (.cells #[.int .i64 0, .bool v.b, .int .i64 v.i, .float .f64 v.f, .string v.t, .slice kp v.ks.length kc, .slice lp v.l.length lc] 26) = w1 at *; clear hW1; have c1 := HP.out.c1; have f1 := HP.out.fr 1; go_wp2_with (at_builtin; go_must (refine wp_pen_str rfl _ _ rfl w0 w1 pw pb _ _ _ rfl HP.out (Kx.refl _ _) ⟨#[110, 117, 108, 108]⟩ rfl ?_ ?_ ?_); go_must (omega); go_must (decide); intro p2 n2 c2 w2 hP2 hK2; have e1 := hP2.c1; have g1 := hP2.fr 1; have HP2 := hid hP2.store; have HK2 := hid (hK2.setCell (p := ⟨pw, 1, none⟩) (by simp) (.slice p2 n2 c2)); clear hP2 hK2)
 generalize hw5 : World.setCell _ _ _ = w5 at *; clear hw5 e1 g1; try go_wp2_with fail
 first | (refine bodyPost_ret (results_none rfl _ _ _) rfl ?_) | (refine bodyPost_end (results_none rfl _ _ _) rfl ?_)
 rw [← HPF.out]; exact ⟨rfl, _, [110, 117, 108, 108], ⟨HTx.out, by simp; omega⟩, HP2.out, HK.out.trans HK2.out⟩
set_option maxRecDepth 100000 in
set_option maxHeartbeats 8000000 in
theorem value_5 (n : Nat) (w0 w : World) (pw pb : Nat) (u : Value) (l : List Nat) (v : JV) (kp lp : Option Addr) (kc lc : Nat) (hk : v.kind = 5) (rs : List Nat) (he : bytesOf v.t = enc rs) (hsc : ∀ r ∈ rs, scalar r) (h : PenAt w0 w pw pb u l) (hl : l.length + wt (n + 1) v ≤ 90000000) :
  Calls Tryz.prog 22 #[.pointer (some ⟨pw, 0, none⟩), valOf v kp kc lp lc] w (PenPost w0 w pw pb l (fun t => TxT numSem (n + 1) t (flo F64 (n + 1) v) ∧ t.length ≤ wt (n + 1) v)) := by
 have hwt : 600 + 12 * v.t.size ≤ wt (n + 1) v := by rw [wt]; omega
 have hflo : flo F64 (n + 1) v = .mk v.kind v.b v.i v.f v.t v.ks (v.l.map (flo F64 n)) := by rw [flo, if_neg (by rw [hk]; decide)]
 have htx : ∀ t, StrAt (gl t) 0 t.length rs → TxT numSem (n + 1) t (flo F64 (n + 1) v) := by
  intro t ht; rw [hflo]; exact Or.inr (Or.inr (Or.inr (Or.inr (Or.inl ⟨rs, ht, he, hk⟩))))
 have HTx := hid htx; have HEn := hid he; have HSc := hid hsc; clear htx hflo he hsc; have HBx := hid (boxAt_fresh w v kp kc lp lc); have HP := hid (h.alloc (.cells #[.int .i64 v.kind, .bool v.b, .int .i64 v.i, .float .f64 v.f, .string v.t, .slice kp v.ks.length kc, .slice lp v.l.length lc] 26)); have HK := hid ((Kx.refl [pw, pb] w).alloc (.cells #[.int .i64 v.kind, .bool v.b, .int .i64 v.i, .float .f64 v.f, .string v.t, .slice kp v.ks.length kc, .slice lp v.l.length lc] 26)); clear h; generalize hpf : PenPost w0 w pw pb l (fun t => TxT numSem (n + 1) t (flo F64 (n + 1) v) ∧ t.length ≤ wt (n + 1) v) = PF at *; have HPF := hid hpf; clear hpf; unfold valOf; generalize hvk : v.kind = K at *; have HKd := hid hvk; clear hvk; subst hk; go_enter Tryz.func22, Tryz.ntmps22
 go_wp2_with fail
 refine (text_is w0 _ pw pb u l v.t rs HEn.out HSc.out HP.out (by omega)).mono ?_
 rintro e2 w2 ⟨rfl, u2, t, ht, hP2, hK2⟩
 have HT := hid ht; have HP2 := hid hP2; have HK2 := hid (HK.out.trans hK2); clear ht hP2 hK2; go_wp2_with fail
 first | (refine bodyPost_ret (results_none rfl _ _ _) rfl ?_) | (refine bodyPost_end (results_none rfl _ _ _) rfl ?_)
 rw [← HPF.out]; exact ⟨rfl, u2, t, ⟨HTx.out t HT.out.1, by have := HT.out.2; omega⟩, HP2.out, HK2.out⟩
set_option maxRecDepth 100000 in
set_option maxHeartbeats 8000000 in
theorem value_1 (n : Nat) (w0 w : World) (pw pb : Nat) (u : Value) (l : List Nat) (v : JV) (kp lp : Option Addr) (kc lc : Nat) (hk : v.kind = 1) (h : PenAt w0 w pw pb u l) (hl : l.length + wt (n + 1) v ≤ 90000000) :
  Calls Tryz.prog 22 #[.pointer (some ⟨pw, 0, none⟩), valOf v kp kc lp lc] w (PenPost w0 w pw pb l (fun t => TxT numSem (n + 1) t (flo F64 (n + 1) v) ∧ t.length ≤ wt (n + 1) v)) := by
 have hwt : 600 + 12 * v.t.size ≤ wt (n + 1) v := by rw [wt]; omega
 have hflo : flo F64 (n + 1) v = .mk v.kind v.b v.i v.f v.t v.ks (v.l.map (flo F64 n)) := by rw [flo, if_neg (by rw [hk]; decide)]
 have htx : TxT numSem (n + 1) (if v.b then [116, 114, 117, 101] else [102, 97, 108, 115, 101]) (flo F64 (n + 1) v) := by
  rw [hflo]
  cases hb : v.b with
  | true => exact Or.inr (Or.inl ⟨gl_at0 _, rfl, hk, rfl⟩)
  | false => exact Or.inr (Or.inr (Or.inl ⟨gl_at0 _, rfl, hk, rfl⟩))
 have HTx := hid htx; clear htx hflo; have HBx := hid (boxAt_fresh w v kp kc lp lc); have HP := hid (h.alloc (.cells #[.int .i64 v.kind, .bool v.b, .int .i64 v.i, .float .f64 v.f, .string v.t, .slice kp v.ks.length kc, .slice lp v.l.length lc] 26)); have HK := hid ((Kx.refl [pw, pb] w).alloc (.cells #[.int .i64 v.kind, .bool v.b, .int .i64 v.i, .float .f64 v.f, .string v.t, .slice kp v.ks.length kc, .slice lp v.l.length lc] 26)); clear h; generalize hpf : PenPost w0 w pw pb l (fun t => TxT numSem (n + 1) t (flo F64 (n + 1) v) ∧ t.length ≤ wt (n + 1) v) = PF at *; have HPF := hid hpf; clear hpf; unfold valOf; generalize hvk : v.kind = K at *; have HKd := hid hvk; clear hvk; subst hk; go_enter Tryz.func22, Tryz.ntmps22
 go_upto_region 4 with fail
 generalize hW1 : w.alloc (.cells #[.int .i64 1, .bool v.b, .int .i64 v.i, .float .f64 v.f, .string v.t, .slice kp v.ks.length kc, .slice lp v.l.length lc] 26) = w1 at *; clear hW1; have c1 := HP.out.c1; have f1 := HP.out.fr 1; have b1 := HBx.out.c1; have hbl := lt_of_block HBx.out; have hlt := HP.out.lt; go_region_law (go_simp; go_at_call 32; refine (pen_bool w0 _ pw pb u u l v.b (by exact HP.out.drew) (by omega)).mono ?_; rintro e2 w2 ⟨p2, n2, c2, t2, rfl, hT2, hP2, hK2⟩; have e1 := hP2.c1; have g1 := hP2.fr 1; have HT2 := hid hT2; have HP2 := hid hP2.store; have HK2 := hid ((((Kx.refl [pw, pb] w1).drew).kt hK2).setCell (p := ⟨pw, 1, none⟩) (by simp) (.slice p2 n2 c2)); clear hT2 hP2 hK2)
 all_goals
  generalize hw5 : World.setCell _ _ _ = w5 at *; clear hw5 e1 g1; try go_wp2_with fail
  first | (refine bodyPost_ret (results_none rfl _ _ _) rfl ?_) | (refine bodyPost_end (results_none rfl _ _ _) rfl ?_)
  rw [← HPF.out]; exact ⟨rfl, _, t2, ⟨by rw [HT2.out]; exact HTx.out, by rw [HT2.out]; split <;> (simp; omega)⟩, HP2.out, HK.out.trans HK2.out⟩
set_option maxRecDepth 100000 in
set_option maxHeartbeats 8000000 in
theorem value_2 (n : Nat) (w0 w : World) (pw pb : Nat) (u : Value) (l : List Nat) (v : JV) (kp lp : Option Addr) (kc lc : Nat) (hk : v.kind = 2) (hi0 : -9223372036854775808 ≤ v.i) (hi1 : v.i ≤ 9223372036854775807) (hE : PenEnv w0) (h : PenAt w0 w pw pb u l) (hl : l.length + wt (n + 1) v ≤ 90000000) :
  Calls Tryz.prog 22 #[.pointer (some ⟨pw, 0, none⟩), valOf v kp kc lp lc] w (PenPost w0 w pw pb l (fun t => TxT numSem (n + 1) t (flo F64 (n + 1) v) ∧ t.length ≤ wt (n + 1) v)) := by
 have hwt : 600 + 12 * v.t.size ≤ wt (n + 1) v := by rw [wt]; omega
 have htx : ∀ m : Num, m.Ok → numSem m (F64 v.i) → TxT numSem (n + 1) m.text (flo F64 (n + 1) v) := by
  intro m h1 h2; rw [flo, if_pos hk]; exact num_tx h1 h2 rfl
 have HTx := hid htx; have HEnv := hid hE; clear htx hE; have HBx := hid (boxAt_fresh w v kp kc lp lc); have HP := hid (h.alloc (.cells #[.int .i64 v.kind, .bool v.b, .int .i64 v.i, .float .f64 v.f, .string v.t, .slice kp v.ks.length kc, .slice lp v.l.length lc] 26)); have HK := hid ((Kx.refl [pw, pb] w).alloc (.cells #[.int .i64 v.kind, .bool v.b, .int .i64 v.i, .float .f64 v.f, .string v.t, .slice kp v.ks.length kc, .slice lp v.l.length lc] 26)); clear h; generalize hpf : PenPost w0 w pw pb l (fun t => TxT numSem (n + 1) t (flo F64 (n + 1) v) ∧ t.length ≤ wt (n + 1) v) = PF at *; have HPF := hid hpf; clear hpf; unfold valOf; generalize hvk : v.kind = K at *; have HKd := hid hvk; clear hvk; subst hk; go_enter Tryz.func22, Tryz.ntmps22
 go_upto_region 6 with fail
 generalize hW1 : w.alloc (.cells #[.int .i64 2, .bool v.b, .int .i64 v.i, .float .f64 v.f, .string v.t, .slice kp v.ks.length kc, .slice lp v.l.length lc] 26) = w1 at *; clear hW1; have c1 := HP.out.c1; have f1 := HP.out.fr 1; have b1 := HBx.out.c2; have hbl := lt_of_block HBx.out; have hlt := HP.out.lt; go_region_law (go_simp; go_at_call 33; refine (pen_int w0 _ pw pb u u l v.i hi0 hi1 HEnv.out (by exact HP.out.drew) (by omega)).mono ?_; rintro e2 w2 ⟨p2, n2, c2, t2, rfl, hT2, hP2, hK2⟩; have e1 := hP2.c1; have g1 := hP2.fr 1; have HT2 := hid hT2; have HP2 := hid hP2.store; have HK2 := hid ((((Kx.refl [pw, pb] w1).drew).kt hK2).setCell (p := ⟨pw, 1, none⟩) (by simp) (.slice p2 n2 c2)); clear hT2 hP2 hK2)
 all_goals
  generalize hw5 : World.setCell _ _ _ = w5 at *; clear hw5 e1 g1; try go_wp2_with fail
  first | (refine bodyPost_ret (results_none rfl _ _ _) rfl ?_) | (refine bodyPost_end (results_none rfl _ _ _) rfl ?_)
  rw [← HPF.out]; obtain ⟨m, q1, q2, q3⟩ := HT2.out; exact ⟨rfl, _, t2, ⟨by rw [q3]; exact HTx.out m q1 q2, by rw [q3]; have := num_len q2; omega⟩, HP2.out, HK.out.trans HK2.out⟩
end
section
open Go.RowKit
set_option maxRecDepth 100000 in
set_option maxHeartbeats 8000000 in
theorem value_4 (n : Nat) (w0 w : World) (pw pb : Nat) (u : Value) (l : List Nat) (v : JV) (kp lp : Option Addr) (kc lc : Nat) (hk : v.kind = 4) (hF : Fin64 v.f) (hE : PenEnv w0) (h : PenAt w0 w pw pb u l) (hl : l.length + wt (n + 1) v ≤ 90000000) :
  Calls Tryz.prog 22 #[.pointer (some ⟨pw, 0, none⟩), valOf v kp kc lp lc] w (PenPost w0 w pw pb l (fun t => TxT numSem (n + 1) t (flo F64 (n + 1) v) ∧ t.length ≤ wt (n + 1) v)) := by
 have hwt : 600 + 12 * v.t.size ≤ wt (n + 1) v := by rw [wt]; omega
 have hflo : flo F64 (n + 1) v = .mk v.kind v.b v.i v.f v.t v.ks (v.l.map (flo F64 n)) := by rw [flo, if_neg (by rw [hk]; decide)]
 have htx : ∀ m : Num, m.Ok → numSem m v.f → TxT numSem (n + 1) m.text (flo F64 (n + 1) v) := by
  intro m h1 h2; rw [hflo]; exact num_tx h1 h2 hk
 have HTx := hid htx; have HEnv := hid hE; have HF := hid hF; clear htx hE hF hflo; have HBx := hid (boxAt_fresh w v kp kc lp lc); have HP := hid (h.alloc (.cells #[.int .i64 v.kind, .bool v.b, .int .i64 v.i, .float .f64 v.f, .string v.t, .slice kp v.ks.length kc, .slice lp v.l.length lc] 26)); have HK := hid ((Kx.refl [pw, pb] w).alloc (.cells #[.int .i64 v.kind, .bool v.b, .int .i64 v.i, .float .f64 v.f, .string v.t, .slice kp v.ks.length kc, .slice lp v.l.length lc] 26)); clear h; generalize hpf : PenPost w0 w pw pb l (fun t => TxT numSem (n + 1) t (flo F64 (n + 1) v) ∧ t.length ≤ wt (n + 1) v) = PF at *; have HPF := hid hpf; clear hpf; unfold valOf; generalize hvk : v.kind = K at *; have HKd := hid hvk; clear hvk; subst hk; go_enter Tryz.func22, Tryz.ntmps22
 go_upto_region 8 with fail
 generalize hW1 : w.alloc (.cells #[.int .i64 4, .bool v.b, .int .i64 v.i, .float .f64 v.f, .string v.t, .slice kp v.ks.length kc, .slice lp v.l.length lc] 26) = w1 at *; clear hW1; have c1 := HP.out.c1; have f1 := HP.out.fr 1; have c0 := HP.out.c0; have b1 := HBx.out.c3; have hlt := HP.out.lt; have hltb := HP.out.ltb; have hbl := lt_of_block HBx.out; have hbp : w.heap.size ≠ pb := by
  intro e; obtain ⟨_, _, _, _, h1, _⟩ := HP.out.pk; have h2 := h1.blk; rw [← e, show w1.heap[w.heap.size]? = _ from HBx.out] at h2; simp at h2
 go_region_law (first
  | (go_simp; go_at_call 19; refine (pen_pick w0 _ pw pb u u l 3 _ (by rfl) (by omega) (by omega) (by first | exact HP.out.drew | exact (HP.out.alloc _).drew)).mono ?_; rintro e9 w9 ⟨r, rfl, hr, hp9, hk9⟩; have d1 := hp9.c1; have g1 := hp9.fr 1; have hlt9 := hp9.lt; have hr8 : (r : Int) < 3 := (by omega); (first | (have d2 := fm_cell hr hk9 hltb; have HK9 := hid (((Kx.refl [pw, pb] w1).alloc _).drew.kp hk9 (by simp)); have b9 := hk9.cell (p := ⟨w.heap.size, 3, none⟩) (by simp; omega) (by simp; exact hbp); have b8 : w9.cell? ⟨w.heap.size, 3, none⟩ = some (.float .f64 v.f) := (b9.trans ((World.cell?_alloc_lt w1 _ ⟨w.heap.size, 3, none⟩ hbl).trans b1)); clear b9) | (have d3 := fm_sel r hr; have HK9 := hid ((Kx.refl [pw, pb] w1).drew.kp hk9 (by simp)); have b9 := hk9.cell (p := ⟨w.heap.size, 3, none⟩) hbl (by simp; exact hbp); have b8 : w9.cell? ⟨w.heap.size, 3, none⟩ = some (.float .f64 v.f) := (b9.trans b1); clear b9)); have hbl9 : w.heap.size < w9.heap.size := cell_lt b8; have HP9 := hid hp9; clear hp9 hk9)
  | (go_simp; go_at_call 34; refine (pen_float w0 _ pw pb u u l v.f r _ hr (by first | rfl | exact fm_get r hr hr) HF.out HEnv.out (by first | exact HP9.out | exact HP9.out.alloc _) (by omega)).mono ?_; rintro e2 w2 ⟨p2, n2, c2, t2, rfl, hT2, hP2, hK2⟩; have e1 := hP2.c1; have g1 := hP2.fr 1; have HT2 := hid hT2; have HP2 := hid hP2.store; (first | have HK2 := hid ((HK9.out.kt hK2).setCell (p := ⟨pw, 1, none⟩) (by simp) (.slice p2 n2 c2)) | have HK2 := hid (((HK9.out.alloc _).kt hK2).setCell (p := ⟨pw, 1, none⟩) (by simp) (.slice p2 n2 c2))); clear hT2 hP2 hK2))
 all_goals
  generalize hw5 : World.setCell _ _ _ = w5 at *; clear hw5; go_wp2_with fail
  first | (refine bodyPost_ret (results_none rfl _ _ _) rfl ?_) | (refine bodyPost_end (results_none rfl _ _ _) rfl ?_)
  rw [← HPF.out]; obtain ⟨m, q1, q2, q3⟩ := HT2.out; exact ⟨rfl, _, t2, ⟨by rw [q3]; exact HTx.out m q1 q2, by rw [q3]; have := num_len q2; omega⟩, HP2.out, HK.out.trans HK2.out⟩
end
section
def Sml (g : Nat → Nat) (i j : Nat) : Prop := ∀ k, i ≤ k → k < j → g k < 256
theorem Sml.app {g : Nat → Nat} {i j k : Nat} (h : Sml g i j) (h' : Sml g j k) : Sml g i k := fun x h1 h2 => by
 rcases Nat.lt_or_ge x j with q | q
 · exact h x h1 q
 · exact h' x q h2
theorem Sml.one {g : Nat → Nat} {i : Nat} (h : g i < 256) : Sml g i (i + 1) := fun k h1 h2 => by
 obtain rfl : k = i := by omega
 exact h
theorem Ws.sml {g : Nat → Nat} {i j : Nat} (h : Ws g i j) : Sml g i j := fun k h1 h2 => by
 have := h.2 k h1 h2; simp [ws] at this; omega
theorem At.sml {g : Nat → Nat} {i : Nat} {l : List Nat} (h : At g i l) (hl : ∀ x ∈ l, x < 256) : Sml g i (i + l.length) := fun k h1 h2 => by
 have := h (k - i) (by omega); rw [show i + (k - i) = k from by omega] at this; rw [this, List.getD_eq_getElem?_getD, List.getElem?_eq_getElem (by omega), Option.getD_some]; exact hl _ (List.getElem_mem _)
theorem utf8_byte {r : Nat} (h : scalar r) : ∀ x ∈ utf8 r, x < 256 := by
 unfold scalar at h; unfold utf8; intro x hx
 split at hx
 · simp at hx; omega
 ·
  split at hx
  · simp at hx; omega
  · split at hx
    · simp at hx; omega
    · simp at hx; omega
theorem hexv_sml {c x : Nat} (h : hexv c = some x) : c < 256 := by
 unfold hexv at h
 split at h
 · omega
 ·
  split at h
  · omega
  · split at h
    · omega
    · cases h
theorem Unit4.sml {g : Nat → Nat} {i u : Nat} (h : Unit4 g i u) : Sml g i (i + 6) := by
 obtain ⟨h1, h2, a, b, c, d, ha, hb, hc, hd, _⟩ := h; have := hexv_sml ha; have := hexv_sml hb; have := hexv_sml hc; have := hexv_sml hd; intro k q1 q2; rcases (show k = i ∨ k = i + 1 ∨ k = i + 2 ∨ k = i + 3 ∨ k = i + 4 ∨ k = i + 5 from by omega) with rfl | rfl | rfl | rfl | rfl | rfl <;> omega
theorem Piece.sml {g : Nat → Nat} {i j r : Nat} (h : Piece g i j r) : Sml g i j := by
 rcases h with ⟨h1, _, _, _, h5, rfl⟩ | ⟨h1, rfl, h3⟩ | ⟨h1, rfl, _⟩ | ⟨u, v, h1, h2, rfl, _⟩
 · exact h5.sml (utf8_byte h1)
 · intro k q1 q2
   rcases (show k = i ∨ k = i + 1 from by omega) with rfl | rfl
   · omega
   · rcases h3 with ⟨h, _⟩ | ⟨h, _⟩ | ⟨h, _⟩ | ⟨h, _⟩ <;> omega
 · exact h1.sml
 · exact h1.sml.app (by have := h2.sml; rwa [show i + 6 + 6 = i + 12 from by omega] at this)
theorem StrBody.sml {g : Nat → Nat} {j : Nat} : ∀ {rs : List Nat} {i : Nat}, StrBody g i j rs → Sml g i j
 | [], i, h => by
  have h' : i = j := h; subst h'; exact fun k h1 h2 => absurd h1 (by omega)
 | r :: rs, i, ⟨a, h1, h2⟩ => h1.sml.app (StrBody.sml h2)
theorem StrAt.sml {g : Nat → Nat} {i j : Nat} {rs : List Nat} (h : StrAt g i j rs) : Sml g i j := by
 obtain ⟨h1, e, h2, h3, rfl⟩ := h; exact (Sml.one (by omega)).app (h2.sml.app (Sml.one (by omega)))
theorem digs_sml {l : List Nat} (h : ∀ d ∈ l, d < 10) : ∀ x ∈ digs l, x < 256 := fun x hx => by
 unfold digs at hx; obtain ⟨d, hd, rfl⟩ := List.mem_map.1 hx; have := h d hd; omega
theorem Num.sml {m : Num} (h : m.Ok) : ∀ x ∈ m.text, x < 256 := by
 obtain ⟨h1, h2, _, _, h5⟩ := h; intro x hx; unfold Num.text at hx; rcases List.mem_append.1 hx with hx | hx
 ·
  rcases List.mem_append.1 hx with hx | hx
  · rcases List.mem_append.1 hx with hx | hx
    · split at hx <;> simp at hx; omega
    · exact digs_sml h1 x hx
  · split at hx
    · simp at hx
    · rcases List.mem_cons.1 hx with rfl | hx
      · omega
      · exact digs_sml h2 x hx
 ·
  cases he : m.ex with
  | none => rw [he] at hx; simp at hx
  | some q =>
   obtain ⟨c, sg, ds⟩ := q; rw [he] at hx; obtain ⟨q1, q2, _, q4⟩ := h5 c sg ds he; rcases List.mem_cons.1 hx with rfl | hx
   · omega
   · rcases List.mem_cons.1 hx with rfl | hx
     · omega
     · exact digs_sml q4 x hx
theorem Elems.sml {g : Nat → Nat} {T : Nat → Nat → JV → Prop} (hT : ∀ a b v, T a b v → Sml g a b) : ∀ {vs : List JV} {i j : Nat}, Elems g T i j vs → Sml g i j
 | [], _, _, h => h.elim
 | [v], i, j, ⟨a, b, h1, h2, h3⟩ => h1.sml.app ((hT _ _ _ h2).app h3.sml)
 | v :: w :: vs, i, j, ⟨a, b, c, h1, h2, h3, h4, h5⟩ => h1.sml.app ((hT _ _ _ h2).app (h3.sml.app ((Sml.one (by omega)).app (Elems.sml hT h5))))
theorem Membs.sml {g : Nat → Nat} {T : Nat → Nat → JV → Prop} (hT : ∀ a b v, T a b v → Sml g a b) : ∀ {ks : List ByteArray} {vs : List JV} {i j : Nat}, Membs g T i j ks vs → Sml g i j
 | [], [], _, _, h => h.elim
 | [], _ :: _, _, _, h => h.elim
 | _ :: _, [], _, _, h => by simp [Membs] at h
 | [k], [v], i, j, ⟨a, b, c, d, e, rs, h1, h2, _, h4, h5, h6, h7, h8⟩ => h1.sml.app (h2.sml.app (h4.sml.app ((Sml.one (by omega)).app (h6.sml.app ((hT _ _ _ h7).app h8.sml)))))
 | [_], _ :: _ :: _, _, _, h => by
  obtain ⟨_, _, _, _, _, _, _, _, _, _, _, _, _, _, _, _, h⟩ := h; simp [Membs] at h
 | _ :: _ :: _, [_], _, _, h => by
  obtain ⟨_, _, _, _, _, _, _, _, _, _, _, _, _, _, _, _, h⟩ := h; simp [Membs] at h
 | k :: k2 :: ks, v :: v2 :: vs, i, j, ⟨a, b, c, d, e, f, rs, h1, h2, _, h4, h5, h6, h7, h8, h9, h10⟩ =>
  h1.sml.app (h2.sml.app (h4.sml.app ((Sml.one (by omega)).app (h6.sml.app ((hT _ _ _ h7).app (h8.sml.app ((Sml.one (by omega)).app (Membs.sml hT h10))))))))
theorem Tx.sml {S : NumSem} {g : Nat → Nat} : ∀ {n i j : Nat} {v : JV}, Tx S g n i j v → Sml g i j
 | 0, _, _, _, h => h.elim
 | n + 1, i, j, v, h => by
  have hT : ∀ a b w, Tx S g n a b w → Sml g a b := fun a b w hw => Tx.sml hw
  rcases h with ⟨h, rfl, _⟩ | ⟨h, rfl, _⟩ | ⟨h, rfl, _⟩ | ⟨m, hm, h, rfl, _⟩ | ⟨rs, h, _⟩ | ⟨e, h1, h2, rfl, h4, _⟩ | ⟨e, h1, h2, rfl, h4, _⟩
  · exact h.sml (by decide)
  · exact h.sml (by decide)
  · exact h.sml (by decide)
  · exact h.sml (Num.sml hm)
  · exact h.sml
  · refine (Sml.one (by omega)).app (Sml.app (j := e) ?_ (Sml.one (by omega)))
    rcases h4 with ⟨_, h⟩ | h
    · exact h.sml
    · exact h.sml hT
  · refine (Sml.one (by omega)).app (Sml.app (j := e) ?_ (Sml.one (by omega)))
    rcases h4 with ⟨_, _, h⟩ | h
    · exact h.sml
    · exact h.sml hT
theorem KChar.sml {g : Nat → Nat} {i j r : Nat} (h : KChar g i j r) : Sml g i j := by
 obtain ⟨h0, ⟨_, _, _, _, _, h, rfl⟩ | ⟨h1, h, rfl⟩⟩ := h
 · exact h.sml (utf8_byte h0)
 · exact (Sml.one (by omega)).app (h.sml (utf8_byte h0))
theorem KeyAt.sml {g : Nat → Nat} {j : Nat} : ∀ {rs : List Nat} {i : Nat}, KeyAt g i j rs → Sml g i j
 | [], i, h => by
  have h' : i = j := h; subst h'; exact fun k h1 h2 => absurd h1 (by omega)
 | r :: rs, i, ⟨a, h1, h2⟩ => h1.sml.app (KeyAt.sml h2)
theorem PairAt.sml {S : NumSem} {g : Nat → Nat} {n i j : Nat} {k : ByteArray} {v : JV} (h : PairAt S g n i j k v) : Sml g i j := by
 obtain ⟨a, b, c, rs, h1, _, h2, h3, h4, h5⟩ := h; exact h1.sml.app ((Sml.one (by omega)).app (h3.sml.app (h4.sml.app h5.sml)))
theorem LineAt.sml {S : NumSem} {g : Nat → Nat} {n j : Nat} : ∀ {l : List (ByteArray × JV)} {i : Nat}, LineAt S g n i j l → Sml g i j
 | [], i, h => by
  have h' : i = j := h; subst h'; exact fun k h1 h2 => absurd h1 (by omega)
 | [p], i, h => PairAt.sml h
 | p :: q :: r, i, ⟨c, h1, h2, h3⟩ => h1.sml.app ((Sml.one (by omega)).app (LineAt.sml h3))
theorem sml_all {t : List Nat} (h : Sml (gl t) 0 t.length) : ∀ x ∈ t, x < 256 := fun x hx => by
 obtain ⟨i, hi, rfl⟩ := List.getElem_of_mem hx; have := h i (Nat.zero_le _) hi; unfold gl at this; rwa [List.getD_eq_getElem?_getD, List.getElem?_eq_getElem hi, Option.getD_some] at this
end
section
open Go.RowKit
theorem value_does : ∀ n, ValueDoes n
 | 0 => fun d w0 w pw pb u l v kp lp kc lc hg _ _ _ _ => hg.elim
 | n + 1 => by
  intro d w0 w pw pb u l v kp lp kc lc hg hd hE h hl
  cases d with
  | zero => exact hd.elim
  | succ d =>
   rcases hg with hk | hk | ⟨hk, h1, h2⟩ | ⟨hk, hF⟩ | ⟨hk, rs, h1, h2⟩ | ⟨hk, h1⟩ | ⟨hk, h1, h2, h3, h4⟩
   · exact value_0 n w0 w pw pb u l v kp lp kc lc hk h hl
   · exact value_1 n w0 w pw pb u l v kp lp kc lc hk h hl
   · exact value_2 n w0 w pw pb u l v kp lp kc lc hk h1 h2 hE h hl
   · exact value_4 n w0 w pw pb u l v kp lp kc lc hk hF hE h hl
   · exact value_5 n w0 w pw pb u l v kp lp kc lc hk rs h1 h2 h hl
   · exact value_6 n (value_does n) d w0 w pw pb u l v kp lp kc lc hk h1 hd hE h hl
   · exact value_7 n (value_does n) d w0 w pw pb u l v kp lp kc lc hk h1 h2 h3 h4 hd hE h hl
end
end Go.Proofs.YtljaoopfomcaoaaGreatDoor
