import Derived.Test.YtljaoopfomcaoaaGreatDoorM25
set_option linter.all false
open Go.Lib (hid)
namespace Go.Proofs.YtljaoopfomcaoaaGreatDoor
section
open Go.RowKit
def BytesAt (w : World) (p : Option Addr) (n : Nat) : Prop := ∀ i, i < n → ∃ (g o y : Nat), p = some ⟨g, o, none⟩ ∧ y < 256 ∧ w.cell? ⟨g, o + i, none⟩ = some (.int .u8 y)
def told (n : Nat) (v : JV) : List (ByteArray × JV) := v.ks.zip (v.l.map (flo F64 n))
structure KInv (w0 w : World) (pw pb it : Nat) (l : List Nat) (s : ByteArray) (done rest t : List Nat) (u : Value) (wr : World) : Prop where
 at' : At (bt s) (enc done).length (enc rest)
 sz : (enc done).length + (enc rest).length = s.size
 sc : ∀ r ∈ rest, scalar r
 body : KBody t done
 len : t.length ≤ 2 * (enc done).length
 pen : PenAt w0 wr pw pb u (l ++ t)
 kx : Kx [pw, pb] w wr
 itr : wr.heap[it]? = some (.stringIter s (enc done).length)
theorem KInv.next {w0 w wr w' : World} {pw pb it : Nat} {l : List Nat} {s : ByteArray} {done rest t t' : List Nat} {u u' : Value} {r : Nat} (h : KInv w0 w pw pb it l s done (r :: rest) t u wr)
  (hp : KChar (gl t') 0 t'.length r) (ht : t'.length ≤ 2 * (utf8 r).length) (pen : PenAt w0 w' pw pb u' (l ++ t ++ t')) (kx : Kx [pw, pb] w w') (itr : w'.heap[it]? = some (.stringIter s ((enc done).length + (utf8 r).length))) :
  KInv w0 w pw pb it l s (done ++ [r]) rest (t ++ t') u' w' := by
 have hl : (enc (done ++ [r])).length = (enc done).length + (utf8 r).length := by rw [enc_snoc, List.length_append]
 have h1 := h.at'; have h2 := h.sz; rw [enc, At_append] at h1; rw [enc, List.length_append] at h2; refine ⟨by rw [hl]; exact h1.2, by rw [hl]; omega, fun x hx => h.sc x (by simp [hx]), h.body.snoc hp, ?_, by rw [List.append_assoc] at pen; exact pen, kx, by rw [hl]; exact itr⟩; have := h.len; rw [List.length_append, hl]; omega
structure LnInv (n : Nat) (w : World) (pw pb : Nat) (v : JV) (i : Nat) (t : List Nat) (u : Value) (wr : World) : Prop where
 line : (i = 0 ∧ t = []) ∨ (0 < i ∧ LineAt numSem (gl t) n 0 t.length ((told n v).take i))
 len : t.length ≤ ((v.l.take i).map (fun x => 20 + wt n x)).sum + ((v.ks.take i).map (fun k => 20 + 12 * k.size)).sum
 pen : PenAt w wr pw pb u t
theorem told_take (n : Nat) (v : JV) (i : Nat) (hi : i < v.ks.length) (hj : i < v.l.length) : (told n v).take (i + 1) = (told n v).take i ++ [(v.ks[i], flo F64 n v.l[i])] := by
 unfold told; rw [← List.take_append_getElem (by simp; omega)]; simp
set_option maxRecDepth 100000 in
set_option maxHeartbeats 8000000 in
theorem tell_is (n d : Nat) (w : World) (v : JV) (kp lp : Option Addr) (kc lc : Nat) (cp : Option Addr) (cn cc : Nat) (hg : Good (n + 1) v) (hk : v.kind = 7) (hd : Deep (d + 1) w v kp lp) (hE : PenEnv w) (hc : BytesAt w cp cn) (hcn : cn ≤ 100000000) (hcc : cn ≤ cc) (hl : wt (n + 1) v ≤ 90000000) :
  Calls Tryz.prog 9 #[valOf v kp kc lp lc, .slice cp cn cc] w fun e w' => ∃ s : ByteArray, e = .returned (.string s) ∧ LineAt numSem (bt s) n 0 s.size (told n v) ∧ s.size ≤ wt (n + 1) v ∧ Kp [] w w' := by
 have hwt : 600 + (v.ks.map (fun k => 20 + 12 * k.size)).sum + (v.l.map (fun x => 20 + wt n x)).sum ≤ wt (n + 1) v := by rw [wt]; omega
 have hcnt := sum_ge (fun x => 20 + wt n x) v.l (fun x => by omega); have hcount : v.l.length ≤ 90000000 := by omega
 obtain ⟨hrise, hkl, hut, hgl⟩ : Rise v.ks ∧ v.ks.length = v.l.length ∧ (∀ k ∈ v.ks, Utf k) ∧ ∀ x ∈ v.l, Good n x := by
  rcases hg with h | h | ⟨h, _⟩ | ⟨h, _⟩ | ⟨h, _⟩ | ⟨h, _⟩ | ⟨_, h1, h2, h3, h4⟩; all_goals first | (rw [hk] at h; cases h) | exact ⟨h1, h2, h3, h4⟩
 obtain ⟨hks, hdl⟩ := hd; have HDl := hid hdl; have HKs := hid hks; have HUt := hid hut; have HG := hid hgl; have HKl := hid hkl; have HEn := hid hE; have HC := hid hc; clear hks hdl hut hgl hkl hE hc hrise hg; have hB : BoxAt (w.alloc (.cells #[.int .i64 v.kind, .bool v.b, .int .i64 v.i, .float .f64 v.f, .string v.t, .slice kp v.ks.length kc, .slice lp v.l.length lc] 26)) w.heap.size v kp kc lp lc := boxAt_fresh w v kp kc lp lc; have hk1 : Kp [] w (w.alloc (.cells #[.int .i64 v.kind, .bool v.b, .int .i64 v.i, .float .f64 v.f, .string v.t, .slice kp v.ks.length kc, .slice lp v.l.length lc] 26)) := (Kp.refl _ _).alloc _; unfold valOf; generalize hvk : v.kind = K at *; have HKd := hid hvk; clear hvk; subst hk; go_enter Tryz.func9, Tryz.ntmps9
 go_upto_region 2 with fail
 have hpen0 : PenAt w (((w.alloc (.cells #[.int .i64 7, .bool v.b, .int .i64 v.i, .float .f64 v.f, .string v.t, .slice kp v.ks.length kc, .slice lp v.l.length lc] 26)).alloc (.cells #[.slice cp cn cc, .int .i64 0] 47)).alloc (.cells #[.pointer (some ⟨w.heap.size + 1, 0, none⟩), .slice none 0 0] 49)) (w.heap.size + 1 + 1) (w.heap.size + 1) (.slice none 0 0) [] := by
  have hk3 : Kp [] w (((w.alloc (.cells #[.int .i64 7, .bool v.b, .int .i64 v.i, .float .f64 v.f, .string v.t, .slice kp v.ks.length kc, .slice lp v.l.length lc] 26)).alloc (.cells #[.slice cp cn cc, .int .i64 0] 47)).alloc (.cells #[.pointer (some ⟨w.heap.size + 1, 0, none⟩), .slice none 0 0] 49)) := (((Kp.refl [] w).alloc _).alloc _).alloc _; refine ⟨?_, ⟨World.ownsRow_nil _ _ _ _, hk3⟩, ⟨cp, cn, cc, 0, ⟨?_, ?_, by omega, hcc, Nat.zero_le _⟩, ?_⟩, by omega, by omega, by omega⟩
  · show (((w.heap.push _).push _).push _)[w.heap.size + 1 + 1]? = _
    rw [Array.getElem?_push]; simp
  · show (((w.heap.push _).push _).push _)[w.heap.size + 1]? = _
    rw [Array.getElem?_push, Array.getElem?_push]; simp
  · intro i hi
    obtain ⟨g, o, y, h1, h2, h3⟩ := HC.out i hi; have := cell_lt h3; exact ⟨g, o, y, h1, by omega, h2, cell_kp h3 hk3⟩
  ·
   intro g o h0 hgo; obtain ⟨g', o', y, h1, h2, h3⟩ := HC.out 0 h0; rw [h1] at hgo
   injection hgo with hgo
   injection hgo with e1 e2
   subst e1; exact cell_lt h3
 have hB3 : BoxAt (((w.alloc (.cells #[.int .i64 7, .bool v.b, .int .i64 v.i, .float .f64 v.f, .string v.t, .slice kp v.ks.length kc, .slice lp v.l.length lc] 26)).alloc (.cells #[.slice cp cn cc, .int .i64 0] 47)).alloc (.cells #[.pointer (some ⟨w.heap.size + 1, 0, none⟩), .slice none 0 0] 49)) w.heap.size v kp kc lp lc := hB.kp (((Kp.refl [] _).alloc _).alloc _); generalize hw3 : ((w.alloc (.cells #[.int .i64 7, .bool v.b, .int .i64 v.i, .float .f64 v.f, .string v.t, .slice kp v.ks.length kc, .slice lp v.l.length lc] 26)).alloc (.cells #[.slice cp cn cc, .int .i64 0] 47)).alloc (.cells #[.pointer (some ⟨w.heap.size + 1, 0, none⟩), .slice none 0 0] 49) = w3 at *; clear hw3 hk1 hB; generalize hpw : w.heap.size + 1 + 1 = pw at *; generalize hpb : w.heap.size + 1 = pb at *; generalize hb0 : w.heap.size = b0 at *; have hbn : Hid (b0 ∉ [pw, pb]) := by intro hm; simp at hm; omega
 have HPw := hid hpw; have HPb := hid hpb; have HB0 := hid hb0; clear hpw hpb hb0; have HP := hid hpen0; have HB := hid hB3; have b5 := hB3.c5; clear hpen0 hB3; go_wp2_with fail
 go_loopw [6, 7, 9, 18] (fun s6 s7 s9 s18 wx => ∃ (i : Nat) (t : List Nat) (u : Value), s18 = .int .i64 (i : Int) ∧ i ≤ v.ks.length ∧ LnInv n w pw pb v i t u wx ∧ BoxAt wx b0 v kp kc lp lc) (fun _ _ _ s18 _ => v.ks.length - (intOf s18).toNat)
 case atStart => exact ⟨0, [], _, rfl, Nat.zero_le _, ⟨Or.inl ⟨rfl, rfl⟩, by simp, HP.out⟩, HB.out⟩
 case round =>
  obtain ⟨i, t, u, rfl, hi, hinv, hbox⟩ := hrel; clear HP HB b5; have HI := hid hinv; have HB := hid hbox; have hlen := hinv.len; have c1 := hinv.pen.c1; have f1 := hinv.pen.fr 1; have HP := hid hinv.pen; clear hinv hbox; by_cases hlt : i < v.ks.length
  ·
   have k1 : decide ((i : Int) < (v.ks.length : Int)) = true := by rw [decide_eq_true_eq]; omega
   have hil : i < v.l.length := by have := HKl.out; omega
   rcases HKs.out with hk0 | ⟨gk, ok, hkp, hkc⟩
   · rw [hk0] at hlt; simp at hlt
   have q0 := cell_kp (hkc i hlt) HP.out.out.kp; subst hkp; obtain ⟨kk, hkk⟩ : ∃ kk, kk = v.ks[i] := ⟨_, rfl⟩; have HKk := hid hkk; rw [← hkk] at q0; obtain ⟨rs, hrs1, hrs2⟩ := HUt.out _ (List.getElem_mem hlt); rw [← hkk] at hrs1; have HRs1 := hid hrs1; have HRs2 := hid hrs2; have hsk := sum_take (fun k => 20 + 12 * k.size) v.ks i hlt; have hsk2 : ((v.ks.take (i + 1)).map (fun k => 20 + 12 * k.size)).sum = ((v.ks.take i).map (fun k => 20 + 12 * k.size)).sum + (20 + 12 * kk.size) := by rw [hkk]; exact hsk
   have hskl := sum_take_le (fun k => 20 + 12 * k.size) v.ks (i + 1); have htk := sum_take (fun x => 20 + wt n x) v.l i hil; have htl := sum_take_le (fun x => 20 + wt n x) v.l (i + 1); clear hkc hkk hrs1 hrs2 hsk; go_upto_if 24 with fail
   go_cut [] (fun wx => ∃ (t1 : List Nat) (u1 : Value), ((i = 0 ∧ t1 = []) ∨ (0 < i ∧ t1 = t ++ [44])) ∧ PenAt w wx pw pb u1 t1 ∧ BoxAt wx b0 v (some ⟨gk, ok, none⟩) kc lp lc)
   case first =>
    by_cases hi0 : i = 0
    ·
     have k2 : decide ((i : Int) > 0) = false := by rw [decide_eq_false_iff_not]; omega
     have ht0 : t = [] := by
      rcases HI.out.line with ⟨_, h⟩ | ⟨h, _⟩
      · exact h
      · omega
     have HT0 := hid ht0; clear ht0; go_wp2_with fail
     go_meet; exact ⟨[], _, Or.inl ⟨hi0, rfl⟩, by have h := HP.out; rw [HT0.out] at h; exact h, HB.out⟩
    · have k2 : decide ((i : Int) > 0) = true := by rw [decide_eq_true_eq]; omega
      go_wp2_with (at_builtin; go_must (refine wp_pen_int rfl _ _ rfl w wr pw pb _ _ _ rfl (HP.out.alloc _) ((Kx.refl _ _).alloc _) _ _ _ rfl (cell_new _ _ _ _) ?_ ?_ ?_); go_must (omega); go_must (first | omega | (simp only [List.length_append, List.length_cons, List.length_nil]; omega)); intro p2 n2 c2 w2 hP2 hK2; have c1 := hP2.c1; have f1 := hP2.fr 1; clear HP; have HP := hid hP2.store; have HK2 := hid (hK2.setCell (p := ⟨pw, 1, none⟩) (by simp) (.slice p2 n2 c2)); clear hP2 hK2)
      generalize hw5 : World.setCell _ _ _ = w5 at *; clear hw5; go_meet; exact ⟨t ++ [44], _, Or.inr ⟨by omega, rfl⟩, HP.out, HB.out.kx HK2.out hbn.out⟩
   case rest =>
    obtain ⟨t1, u1, ht1, hP1, hB1⟩ := hcut; have HT1 := hid ht1; have hl1 : t1.length ≤ t.length + 1 := by rcases ht1 with ⟨_, rfl⟩ | ⟨_, rfl⟩ <;> simp
    clear c1 f1 HP HB ht1; have HP := hid hP1; have HB := hid hB1; have hbt := hid (bytes_at kk _ HRs1.out); clear hP1 hB1; have hitw : b0 < wc.heap.size ∧ pw < wc.heap.size ∧ pb < wc.heap.size := ⟨lt_of_block HB.out, HP.out.lt, HP.out.ltb⟩; have hw0c : w.heap.size ≤ wc.heap.size := HP.out.out.kp.size; have hK0 : Hid (KInv w wc pw pb wc.heap.size t1 kk [] rs [] u1 (wc.iter kk 0)) :=
     ⟨by have := hbt.out.1; simpa [enc] using this, by have := hbt.out.2; simpa [enc] using this, HRs2.out, KBody.nil, by simp, by rw [List.append_nil]; exact HP.out.alloc _, (Kx.refl _ _).alloc _, World.iter_heap wc kk 0⟩
    go_wp2_with fail
    generalize hit : wc.heap.size = it at *; have HIt := hid hit; clear hit; go_loopg [9] rs.length (fun gf s9 wx => ∃ (done rest tk : List Nat) (u : Value), done ++ rest = rs ∧ rest.length ≤ gf ∧ KInv w wc pw pb it t1 kk done rest tk u wx)
    case atStart => exact ⟨[], rs, [], u1, rfl, Nat.le_refl _, hK0.out⟩
    case round =>
     obtain ⟨done, rest, tk, u2, hrs, hgf, hkinv⟩ := hrel; have HRs := hid hrs; have HKI := hid hkinv; have htkl := hkinv.len; have hksz := hkinv.sz; clear hrs hkinv hK0
     cases rest with
     | nil =>
      have hsz : (enc done).length = kk.size := by simpa [enc] using hksz
      have hit := HKI.out.itr; rw [hsz] at hit; have hnx : ∀ ty, (Instr.next (.pointer (some ⟨it, 0, none⟩)) true ty).run Tryz.prog wr = _ := fun ty => Lib.run_next_end_at wr it kk kk.size ty hit (by omega)
      have hdone : done = rs := by have := HRs.out; simpa using this
      have hkb := HKI.out.body; rw [hdone] at hkb; have HKb := hid hkb; rw [hsz] at htkl; clear HP hdone hkb hsz hit; have HP := hid HKI.out.pen; have hbx := HB.out.kx HKI.out.kx hbn.out; clear HB; have HB := hid hbx; have c1 := HP.out.c1; have f1 := HP.out.fr 1; clear hbx; go_wp2_with (at_builtin; go_must (refine wp_pen_int rfl _ _ rfl w wr pw pb _ _ _ rfl (HP.out.alloc _) ((Kx.refl _ _).alloc _) _ _ _ rfl (cell_new _ _ _ _) ?_ ?_ ?_); go_must (omega); go_must (first | omega | (simp only [List.length_append, List.length_cons, List.length_nil]; omega)); intro p2 n2 c2 w2 hP2 hK2; have c1 := hP2.c1; have f1 := hP2.fr 1; clear HP; have HP := hid hP2.store; have HK2 := hid (hK2.setCell (p := ⟨pw, 1, none⟩) (by simp) (.slice p2 n2 c2)); clear hP2 hK2)
      generalize hw5 : World.setCell _ _ _ = w5 at *; clear hw5 c1 f1 hnx; refine (gap_is w _ pw pb _ _ HP.out (by simp only [List.length_append, List.length_cons, List.length_nil]; omega)).mono ?_
      rintro e3 w6 ⟨rfl, u3, g3, hg3, hP3, hK3⟩
      have HG3 := hid hg3; have hg3l := hg3.2; have HB6 := hid ((HB.out.kx HK2.out hbn.out).kx hK3 hbn.out); clear HP HB; have HP := hid hP3; have HB := hid HB6.out; have b6 := HB6.out.c6; rcases HDl.out with h0 | ⟨gl', ol, hlp, hcs⟩
      · rw [h0] at hil; simp at hil
      obtain ⟨kp', kc', lp', lc', ⟨a0, a1, a2, a3, a4, a5, a6⟩, hdeep⟩ := hcs i hil; have hkp0 := hP3.out.kp; have d0 := cell_kp a0 hkp0; have d1 := cell_kp a1 hkp0; have d2 := cell_kp a2 hkp0; have d3 := cell_kp a3 hkp0; have d4 := cell_kp a4 hkp0; have d5 := cell_kp a5 hkp0; have d6 := cell_kp a6 hkp0; have HDeep := hid hdeep; clear a0 a1 a2 a3 a4 a5 a6 hcs hdeep hkp0 hg3 hP3 hK3 HB6; subst hlp; obtain ⟨x, hx⟩ : ∃ x, x = v.l[i] := ⟨_, rfl⟩; have HX := hid hx; rw [← hx] at d0 d1 d2 d3 d4 d5 d6 HDeep; clear hx; have hwx : 20 + wt n x = 20 + wt n v.l[i] := by rw [HX.out]
      have hil2 : (i : Int) < (v.l.length : Int) := by omega
      go_wp2_with fail
      refine (value_does n d w _ pw pb u3 _ x kp' lp' kc' lc' (by rw [HX.out]; exact HG.out _ (List.getElem_mem hil)) HDeep.out HEn.out HP.out (by simp only [List.length_append, List.length_cons, List.length_nil]; omega)).mono ?_
      rintro e7 w7 ⟨rfl, u7, tv, htv, hP7, hK7⟩
      have HTv := hid htv; have hltv := htv.2; have HB7 := hid (HB.out.kx hK7 hbn.out); clear HP HB b6 d0 d1 d2 d3 d4 d5 d6 htv; have HP := hid hP7; have HB := hid HB7.out; clear hP7 hK7 HB7; go_wp2_with fail
      refine (gap_is w _ pw pb _ _ HP.out (by simp only [List.length_append, List.length_cons, List.length_nil]; omega)).mono ?_
      rintro e8 w8 ⟨rfl, u8, g8, hg8, hP8, hK8⟩
      have HG8 := hid hg8; have hg8l := hg8.2; have HP8 := hid hP8; have HB8 := hid (HB.out.kx hK8 hbn.out); clear hg8 hP8 hK8; go_wp2_with fail
      go_roundw
      case measure => simp [intOf]; omega
      case rel =>
       have hpair : PairAt numSem (gl (tk ++ [61] ++ g3 ++ tv ++ g8)) n 0 (tk ++ [61] ++ g3 ++ tv ++ g8).length v.ks[i] (flo F64 n v.l[i]) := by
        have h := HTv.out.1; rw [HX.out] at h; have hb := HRs1.out; rw [HKk.out] at hb; exact PairAt.of HKb.out hb HG3.out.1 h HG8.out.1
       refine ⟨i + 1, t1 ++ (tk ++ [61] ++ g3 ++ tv ++ g8), u8, by push_cast; rfl, by omega, ⟨Or.inr ⟨by omega, ?_⟩, ?_, ?_⟩, HB8.out⟩
       · rw [told_take n v i hlt hil]
         rcases HT1.out with ⟨h0, h1⟩ | ⟨h0, h1⟩
         · have e0 : (told n v).take i = [] := by rw [h0]; simp
           rw [h1, e0, List.nil_append, List.nil_append]; exact hpair
         · rw [h1]
           rcases HI.out.line with ⟨h2, _⟩ | ⟨_, h2⟩
           · omega
           · exact LineAt.next h2 (by intro h; have := congrArg List.length h; unfold told at this; rw [List.length_take, List.length_zip, List.length_map, List.length_nil] at this; omega) hpair
       · simp only [List.length_append, List.length_cons, List.length_nil]
         omega
       · have h := HP8.out
         simpa using h
     | cons r rest =>
      obtain ⟨g', rfl⟩ : ∃ g', gk = g' + 1 := ⟨gk - 1, by simp at hgf; omega⟩; have hr : scalar r := HKI.out.sc r (by simp); have hr2 : r < 1114112 := by unfold scalar at hr; omega
      have hul := utf8_len r; have hdec : Utf8.decode kk (enc done).length = (r, (utf8 r).length) := by
       have h1 := HKI.out.at'; have h2 := HKI.out.sz; rw [enc, At_append] at h1; rw [enc, List.length_append] at h2; exact decode_here kk _ r hr h1.1 (by omega)
      have hltk : (enc done).length < kk.size := by
       have h2 := HKI.out.sz; rw [enc, List.length_append] at h2; omega
      have hksb : kk.size ≤ wt (n + 1) v := by omega
      have hnx : ∀ ty, (Instr.next (.pointer (some ⟨it, 0, none⟩)) true ty).run Tryz.prog wr = _ := fun ty => Lib.run_next_any_at wr it kk (enc done).length ty HKI.out.itr hltk
      rw [hdec] at hnx; have hit2 := Lib.iterAt_heap wr it kk _ ((enc done).length + (utf8 r).length) HKI.out.itr; have hitw0 : w.heap.size ≤ it := by have := HIt.out; omega
      have hP2 := HKI.out.pen.iterAt HKI.out.itr ((enc done).length + (utf8 r).length) hitw0; have hwcit : Hid (∀ b o, wc.heap[b]? = some o → b < it) := fun b o h1 => by have := lt_of_block h1; have := HIt.out; omega
      have hK2 : Kx [pw, pb] wc (wr.iterAt it kk ((enc done).length + (utf8 r).length)) := fun b o h1 h2 h3 => by
       rw [Lib.iterAt_other _ _ _ _ _ (fun e => by have := hwcit.out b o h1; omega)]; exact HKI.out.kx b o h1 h2 h3
      obtain ⟨W, hWd⟩ : ∃ W, wr.iterAt it kk ((enc done).length + (utf8 r).length) = W := ⟨_, rfl⟩; rw [hWd] at hnx hit2 hP2 hK2; clear HP HB; have HP := hid hP2; have HK := hid hK2; have HItr := hid hit2; have HScr := hid hr; have c0 := hP2.c0; clear hP2 hK2 hit2 hWd hdec hr; generalize hpos : (enc done).length = pos at *; have HPos := hid hpos; clear hpos; go_upto_region 10 with fail
      go_cut [72] (fun s72 wx => ∃ (b : Bool) (u3 : Value), s72 = .bool b ∧ (b = false → r ≠ 61 ∧ r ≠ 91 ∧ r ≠ 44 ∧ r ≠ 46 ∧ r ≠ 92) ∧ PenAt w wx pw pb u3 (t1 ++ tk) ∧ Kp [pb] W wx)
      case first =>
       by_cases q0 : r = 95
       ·
        have k95 : ((r : Int) != 95) = false := by rw [bne_eq_false_iff_eq]; omega
        have k48 : decide ((r : Int) < 48) = false := by rw [decide_eq_false_iff_not]; omega
        have k57 : decide ((r : Int) > 57) = true := by rw [decide_eq_true_eq]; omega
        have k65 : decide ((r : Int) < 65) = false := by rw [decide_eq_false_iff_not]; omega
        have k90 : decide ((r : Int) > 90) = true := by rw [decide_eq_true_eq]; omega
        have k97 : decide ((r : Int) < 97) = true := by rw [decide_eq_true_eq]; omega
        have k122 : decide ((r : Int) > 122) = false := by rw [decide_eq_false_iff_not]; omega
        have HQ := hid q0; clear q0; go_wp2_with (go_at_call 19; refine (pen_pick w _ pw pb _ _ _ 8 _ (by rfl) (by omega) (by omega) HP.out).mono ?_; rintro e9 w9 ⟨f, rfl, hf, hp9, hk9⟩; have HP9 := hid hp9; have HK9 := hid hk9; clear hp9 hk9)
        go_meet; have q0 := HQ.out; exact ⟨_, _, rfl, fun _ => ⟨by omega, by omega, by omega, by omega, by omega⟩, HP9.out, HK9.out⟩
       by_cases q1 : r < 48
       ·
        have k95 : ((r : Int) != 95) = true := by rw [bne_iff_ne]; omega
        have k48 : decide ((r : Int) < 48) = true := by rw [decide_eq_true_eq]; omega
        have k57 : decide ((r : Int) > 57) = false := by rw [decide_eq_false_iff_not]; omega
        have k65 : decide ((r : Int) < 65) = true := by rw [decide_eq_true_eq]; omega
        have k90 : decide ((r : Int) > 90) = false := by rw [decide_eq_false_iff_not]; omega
        have k97 : decide ((r : Int) < 97) = true := by rw [decide_eq_true_eq]; omega
        have k122 : decide ((r : Int) > 122) = false := by rw [decide_eq_false_iff_not]; omega
        go_wp2_with fail
        go_meet; exact ⟨true, _, rfl, (fun h => by cases h), HP.out, Kp.refl _ _⟩
       by_cases q2 : r ≤ 57
       ·
        have k95 : ((r : Int) != 95) = true := by rw [bne_iff_ne]; omega
        have k48 : decide ((r : Int) < 48) = false := by rw [decide_eq_false_iff_not]; omega
        have k57 : decide ((r : Int) > 57) = false := by rw [decide_eq_false_iff_not]; omega
        have k65 : decide ((r : Int) < 65) = true := by rw [decide_eq_true_eq]; omega
        have k90 : decide ((r : Int) > 90) = false := by rw [decide_eq_false_iff_not]; omega
        have k97 : decide ((r : Int) < 97) = true := by rw [decide_eq_true_eq]; omega
        have k122 : decide ((r : Int) > 122) = false := by rw [decide_eq_false_iff_not]; omega
        go_wp2_with (go_at_call 19; refine (pen_pick w _ pw pb _ _ _ 8 _ (by rfl) (by omega) (by omega) HP.out).mono ?_; rintro e9 w9 ⟨f, rfl, hf, hp9, hk9⟩; have HP9 := hid hp9; have HK9 := hid hk9; clear hp9 hk9)
        go_meet; exact ⟨_, _, rfl, fun _ => ⟨by omega, by omega, by omega, by omega, by omega⟩, HP9.out, HK9.out⟩
       by_cases q3 : r < 65
       ·
        have k95 : ((r : Int) != 95) = true := by rw [bne_iff_ne]; omega
        have k48 : decide ((r : Int) < 48) = false := by rw [decide_eq_false_iff_not]; omega
        have k57 : decide ((r : Int) > 57) = true := by rw [decide_eq_true_eq]; omega
        have k65 : decide ((r : Int) < 65) = true := by rw [decide_eq_true_eq]; omega
        have k90 : decide ((r : Int) > 90) = false := by rw [decide_eq_false_iff_not]; omega
        have k97 : decide ((r : Int) < 97) = true := by rw [decide_eq_true_eq]; omega
        have k122 : decide ((r : Int) > 122) = false := by rw [decide_eq_false_iff_not]; omega
        go_wp2_with fail
        go_meet; exact ⟨true, _, rfl, (fun h => by cases h), HP.out, Kp.refl _ _⟩
       by_cases q4 : r ≤ 90
       ·
        have k95 : ((r : Int) != 95) = true := by rw [bne_iff_ne]; omega
        have k48 : decide ((r : Int) < 48) = false := by rw [decide_eq_false_iff_not]; omega
        have k57 : decide ((r : Int) > 57) = true := by rw [decide_eq_true_eq]; omega
        have k65 : decide ((r : Int) < 65) = false := by rw [decide_eq_false_iff_not]; omega
        have k90 : decide ((r : Int) > 90) = false := by rw [decide_eq_false_iff_not]; omega
        have k97 : decide ((r : Int) < 97) = true := by rw [decide_eq_true_eq]; omega
        have k122 : decide ((r : Int) > 122) = false := by rw [decide_eq_false_iff_not]; omega
        go_wp2_with (go_at_call 19; refine (pen_pick w _ pw pb _ _ _ 8 _ (by rfl) (by omega) (by omega) HP.out).mono ?_; rintro e9 w9 ⟨f, rfl, hf, hp9, hk9⟩; have HP9 := hid hp9; have HK9 := hid hk9; clear hp9 hk9)
        go_meet; exact ⟨_, _, rfl, fun _ => ⟨by omega, by omega, by omega, by omega, by omega⟩, HP9.out, HK9.out⟩
       by_cases q5 : r < 97
       ·
        have k95 : ((r : Int) != 95) = true := by rw [bne_iff_ne]; omega
        have k48 : decide ((r : Int) < 48) = false := by rw [decide_eq_false_iff_not]; omega
        have k57 : decide ((r : Int) > 57) = true := by rw [decide_eq_true_eq]; omega
        have k65 : decide ((r : Int) < 65) = false := by rw [decide_eq_false_iff_not]; omega
        have k90 : decide ((r : Int) > 90) = true := by rw [decide_eq_true_eq]; omega
        have k97 : decide ((r : Int) < 97) = true := by rw [decide_eq_true_eq]; omega
        have k122 : decide ((r : Int) > 122) = false := by rw [decide_eq_false_iff_not]; omega
        go_wp2_with fail
        go_meet; exact ⟨true, _, rfl, (fun h => by cases h), HP.out, Kp.refl _ _⟩
       by_cases q6 : r ≤ 122
       ·
        have k95 : ((r : Int) != 95) = true := by rw [bne_iff_ne]; omega
        have k48 : decide ((r : Int) < 48) = false := by rw [decide_eq_false_iff_not]; omega
        have k57 : decide ((r : Int) > 57) = true := by rw [decide_eq_true_eq]; omega
        have k65 : decide ((r : Int) < 65) = false := by rw [decide_eq_false_iff_not]; omega
        have k90 : decide ((r : Int) > 90) = true := by rw [decide_eq_true_eq]; omega
        have k97 : decide ((r : Int) < 97) = false := by rw [decide_eq_false_iff_not]; omega
        have k122 : decide ((r : Int) > 122) = false := by rw [decide_eq_false_iff_not]; omega
        go_wp2_with (go_at_call 19; refine (pen_pick w _ pw pb _ _ _ 8 _ (by rfl) (by omega) (by omega) HP.out).mono ?_; rintro e9 w9 ⟨f, rfl, hf, hp9, hk9⟩; have HP9 := hid hp9; have HK9 := hid hk9; clear hp9 hk9)
        go_meet; exact ⟨_, _, rfl, fun _ => ⟨by omega, by omega, by omega, by omega, by omega⟩, HP9.out, HK9.out⟩
       have k95 : ((r : Int) != 95) = true := by rw [bne_iff_ne]; omega
       have k48 : decide ((r : Int) < 48) = false := by rw [decide_eq_false_iff_not]; omega
       have k57 : decide ((r : Int) > 57) = true := by rw [decide_eq_true_eq]; omega
       have k65 : decide ((r : Int) < 65) = false := by rw [decide_eq_false_iff_not]; omega
       have k90 : decide ((r : Int) > 90) = true := by rw [decide_eq_true_eq]; omega
       have k97 : decide ((r : Int) < 97) = false := by rw [decide_eq_false_iff_not]; omega
       have k122 : decide ((r : Int) > 122) = true := by rw [decide_eq_true_eq]; omega
       go_wp2_with fail
       go_meet; exact ⟨true, _, rfl, (fun h => by cases h), HP.out, Kp.refl _ _⟩
      case rest =>
       obtain ⟨b, u3, rfl, hplain, hP3, hK3⟩ := hcut; have HPl := hid hplain; have hitn : it ≠ pb := by
        intro e; obtain ⟨_, _, _, _, h1, _⟩ := HP.out.pk; have h2 := h1.blk; rw [← e, HItr.out] at h2; exact absurd h2 (by simp)
       have hitp : it ≠ pw := by
        intro e; have h2 := HP.out.pen; rw [← e, HItr.out] at h2; exact absurd h2 (by simp)
       have hit3 : wc.heap[it]? = some (.stringIter kk (pos + (utf8 r).length)) := by rw [hK3.block it (lt_of_block HItr.out) (by simp; exact hitn)]; exact HItr.out
       have HIt3 := hid hit3; have hitn2 : Hid (it ∉ [pw, pb]) := by intro hm; simp at hm; rcases hm with hm | hm; exact hitp hm; exact hitn hm
       have HK3 := hid (HK.out.kp hK3 (by simp)); clear HP HK HItr hplain hit3 c0 hK3; have HP := hid hP3; have c1 := hP3.c1; have f1 := hP3.fr 1; clear hP3; have hcon : Hid (it ∉ [pw, pb]) := hitn2; have hrl : tk.length ≤ 2 * wt (n + 1) v := by omega
       cases b with
       | true =>
        go_wp2_with (at_builtin; go_must (refine wp_pen_int rfl _ _ rfl w wc pw pb _ _ _ rfl (HP.out.alloc _) ((Kx.refl _ _).alloc _) _ _ _ rfl (cell_new _ _ _ _) ?_ ?_ ?_); go_must (omega); go_must (simp only [List.length_append, List.length_cons, List.length_nil]; omega); intro p2 n2 c2 w2 hP2 hK2; have c1 := hP2.c1; have f1 := hP2.fr 1; clear HP; have HP := hid hP2.store; have HK2 := hid (hK2.setCell (p := ⟨pw, 1, none⟩) (by simp) (.slice p2 n2 c2)); clear hP2 hK2)
        generalize World.setCell _ _ _ = w5 at *; go_wp2_with (go_at_call 20; refine (pen_rune w _ pw pb _ _ _ r _ (by rfl) HScr.out HP.out (by simp only [List.length_append, List.length_cons, List.length_nil]; omega)).mono ?_; rintro e6 w6 ⟨p6, n6, c6, rfl, hP6, hK6⟩; have c1 := hP6.c1; have f1 := hP6.fr 1; have HP6 := hid hP6.store; have HK6 := hid (((Kx.refl [pw, pb] w5).kt hK6).setCell (p := ⟨pw, 1, none⟩) (by simp) (.slice p6 n6 c6)); clear hP6 hK6)
        generalize World.setCell _ _ _ = w7 at *; clear c1 f1; go_roundg g'
        case measure => omega
        case rel => exact ⟨done ++ [r], rest, tk ++ (92 :: utf8 r), _, by rw [List.append_assoc]; exact HRs.out, by simp at hgf; omega, HKI.out.next (kchar_esc HScr.out) (by simp only [List.length_cons]; omega) (by have h : PenAt w w7 pw pb (.slice p6 n6 c6) (t1 ++ tk ++ [92] ++ utf8 r) := HP6.out; simpa only [List.append_assoc, List.cons_append, List.nil_append] using h) ((HK3.out.trans HK2.out).trans HK6.out) (by rw [HPos.out]; exact (HK2.out.trans HK6.out) _ _ HIt3.out hitn2.out (fun _ _ e => by cases e))⟩
       | false =>
        go_wp2_with (go_at_call 20; refine (pen_rune w _ pw pb _ _ _ r _ (by rfl) HScr.out HP.out (by simp only [List.length_append, List.length_cons, List.length_nil]; omega)).mono ?_; rintro e6 w6 ⟨p6, n6, c6, rfl, hP6, hK6⟩; have c1 := hP6.c1; have f1 := hP6.fr 1; have HP6 := hid hP6.store; have HK6 := hid (((Kx.refl [pw, pb] wc).kt hK6).setCell (p := ⟨pw, 1, none⟩) (by simp) (.slice p6 n6 c6)); clear hP6 hK6)
        generalize World.setCell _ _ _ = w7 at *; clear c1 f1; go_roundg g'
        case measure => omega
        case rel => exact ⟨done ++ [r], rest, tk ++ (utf8 r), _, by rw [List.append_assoc]; exact HRs.out, by simp at hgf; omega, HKI.out.next (kchar_raw HScr.out (HPl.out (by trivial))) (by omega) (by have h : PenAt w w7 pw pb (.slice p6 n6 c6) (t1 ++ tk ++ utf8 r) := HP6.out; simpa only [List.append_assoc, List.cons_append, List.nil_append] using h) (HK3.out.trans HK6.out) (by rw [HPos.out]; exact HK6.out _ _ HIt3.out hitn2.out (fun _ _ e => by cases e))⟩
  ·
   have k1 : decide ((i : Int) < (v.ks.length : Int)) = false := by rw [decide_eq_false_iff_not]; omega
   have hconv := run_convert_own HI.out.pen.out.own; go_wp2_with fail
   go_ret; have hik : i = v.ks.length := by omega
   have hsm : ∀ x ∈ t, x < 256 := by
    rcases HI.out.line with ⟨_, h⟩ | ⟨_, h⟩
    · subst h; simp
    · exact sml_all h.sml
   have hbs := bytesOf_strOf t hsm; obtain ⟨hA, hL⟩ := bytes_at _ _ hbs; refine ⟨strOf t, rfl, ?_, ?_, HI.out.pen.out.kp⟩
   ·
    rw [← hL]; rcases HI.out.line with ⟨h0, h⟩ | ⟨_, h⟩
    · subst h
      have hv : v.ks = [] := List.length_eq_zero_iff.1 (by omega)
      show LineAt numSem _ n 0 0 (told n v)
      unfold told; rw [hv]; exact rfl
    · rw [List.take_of_length_le (by unfold told; simp; omega)] at h
      have := h.up (g' := bt (strOf t)) (o := 0) (fun k _ hk => by
       have := hA k hk; rw [Nat.zero_add] at this; exact this)
      simpa using this
   · rw [← hL]
     have := sum_take_le (fun x => 20 + wt n x) v.l i; have := sum_take_le (fun k => 20 + 12 * k.size) v.ks i; omega
end
end Go.Proofs.YtljaoopfomcaoaaGreatDoor
