import Derived.Test.YtljaoopfomcaoaaGreatDoorM42
import Derived.Test.YtljaoopfomcaoaaGreatDoorM43
import Derived.Test.YtljaoopfomcaoaaGreatDoorM44
import Derived.Test.YtljaoopfomcaoaaGreatDoorM46
import Derived.Test.YtljaoopfomcaoaaGreatDoorM47
set_option linter.all false
open Go.Lib (hid)
namespace Go.Proofs.YtljaoopfomcaoaaGreatDoor
section
open Go.RowKit
def WantAt (w : World) (b : Nat) (z : JV) : Prop := ∃ kp kc lp lc, BxAt w b z kp kc lp lc ∧ Deep 50 w z kp lp
theorem WantAt.kp {w w' : World} {b : Nat} {z : JV} (h : WantAt w b z) (k : Kp [] w w') : WantAt w' b z := by
 obtain ⟨kp, kc, lp, lc, h1, h2⟩ := h; exact ⟨kp, kc, lp, lc, h1.keep k (by simp), h2.kp k⟩
theorem same_fits {m : Nat} {u f : JV} {T : List (ByteArray × JV)} (hk : u.kind = 7) (hl : u.ks.length = u.l.length) (hr : Rise u.ks) (hu : u.l.length ≤ 400) (hf : f.ks.length = f.l.length ∧ f.l.length ≤ 60) (hT : T.length ≤ 400 ∧ prs f = T) (hFu : Fits m u) (hFf : Fits m f)
  (hA1 : ∀ q ∈ u.ks.zip u.l, ∃ a, a ≤ 400 ∧ RightC 49 q.2 a) (hA2 : ∀ q ∈ T, ∃ a, a ≤ 400 ∧ RightC 49 q.2 a) :
  JSame 50 (nrm 50 (tabJV (putAll (u.ks.zip u.l) T))) (overJV u f) ∧ ∃ m1 m2, Fits m1 (nrm 50 (tabJV (putAll (u.ks.zip u.l) T))) ∧ Fits m2 (overJV u f) := by
 have hrp : RiseP (u.ks.zip u.l) := (riseP_iff _).2 (by rw [zip_fst _ _ hl]; exact hr); have hzl : (u.ks.zip u.l).length ≤ 400 := by rw [List.length_zip]; omega
 have hpl := putAll_len T (u.ks.zip u.l); obtain ⟨c, hR, _⟩ := right_table 49 400 (putAll (u.ks.zip u.l) T) (putAll_rise _ _ hrp) (fun q hq => (putAll_mem T _ q hq).elim (hA1 q) (hA2 q)); have hj := over_same (N := 49) (c := c) (vals := u) (v := f) hk hl (by rw [hT.2]; exact hR); rw [hT.2] at hj; refine ⟨hj, ?_⟩
 cases m with
 | zero => exact hFu.elim
 | succ m =>
  have hK : Fits (m + 1) (tabJV (putAll (u.ks.zip u.l) T)) := fits_tab (fun q hq => (putAll_mem T _ q hq).elim (fun h => fits_prs hFu q h) (fun h => fits_prs hFf q (by rw [hT.2]; exact h))) (by omega); refine ⟨m + 1, m + 1, fits_nrm 50 hK, ?_⟩; unfold overJV
  split
  · exact hFu
  · rw [hT.2]; exact hK
def WantB (B : Nat) (w : World) (b : Nat) (z : JV) : Prop := B ≤ w.heap.size ∧ b < B ∧ ∃ kp kc lp lc, BxAt w b z kp kc lp lc ∧ DeepF 50 (fun g => g < B) w z kp lp
theorem WantB.keep {S : List Nat} {B : Nat} {w w' : World} {b : Nat} {z : JV} (h : WantB B w b z) (k : Kp S w w') (hs : ∀ x ∈ S, B ≤ x) : WantB B w' b z := by
 obtain ⟨h0, h1, kp, kc, lp, lc, h2, h3⟩ := h; have := k.size; exact ⟨by omega, h1, kp, kc, lp, lc, h2.keep k (fun h => by have := hs b h; omega), h3.keep k.size fun g h4 h5 => ⟨h4, k.block g h5 (fun h => by have := hs g h; omega)⟩⟩
theorem WantB.want {B : Nat} {w : World} {b : Nat} {z : JV} (h : WantB B w b z) : WantAt w b z := by
 obtain ⟨_, _, kp, kc, lp, lc, h2, h3⟩ := h; exact ⟨kp, kc, lp, lc, h2, h3.deep⟩
theorem WantAt.bound {w : World} {b : Nat} {z : JV} (h : WantAt w b z) : WantB w.heap.size w b z := by
 obtain ⟨kp, kc, lp, lc, h2, h3⟩ := h; exact ⟨Nat.le_refl _, h2.lt, kp, kc, lp, lc, h2, h3.all⟩
theorem WantAt.lt {w : World} {b : Nat} {z : JV} (h : WantAt w b z) : b < w.heap.size := by
 obtain ⟨kp, kc, lp, lc, h1, h2⟩ := h; exact h1.lt
theorem kchar_len {g : Nat → Nat} {i j r : Nat} (h : KChar g i j r) : i + (utf8 r).length ≤ j := by
 rcases h.2 with ⟨_, _, _, _, _, _, e⟩ | ⟨_, _, e⟩ <;> omega
theorem keyAt_len {g : Nat → Nat} {j : Nat} : ∀ {rs : List Nat} {i : Nat}, KeyAt g i j rs → i + (enc rs).length ≤ j
 | [], i, h => by rw [show i = j from h]; simp [enc]
 | r :: rs, i, ⟨a, h1, h2⟩ => by
  have := kchar_len h1; have := keyAt_len h2; rw [enc, List.length_append]; omega
theorem pairAt_len {S : NumSem} {g : Nat → Nat} {n i j : Nat} {k : ByteArray} {v : JV} (h : PairAt S g n i j k v) : k.size ≤ j := by
 have hj := h.lt; obtain ⟨a, b, c, rs, h1, hk, _, h2, h3, h4⟩ := h; have := keyAt_len h1; have h5 := h2.1; have h6 := tx_lt h3; have h7 := h4.1; have : k.size = (bytesOf k).length := by simp [bytesOf]
 rw [this, hk]; omega
theorem line_keys {S : NumSem} {g : Nat → Nat} {n j : Nat} : ∀ {l : List (ByteArray × JV)} {i : Nat}, LineAt S g n i j l → ∀ q ∈ l, q.1.size ≤ j
 | [], _, _, q, hq => by cases hq
 | [p], i, h, q, hq => by
  obtain rfl := List.mem_singleton.1 hq; exact pairAt_len h
 | p :: p2 :: r, i, ⟨c, h1, _, h2⟩, q, hq => by
  rcases List.mem_cons.1 hq with rfl | hq
  · have := pairAt_len h1
    have := h2.le; omega
  · exact line_keys h2 q hq
theorem BytesAt.kp {w w' : World} {p : Option Addr} {n : Nat} (h : BytesAt w p n) (k : Kp [] w w') : BytesAt w' p n := fun i hi => by
 obtain ⟨g, o, y, h1, h2, h3⟩ := h i hi; exact ⟨g, o, y, h1, h2, cell_kp h3 k⟩
structure TI (w : World) (b3 b4 : Nat) (v : JV) (kp : Option Addr) (kc : Nat) (lp : Option Addr) (lc : Nat) (u : JV) (ukp : Option Addr) (ukc : Nat) (ulp : Option Addr) (ulc : Nat) (wr : World) : Prop where
 bv : BxAt wr b3 v kp kc lp lc
 bu : BxAt wr b4 u ukp ukc ulp ulc
 kp' : Kp [] w wr
theorem TI.next {w : World} {b3 b4 : Nat} {v : JV} {kp : Option Addr} {kc : Nat} {lp : Option Addr} {lc : Nat} {u : JV} {ukp : Option Addr} {ukc : Nat} {ulp : Option Addr} {ulc : Nat} {wr w' : World} (h : TI w b3 b4 v kp kc lp lc u ukp ukc ulp ulc wr) (k : Kp [] wr w') : TI w b3 b4 v kp kc lp lc u ukp ukc ulp ulc w' := ⟨h.bv.keep k (by simp), h.bu.keep k (by simp), h.kp'.trans k⟩
theorem TI.new (w : World) (v : JV) (kp : Option Addr) (kc : Nat) (lp : Option Addr) (lc : Nat) (u : JV) (ukp : Option Addr) (ukc : Nat) (ulp : Option Addr) (ulc : Nat) : TI w w.heap.size (w.heap.size + 1) v kp kc lp lc u ukp ukc ulp ulc ((w.alloc (.cells #[.int .i64 v.kind, .bool v.b, .int .i64 v.i, .float .f64 v.f, .string v.t, .slice kp v.ks.length kc, .slice lp v.l.length lc] 26)).alloc (.cells #[.int .i64 u.kind, .bool u.b, .int .i64 u.i, .float .f64 u.f, .string u.t, .slice ukp u.ks.length ukc, .slice ulp u.l.length ulc] 26)) := by
 refine ⟨(bxAt_fresh w v kp kc lp lc).keep (S := []) ((Kp.refl _ _).alloc _) (by simp), ?_, ((Kp.refl _ _).alloc _).alloc _⟩; exact heap_alloc2_new _ _ _
set_option maxRecDepth 100000 in
set_option maxHeartbeats 4000000 in
theorem told_is (d m : Nat) (w : World) (v : JV) (kp : Option Addr) (kc : Nat) (lp : Option Addr) (lc : Nat) (u : JV) (ukp : Option Addr) (ukc : Nat) (ulp : Option Addr) (ulc : Nat) (cp : Option Addr) (cn cc : Nat) (hdv : Deep d w v kp lp) (hdu : Deep d w u ukp ulp) (hFv : Fits m v) (hFu : Fits m u) (hE : Env w) (hP : PenEnv w) (hc : BytesAt w cp cn) (hcn : cn ≤ 2000000) (hcc : cn ≤ cc) (hwt : ∀ k, wt k v ≤ 90000000) :
  Calls Tryz.prog 3 #[valOf v kp kc lp lc, valOf u ukp ukc ulp ulc, .slice cp cn cc] w fun e w' => e = .returned (.bool true) ∧ Kp [] w w' := by
 have hks : StrsAt w kp v.ks := by
  cases d with
  | zero => exact hdv.elim
  | succ d => exact hdv.1
 have huks : StrsAt w ukp u.ks := by
  cases d with
  | zero => exact hdu.elim
  | succ d => exact hdu.1
 have HKv := hid hks; have HKu := hid huks; have HDv := hid hdv; have HDu := hid hdu; have HFv := hid hFv; have HFu := hid hFu; have HE := hid hE; have HPe := hid hP; have HCh := hid hc; have HWt := hid hwt; have H0 := hid (TI.new w v kp kc lp lc u ukp ukc ulp ulc); clear hks huks hdv hdu hFv hFu hE hP hc hwt; have kc1 : decide ((cn : Int) > 2147483647) = false := by rw [decide_eq_false_iff_not]; omega
 unfold valOf; go_enter Tryz.func3, Tryz.ntmps3
 go_upto_region 1 with fail
 generalize hW : World.alloc _ _ = w1 at *; clear hW; generalize hb3 : w.heap.size = b3 at *; generalize hb4 : b3 + 1 = b4 at *; have HBs := hid (And.intro hb3 hb4); clear hb3 hb4; have x0 := H0.out.bv.c0; have x1 := H0.out.bv.c1; have x2 := H0.out.bv.c2; have x3 := H0.out.bv.c3; have x4 := H0.out.bv.c4; have x5 := H0.out.bv.c5; have x6 := H0.out.bv.c6; have y0 := H0.out.bu.c0; have y1 := H0.out.bu.c1; have y2 := H0.out.bu.c2; have y3 := H0.out.bu.c3; have y4 := H0.out.bu.c4; have y5 := H0.out.bu.c5; have y6 := H0.out.bu.c6; go_wp2_with fail
 refine (fits2_is w1 v kp lp kc lc (HKv.out.kp H0.out.kp')).mono ?_
 rintro e1 w2 ⟨a1, rfl, hk2⟩
 have H1 := hid (H0.out.next hk2); clear x0 x1 x2 x3 x4 x5 x6 y0 y1 y2 y3 y4 y5 y6; clear hk2
 cases a1 with
 | false =>
  go_wp2_with fail
  go_ret; exact ⟨rfl, H1.out.kp'⟩
 | true =>
 have x0 := H1.out.bv.c0; have x1 := H1.out.bv.c1; have x2 := H1.out.bv.c2; have x3 := H1.out.bv.c3; have x4 := H1.out.bv.c4; have x5 := H1.out.bv.c5; have x6 := H1.out.bv.c6; have y0 := H1.out.bu.c0; have y1 := H1.out.bu.c1; have y2 := H1.out.bu.c2; have y3 := H1.out.bu.c3; have y4 := H1.out.bu.c4; have y5 := H1.out.bu.c5; have y6 := H1.out.bu.c6; go_wp2_with fail
 refine (fits2_is w2 u ukp ulp ukc ulc (HKu.out.kp H1.out.kp')).mono ?_
 rintro e2 w3 ⟨a2, rfl, hk3⟩
 have H2 := hid (H1.out.next hk3); clear x0 x1 x2 x3 x4 x5 x6 y0 y1 y2 y3 y4 y5 y6; clear hk3
 cases a2 with
 | false =>
  go_wp2_with fail
  go_ret; exact ⟨rfl, H2.out.kp'⟩
 | true =>
 have x0 := H2.out.bv.c0; have x1 := H2.out.bv.c1; have x2 := H2.out.bv.c2; have x3 := H2.out.bv.c3; have x4 := H2.out.bv.c4; have x5 := H2.out.bv.c5; have x6 := H2.out.bv.c6; have y0 := H2.out.bu.c0; have y1 := H2.out.bu.c1; have y2 := H2.out.bu.c2; have y3 := H2.out.bu.c3; have y4 := H2.out.bu.c4; have y5 := H2.out.bu.c5; have y6 := H2.out.bu.c6; go_wp2_with fail
 refine (right_is d m 60 w3 v kp lp kc lc 60 rfl (by omega) (HDv.out.kp H2.out.kp') HFv.out).mono ?_
 rintro e3 w4 ⟨a3, rfl, hk4, hr⟩
 have H3 := hid (H2.out.next hk4); have HR := hid hr; clear x0 x1 x2 x3 x4 x5 x6 y0 y1 y2 y3 y4 y5 y6; clear hk4 hr
 cases a3 with
 | false =>
  go_wp2_with fail
  refine (awake_is _ (HE.out.kp H3.out.kp' (by simp))).mono ?_
  rintro ea wa ⟨rfl, hka⟩
  have HKa := hid (H3.out.kp'.trans hka); clear hka; go_wp2_with fail
  go_ret; exact ⟨rfl, HKa.out⟩
 | true =>
 obtain ⟨c, hR, hc60⟩ := HR.out rfl; have HRv := hid hR; clear HR hR; have x0 := H3.out.bv.c0; have x1 := H3.out.bv.c1; have x2 := H3.out.bv.c2; have x3 := H3.out.bv.c3; have x4 := H3.out.bv.c4; have x5 := H3.out.bv.c5; have x6 := H3.out.bv.c6; have y0 := H3.out.bu.c0; have y1 := H3.out.bu.c1; have y2 := H3.out.bu.c2; have y3 := H3.out.bu.c3; have y4 := H3.out.bu.c4; have y5 := H3.out.bu.c5; have y6 := H3.out.bu.c6; go_wp2_with fail
 refine (isTable_is w4 v kp lp kc lc).mono ?_
 rintro e4 w5 ⟨he, hk5⟩
 have H4 := hid (H3.out.next hk5); clear x0 x1 x2 x3 x4 x5 x6 y0 y1 y2 y3 y4 y5 y6; clear hk5; by_cases hkv : v.kind = 7
 case neg =>
  have hbb : (v.kind == 7) = false := by simpa using hkv
  rw [hbb] at he; subst he; clear hbb hkv; go_wp2_with fail
  refine (awake_is _ (HE.out.kp H4.out.kp' (by simp))).mono ?_
  rintro ea wa ⟨rfl, hka⟩
  have HKa := hid (H4.out.kp'.trans hka); clear hka; go_wp2_with fail
  go_ret; exact ⟨rfl, HKa.out⟩
 have hbb : (v.kind == 7) = true := by simpa using hkv
 rw [hbb] at he; subst he; have HKd := hid hkv; clear hbb hkv; have x0 := H4.out.bv.c0; have x1 := H4.out.bv.c1; have x2 := H4.out.bv.c2; have x3 := H4.out.bv.c3; have x4 := H4.out.bv.c4; have x5 := H4.out.bv.c5; have x6 := H4.out.bv.c6; have y0 := H4.out.bu.c0; have y1 := H4.out.bu.c1; have y2 := H4.out.bu.c2; have y3 := H4.out.bu.c3; have y4 := H4.out.bu.c4; have y5 := H4.out.bu.c5; have y6 := H4.out.bu.c6; go_wp2_with fail
 refine (mlClear_is d m w5 v kp lp kc lc (HDv.out.kp H4.out.kp') HFv.out (HE.out.kp H4.out.kp' (by simp))).mono ?_
 rintro e5 w6 ⟨a5, rfl, hk6, hcl⟩
 have H5 := hid (H4.out.next hk6); have HCl := hid hcl; clear x0 x1 x2 x3 x4 x5 x6 y0 y1 y2 y3 y4 y5 y6; clear hk6 hcl
 cases a5 with
 | false =>
  go_wp2_with fail
  refine (awake_is _ (HE.out.kp H5.out.kp' (by simp))).mono ?_
  rintro ea wa ⟨rfl, hka⟩
  have HKa := hid (H5.out.kp'.trans hka); clear hka; go_wp2_with fail
  go_ret; exact ⟨rfl, HKa.out⟩
 | true =>
 have HClr := hid (HCl.out rfl).1; have HNe := hid (HCl.out rfl).2; clear HCl; have x0 := H5.out.bv.c0; have x1 := H5.out.bv.c1; have x2 := H5.out.bv.c2; have x3 := H5.out.bv.c3; have x4 := H5.out.bv.c4; have x5 := H5.out.bv.c5; have x6 := H5.out.bv.c6; have y0 := H5.out.bu.c0; have y1 := H5.out.bu.c1; have y2 := H5.out.bu.c2; have y3 := H5.out.bu.c3; have y4 := H5.out.bu.c4; have y5 := H5.out.bu.c5; have y6 := H5.out.bu.c6; go_wp2_with fail
 refine (right_is d m 400 w6 u ukp ulp ukc ulc 400 rfl (by omega) (HDu.out.kp H5.out.kp') HFu.out).mono ?_
 rintro e6 w7 ⟨a6, rfl, hk7, hr⟩
 have H6 := hid (H5.out.next hk7); have HR := hid hr; clear x0 x1 x2 x3 x4 x5 x6 y0 y1 y2 y3 y4 y5 y6; clear hk7 hr
 cases a6 with
 | false =>
  go_wp2_with fail
  refine (awake_is _ (HE.out.kp H6.out.kp' (by simp))).mono ?_
  rintro ea wa ⟨rfl, hka⟩
  have HKa := hid (H6.out.kp'.trans hka); clear hka; go_wp2_with fail
  go_ret; exact ⟨rfl, HKa.out⟩
 | true =>
 obtain ⟨cu, hR, hc400⟩ := HR.out rfl; have HRu := hid hR; clear HR hR; have x0 := H6.out.bv.c0; have x1 := H6.out.bv.c1; have x2 := H6.out.bv.c2; have x3 := H6.out.bv.c3; have x4 := H6.out.bv.c4; have x5 := H6.out.bv.c5; have x6 := H6.out.bv.c6; have y0 := H6.out.bu.c0; have y1 := H6.out.bu.c1; have y2 := H6.out.bu.c2; have y3 := H6.out.bu.c3; have y4 := H6.out.bu.c4; have y5 := H6.out.bu.c5; have y6 := H6.out.bu.c6; go_wp2_with fail
 refine (isTable_is w7 u ukp ulp ukc ulc).mono ?_
 rintro e7 w8 ⟨he, hk8⟩
 have H7 := hid (H6.out.next hk8); clear x0 x1 x2 x3 x4 x5 x6 y0 y1 y2 y3 y4 y5 y6; clear hk8; by_cases hku : u.kind = 7
 case neg =>
  have hbb : (u.kind == 7) = false := by simpa using hku
  rw [hbb] at he; subst he; clear hbb hku; go_wp2_with fail
  refine (awake_is _ (HE.out.kp H7.out.kp' (by simp))).mono ?_
  rintro ea wa ⟨rfl, hka⟩
  have HKa := hid (H7.out.kp'.trans hka); clear hka; go_wp2_with fail
  go_ret; exact ⟨rfl, HKa.out⟩
 have hbb : (u.kind == 7) = true := by simpa using hku
 rw [hbb] at he; subst he; have HKu7 := hid hku; clear hbb hku; have x0 := H7.out.bv.c0; have x1 := H7.out.bv.c1; have x2 := H7.out.bv.c2; have x3 := H7.out.bv.c3; have x4 := H7.out.bv.c4; have x5 := H7.out.bv.c5; have x6 := H7.out.bv.c6; have y0 := H7.out.bu.c0; have y1 := H7.out.bu.c1; have y2 := H7.out.bu.c2; have y3 := H7.out.bu.c3; have y4 := H7.out.bu.c4; have y5 := H7.out.bu.c5; have y6 := H7.out.bu.c6; go_wp2_with fail
 have hdp : Deep (49 + 1) w8 v kp lp := (deep_right HRv.out HDv.out).kp H7.out.kp'; refine (tell_is 49 49 w8 v kp lp kc lc cp cn cc (good_of HRv.out HClr.out (fits_ints HRv.out HFv.out)) HKd.out hdp (HPe.out.kp H7.out.kp') (HCh.out.kp H7.out.kp') (by omega) hcc (HWt.out 50)).mono ?_
 rintro e8 w9 ⟨s, rfl, hline, hsz, hk9⟩
 have H8 := hid (H7.out.next hk9); have HLine := hid hline; have hsz2 : s.size ≤ 90000000 := Nat.le_trans hsz (HWt.out 50); clear x0 x1 x2 x3 x4 x5 x6 y0 y1 y2 y3 y4 y5 y6; clear hk9 hline hsz hdp; have hcopy : Kp [] w9 ((w9.alloc (.cells #[.int .i64 0, .string ⟨#[]⟩] 33)).setRow w9.heap.size #[.int .i64 3, .string s]) := by
  have h1 : Kp [] w9 (w9.alloc (.cells #[.int .i64 0, .string ⟨#[]⟩] 33)) := (Kp.refl _ _).alloc _; exact ⟨h1.os, h1.tape, h1.output, by rw [setRow_size]; exact h1.size, fun k hk hs => by rw [setRow_other _ _ _ _ (by omega)]; exact h1.block k hk hs⟩
 have hln : LnAt ((w9.alloc (.cells #[.int .i64 0, .string ⟨#[]⟩] 33)).setRow w9.heap.size #[.int .i64 3, .string s]) w9.heap.size s := setRow_heap _ _ _ _ 33 _ (heap_alloc_new _ _); go_upto_region 6 with (refine wpList_store_row rfl 33 _ _ rfl w9.heap.size #[.int .i64 3, .string s] ?_ ?_ 33 #[.int .i64 0, .string ⟨#[]⟩] ?_ ?_ ?_ ?_ ?_; go_must (rfl); go_must (rfl); go_must (exact heap_alloc_new _ _); go_must (kernel_rfl); go_must (rfl); go_must (simp [Value.oneCell']))
 generalize hW : World.setRow _ _ _ = w10 at *; generalize hb7 : w9.heap.size = b7 at *; have H9 := hid (H8.out.next hcopy); have HLn := hid hln; have l0 := hln.c0; have l1 := hln.c1; clear hW hcopy hln hb7; go_wp2_with fail
 refine (mlLine_is w10 s (by omega) (HE.out.kp H9.out.kp' (by simp))).mono ?_
 rintro e9 w11 ⟨a9, rfl, hk11, hml⟩
 have H10 := hid (H9.out.next hk11); have HLn2 := hid (HLn.out.keep hk11 (by simp)); have HMl := hid hml; clear hk11 hml l0 l1
 cases a9 with
 | false =>
  go_wp2_with fail
  refine (awake_is _ (HE.out.kp H10.out.kp' (by simp))).mono ?_
  rintro ea wa ⟨rfl, hka⟩
  have HKa := hid (H10.out.kp'.trans hka); clear hka; go_wp2_with fail
  go_ret; exact ⟨rfl, HKa.out⟩
 | true =>
 obtain ⟨hs700, hbrk⟩ := HMl.out rfl; have HBrk := hid hbrk; clear HMl hbrk; go_upto_region 8 with fail
 have hup := right_table_parts HRu.out HKu7.out; have HUp := hid (show Rise u.ks ∧ u.ks.length = u.l.length ∧ u.l.length ≤ 400 ∧ ∀ x ∈ u.l, ∃ a, a ≤ 400 ∧ RightC 49 x a from ⟨hup.1, hup.2.1, by have := hup.2.2.1; omega, fun x hx => by obtain ⟨a, h1, h2⟩ := hup.2.2.2 x hx; exact ⟨a, by omega, h2⟩⟩); have hvp := right_table_parts HRv.out HKd.out; have HVp := hid (show Rise v.ks ∧ v.ks.length = v.l.length ∧ v.l.length ≤ 60 ∧ ∀ x ∈ v.l, ∃ a, a ≤ 60 ∧ RightC 49 x a from ⟨hvp.1, hvp.2.1, by have := hvp.2.2.1; omega, fun x hx => by obtain ⟨a, h1, h2⟩ := hvp.2.2.2 x hx; exact ⟨a, by omega, h2⟩⟩); clear hup hvp; obtain ⟨f, hfe⟩ : ∃ f, f = flo F64 50 v := ⟨_, rfl⟩; have HFe := hid hfe; have HFp := hid (show f.ks.length = f.l.length ∧ f.l.length ≤ 60 from by
  have h := HKd.out; rw [hfe, flo_eq, if_neg (by omega)]
  show v.ks.length = (v.l.map _).length ∧ (v.l.map _).length ≤ 60
  rw [List.length_map]; exact ⟨HVp.out.2.1, HVp.out.2.2.1⟩)
 clear hfe; go_cut [8] (fun s8 wx => ∃ b8 : Nat, s8 = .pointer (some ⟨b8, 0, none⟩) ∧ WantAt wx b8 (overJV u f) ∧ TI w b3 b4 v kp kc lp lc u ukp ukc ulp ulc wx ∧ LnAt wx b7 s)
 case first =>
  have HTd := hid (H10.out.next (Kp.refl _ _).drew); have HLd := hid (HLn2.out.keep (Kp.refl [] w11).drew (by simp))
  refine region_T (fun w' => w'.cell? ⟨b3, 0, none⟩ = some (.int .i64 v.kind) ∧ w'.cell? ⟨b3, 1, none⟩ = some (.bool v.b) ∧ w'.cell? ⟨b3, 2, none⟩ = some (.int .i64 v.i) ∧ w'.cell? ⟨b3, 3, none⟩ = some (.float .f64 v.f) ∧ w'.cell? ⟨b3, 4, none⟩ = some (.string v.t) ∧ w'.cell? ⟨b3, 5, none⟩ = some (.slice kp v.ks.length kc) ∧ w'.cell? ⟨b3, 6, none⟩ = some (.slice lp v.l.length lc) ∧ w'.cell? ⟨b4, 0, none⟩ = some (.int .i64 u.kind) ∧ w'.cell? ⟨b4, 1, none⟩ = some (.bool u.b) ∧ w'.cell? ⟨b4, 2, none⟩ = some (.int .i64 u.i) ∧ w'.cell? ⟨b4, 3, none⟩ = some (.float .f64 u.f) ∧ w'.cell? ⟨b4, 4, none⟩ = some (.string u.t) ∧ w'.cell? ⟨b4, 5, none⟩ = some (.slice ukp u.ks.length ukc) ∧ w'.cell? ⟨b4, 6, none⟩ = some (.slice ulp u.l.length ulc)) (fun _ => True) [] (by kernel_rfl) ?_; generalize hwd : w11.drew = wd at *; clear hwd
  refine AnyT.take0 (i := 0) (v := ?v0_1) rfl (by kernel_rfl) (fun _ _ _ h => h) (Or.inl ⟨by rfl, ?hy0_1⟩) ⟨HTd.out.bv.c0, HTd.out.bv.c1, HTd.out.bv.c2, HTd.out.bv.c3, HTd.out.bv.c4, HTd.out.bv.c5, HTd.out.bv.c6, HTd.out.bu.c0, HTd.out.bu.c1, HTd.out.bu.c2, HTd.out.bu.c3, HTd.out.bu.c4, HTd.out.bu.c5, HTd.out.bu.c6⟩ (fun _ => trivial) ?_
  case hy0_1 => intro w'' hS''; (try dsimp only at hS''); go_split_ands; go_simp; try (with_reducible rfl)
  (try simp only [Act.put, List.setIfInBounds_toArray, List.set_cons_zero, List.set_cons_succ]); refine AnyT.take0 (i := 1) (v := ?v1_2) rfl (by kernel_rfl) (fun _ _ _ h => h) (Or.inl ⟨by rfl, ?hy1_2⟩) ⟨HTd.out.bv.c0, HTd.out.bv.c1, HTd.out.bv.c2, HTd.out.bv.c3, HTd.out.bv.c4, HTd.out.bv.c5, HTd.out.bv.c6, HTd.out.bu.c0, HTd.out.bu.c1, HTd.out.bu.c2, HTd.out.bu.c3, HTd.out.bu.c4, HTd.out.bu.c5, HTd.out.bu.c6⟩ (fun _ => trivial) ?_
  case hy1_2 => intro w'' hS''; (try dsimp only at hS''); go_split_ands; go_simp; try (with_reducible rfl)
  (try simp only [Act.put, List.setIfInBounds_toArray, List.set_cons_zero, List.set_cons_succ]); refine AnyT.ready (rs := [2, 4]) (by kernel_rfl) (by simp) (AllT.cons rfl (fun K hK => ?_) (AllT.cons rfl (fun K hK => ?_) AllT.nil))
  ·
   go_simp; go_at_call 12
   refine (mlf_does 50 (fun g => g < w.heap.size) m w wd v kp lp kc lc (deep_right HRv.out HDv.out).all (fun g h => h) HFv.out HTd.out.kp').mono ?_
   rintro e20 wf ⟨fkp, fkc, flp, flc, he, hdf, hkf⟩
   rw [← HFe.out] at he hdf; unfold valOf at he; subst he; have HTf := hid (HTd.out.next hkf); have HLf := hid (HLd.out.keep hkf (by simp)); have HKf := hid hkf; have HDf := hid hdf; clear hdf hkf; refine hK.out _ _ ⟨HTf.out.bv.c0, HTf.out.bv.c1, HTf.out.bv.c2, HTf.out.bv.c3, HTf.out.bv.c4, HTf.out.bv.c5, HTf.out.bv.c6, HTf.out.bu.c0, HTf.out.bu.c1, HTf.out.bu.c2, HTf.out.bu.c3, HTf.out.bu.c4, HTf.out.bu.c5, HTf.out.bu.c6⟩ (fun _ => trivial) ?_; clear hK K; refine AnyT.ready (rs := [3, 4]) (by kernel_rfl) (by simp) (AllT.cons rfl (fun K hK => ?_) (AllT.cons rfl (fun K hK => ?_) AllT.nil))
   ·
    have hdf : DeepF 50 (fun g => g < wf.heap.size) wf f fkp flp := HDf.out.keep (Nat.le_refl _) fun g _ h2 => ⟨h2, rfl⟩
    have hdu : DeepF 50 (fun g => g < wf.heap.size) wf u ukp ulp := (deep_right HRu.out HDu.out).all.keep HTf.out.kp'.size fun g h1 h2 => ⟨by have := HTf.out.kp'.size; omega, HTf.out.kp'.block g h2 (by simp)⟩
    have hov := over_is 49 (fun g => g < wf.heap.size) wf u f ukp ulp ukc ulc fkp flp fkc flc HUp.out.2.1 HUp.out.1 HFp.out.1 (by have := HUp.out; omega) (by have := HFp.out; omega) hdu hdf (fun g h => h); unfold valOf at hov; have HOv := hid hov; clear hdf hdu hov; go_simp; go_at_call 11
    refine HOv.out.mono ?_
    rintro e21 wo ⟨zkp, zkc, zlp, zlc, he, hdz, hkz⟩
    obtain ⟨z, hz⟩ : ∃ z, z = overJV u f := ⟨_, rfl⟩; rw [← hz] at he hdz; have HZe := hid hz; unfold valOf at he; subst he; have HTo := hid (HTf.out.next hkz); have HLo := hid (HLf.out.keep hkz (by simp)); have HZ0 := hid hdz; clear hz hdz hkz HOv; refine hK.out _ _ ⟨HTo.out.bv.c0, HTo.out.bv.c1, HTo.out.bv.c2, HTo.out.bv.c3, HTo.out.bv.c4, HTo.out.bv.c5, HTo.out.bv.c6, HTo.out.bu.c0, HTo.out.bu.c1, HTo.out.bu.c2, HTo.out.bu.c3, HTo.out.bu.c4, HTo.out.bu.c5, HTo.out.bu.c6⟩ (fun _ => trivial) ?_; clear hK K; refine AnyT.ready (rs := [4]) (by kernel_rfl) (by simp) (AllT.cons rfl (fun K hK => ?_) AllT.nil)
    ·
     go_simp; have hTa : TI w b3 b4 v kp kc lp lc u ukp ukc ulp ulc (wo.alloc (.cells #[.int .i64 0, .bool false, .int .i64 0, .float .f64 0, .string ⟨#[]⟩, .slice none 0 0, .slice none 0 0] 26)) := HTo.out.next ((Kp.refl _ _).alloc _); have hLa := HLo.out.keep ((Kp.refl [] wo).alloc (.cells #[.int .i64 0, .bool false, .int .i64 0, .float .f64 0, .string ⟨#[]⟩, .slice none 0 0, .slice none 0 0] 26)) (by simp); have hka : Kp [] wo (wo.alloc (.cells #[.int .i64 0, .bool false, .int .i64 0, .float .f64 0, .string ⟨#[]⟩, .slice none 0 0, .slice none 0 0] 26)) := (Kp.refl _ _).alloc _; have hTb : (wo.alloc (.cells #[.int .i64 0, .bool false, .int .i64 0, .float .f64 0, .string ⟨#[]⟩, .slice none 0 0, .slice none 0 0] 26)).heap[wo.heap.size]? = some (.cells #[.int .i64 0, .bool false, .int .i64 0, .float .f64 0, .string ⟨#[]⟩, .slice none 0 0, .slice none 0 0] 26 (0, 0)) := heap_alloc_new _ _
     have htw : w.heap.size ≤ wo.heap.size ∧ wo.heap.size ≠ b3 ∧ wo.heap.size ≠ b4 ∧ wo.heap.size ≠ b7 := ⟨HTo.out.kp'.size, by have := HTo.out.bv.lt; omega, by have := HTo.out.bu.lt; omega, by have := HLo.out.lt; omega⟩; have hsa : (wo.alloc (.cells #[.int .i64 0, .bool false, .int .i64 0, .float .f64 0, .string ⟨#[]⟩, .slice none 0 0, .slice none 0 0] 26)).heap.size = wo.heap.size + 1 := by simp
     generalize hwa : wo.alloc (.cells #[.int .i64 0, .bool false, .int .i64 0, .float .f64 0, .string ⟨#[]⟩, .slice none 0 0, .slice none 0 0] 26) = wa at *; generalize htb : wo.heap.size = tb at *; have HTa := hid hTa; have HLa := hid hLa; have HTb := hid hTb; have HTw := hid htw; have HAs := hid (And.intro htb hsa); have HKa := hid hka; clear hwa htb hTa hLa hTb htw hsa; have HZ := hid (DeepF.keep (F' := fun g => g ≠ tb) hka.size (fun g h1 h2 => ⟨by have := HAs.out.1; omega, hka.block g h2 (by simp)⟩) HZ0.out); clear hka; refine hK.out _ _ ⟨HTa.out.bv.c0, HTa.out.bv.c1, HTa.out.bv.c2, HTa.out.bv.c3, HTa.out.bv.c4, HTa.out.bv.c5, HTa.out.bv.c6, HTa.out.bu.c0, HTa.out.bu.c1, HTa.out.bu.c2, HTa.out.bu.c3, HTa.out.bu.c4, HTa.out.bu.c5, HTa.out.bu.c6⟩ (fun _ => trivial) ?_; clear hK K
     refine AnyT.ready (rs := [5]) (by kernel_rfl) (by simp) (AllT.cons rfl (fun K hK => ?_) AllT.nil); refine step_store_row rfl _ _ rfl tb z zkp zkc zlp zlc (by simp [Act.eval, Act.put]) (by simp [Act.eval, Act.put]) _ HTb.out rfl ?_; intro w5 hb5 hk5; have htb := HTw.out; have HT5 := hid (show TI w b3 b4 v kp kc lp lc u ukp ukc ulp ulc w5 from ⟨HTa.out.bv.keep hk5 (by simp; omega), HTa.out.bu.keep hk5 (by simp; omega), HTa.out.kp'.over hk5 (by simp; omega)⟩); have HL5 := hid (HLa.out.keep hk5 (by simp; omega)); have HW5 := hid (show WantAt w5 tb z from ⟨zkp, zkc, zlp, zlc, hb5, (HZ.out.keep (F' := fun _ => True) hk5.size fun g h1 h2 => ⟨trivial, hk5.block g h2 (by simp; exact h1)⟩).deep⟩); clear hb5 hk5 htb
     refine hK.out _ _ ⟨HT5.out.bv.c0, HT5.out.bv.c1, HT5.out.bv.c2, HT5.out.bv.c3, HT5.out.bv.c4, HT5.out.bv.c5, HT5.out.bv.c6, HT5.out.bu.c0, HT5.out.bu.c1, HT5.out.bu.c2, HT5.out.bu.c3, HT5.out.bu.c4, HT5.out.bu.c5, HT5.out.bu.c6⟩ (fun _ => trivial) ?_; clear hK K; refine AnyT.done (by kernel_rfl) ?_ _; refine NoPanic.normal ?_; go_wp2_with fail
     go_meet; exact ⟨tb, rfl, by rw [← HZe.out]; exact HW5.out, HT5.out, HL5.out⟩
   ·
    go_simp; have hTa : TI w b3 b4 v kp kc lp lc u ukp ukc ulp ulc (wf.alloc (.cells #[.int .i64 0, .bool false, .int .i64 0, .float .f64 0, .string ⟨#[]⟩, .slice none 0 0, .slice none 0 0] 26)) := HTf.out.next ((Kp.refl _ _).alloc _); have hLa := HLf.out.keep ((Kp.refl [] wf).alloc (.cells #[.int .i64 0, .bool false, .int .i64 0, .float .f64 0, .string ⟨#[]⟩, .slice none 0 0, .slice none 0 0] 26)) (by simp); have hka : Kp [] wf (wf.alloc (.cells #[.int .i64 0, .bool false, .int .i64 0, .float .f64 0, .string ⟨#[]⟩, .slice none 0 0, .slice none 0 0] 26)) := (Kp.refl _ _).alloc _; have hTb : (wf.alloc (.cells #[.int .i64 0, .bool false, .int .i64 0, .float .f64 0, .string ⟨#[]⟩, .slice none 0 0, .slice none 0 0] 26)).heap[wf.heap.size]? = some (.cells #[.int .i64 0, .bool false, .int .i64 0, .float .f64 0, .string ⟨#[]⟩, .slice none 0 0, .slice none 0 0] 26 (0, 0)) := heap_alloc_new _ _
    have htw : w.heap.size ≤ wf.heap.size ∧ wf.heap.size ≠ b3 ∧ wf.heap.size ≠ b4 ∧ wf.heap.size ≠ b7 := ⟨HTf.out.kp'.size, by have := HTf.out.bv.lt; omega, by have := HTf.out.bu.lt; omega, by have := HLf.out.lt; omega⟩; have hsa : (wf.alloc (.cells #[.int .i64 0, .bool false, .int .i64 0, .float .f64 0, .string ⟨#[]⟩, .slice none 0 0, .slice none 0 0] 26)).heap.size = wf.heap.size + 1 := by simp
    generalize hwa : wf.alloc (.cells #[.int .i64 0, .bool false, .int .i64 0, .float .f64 0, .string ⟨#[]⟩, .slice none 0 0, .slice none 0 0] 26) = wa at *; generalize htb : wf.heap.size = tb at *; have HTa := hid hTa; have HLa := hid hLa; have HTb := hid hTb; have HTw := hid htw; have HAs := hid (And.intro htb hsa); have HKa := hid hka; clear hwa htb hTa hLa hTb htw hsa; clear hka; refine hK.out _ _ ⟨HTa.out.bv.c0, HTa.out.bv.c1, HTa.out.bv.c2, HTa.out.bv.c3, HTa.out.bv.c4, HTa.out.bv.c5, HTa.out.bv.c6, HTa.out.bu.c0, HTa.out.bu.c1, HTa.out.bu.c2, HTa.out.bu.c3, HTa.out.bu.c4, HTa.out.bu.c5, HTa.out.bu.c6⟩ (fun _ => trivial) ?_; clear hK K; refine AnyT.ready (rs := [3]) (by kernel_rfl) (by simp) (AllT.cons rfl (fun K hK => ?_) AllT.nil)
    ·
     have hdf : DeepF 50 (fun g => g ≠ tb ∧ g < wa.heap.size) wa f fkp flp := HDf.out.keep HKa.out.size fun g _ h2 => ⟨⟨by have := HAs.out.1; omega, by have := HAs.out; omega⟩, HKa.out.block g h2 (by simp)⟩
     have hdu : DeepF 50 (fun g => g ≠ tb ∧ g < wa.heap.size) wa u ukp ulp := (deep_right HRu.out HDu.out).all.keep HTa.out.kp'.size fun g h1 h2 => ⟨⟨by have := HTw.out.1; omega, by have := HTa.out.kp'.size; omega⟩, HTa.out.kp'.block g h2 (by simp)⟩
     have hov := over_is 49 (fun g => g ≠ tb ∧ g < wa.heap.size) wa u f ukp ulp ukc ulc fkp flp fkc flc HUp.out.2.1 HUp.out.1 HFp.out.1 (by have := HUp.out; omega) (by have := HFp.out; omega) hdu hdf (fun g h => h.2); unfold valOf at hov; have HOv := hid hov; clear hdf hdu hov; go_simp; go_at_call 11
     refine HOv.out.mono ?_
     rintro e21 wo ⟨zkp, zkc, zlp, zlc, he, hdz, hkz⟩
     obtain ⟨z, hz⟩ : ∃ z, z = overJV u f := ⟨_, rfl⟩; rw [← hz] at he hdz; have HZe := hid hz; unfold valOf at he; subst he; have HTo := hid (HTa.out.next hkz); have HLo := hid (HLa.out.keep hkz (by simp)); have HTb := hid (show wo.heap[tb]? = some (.cells #[.int .i64 0, .bool false, .int .i64 0, .float .f64 0, .string ⟨#[]⟩, .slice none 0 0, .slice none 0 0] 26 (0, 0)) by rw [hkz.block tb (lt_of_block HTb.out) (by simp)]; exact HTb.out); have htl := lt_of_block HTb.out; have htl2 : tb < wa.heap.size := by first | (have := HAs.out; omega) | (have := HAs.out; have := HKf.out.size; omega)
     have HZ := hid (DeepF.keep (F' := fun g => g ≠ tb) (Nat.le_refl _) (fun g h1 h2 => ⟨h1.elim (fun h1 => h1.1) (fun h1 => by have := h1.1; omega), rfl⟩) hdz); clear htl htl2; clear hz hdz hkz HOv; refine hK.out _ _ ⟨HTo.out.bv.c0, HTo.out.bv.c1, HTo.out.bv.c2, HTo.out.bv.c3, HTo.out.bv.c4, HTo.out.bv.c5, HTo.out.bv.c6, HTo.out.bu.c0, HTo.out.bu.c1, HTo.out.bu.c2, HTo.out.bu.c3, HTo.out.bu.c4, HTo.out.bu.c5, HTo.out.bu.c6⟩ (fun _ => trivial) ?_; clear hK K; refine AnyT.ready (rs := [5]) (by kernel_rfl) (by simp) (AllT.cons rfl (fun K hK => ?_) AllT.nil); refine step_store_row rfl _ _ rfl tb z zkp zkc zlp zlc (by simp [Act.eval, Act.put]) (by simp [Act.eval, Act.put]) _ HTb.out rfl ?_; intro w5 hb5 hk5; have htb := HTw.out
     have HT5 := hid (show TI w b3 b4 v kp kc lp lc u ukp ukc ulp ulc w5 from ⟨HTo.out.bv.keep hk5 (by simp; omega), HTo.out.bu.keep hk5 (by simp; omega), HTo.out.kp'.over hk5 (by simp; omega)⟩); have HL5 := hid (HLo.out.keep hk5 (by simp; omega)); have HW5 := hid (show WantAt w5 tb z from ⟨zkp, zkc, zlp, zlc, hb5, (HZ.out.keep (F' := fun _ => True) hk5.size fun g h1 h2 => ⟨trivial, hk5.block g h2 (by simp; exact h1)⟩).deep⟩); clear hb5 hk5 htb; refine hK.out _ _ ⟨HT5.out.bv.c0, HT5.out.bv.c1, HT5.out.bv.c2, HT5.out.bv.c3, HT5.out.bv.c4, HT5.out.bv.c5, HT5.out.bv.c6, HT5.out.bu.c0, HT5.out.bu.c1, HT5.out.bu.c2, HT5.out.bu.c3, HT5.out.bu.c4, HT5.out.bu.c5, HT5.out.bu.c6⟩ (fun _ => trivial) ?_; clear hK K; refine AnyT.done (by kernel_rfl) ?_ _; refine NoPanic.normal ?_; go_wp2_with fail
     go_meet; exact ⟨tb, rfl, by rw [← HZe.out]; exact HW5.out, HT5.out, HL5.out⟩
  ·
   go_simp; have hTa : TI w b3 b4 v kp kc lp lc u ukp ukc ulp ulc (wd.alloc (.cells #[.int .i64 0, .bool false, .int .i64 0, .float .f64 0, .string ⟨#[]⟩, .slice none 0 0, .slice none 0 0] 26)) := HTd.out.next ((Kp.refl _ _).alloc _); have hLa := HLd.out.keep ((Kp.refl [] wd).alloc (.cells #[.int .i64 0, .bool false, .int .i64 0, .float .f64 0, .string ⟨#[]⟩, .slice none 0 0, .slice none 0 0] 26)) (by simp); have hka : Kp [] wd (wd.alloc (.cells #[.int .i64 0, .bool false, .int .i64 0, .float .f64 0, .string ⟨#[]⟩, .slice none 0 0, .slice none 0 0] 26)) := (Kp.refl _ _).alloc _; have hTb : (wd.alloc (.cells #[.int .i64 0, .bool false, .int .i64 0, .float .f64 0, .string ⟨#[]⟩, .slice none 0 0, .slice none 0 0] 26)).heap[wd.heap.size]? = some (.cells #[.int .i64 0, .bool false, .int .i64 0, .float .f64 0, .string ⟨#[]⟩, .slice none 0 0, .slice none 0 0] 26 (0, 0)) := heap_alloc_new _ _
   have htw : w.heap.size ≤ wd.heap.size ∧ wd.heap.size ≠ b3 ∧ wd.heap.size ≠ b4 ∧ wd.heap.size ≠ b7 := ⟨HTd.out.kp'.size, by have := HTd.out.bv.lt; omega, by have := HTd.out.bu.lt; omega, by have := HLd.out.lt; omega⟩; have hsa : (wd.alloc (.cells #[.int .i64 0, .bool false, .int .i64 0, .float .f64 0, .string ⟨#[]⟩, .slice none 0 0, .slice none 0 0] 26)).heap.size = wd.heap.size + 1 := by simp
   generalize hwa : wd.alloc (.cells #[.int .i64 0, .bool false, .int .i64 0, .float .f64 0, .string ⟨#[]⟩, .slice none 0 0, .slice none 0 0] 26) = wa at *; generalize htb : wd.heap.size = tb at *; have HTa := hid hTa; have HLa := hid hLa; have HTb := hid hTb; have HTw := hid htw; have HAs := hid (And.intro htb hsa); have HKa := hid hka; clear hwa htb hTa hLa hTb htw hsa; clear hka; refine hK.out _ _ ⟨HTa.out.bv.c0, HTa.out.bv.c1, HTa.out.bv.c2, HTa.out.bv.c3, HTa.out.bv.c4, HTa.out.bv.c5, HTa.out.bv.c6, HTa.out.bu.c0, HTa.out.bu.c1, HTa.out.bu.c2, HTa.out.bu.c3, HTa.out.bu.c4, HTa.out.bu.c5, HTa.out.bu.c6⟩ (fun _ => trivial) ?_; clear hK K; refine AnyT.ready (rs := [2]) (by kernel_rfl) (by simp) (AllT.cons rfl (fun K hK => ?_) AllT.nil)
   ·
    go_simp; go_at_call 12
    refine (mlf_does 50 (fun g => g < w.heap.size) m w wa v kp lp kc lc (deep_right HRv.out HDv.out).all (fun g h => h) HFv.out HTa.out.kp').mono ?_
    rintro e20 wf ⟨fkp, fkc, flp, flc, he, hdf, hkf⟩
    rw [← HFe.out] at he hdf; unfold valOf at he; subst he; have HTf := hid (HTa.out.next hkf); have HLf := hid (HLa.out.keep hkf (by simp)); have HKf := hid hkf; have HDf := hid hdf; have HTb := hid (show wf.heap[tb]? = some (.cells #[.int .i64 0, .bool false, .int .i64 0, .float .f64 0, .string ⟨#[]⟩, .slice none 0 0, .slice none 0 0] 26 (0, 0)) by rw [hkf.block tb (lt_of_block HTb.out) (by simp)]; exact HTb.out); clear hdf hkf; refine hK.out _ _ ⟨HTf.out.bv.c0, HTf.out.bv.c1, HTf.out.bv.c2, HTf.out.bv.c3, HTf.out.bv.c4, HTf.out.bv.c5, HTf.out.bv.c6, HTf.out.bu.c0, HTf.out.bu.c1, HTf.out.bu.c2, HTf.out.bu.c3, HTf.out.bu.c4, HTf.out.bu.c5, HTf.out.bu.c6⟩ (fun _ => trivial) ?_; clear hK K; refine AnyT.ready (rs := [3]) (by kernel_rfl) (by simp) (AllT.cons rfl (fun K hK => ?_) AllT.nil)
    ·
     have hdf : DeepF 50 (fun g => g ≠ tb ∧ g < wf.heap.size) wf f fkp flp := HDf.out.keep (Nat.le_refl _) fun g h1 h2 => ⟨⟨by have h3 := HTw.out.1; have h4 := HAs.out.2; have h5 := HAs.out.1; exact h1.elim (fun h1 => by omega) (fun h1 => by have := h1.1; omega), h2⟩, rfl⟩
     have hdu : DeepF 50 (fun g => g ≠ tb ∧ g < wf.heap.size) wf u ukp ulp := (deep_right HRu.out HDu.out).all.keep HTf.out.kp'.size fun g h1 h2 => ⟨⟨by have := HTw.out.1; omega, by have := HTf.out.kp'.size; omega⟩, HTf.out.kp'.block g h2 (by simp)⟩
     have hov := over_is 49 (fun g => g ≠ tb ∧ g < wf.heap.size) wf u f ukp ulp ukc ulc fkp flp fkc flc HUp.out.2.1 HUp.out.1 HFp.out.1 (by have := HUp.out; omega) (by have := HFp.out; omega) hdu hdf (fun g h => h.2); unfold valOf at hov; have HOv := hid hov; clear hdf hdu hov; go_simp; go_at_call 11
     refine HOv.out.mono ?_
     rintro e21 wo ⟨zkp, zkc, zlp, zlc, he, hdz, hkz⟩
     obtain ⟨z, hz⟩ : ∃ z, z = overJV u f := ⟨_, rfl⟩; rw [← hz] at he hdz; have HZe := hid hz; unfold valOf at he; subst he; have HTo := hid (HTf.out.next hkz); have HLo := hid (HLf.out.keep hkz (by simp)); have HTb := hid (show wo.heap[tb]? = some (.cells #[.int .i64 0, .bool false, .int .i64 0, .float .f64 0, .string ⟨#[]⟩, .slice none 0 0, .slice none 0 0] 26 (0, 0)) by rw [hkz.block tb (lt_of_block HTb.out) (by simp)]; exact HTb.out); have htl := lt_of_block HTb.out; have htl2 : tb < wf.heap.size := by first | (have := HAs.out; omega) | (have := HAs.out; have := HKf.out.size; omega)
     have HZ := hid (DeepF.keep (F' := fun g => g ≠ tb) (Nat.le_refl _) (fun g h1 h2 => ⟨h1.elim (fun h1 => h1.1) (fun h1 => by have := h1.1; omega), rfl⟩) hdz); clear htl htl2; clear hz hdz hkz HOv; refine hK.out _ _ ⟨HTo.out.bv.c0, HTo.out.bv.c1, HTo.out.bv.c2, HTo.out.bv.c3, HTo.out.bv.c4, HTo.out.bv.c5, HTo.out.bv.c6, HTo.out.bu.c0, HTo.out.bu.c1, HTo.out.bu.c2, HTo.out.bu.c3, HTo.out.bu.c4, HTo.out.bu.c5, HTo.out.bu.c6⟩ (fun _ => trivial) ?_; clear hK K; refine AnyT.ready (rs := [5]) (by kernel_rfl) (by simp) (AllT.cons rfl (fun K hK => ?_) AllT.nil); refine step_store_row rfl _ _ rfl tb z zkp zkc zlp zlc (by simp [Act.eval, Act.put]) (by simp [Act.eval, Act.put]) _ HTb.out rfl ?_; intro w5 hb5 hk5; have htb := HTw.out
     have HT5 := hid (show TI w b3 b4 v kp kc lp lc u ukp ukc ulp ulc w5 from ⟨HTo.out.bv.keep hk5 (by simp; omega), HTo.out.bu.keep hk5 (by simp; omega), HTo.out.kp'.over hk5 (by simp; omega)⟩); have HL5 := hid (HLo.out.keep hk5 (by simp; omega)); have HW5 := hid (show WantAt w5 tb z from ⟨zkp, zkc, zlp, zlc, hb5, (HZ.out.keep (F' := fun _ => True) hk5.size fun g h1 h2 => ⟨trivial, hk5.block g h2 (by simp; exact h1)⟩).deep⟩); clear hb5 hk5 htb; refine hK.out _ _ ⟨HT5.out.bv.c0, HT5.out.bv.c1, HT5.out.bv.c2, HT5.out.bv.c3, HT5.out.bv.c4, HT5.out.bv.c5, HT5.out.bv.c6, HT5.out.bu.c0, HT5.out.bu.c1, HT5.out.bu.c2, HT5.out.bu.c3, HT5.out.bu.c4, HT5.out.bu.c5, HT5.out.bu.c6⟩ (fun _ => trivial) ?_; clear hK K; refine AnyT.done (by kernel_rfl) ?_ _; refine NoPanic.normal ?_; go_wp2_with fail
     go_meet; exact ⟨tb, rfl, by rw [← HZe.out]; exact HW5.out, HT5.out, HL5.out⟩
 case rest =>
  obtain ⟨b8, rfl, hW8, hT8, hL8⟩ := hcut; have HW8 := hid hW8; have HT8 := hid hT8; have HL8 := hid hL8; clear hW8 hT8 hL8; go_upto_region 9 with fail
  have HKeys := hid (show ∀ q ∈ told 49 v, q.1.size ≠ 0 ∧ q.1.size ≤ 1000000 from fun q hq => by
   have h1 := (List.of_mem_zip hq).1; have h2 := line_keys HLine.out q hq; exact ⟨HNe.out _ h1, by omega⟩)
  have HTl := hid (show (told 49 v).length ≤ 400 ∧ prs f = told 49 v from by
   refine ⟨?_, by rw [HFe.out]; exact told_prs HKd.out⟩; unfold told; rw [List.length_zip, List.length_map]; have := HVp.out.2.2.1; omega)
  have HA1 := hid (show ∀ q ∈ u.ks.zip u.l, ∃ a, a ≤ 400 ∧ RightC 49 q.2 a from fun q hq => HUp.out.2.2.2 q.2 (List.of_mem_zip hq).2); have HA2 := hid (show ∀ q ∈ told 49 v, ∃ a, a ≤ 400 ∧ RightC 49 q.2 a from fun q hq => by
   have h1 := (List.of_mem_zip hq).2; obtain ⟨x, hx, e⟩ := List.mem_map.1 h1; obtain ⟨a, h2, h3⟩ := HVp.out.2.2.2 x hx; rw [← e]; exact ⟨a, by omega, flo_right h3 ((fits_ints HRv.out HFv.out).2 x hx)⟩)
  have HRp := hid (show RiseP (u.ks.zip u.l) from (riseP_iff _).2 (by rw [zip_fst _ _ HUp.out.2.1]; exact HUp.out.1)); go_cut [9, 10] (fun s9 s10 wx => ∃ b9 : Nat, s9 = .pointer (some ⟨b9, 0, none⟩) ∧ s10 = .int .i64 0 ∧ WantAt wx b9 (nrm 50 (tabJV (putAll (u.ks.zip u.l) (told 49 v)))) ∧ WantAt wx b8 (overJV u f) ∧ TI w b3 b4 v kp kc lp lc u ukp ukc ulp ulc wx)
  case first =>
   have HTd := hid (HT8.out.next (Kp.refl _ _).drew); have HLd := hid (HL8.out.keep (Kp.refl [] wc).drew (by simp)); have hWd := (HW8.out.kp (Kp.refl [] wc).drew).bound; refine region_T (fun w' => w'.cell? ⟨b7, 1, none⟩ = some (.string s) ∧ w'.cell? ⟨b4, 0, none⟩ = some (.int .i64 u.kind) ∧ w'.cell? ⟨b4, 1, none⟩ = some (.bool u.b) ∧ w'.cell? ⟨b4, 2, none⟩ = some (.int .i64 u.i) ∧ w'.cell? ⟨b4, 3, none⟩ = some (.float .f64 u.f) ∧ w'.cell? ⟨b4, 4, none⟩ = some (.string u.t) ∧ w'.cell? ⟨b4, 5, none⟩ = some (.slice ukp u.ks.length ukc) ∧ w'.cell? ⟨b4, 6, none⟩ = some (.slice ulp u.l.length ulc)) (fun _ => True) [] (by kernel_rfl) ?_; generalize hwd : wc.drew = wd at *; obtain ⟨B0, hB0⟩ : ∃ B0, B0 = wd.heap.size := ⟨_, rfl⟩; rw [← hB0] at hWd; have HWd := hid hWd; clear hwd hWd hB0
   refine AnyT.take0 (i := 0) (v := ?v0_3) rfl (by kernel_rfl) (fun _ _ _ h => h) (Or.inl ⟨by rfl, ?hy0_3⟩) ⟨HLd.out.c1, HTd.out.bu.c0, HTd.out.bu.c1, HTd.out.bu.c2, HTd.out.bu.c3, HTd.out.bu.c4, HTd.out.bu.c5, HTd.out.bu.c6⟩ (fun _ => trivial) ?_
   case hy0_3 => intro w'' hS''; (try dsimp only at hS''); go_split_ands; go_simp; try (with_reducible rfl)
   (try simp only [Act.put, List.setIfInBounds_toArray, List.set_cons_zero, List.set_cons_succ]); refine AnyT.take0 (i := 1) (v := ?v1_4) rfl (by kernel_rfl) (fun _ _ _ h => h) (Or.inl ⟨by rfl, ?hy1_4⟩) ⟨HLd.out.c1, HTd.out.bu.c0, HTd.out.bu.c1, HTd.out.bu.c2, HTd.out.bu.c3, HTd.out.bu.c4, HTd.out.bu.c5, HTd.out.bu.c6⟩ (fun _ => trivial) ?_
   case hy1_4 => intro w'' hS''; (try dsimp only at hS''); go_split_ands; go_simp; try (with_reducible rfl)
   (try simp only [Act.put, List.setIfInBounds_toArray, List.set_cons_zero, List.set_cons_succ]); refine AnyT.take0 (i := 2) (v := ?v2_5) rfl (by kernel_rfl) (fun _ _ _ h => h) (Or.inl ⟨by rfl, ?hy2_5⟩) ⟨HLd.out.c1, HTd.out.bu.c0, HTd.out.bu.c1, HTd.out.bu.c2, HTd.out.bu.c3, HTd.out.bu.c4, HTd.out.bu.c5, HTd.out.bu.c6⟩ (fun _ => trivial) ?_
   case hy2_5 => intro w'' hS''; (try dsimp only at hS''); go_split_ands; go_simp; try (with_reducible rfl)
   (try simp only [Act.put, List.setIfInBounds_toArray, List.set_cons_zero, List.set_cons_succ]); refine AnyT.ready (rs := [3, 8]) (by kernel_rfl) (by simp) (AllT.cons rfl (fun K hK => ?_) (AllT.cons rfl (fun K hK => ?_) AllT.nil))
   ·
    go_simp; go_at_call 14
    refine (cop_does 50 m w wd u ukp ulp ukc ulc (deep_right HRu.out HDu.out) HFu.out HTd.out.kp').mono ?_
    rintro e30 wf ⟨ckp, ckc, clp, clc, rfl, hdf, hkf⟩
    unfold valOf; have HTf := hid (HTd.out.next hkf); have HLf := hid (HLd.out.keep hkf (by simp)); have HWf := hid (HWd.out.keep hkf (by simp)); have HKf := hid hkf; have HDf := hid hdf.deep; clear hdf hkf; refine hK.out _ _ ⟨HLf.out.c1, HTf.out.bu.c0, HTf.out.bu.c1, HTf.out.bu.c2, HTf.out.bu.c3, HTf.out.bu.c4, HTf.out.bu.c5, HTf.out.bu.c6⟩ (fun _ => trivial) ?_; clear hK K; refine AnyT.ready (rs := [4, 8]) (by kernel_rfl) (by simp) (AllT.cons rfl (fun K hK => ?_) (AllT.cons rfl (fun K hK => ?_) AllT.nil))
    ·
     have hpj := pji_is 49 49 49 49 400 wf u ckp clp ckc clc cu s (told 49 v) HKu7.out HRu.out (fits_short HRu.out HFu.out) HDf.out (by omega) (by omega) (by omega) HBrk.out (HE.out.kp HTf.out.kp' (by simp)) HLine.out HKeys.out (by omega) (by omega) (by omega) HTl.out.1 (by omega) HA1.out HA2.out (by have := HUp.out.2.2.1; omega) HRp.out; unfold valOf at hpj; have HPj := hid hpj; clear hpj; go_simp; go_at_call 13
     refine HPj.out.mono ?_
     rintro e31 wo ⟨rkp, rkc, rlp, rlc, he, hdz, hkz⟩
     obtain ⟨r, hr⟩ : ∃ r, r = nrm 50 (tabJV (putAll (u.ks.zip u.l) (told 49 v))) := ⟨_, rfl⟩; rw [← hr] at he hdz; have HRe := hid hr; unfold valOf at he; subst he; have HTo := hid (HTf.out.next hkz); have HLo := hid (HLf.out.keep hkz (by simp)); have HWo := hid (HWf.out.keep hkz (by simp)); have HZ0 := hid hdz; clear hr hdz hkz HPj; refine hK.out _ _ ⟨HLo.out.c1, HTo.out.bu.c0, HTo.out.bu.c1, HTo.out.bu.c2, HTo.out.bu.c3, HTo.out.bu.c4, HTo.out.bu.c5, HTo.out.bu.c6⟩ (fun _ => trivial) ?_; clear hK K; refine AnyT.take0 (i := 5) (v := ?v5_6) rfl (by kernel_rfl) (fun _ _ _ h => h) (Or.inl ⟨by rfl, ?hy5_6⟩) ⟨HLo.out.c1, HTo.out.bu.c0, HTo.out.bu.c1, HTo.out.bu.c2, HTo.out.bu.c3, HTo.out.bu.c4, HTo.out.bu.c5, HTo.out.bu.c6⟩ (fun _ => trivial) ?_
     case hy5_6 => intro w'' hS''; (try dsimp only at hS''); go_split_ands; go_simp; try (with_reducible rfl)
     (try simp only [Act.put, List.setIfInBounds_toArray, List.set_cons_zero, List.set_cons_succ]); refine AnyT.take0 (i := 6) (v := ?v6_7) rfl (by kernel_rfl) (fun _ _ _ h => h) (Or.inl ⟨by rfl, ?hy6_7⟩) ⟨HLo.out.c1, HTo.out.bu.c0, HTo.out.bu.c1, HTo.out.bu.c2, HTo.out.bu.c3, HTo.out.bu.c4, HTo.out.bu.c5, HTo.out.bu.c6⟩ (fun _ => trivial) ?_
     case hy6_7 => intro w'' hS''; (try dsimp only at hS''); go_split_ands; go_simp; try (with_reducible rfl)
     (try simp only [Act.put, List.setIfInBounds_toArray, List.set_cons_zero, List.set_cons_succ]); refine AnyT.take0 (i := 7) (v := ?v7_8) rfl (by kernel_rfl) (fun _ _ _ h => h) (Or.inl ⟨by rfl, ?hy7_8⟩) ⟨HLo.out.c1, HTo.out.bu.c0, HTo.out.bu.c1, HTo.out.bu.c2, HTo.out.bu.c3, HTo.out.bu.c4, HTo.out.bu.c5, HTo.out.bu.c6⟩ (fun _ => trivial) ?_
     case hy7_8 => intro w'' hS''; (try dsimp only at hS''); go_split_ands; go_simp; try (with_reducible rfl)
     (try simp only [Act.put, List.setIfInBounds_toArray, List.set_cons_zero, List.set_cons_succ]); refine AnyT.ready (rs := [8]) (by kernel_rfl) (by simp) (AllT.cons rfl (fun K hK => ?_) AllT.nil)
     ·
      go_simp; have hTa : TI w b3 b4 v kp kc lp lc u ukp ukc ulp ulc (wo.alloc (.cells #[.int .i64 0, .bool false, .int .i64 0, .float .f64 0, .string ⟨#[]⟩, .slice none 0 0, .slice none 0 0] 26)) := HTo.out.next ((Kp.refl _ _).alloc _); have hLa := HLo.out.keep ((Kp.refl [] wo).alloc (.cells #[.int .i64 0, .bool false, .int .i64 0, .float .f64 0, .string ⟨#[]⟩, .slice none 0 0, .slice none 0 0] 26)) (by simp); have hWa := HWo.out.keep ((Kp.refl [] wo).alloc (.cells #[.int .i64 0, .bool false, .int .i64 0, .float .f64 0, .string ⟨#[]⟩, .slice none 0 0, .slice none 0 0] 26)) (by simp); have hka : Kp [] wo (wo.alloc (.cells #[.int .i64 0, .bool false, .int .i64 0, .float .f64 0, .string ⟨#[]⟩, .slice none 0 0, .slice none 0 0] 26)) := (Kp.refl _ _).alloc _
      have hTb : (wo.alloc (.cells #[.int .i64 0, .bool false, .int .i64 0, .float .f64 0, .string ⟨#[]⟩, .slice none 0 0, .slice none 0 0] 26)).heap[wo.heap.size]? = some (.cells #[.int .i64 0, .bool false, .int .i64 0, .float .f64 0, .string ⟨#[]⟩, .slice none 0 0, .slice none 0 0] 26 (0, 0)) := heap_alloc_new _ _; have htw : w.heap.size ≤ wo.heap.size ∧ wo.heap.size ≠ b3 ∧ wo.heap.size ≠ b4 ∧ wo.heap.size ≠ b7 ∧ wo.heap.size ≠ b8 ∧ B0 ≤ wo.heap.size := ⟨HTo.out.kp'.size, by have := HTo.out.bv.lt; omega, by have := HTo.out.bu.lt; omega, by have := HLo.out.lt; omega, by have := HWo.out.1; have := HWo.out.2.1; omega, HWo.out.1⟩; have hsa : (wo.alloc (.cells #[.int .i64 0, .bool false, .int .i64 0, .float .f64 0, .string ⟨#[]⟩, .slice none 0 0, .slice none 0 0] 26)).heap.size = wo.heap.size + 1 := by simp
      generalize hwa : wo.alloc (.cells #[.int .i64 0, .bool false, .int .i64 0, .float .f64 0, .string ⟨#[]⟩, .slice none 0 0, .slice none 0 0] 26) = wa at *; generalize htb : wo.heap.size = tb at *; have HTa := hid hTa; have HLa := hid hLa; have HWa := hid hWa; have HTb := hid hTb; have HTw := hid htw; have HAs := hid (And.intro htb hsa); have HTs := hid (show tb < wa.heap.size by omega); have HKa := hid hka; clear hwa htb hTa hLa hWa hTb htw hsa; have HZ := hid (DeepF.keep (F' := fun g => g ≠ tb) hka.size (fun g h1 h2 => ⟨by have := HAs.out.1; omega, hka.block g h2 (by simp)⟩) HZ0.out); clear hka; refine hK.out _ _ ⟨HLa.out.c1, HTa.out.bu.c0, HTa.out.bu.c1, HTa.out.bu.c2, HTa.out.bu.c3, HTa.out.bu.c4, HTa.out.bu.c5, HTa.out.bu.c6⟩ (fun _ => trivial) ?_; clear hK K
      refine AnyT.ready (rs := [9]) (by kernel_rfl) (by simp) (AllT.cons rfl (fun K hK => ?_) AllT.nil); refine step_store_row rfl _ _ rfl tb r rkp rkc rlp rlc (by simp [Act.eval, Act.put]) (by simp [Act.eval, Act.put]) _ HTb.out rfl ?_; intro w5 hb5 hk5; have htb := HTw.out; have HT5 := hid (show TI w b3 b4 v kp kc lp lc u ukp ukc ulp ulc w5 from ⟨HTa.out.bv.keep hk5 (by simp; omega), HTa.out.bu.keep hk5 (by simp; omega), HTa.out.kp'.over hk5 (by simp; omega)⟩); have HL5 := hid (HLa.out.keep hk5 (by simp; omega)); have HW5 := hid (show WantAt w5 tb r from ⟨rkp, rkc, rlp, rlc, hb5, (HZ.out.keep (F' := fun _ => True) hk5.size fun g h1 h2 => ⟨trivial, hk5.block g h2 (by simp; exact h1)⟩).deep⟩); have HW85 := hid (HWa.out.keep hk5 (by simp; omega)).want; clear hb5 hk5 htb
      refine hK.out _ _ ⟨HL5.out.c1, HT5.out.bu.c0, HT5.out.bu.c1, HT5.out.bu.c2, HT5.out.bu.c3, HT5.out.bu.c4, HT5.out.bu.c5, HT5.out.bu.c6⟩ (fun _ => trivial) ?_; clear hK K; (try simp only [Act.put, List.setIfInBounds_toArray, List.set_cons_zero, List.set_cons_succ]); refine AnyT.take0 (i := 10) (v := ?v10_9) rfl (by kernel_rfl) (fun _ _ _ h => h) (Or.inl ⟨by rfl, ?hy10_9⟩) ⟨HL5.out.c1, HT5.out.bu.c0, HT5.out.bu.c1, HT5.out.bu.c2, HT5.out.bu.c3, HT5.out.bu.c4, HT5.out.bu.c5, HT5.out.bu.c6⟩ (fun _ => trivial) ?_
      case hy10_9 => intro w'' hS''; (try dsimp only at hS''); go_split_ands; go_simp; try (with_reducible rfl)
      (try simp only [Act.put, List.setIfInBounds_toArray, List.set_cons_zero, List.set_cons_succ]); refine AnyT.done (by kernel_rfl) ?_ _; refine NoPanic.normal ?_; simp only [List.getElem_toArray, List.getElem_cons_succ, List.getElem_cons_zero, Act.put, List.setIfInBounds_toArray, List.set_cons_zero, List.set_cons_succ]; go_wp2_with fail
      go_meet; exact ⟨tb, rfl, rfl, by rw [← HRe.out]; exact HW5.out, HW85.out, HT5.out⟩
    ·
     go_simp; have hTa : TI w b3 b4 v kp kc lp lc u ukp ukc ulp ulc (wf.alloc (.cells #[.int .i64 0, .bool false, .int .i64 0, .float .f64 0, .string ⟨#[]⟩, .slice none 0 0, .slice none 0 0] 26)) := HTf.out.next ((Kp.refl _ _).alloc _); have hLa := HLf.out.keep ((Kp.refl [] wf).alloc (.cells #[.int .i64 0, .bool false, .int .i64 0, .float .f64 0, .string ⟨#[]⟩, .slice none 0 0, .slice none 0 0] 26)) (by simp); have hWa := HWf.out.keep ((Kp.refl [] wf).alloc (.cells #[.int .i64 0, .bool false, .int .i64 0, .float .f64 0, .string ⟨#[]⟩, .slice none 0 0, .slice none 0 0] 26)) (by simp); have hka : Kp [] wf (wf.alloc (.cells #[.int .i64 0, .bool false, .int .i64 0, .float .f64 0, .string ⟨#[]⟩, .slice none 0 0, .slice none 0 0] 26)) := (Kp.refl _ _).alloc _
     have hTb : (wf.alloc (.cells #[.int .i64 0, .bool false, .int .i64 0, .float .f64 0, .string ⟨#[]⟩, .slice none 0 0, .slice none 0 0] 26)).heap[wf.heap.size]? = some (.cells #[.int .i64 0, .bool false, .int .i64 0, .float .f64 0, .string ⟨#[]⟩, .slice none 0 0, .slice none 0 0] 26 (0, 0)) := heap_alloc_new _ _; have htw : w.heap.size ≤ wf.heap.size ∧ wf.heap.size ≠ b3 ∧ wf.heap.size ≠ b4 ∧ wf.heap.size ≠ b7 ∧ wf.heap.size ≠ b8 ∧ B0 ≤ wf.heap.size := ⟨HTf.out.kp'.size, by have := HTf.out.bv.lt; omega, by have := HTf.out.bu.lt; omega, by have := HLf.out.lt; omega, by have := HWf.out.1; have := HWf.out.2.1; omega, HWf.out.1⟩; have hsa : (wf.alloc (.cells #[.int .i64 0, .bool false, .int .i64 0, .float .f64 0, .string ⟨#[]⟩, .slice none 0 0, .slice none 0 0] 26)).heap.size = wf.heap.size + 1 := by simp
     generalize hwa : wf.alloc (.cells #[.int .i64 0, .bool false, .int .i64 0, .float .f64 0, .string ⟨#[]⟩, .slice none 0 0, .slice none 0 0] 26) = wa at *; generalize htb : wf.heap.size = tb at *; have HTa := hid hTa; have HLa := hid hLa; have HWa := hid hWa; have HTb := hid hTb; have HTw := hid htw; have HAs := hid (And.intro htb hsa); have HTs := hid (show tb < wa.heap.size by omega); have HKa := hid hka; clear hwa htb hTa hLa hWa hTb htw hsa; have HDf := hid (HDf.out.kp hka); clear hka; refine hK.out _ _ ⟨HLa.out.c1, HTa.out.bu.c0, HTa.out.bu.c1, HTa.out.bu.c2, HTa.out.bu.c3, HTa.out.bu.c4, HTa.out.bu.c5, HTa.out.bu.c6⟩ (fun _ => trivial) ?_; clear hK K; refine AnyT.ready (rs := [4]) (by kernel_rfl) (by simp) (AllT.cons rfl (fun K hK => ?_) AllT.nil)
     ·
      have hpj := pji_is 49 49 49 49 400 wa u ckp clp ckc clc cu s (told 49 v) HKu7.out HRu.out (fits_short HRu.out HFu.out) HDf.out (by omega) (by omega) (by omega) HBrk.out (HE.out.kp HTa.out.kp' (by simp)) HLine.out HKeys.out (by omega) (by omega) (by omega) HTl.out.1 (by omega) HA1.out HA2.out (by have := HUp.out.2.2.1; omega) HRp.out; unfold valOf at hpj; have HPj := hid hpj; clear hpj; go_simp; go_at_call 13
      refine HPj.out.mono ?_
      rintro e31 wo ⟨rkp, rkc, rlp, rlc, he, hdz, hkz⟩
      obtain ⟨r, hr⟩ : ∃ r, r = nrm 50 (tabJV (putAll (u.ks.zip u.l) (told 49 v))) := ⟨_, rfl⟩; rw [← hr] at he hdz; have HRe := hid hr; unfold valOf at he; subst he; have HTo := hid (HTa.out.next hkz); have HLo := hid (HLa.out.keep hkz (by simp)); have HWo := hid (HWa.out.keep hkz (by simp)); have HTb := hid (show wo.heap[tb]? = some (.cells #[.int .i64 0, .bool false, .int .i64 0, .float .f64 0, .string ⟨#[]⟩, .slice none 0 0, .slice none 0 0] 26 (0, 0)) by rw [hkz.block tb (lt_of_block HTb.out) (by simp)]; exact HTb.out); have HZ := hid (DeepF.keep (F' := fun g => g ≠ tb) (Nat.le_refl _) (fun g h1 h2 => ⟨by have := h1.1; have := HTs.out; omega, rfl⟩) hdz); clear hr hdz hkz HPj; refine hK.out _ _ ⟨HLo.out.c1, HTo.out.bu.c0, HTo.out.bu.c1, HTo.out.bu.c2, HTo.out.bu.c3, HTo.out.bu.c4, HTo.out.bu.c5, HTo.out.bu.c6⟩ (fun _ => trivial) ?_; clear hK K
      refine AnyT.take0 (i := 5) (v := ?v5_10) rfl (by kernel_rfl) (fun _ _ _ h => h) (Or.inl ⟨by rfl, ?hy5_10⟩) ⟨HLo.out.c1, HTo.out.bu.c0, HTo.out.bu.c1, HTo.out.bu.c2, HTo.out.bu.c3, HTo.out.bu.c4, HTo.out.bu.c5, HTo.out.bu.c6⟩ (fun _ => trivial) ?_
      case hy5_10 => intro w'' hS''; (try dsimp only at hS''); go_split_ands; go_simp; try (with_reducible rfl)
      (try simp only [Act.put, List.setIfInBounds_toArray, List.set_cons_zero, List.set_cons_succ]); refine AnyT.take0 (i := 6) (v := ?v6_11) rfl (by kernel_rfl) (fun _ _ _ h => h) (Or.inl ⟨by rfl, ?hy6_11⟩) ⟨HLo.out.c1, HTo.out.bu.c0, HTo.out.bu.c1, HTo.out.bu.c2, HTo.out.bu.c3, HTo.out.bu.c4, HTo.out.bu.c5, HTo.out.bu.c6⟩ (fun _ => trivial) ?_
      case hy6_11 => intro w'' hS''; (try dsimp only at hS''); go_split_ands; go_simp; try (with_reducible rfl)
      (try simp only [Act.put, List.setIfInBounds_toArray, List.set_cons_zero, List.set_cons_succ]); refine AnyT.take0 (i := 7) (v := ?v7_12) rfl (by kernel_rfl) (fun _ _ _ h => h) (Or.inl ⟨by rfl, ?hy7_12⟩) ⟨HLo.out.c1, HTo.out.bu.c0, HTo.out.bu.c1, HTo.out.bu.c2, HTo.out.bu.c3, HTo.out.bu.c4, HTo.out.bu.c5, HTo.out.bu.c6⟩ (fun _ => trivial) ?_
      case hy7_12 => intro w'' hS''; (try dsimp only at hS''); go_split_ands; go_simp; try (with_reducible rfl)
      (try simp only [Act.put, List.setIfInBounds_toArray, List.set_cons_zero, List.set_cons_succ]); refine AnyT.ready (rs := [9]) (by kernel_rfl) (by simp) (AllT.cons rfl (fun K hK => ?_) AllT.nil); refine step_store_row rfl _ _ rfl tb r rkp rkc rlp rlc (by simp [Act.eval, Act.put]) (by simp [Act.eval, Act.put]) _ HTb.out rfl ?_; intro w5 hb5 hk5; have htb := HTw.out; have HT5 := hid (show TI w b3 b4 v kp kc lp lc u ukp ukc ulp ulc w5 from ⟨HTo.out.bv.keep hk5 (by simp; omega), HTo.out.bu.keep hk5 (by simp; omega), HTo.out.kp'.over hk5 (by simp; omega)⟩); have HL5 := hid (HLo.out.keep hk5 (by simp; omega)); have HW5 := hid (show WantAt w5 tb r from ⟨rkp, rkc, rlp, rlc, hb5, (HZ.out.keep (F' := fun _ => True) hk5.size fun g h1 h2 => ⟨trivial, hk5.block g h2 (by simp; exact h1)⟩).deep⟩); have HW85 := hid (HWo.out.keep hk5 (by simp; omega)).want; clear hb5 hk5 htb
      refine hK.out _ _ ⟨HL5.out.c1, HT5.out.bu.c0, HT5.out.bu.c1, HT5.out.bu.c2, HT5.out.bu.c3, HT5.out.bu.c4, HT5.out.bu.c5, HT5.out.bu.c6⟩ (fun _ => trivial) ?_; clear hK K; (try simp only [Act.put, List.setIfInBounds_toArray, List.set_cons_zero, List.set_cons_succ]); refine AnyT.take0 (i := 10) (v := ?v10_13) rfl (by kernel_rfl) (fun _ _ _ h => h) (Or.inl ⟨by rfl, ?hy10_13⟩) ⟨HL5.out.c1, HT5.out.bu.c0, HT5.out.bu.c1, HT5.out.bu.c2, HT5.out.bu.c3, HT5.out.bu.c4, HT5.out.bu.c5, HT5.out.bu.c6⟩ (fun _ => trivial) ?_
      case hy10_13 => intro w'' hS''; (try dsimp only at hS''); go_split_ands; go_simp; try (with_reducible rfl)
      (try simp only [Act.put, List.setIfInBounds_toArray, List.set_cons_zero, List.set_cons_succ]); refine AnyT.done (by kernel_rfl) ?_ _; refine NoPanic.normal ?_; simp only [List.getElem_toArray, List.getElem_cons_succ, List.getElem_cons_zero, Act.put, List.setIfInBounds_toArray, List.set_cons_zero, List.set_cons_succ]; go_wp2_with fail
      go_meet; exact ⟨tb, rfl, rfl, by rw [← HRe.out]; exact HW5.out, HW85.out, HT5.out⟩
   ·
    go_simp; have hTa : TI w b3 b4 v kp kc lp lc u ukp ukc ulp ulc (wd.alloc (.cells #[.int .i64 0, .bool false, .int .i64 0, .float .f64 0, .string ⟨#[]⟩, .slice none 0 0, .slice none 0 0] 26)) := HTd.out.next ((Kp.refl _ _).alloc _); have hLa := HLd.out.keep ((Kp.refl [] wd).alloc (.cells #[.int .i64 0, .bool false, .int .i64 0, .float .f64 0, .string ⟨#[]⟩, .slice none 0 0, .slice none 0 0] 26)) (by simp); have hWa := HWd.out.keep ((Kp.refl [] wd).alloc (.cells #[.int .i64 0, .bool false, .int .i64 0, .float .f64 0, .string ⟨#[]⟩, .slice none 0 0, .slice none 0 0] 26)) (by simp); have hka : Kp [] wd (wd.alloc (.cells #[.int .i64 0, .bool false, .int .i64 0, .float .f64 0, .string ⟨#[]⟩, .slice none 0 0, .slice none 0 0] 26)) := (Kp.refl _ _).alloc _
    have hTb : (wd.alloc (.cells #[.int .i64 0, .bool false, .int .i64 0, .float .f64 0, .string ⟨#[]⟩, .slice none 0 0, .slice none 0 0] 26)).heap[wd.heap.size]? = some (.cells #[.int .i64 0, .bool false, .int .i64 0, .float .f64 0, .string ⟨#[]⟩, .slice none 0 0, .slice none 0 0] 26 (0, 0)) := heap_alloc_new _ _; have htw : w.heap.size ≤ wd.heap.size ∧ wd.heap.size ≠ b3 ∧ wd.heap.size ≠ b4 ∧ wd.heap.size ≠ b7 ∧ wd.heap.size ≠ b8 ∧ B0 ≤ wd.heap.size := ⟨HTd.out.kp'.size, by have := HTd.out.bv.lt; omega, by have := HTd.out.bu.lt; omega, by have := HLd.out.lt; omega, by have := HWd.out.1; have := HWd.out.2.1; omega, HWd.out.1⟩; have hsa : (wd.alloc (.cells #[.int .i64 0, .bool false, .int .i64 0, .float .f64 0, .string ⟨#[]⟩, .slice none 0 0, .slice none 0 0] 26)).heap.size = wd.heap.size + 1 := by simp
    generalize hwa : wd.alloc (.cells #[.int .i64 0, .bool false, .int .i64 0, .float .f64 0, .string ⟨#[]⟩, .slice none 0 0, .slice none 0 0] 26) = wa at *; generalize htb : wd.heap.size = tb at *; have HTa := hid hTa; have HLa := hid hLa; have HWa := hid hWa; have HTb := hid hTb; have HTw := hid htw; have HAs := hid (And.intro htb hsa); have HTs := hid (show tb < wa.heap.size by omega); have HKa := hid hka; clear hwa htb hTa hLa hWa hTb htw hsa; clear hka; refine hK.out _ _ ⟨HLa.out.c1, HTa.out.bu.c0, HTa.out.bu.c1, HTa.out.bu.c2, HTa.out.bu.c3, HTa.out.bu.c4, HTa.out.bu.c5, HTa.out.bu.c6⟩ (fun _ => trivial) ?_; clear hK K; refine AnyT.ready (rs := [3]) (by kernel_rfl) (by simp) (AllT.cons rfl (fun K hK => ?_) AllT.nil)
    ·
     go_simp; go_at_call 14
     refine (cop_does 50 m w wa u ukp ulp ukc ulc (deep_right HRu.out HDu.out) HFu.out HTa.out.kp').mono ?_
     rintro e30 wf ⟨ckp, ckc, clp, clc, rfl, hdf, hkf⟩
     unfold valOf; have HTf := hid (HTa.out.next hkf); have HLf := hid (HLa.out.keep hkf (by simp)); have HWf := hid (HWa.out.keep hkf (by simp)); have HKf := hid hkf; have HDf := hid hdf.deep; have HTb := hid (show wf.heap[tb]? = some (.cells #[.int .i64 0, .bool false, .int .i64 0, .float .f64 0, .string ⟨#[]⟩, .slice none 0 0, .slice none 0 0] 26 (0, 0)) by rw [hkf.block tb (lt_of_block HTb.out) (by simp)]; exact HTb.out); have HTs := hid (show tb < wf.heap.size from lt_of_block HTb.out); clear hdf hkf; refine hK.out _ _ ⟨HLf.out.c1, HTf.out.bu.c0, HTf.out.bu.c1, HTf.out.bu.c2, HTf.out.bu.c3, HTf.out.bu.c4, HTf.out.bu.c5, HTf.out.bu.c6⟩ (fun _ => trivial) ?_; clear hK K; refine AnyT.ready (rs := [4]) (by kernel_rfl) (by simp) (AllT.cons rfl (fun K hK => ?_) AllT.nil)
     ·
      have hpj := pji_is 49 49 49 49 400 wf u ckp clp ckc clc cu s (told 49 v) HKu7.out HRu.out (fits_short HRu.out HFu.out) HDf.out (by omega) (by omega) (by omega) HBrk.out (HE.out.kp HTf.out.kp' (by simp)) HLine.out HKeys.out (by omega) (by omega) (by omega) HTl.out.1 (by omega) HA1.out HA2.out (by have := HUp.out.2.2.1; omega) HRp.out; unfold valOf at hpj; have HPj := hid hpj; clear hpj; go_simp; go_at_call 13
      refine HPj.out.mono ?_
      rintro e31 wo ⟨rkp, rkc, rlp, rlc, he, hdz, hkz⟩
      obtain ⟨r, hr⟩ : ∃ r, r = nrm 50 (tabJV (putAll (u.ks.zip u.l) (told 49 v))) := ⟨_, rfl⟩; rw [← hr] at he hdz; have HRe := hid hr; unfold valOf at he; subst he; have HTo := hid (HTf.out.next hkz); have HLo := hid (HLf.out.keep hkz (by simp)); have HWo := hid (HWf.out.keep hkz (by simp)); have HTb := hid (show wo.heap[tb]? = some (.cells #[.int .i64 0, .bool false, .int .i64 0, .float .f64 0, .string ⟨#[]⟩, .slice none 0 0, .slice none 0 0] 26 (0, 0)) by rw [hkz.block tb (lt_of_block HTb.out) (by simp)]; exact HTb.out); have HZ := hid (DeepF.keep (F' := fun g => g ≠ tb) (Nat.le_refl _) (fun g h1 h2 => ⟨by have := h1.1; have := HTs.out; omega, rfl⟩) hdz); clear hr hdz hkz HPj; refine hK.out _ _ ⟨HLo.out.c1, HTo.out.bu.c0, HTo.out.bu.c1, HTo.out.bu.c2, HTo.out.bu.c3, HTo.out.bu.c4, HTo.out.bu.c5, HTo.out.bu.c6⟩ (fun _ => trivial) ?_; clear hK K
      refine AnyT.take0 (i := 5) (v := ?v5_14) rfl (by kernel_rfl) (fun _ _ _ h => h) (Or.inl ⟨by rfl, ?hy5_14⟩) ⟨HLo.out.c1, HTo.out.bu.c0, HTo.out.bu.c1, HTo.out.bu.c2, HTo.out.bu.c3, HTo.out.bu.c4, HTo.out.bu.c5, HTo.out.bu.c6⟩ (fun _ => trivial) ?_
      case hy5_14 => intro w'' hS''; (try dsimp only at hS''); go_split_ands; go_simp; try (with_reducible rfl)
      (try simp only [Act.put, List.setIfInBounds_toArray, List.set_cons_zero, List.set_cons_succ]); refine AnyT.take0 (i := 6) (v := ?v6_15) rfl (by kernel_rfl) (fun _ _ _ h => h) (Or.inl ⟨by rfl, ?hy6_15⟩) ⟨HLo.out.c1, HTo.out.bu.c0, HTo.out.bu.c1, HTo.out.bu.c2, HTo.out.bu.c3, HTo.out.bu.c4, HTo.out.bu.c5, HTo.out.bu.c6⟩ (fun _ => trivial) ?_
      case hy6_15 => intro w'' hS''; (try dsimp only at hS''); go_split_ands; go_simp; try (with_reducible rfl)
      (try simp only [Act.put, List.setIfInBounds_toArray, List.set_cons_zero, List.set_cons_succ]); refine AnyT.take0 (i := 7) (v := ?v7_16) rfl (by kernel_rfl) (fun _ _ _ h => h) (Or.inl ⟨by rfl, ?hy7_16⟩) ⟨HLo.out.c1, HTo.out.bu.c0, HTo.out.bu.c1, HTo.out.bu.c2, HTo.out.bu.c3, HTo.out.bu.c4, HTo.out.bu.c5, HTo.out.bu.c6⟩ (fun _ => trivial) ?_
      case hy7_16 => intro w'' hS''; (try dsimp only at hS''); go_split_ands; go_simp; try (with_reducible rfl)
      (try simp only [Act.put, List.setIfInBounds_toArray, List.set_cons_zero, List.set_cons_succ]); refine AnyT.ready (rs := [9]) (by kernel_rfl) (by simp) (AllT.cons rfl (fun K hK => ?_) AllT.nil); refine step_store_row rfl _ _ rfl tb r rkp rkc rlp rlc (by simp [Act.eval, Act.put]) (by simp [Act.eval, Act.put]) _ HTb.out rfl ?_; intro w5 hb5 hk5; have htb := HTw.out; have HT5 := hid (show TI w b3 b4 v kp kc lp lc u ukp ukc ulp ulc w5 from ⟨HTo.out.bv.keep hk5 (by simp; omega), HTo.out.bu.keep hk5 (by simp; omega), HTo.out.kp'.over hk5 (by simp; omega)⟩); have HL5 := hid (HLo.out.keep hk5 (by simp; omega)); have HW5 := hid (show WantAt w5 tb r from ⟨rkp, rkc, rlp, rlc, hb5, (HZ.out.keep (F' := fun _ => True) hk5.size fun g h1 h2 => ⟨trivial, hk5.block g h2 (by simp; exact h1)⟩).deep⟩); have HW85 := hid (HWo.out.keep hk5 (by simp; omega)).want; clear hb5 hk5 htb
      refine hK.out _ _ ⟨HL5.out.c1, HT5.out.bu.c0, HT5.out.bu.c1, HT5.out.bu.c2, HT5.out.bu.c3, HT5.out.bu.c4, HT5.out.bu.c5, HT5.out.bu.c6⟩ (fun _ => trivial) ?_; clear hK K; (try simp only [Act.put, List.setIfInBounds_toArray, List.set_cons_zero, List.set_cons_succ]); refine AnyT.take0 (i := 10) (v := ?v10_17) rfl (by kernel_rfl) (fun _ _ _ h => h) (Or.inl ⟨by rfl, ?hy10_17⟩) ⟨HL5.out.c1, HT5.out.bu.c0, HT5.out.bu.c1, HT5.out.bu.c2, HT5.out.bu.c3, HT5.out.bu.c4, HT5.out.bu.c5, HT5.out.bu.c6⟩ (fun _ => trivial) ?_
      case hy10_17 => intro w'' hS''; (try dsimp only at hS''); go_split_ands; go_simp; try (with_reducible rfl)
      (try simp only [Act.put, List.setIfInBounds_toArray, List.set_cons_zero, List.set_cons_succ]); refine AnyT.done (by kernel_rfl) ?_ _; refine NoPanic.normal ?_; simp only [List.getElem_toArray, List.getElem_cons_succ, List.getElem_cons_zero, Act.put, List.setIfInBounds_toArray, List.set_cons_zero, List.set_cons_succ]; go_wp2_with fail
      go_meet; exact ⟨tb, rfl, rfl, by rw [← HRe.out]; exact HW5.out, HW85.out, HT5.out⟩
  case rest =>
   obtain ⟨b9, rfl, rfl, hW9, hW8, hT9⟩ := hcut; have HT9 := hid hT9; obtain ⟨rkp, rkc, rlp, rlc, hb9, hd9⟩ := hW9; obtain ⟨zkp, zkc, zlp, zlc, hb8, hd8⟩ := hW8; have hsame := same_fits (m := m) (u := u) (f := f) (T := told 49 v) HKu7.out HUp.out.2.1 HUp.out.1 (by have := HUp.out; omega) HFp.out HTl.out HFu.out (by rw [HFe.out]; exact fits_flo 50 HFv.out) HA1.out HA2.out; obtain ⟨r, hr⟩ : ∃ r, r = nrm 50 (tabJV (putAll (u.ks.zip u.l) (told 49 v))) := ⟨_, rfl⟩; obtain ⟨z, hz⟩ : ∃ z, z = overJV u f := ⟨_, rfl⟩; rw [← hr] at hb9 hd9 hsame; rw [← hz] at hb8 hd8 hsame; obtain ⟨hj, mr, mz, hfr, hfz⟩ := hsame; have hsam := sam_does 50 50 50 mr mz _ _ r z rkp rlp rkc rlc zkp zlp zkc zlc hj hd9 hd8 hfr hfz (Kp.refl _ _); unfold valOf at hsam; have HSam := hid hsam; have r0 := hb9.c0; have r1 := hb9.c1; have r2 := hb9.c2; have r3 := hb9.c3; have r4 := hb9.c4; have r5 := hb9.c5
   have r6 := hb9.c6; have z0 := hb8.c0; have z1 := hb8.c1; have z2 := hb8.c2; have z3 := hb8.c3; have z4 := hb8.c4; have z5 := hb8.c5; have z6 := hb8.c6; clear hT9 hb9 hb8 hd9 hd8 hj hfr hfz hsam hr hz; go_wp2_with fail
   refine HSam.out.mono ?_
   rintro e40 w40 ⟨rfl, hk40⟩
   have H40 := hid (HT9.out.next hk40); clear hk40 HSam r0 r1 r2 r3 r4 r5 r6 z0 z1 z2 z3 z4 z5 z6; go_wp2_with fail
   refine (awake_is _ (HE.out.kp H40.out.kp' (by simp))).mono ?_
   rintro ea wa ⟨rfl, hka⟩
   have HKa := hid (H40.out.kp'.trans hka); clear hka; go_wp2_with fail
   go_ret; exact ⟨rfl, HKa.out⟩
end
end Go.Proofs.YtljaoopfomcaoaaGreatDoor
