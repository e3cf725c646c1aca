import Derived.Test.YtljaoopfomcaoaaGreatDoorM03
set_option linter.all false
open Go.Lib (hid)
namespace Go.Proofs.YtljaoopfomcaoaaGreatDoor
section
open Go.RowKit
theorem fin_read {f : Nat} (h : FinE f) : ∃ s m i, Ieee.double.read f = .number s m i := by
 unfold Ieee.Format.read; have h1 : Ieee.double.signWeight = 9223372036854775808 := by decide
 have h2 : Ieee.double.binade = 4503599627370496 := by decide
 have h3 : Ieee.double.infRung = 2047 * 4503599627370496 := by decide
 rw [h1, h2, h3]; unfold FinE at h; simp only []
 split
 · exact ⟨_, _, _, rfl⟩
 · rw [if_pos (by omega)]
   exact ⟨_, _, _, rfl⟩
theorem nfin_read {f : Nat} (h : ¬ FinE f) : (∃ s, Ieee.double.read f = .infinity s) ∨ ∃ s t, Ieee.double.read f = .nan s t := by
 unfold Ieee.Format.read; have h1 : Ieee.double.signWeight = 9223372036854775808 := by decide
 have h2 : Ieee.double.binade = 4503599627370496 := by decide
 have h3 : Ieee.double.infRung = 2047 * 4503599627370496 := by decide
 rw [h1, h2, h3]; unfold FinE at h; simp only []; rw [if_neg (by omega), if_neg (by omega)]
 split
 · exact Or.inl ⟨_, rfl⟩
 · exact Or.inr ⟨_, _, rfl⟩
theorem sub_fin {f : Nat} (h : FinE f) : FloatKind.f64.format.sub f f = some 0 := by
 obtain ⟨s, m, i, e⟩ := fin_read h
 show Ieee.double.sub f f = some 0
 unfold Ieee.Format.sub; rw [e]; have e2 : (Ieee.Datum.number s m i).sum (Ieee.Datum.number s m i).opposite = some (.number false 0 i) := by
  cases s
  · simp [Ieee.Datum.opposite, Ieee.Datum.sum, Ieee.signed, Int.add_right_neg]
  · simp [Ieee.Datum.opposite, Ieee.Datum.sum, Ieee.signed, Int.add_left_neg]
 rw [e2]; rfl
theorem sub_nfin {f : Nat} (h : ¬ FinE f) : FloatKind.f64.format.sub f f = none := by
 show Ieee.double.sub f f = none
 unfold Ieee.Format.sub; rcases nfin_read h with ⟨s, e⟩ | ⟨s, t, e⟩
 · rw [e]; cases s <;> simp [Ieee.Datum.opposite, Ieee.Datum.sum]
 · rw [e]; simp [Ieee.Datum.opposite, Ieee.Datum.sum]
theorem run_sub_fin {f : Nat} (h : FinE f) (w : World) : (binOp BinOp.sub 22 (.float .f64 f) (.float .f64 f)).run Tryz.prog w = .ok (.float .f64 0) w := by
 have := sub_fin h; simp [go_sem, binOp, Op.floatArith, Tryz.underlying22, this]
theorem run_eql_00 (w : World) : (binOp BinOp.eql 22 (.float .f64 0) (.float .f64 0)).run Tryz.prog w = .ok (.bool true) w := by kernel_rfl
theorem run_sub_nfin {f : Nat} (h : ¬ FinE f) (w : World) : ∃ x w', (binOp BinOp.sub 22 (.float .f64 f) (.float .f64 f)).run Tryz.prog w = .ok (.float .f64 x) w' ∧ w'.heap = w.heap ∧ Kp [] w w' ∧ FloatKind.f64.format.order x 0 = none := by
 have := sub_nfin h; simp [go_sem, binOp, Op.floatArith, Tryz.underlying22, this]; refine ⟨_, _, ⟨rfl, rfl⟩, rfl, (Kp.refl _ _).drew, ?_⟩; generalize w.tape w.drawn (Question.nanBits FloatKind.f64 f f) = t; have hx : ∃ s u, Ieee.double.read ((Question.nanBits FloatKind.f64 f f).cut t) = .nan s u := by
  have hq : t / 2 % (2 ^ 52 - 1) < 4503599627370495 := Nat.mod_lt _ (by omega); have hc : (Question.nanBits FloatKind.f64 f f).cut t = 9223372036854775808 * (t % 2) + (9218868437227405313 + t / 2 % (2 ^ 52 - 1)) := by
   show (t % 2) * 2 ^ 63 + 0x7ff0000000000000 + 1 + (t / 2) % (2 ^ 52 - 1) = _
   rw [Nat.mul_comm, Nat.add_assoc, Nat.add_assoc]
   congr 1
   rw [← Nat.add_assoc]
  rw [hc]; generalize t / 2 % (2 ^ 52 - 1) = q at hq; generalize t % 2 = p; have hm : (9223372036854775808 * p + (9218868437227405313 + q)) % 9223372036854775808 = 9218868437227405313 + q := by
   rw [Nat.mul_add_mod]; exact Nat.mod_eq_of_lt (by omega)
  unfold Ieee.Format.read; have h1 : Ieee.double.signWeight = 9223372036854775808 := by decide
  have h2 : Ieee.double.binade = 4503599627370496 := by decide
  have h3 : Ieee.double.infRung = 9218868437227405312 := by decide
  rw [h1, h2, h3, hm]; simp only []; rw [if_neg (by omega), if_neg (by omega), if_neg (by omega)]; exact ⟨_, _, rfl⟩
 obtain ⟨s, u, e⟩ := hx
 show Ieee.double.order _ 0 = none
 unfold Ieee.Format.order; rw [e]; rfl
end
section
open Go.RowKit
def Fits : Nat → JV → Prop
 | 0, _ => False
 | n + 1, v => (-9223372036854775808 ≤ v.i ∧ v.i ≤ 9223372036854775807 ∧ v.f < 18446744073709551616 ∧ v.t.size ≤ 2000000 ∧ v.ks.length ≤ 2000000 ∧ v.l.length ≤ 2000000 ∧ ∀ q ∈ v.ks, q.size ≤ 2000000) ∧ ∀ x ∈ v.l, Fits n x
def TbPost (n : Nat) (w : World) (nb k : Nat) (v : JV) (e : Ending) (w' : World) : Prop :=
 ∃ (b : Bool) (z : Int), e = .returned (.bool b) ∧ CntAt w' nb z ∧ Kp [nb] w w' ∧ (b = true → ∃ c k' : Nat, RightC n v c ∧ k = k' + c ∧ z = k')
def TbDoes (n : Nat) : Prop :=
 ∀ (d m : Nat) (w0 w : World) (nb k : Nat) (v : JV) (kp lp : Option Addr) (kc lc : Nat) (y : Int), y = (n : Int) → Deep d w0 v kp lp → Fits m v → Kp [] w0 w → w0.heap.size ≤ nb → CntAt w nb k → k ≤ 1000 → n ≤ 100 →
  Calls Tryz.prog 17 #[valOf v kp kc lp lc, .int .i64 y, .pointer (some ⟨nb, 0, none⟩)] w (TbPost n w nb k v)
theorem tb_in (w : World) (nb : Nat) (k z : Int) (v : JV) (kp : Option Addr) (kc : Nat) (lp : Option Addr) (lc : Nat) (h : CntAt w nb k) :
  AnyIn w ((w.setCell ⟨nb, 0, none⟩ (.int .i64 z)).alloc (.cells #[.int .i64 v.kind, .bool v.b, .int .i64 v.i, .float .f64 v.f, .string v.t, .slice kp v.ks.length kc, .slice lp v.l.length lc] 26)) nb w.heap.size z v kp kc lp lc := by
 have hlt := h.lt; have hs : (w.setCell ⟨nb, 0, none⟩ (.int .i64 z)).heap.size = w.heap.size := by simp [World.setCell]
 refine ⟨any_box _ _ _ _ _ (h.set _), ?_, ((Kp.refl [nb] w).setCell (by simp) _).alloc _, Nat.le_refl _, hlt⟩; have := bxAt_fresh (w.setCell ⟨nb, 0, none⟩ (.int .i64 z)) v kp kc lp lc; rw [hs] at this; exact this
theorem TbPost.no {n : Nat} {w w' : World} {nb k : Nat} {v : JV} {z : Int} (hc : CntAt w' nb z) (hk : Kp [nb] w w') : TbPost n w nb k v (.returned (.bool false)) w' :=
 ⟨false, z, rfl, hc, hk, fun h => by cases h⟩
theorem TbPost.yes {n : Nat} {w w' : World} {nb k c k' : Nat} {v : JV} (hc : CntAt w' nb (k' : Int)) (hk : Kp [nb] w w') (hR : RightC n v c) (h : k = k' + c) : TbPost n w nb k v (.returned (.bool true)) w' :=
 ⟨true, k', rfl, hc, hk, fun _ => ⟨c, k', hR, h, rfl⟩⟩
set_option maxRecDepth 100000 in
set_option maxHeartbeats 2000000 in
theorem tb_none (w : World) (nb k : Nat) (v : JV) (kp lp : Option Addr) (kc lc : Nat) (y : Int) (n : Nat) (hc : CntAt w nb k) (hk : k ≤ 1000) (hy : y = (n : Int)) (hn : n ≤ 100) (h : k = 0 ∨ n = 0) :
  Calls Tryz.prog 17 #[valOf v kp kc lp lc, .int .i64 y, .pointer (some ⟨nb, 0, none⟩)] w (TbPost n w nb k v) := by
 have k1 : decide ((k : Int) - 1 < 0) = true ∨ (decide ((k : Int) - 1 < 0) = false ∧ decide (y < 1) = true) := by
  rcases h with h | h
  · exact Or.inl (by rw [decide_eq_true_eq]; omega)
  · rcases Nat.eq_zero_or_pos k with h0 | h0
    · exact Or.inl (by rw [decide_eq_true_eq]; omega)
    · exact Or.inr ⟨by rw [decide_eq_false_iff_not]; omega, by rw [decide_eq_true_eq]; omega⟩
 clear hy hn h; have HIn := hid (tb_in w nb k ((k : Int) - 1) v kp kc lp lc hc); have hlt := hc.lt; have hc1 : CntAt (w.alloc (.cells #[.int .i64 v.kind, .bool v.b, .int .i64 v.i, .float .f64 v.f, .string v.t, .slice kp v.ks.length kc, .slice lp v.l.length lc] 26)) nb k := hc.kp (S := []) ((Kp.refl _ _).alloc _) (by simp); have c0 := hc1.c0; have f0 := hc1.fr; clear hc1 hc; unfold valOf; go_enter Tryz.func17, Tryz.ntmps17
 go_upto_region 2 with fail
 generalize hW : World.alloc (World.setCell _ _ _) _ = w1 at *; clear c0 f0 hW; have c0 := HIn.out.cnt.c0; have b0 := HIn.out.box.c0; have b3 := HIn.out.box.c3; have b5 := HIn.out.box.c5; have b6 := HIn.out.box.c6; rcases k1 with k1 | ⟨k1, k2⟩; all_goals
  go_wp2_with fail
  go_ret; exact TbPost.no HIn.out.cnt HIn.out.kp'
set_option maxRecDepth 100000 in
set_option maxHeartbeats 2000000 in
theorem tb_bad (w : World) (nb k : Nat) (v : JV) (kp lp : Option Addr) (kc lc : Nat) (y : Int) (n : Nat) (hc : CntAt w nb k) (hk : k ≤ 1000) (hy : y = (n : Int)) (hn : n ≤ 100) (h1 : 0 < k) (h2 : 0 < n) (h : (v.kind < 6 ∧ v.l ≠ []) ∨ (v.kind ≠ 7 ∧ v.ks ≠ [])) :
  Calls Tryz.prog 17 #[valOf v kp kc lp lc, .int .i64 y, .pointer (some ⟨nb, 0, none⟩)] w (TbPost n w nb k v) := by
 have k1 : decide ((k : Int) - 1 < 0) = false := by rw [decide_eq_false_iff_not]; omega
 have k2 : decide (y < 1) = false := by rw [decide_eq_false_iff_not]; omega
 have h' : (v.kind < 6 ∧ 0 < v.l.length) ∨ (v.kind < 6 ∧ Hid (v.l = []) ∧ ¬ v.kind = 7 ∧ 0 < v.ks.length) ∨ (¬ v.kind < 6 ∧ ¬ v.kind = 7 ∧ 0 < v.ks.length) := by
  by_cases h6 : v.kind < 6
  · by_cases hl : v.l = []
    · rcases h with ⟨_, h⟩ | ⟨h3, h4⟩
      · exact absurd hl h
      · exact Or.inr (Or.inl ⟨h6, hid hl, h3, List.length_pos_iff.2 h4⟩)
    · exact Or.inl ⟨h6, List.length_pos_iff.2 hl⟩
  · rcases h with ⟨h3, _⟩ | ⟨h3, h4⟩
    · exact absurd h3 h6
    · exact Or.inr (Or.inr ⟨h6, h3, List.length_pos_iff.2 h4⟩)
 clear hy hn h; have HIn := hid (tb_in w nb k ((k : Int) - 1) v kp kc lp lc hc); have hlt := hc.lt; have hc1 : CntAt (w.alloc (.cells #[.int .i64 v.kind, .bool v.b, .int .i64 v.i, .float .f64 v.f, .string v.t, .slice kp v.ks.length kc, .slice lp v.l.length lc] 26)) nb k := hc.kp (S := []) ((Kp.refl _ _).alloc _) (by simp); have c0 := hc1.c0; have f0 := hc1.fr; clear hc1 hc; unfold valOf; go_enter Tryz.func17, Tryz.ntmps17
 go_upto_region 2 with fail
 generalize hW : World.alloc (World.setCell _ _ _) _ = w1 at *; clear c0 f0 hW; have c0 := HIn.out.cnt.c0; have b0 := HIn.out.box.c0; have b3 := HIn.out.box.c3; have b5 := HIn.out.box.c5; have b6 := HIn.out.box.c6; rcases h' with ⟨q1, q2⟩ | ⟨q1, q2, q3, q4⟩ | ⟨q1, q3, q4⟩
 · generalize v.kind = K at *
   go_wp2_with fail
   go_ret; exact TbPost.no HIn.out.cnt HIn.out.kp'
 ·
  rw [q2.out] at b6; clear q2; generalize v.kind = K at *; go_wp2_with fail
  go_ret; exact TbPost.no HIn.out.cnt HIn.out.kp'
 · generalize v.kind = K at *
   go_wp2_with fail
   go_ret; exact TbPost.no HIn.out.cnt HIn.out.kp'
set_option maxRecDepth 100000 in
set_option maxHeartbeats 2000000 in
theorem tb_plain (w : World) (nb k : Nat) (v : JV) (kp lp : Option Addr) (kc lc : Nat) (y : Int) (n : Nat) (hc : CntAt w nb k) (hk : k ≤ 1000) (hy : y = (n : Int)) (hn : n ≤ 100) (h1 : 0 < k) (h2 : 0 < n) (hl : v.kind < 6 → v.l = []) (hks : v.kind ≠ 7 → v.ks = []) (h : v.kind = 0 ∨ v.kind = 1 ∨ v.kind = 2 ∨ v.kind = 5) :
  Calls Tryz.prog 17 #[valOf v kp kc lp lc, .int .i64 y, .pointer (some ⟨nb, 0, none⟩)] w (TbPost n w nb k v) := by
 have k1 : decide ((k : Int) - 1 < 0) = false := by rw [decide_eq_false_iff_not]; omega
 have k2 : decide (y < 1) = false := by rw [decide_eq_false_iff_not]; omega
 have HL' := hid (hl (by omega)); have HKs' := hid (hks (by omega)); have hR : RightC n v 1 := by
  obtain ⟨n, rfl⟩ : ∃ n', n = n' + 1 := ⟨n - 1, by omega⟩; exact ⟨hl, hks, Or.inl ⟨h, rfl⟩⟩
 have HR := hid hR; have hk1 : k = (k - 1) + 1 := by omega
 have HK1 := hid hk1; have hkc : ((k - 1 : Nat) : Int) = (k : Int) - 1 := by omega
 have HKc := hid hkc; clear hy hn hl hks hR hk1 hkc; have HIn := hid (tb_in w nb k ((k : Int) - 1) v kp kc lp lc hc); have hlt := hc.lt; have hc1 : CntAt (w.alloc (.cells #[.int .i64 v.kind, .bool v.b, .int .i64 v.i, .float .f64 v.f, .string v.t, .slice kp v.ks.length kc, .slice lp v.l.length lc] 26)) nb k := hc.kp (S := []) ((Kp.refl _ _).alloc _) (by simp); have c0 := hc1.c0; have f0 := hc1.fr; clear hc1 hc; unfold valOf; go_enter Tryz.func17, Tryz.ntmps17
 go_upto_region 2 with fail
 generalize hW : World.alloc (World.setCell _ _ _) _ = w1 at *; clear c0 f0 hW; have c0 := HIn.out.cnt.c0; have b0 := HIn.out.box.c0; have b3 := HIn.out.box.c3; have b5 := HIn.out.box.c5; have b6 := HIn.out.box.c6; rw [HL'.out] at b6; rw [HKs'.out] at b5; generalize v.kind = K at *; rcases h with rfl | rfl | rfl | rfl; all_goals
  go_wp2_with fail
  go_ret; exact TbPost.yes (k' := k - 1) (by rw [HKc.out]; exact HIn.out.cnt) HIn.out.kp' HR.out HK1.out
set_option maxRecDepth 100000 in
set_option maxHeartbeats 2000000 in
theorem tb_other (w : World) (nb k : Nat) (v : JV) (kp lp : Option Addr) (kc lc : Nat) (y : Int) (n : Nat) (hc : CntAt w nb k) (hk : k ≤ 1000) (hy : y = (n : Int)) (hn : n ≤ 100) (h1 : 0 < k) (h2 : 0 < n) (hl : v.kind < 6 → v.l = []) (hks : v.kind ≠ 7 → v.ks = []) (h : v.kind ≠ 0 ∧ v.kind ≠ 1 ∧ v.kind ≠ 2 ∧ v.kind ≠ 5 ∧ v.kind ≠ 4 ∧ v.kind ≠ 7 ∧ v.kind ≠ 6) :
  Calls Tryz.prog 17 #[valOf v kp kc lp lc, .int .i64 y, .pointer (some ⟨nb, 0, none⟩)] w (TbPost n w nb k v) := by
 have k1 : decide ((k : Int) - 1 < 0) = false := by rw [decide_eq_false_iff_not]; omega
 have k2 : decide (y < 1) = false := by rw [decide_eq_false_iff_not]; omega
 have HKs' := hid (hks (by omega)); have HL' := hid hl; obtain ⟨h3, h4, h5, h6, h7, h8, h9⟩ := h; clear hy hn hl hks; have HIn := hid (tb_in w nb k ((k : Int) - 1) v kp kc lp lc hc); have hlt := hc.lt; have hc1 : CntAt (w.alloc (.cells #[.int .i64 v.kind, .bool v.b, .int .i64 v.i, .float .f64 v.f, .string v.t, .slice kp v.ks.length kc, .slice lp v.l.length lc] 26)) nb k := hc.kp (S := []) ((Kp.refl _ _).alloc _) (by simp); have c0 := hc1.c0; have f0 := hc1.fr; clear hc1 hc; unfold valOf; go_enter Tryz.func17, Tryz.ntmps17
 go_upto_region 2 with fail
 generalize hW : World.alloc (World.setCell _ _ _) _ = w1 at *; clear c0 f0 hW; have c0 := HIn.out.cnt.c0; have b0 := HIn.out.box.c0; have b3 := HIn.out.box.c3; have b5 := HIn.out.box.c5; have b6 := HIn.out.box.c6; rw [HKs'.out] at b5; by_cases hK : v.kind < 6
 ·
  rw [HL'.out hK] at b6; clear HL'; generalize v.kind = K at *; go_wp2_with fail
  go_ret; exact TbPost.no HIn.out.cnt HIn.out.kp'
 ·
  clear HL'; generalize v.kind = K at *; go_wp2_with fail
  go_ret; exact TbPost.no HIn.out.cnt HIn.out.kp'
set_option maxRecDepth 100000 in
set_option maxHeartbeats 2000000 in
theorem tb_float (w : World) (nb k : Nat) (v : JV) (kp lp : Option Addr) (kc lc : Nat) (y : Int) (n : Nat) (hc : CntAt w nb k) (hk : k ≤ 1000) (hy : y = (n : Int)) (hn : n ≤ 100) (h1 : 0 < k) (h2 : 0 < n) (hl : v.kind < 6 → v.l = []) (hks : v.kind ≠ 7 → v.ks = []) (h : v.kind = 4) :
  Calls Tryz.prog 17 #[valOf v kp kc lp lc, .int .i64 y, .pointer (some ⟨nb, 0, none⟩)] w (TbPost n w nb k v) := by
 have k1 : decide ((k : Int) - 1 < 0) = false := by rw [decide_eq_false_iff_not]; omega
 have k2 : decide (y < 1) = false := by rw [decide_eq_false_iff_not]; omega
 have HL' := hid (hl (by omega)); have HKs' := hid (hks (by omega)); have hR : FinE v.f → RightC n v 1 := fun hf => by
  obtain ⟨n, rfl⟩ : ∃ n', n = n' + 1 := ⟨n - 1, by omega⟩; exact ⟨hl, hks, Or.inr (Or.inl ⟨h, hf, rfl⟩)⟩
 have HR := hid hR; have hk1 : k = (k - 1) + 1 := by omega
 have HK1 := hid hk1; have hkc : ((k - 1 : Nat) : Int) = (k : Int) - 1 := by omega
 have HKc := hid hkc; have HKd := hid h; clear hy hn hl hks hR hk1 hkc h; have HIn := hid (tb_in w nb k ((k : Int) - 1) v kp kc lp lc hc); have hlt := hc.lt; have hc1 : CntAt (w.alloc (.cells #[.int .i64 v.kind, .bool v.b, .int .i64 v.i, .float .f64 v.f, .string v.t, .slice kp v.ks.length kc, .slice lp v.l.length lc] 26)) nb k := hc.kp (S := []) ((Kp.refl _ _).alloc _) (by simp); have c0 := hc1.c0; have f0 := hc1.fr; clear hc1 hc; unfold valOf; go_enter Tryz.func17, Tryz.ntmps17
 go_upto_region 2 with fail
 generalize hW : World.alloc (World.setCell _ _ _) _ = w1 at *; clear c0 f0 hW; have c0 := HIn.out.cnt.c0; have b0 := HIn.out.box.c0; have b3 := HIn.out.box.c3; have b5 := HIn.out.box.c5; have b6 := HIn.out.box.c6; rw [HL'.out] at b6; rw [HKs'.out] at b5; rw [HKd.out] at b0; by_cases hf : FinE v.f
 ·
  have HF := hid hf; have hsub := run_sub_fin hf; have heq := run_eql_00; clear hf; go_wp2_with fail
  go_ret; exact TbPost.yes (k' := k - 1) (by rw [HKc.out]; exact HIn.out.cnt) HIn.out.kp' (HR.out HF.out) HK1.out
 ·
  obtain ⟨x, w2, hsub, hheap, hkp, hord⟩ := run_sub_nfin hf w1; have hord2 : (FloatKind.f64.format.order x 0 == some Ordering.eq) = false := by rw [hord]; rfl
  have hc2 : CntAt w2 nb ((k : Int) - 1) := HIn.out.cnt.kp hkp (by simp); have HC2 := hid hc2; have HKp := hid hkp; clear hf hheap hkp hord hc2; go_wp2_with fail
  go_ret; exact TbPost.no HC2.out (HIn.out.kp'.trans (HKp.out.mono (fun _ _ h => by simp at h)))
end
end Go.Proofs.YtljaoopfomcaoaaGreatDoor
