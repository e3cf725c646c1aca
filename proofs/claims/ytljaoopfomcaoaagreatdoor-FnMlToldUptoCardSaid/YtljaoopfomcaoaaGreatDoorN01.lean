import Derived.Deep.DeepCutAuto
import Derived.Test.YtljaoopfomcaoaaGreatDoorM19
set_option linter.all false
open Go.Lib (hid)
namespace Go.Proofs.YtljaoopfomcaoaaGreatDoor
section
open Go.RowKit
theorem dig_row {w : World} {b T : Nat} {ds : List Nat} (h : DigBlk w b T ds) (j y : Nat) (hj : ((ds.drop 1).map (48 + ·))[j]? = some y) : w.cell? ((⟨b, 1, none⟩ : Addr).add j) = some (.int .u8 (y : Int)) := by
 have e : (⟨b, 1, none⟩ : Addr).add j = ⟨b, 1 + j, none⟩ := by unfold Addr.add; split <;> simp_all
 rw [e]; rw [List.getElem?_map, List.getElem?_drop] at hj
 cases hd : ds[1 + j]? with
 | none => rw [hd] at hj; simp at hj
 | some x =>
  rw [hd] at hj; simp at hj; have hlt : 1 + j < ds.length := by
   rcases Nat.lt_or_ge (1 + j) ds.length with h' | h'
   · exact h'
   · rw [List.getElem?_eq_none h'] at hd; simp at hd
  rw [h.cell (1 + j) hlt]; have : dg ds (1 + j) = x := by unfold dg; rw [List.getD_eq_getElem?_getD, hd]; rfl
  rw [this, hj]
def expDigs (x : Nat) : List Nat := if x < 10 then [0, x] else if x < 100 then [x / 10, x % 10] else [x / 100, x / 10 % 10, x % 10]
set_option maxRecDepth 100000 in
set_option maxHeartbeats 4000000 in
theorem efgE (w0 w : World) (S : List Nat) (v : Value) (l txt : List Nat) (neg : Bool) (b N T : Nat) (ds : List Nat) (dp prec : Int) (fm : Nat) (hO : Out w0 S w v l) (hl : l.length ≤ 100000000) (hB : DigBlk w b T ds) (hT : T ≠ 5)
  (hd0 : 0 < ds.length) (hd1 : ds.length ≤ 20) (hsm : ∀ x ∈ ds, x < 10) (hNl : ds.length ≤ N) (hN : N ≤ 1000) (hdp1 : -400 ≤ dp) (hdp2 : dp ≤ 400) (hfm : fm = 101 ∨ fm = 69) (hprec : prec = (ds.length : Int) - 1)
  (htxt : txt = l ++ ((if neg then [45] else []) ++ [48 + dg ds 0] ++ (if 1 < ds.length then 46 :: (ds.drop 1).map (48 + ·) else []) ++ [fm, if dp - 1 < 0 then 45 else 43] ++ (expDigs (dp - 1).natAbs).map (48 + ·))) :
  Calls Tryz.prog 76 #[v, .bool neg, .slice (some ⟨b, 0, none⟩) N N, .int .i64 dp, .int .i64 ds.length, .int .i64 prec, .int .u8 fm, .bool true] w fun e w' => ∃ v', e = .returned v' ∧ Out w0 S w' v' txt ∧ Kt w w' := by
 have hfl : fm < 256 := by omega
 have HO := hid hO; have HB := hid hB; have HB0 := hid hB; have HKt := hid (Kt.refl w); have HTx := hid htxt; have HSm := hid hsm; clear hO hB htxt hsm; subst hprec; rcases hfm with rfl | rfl
 ·
  have k1 : True := trivial; clear k1; go_enter Tryz.func76, Tryz.ntmps76
  go_upto_if 78 with fail
  go_cut [0] (fun s0 wx => Out w0 S wx s0 (l ++ (if neg then [45] else [])) ∧ Kt w wx)
  case first =>
   as_aux_lemma =>
   cases neg with
   | true =>
    go_wp2_with (at_builtin; go_must (refine wp_out_int rfl _ _ rfl w0 S _ _ rfl (HO.out.alloc _) _ _ _ rfl (cell_new _ _ _ _) ?_ ?_ ?_); go_must (omega); go_must (first | omega | (simp only [List.length_append, List.length_cons, List.length_nil]; omega)); intro v2 w2 hO2 hK2 hP2; have HKn := hid (HKt.out.trans ((Kt.alloc _ _).trans hK2)); have HBn := hid (HB.out.kt hT ((Kt.alloc _ _).trans hK2)); clear HO HKt HB; have HO := hid hO2; have HKt := hid HKn.out; have HB := hid HBn.out; clear hO2 hK2 hP2 HKn HBn)
    go_meet; exact ⟨HO.out, HKt.out⟩
   | false =>
    go_wp2_with fail
    go_meet; exact ⟨by simpa using HO.out, HKt.out⟩
  case rest =>
  as_aux_lemma =>
  obtain ⟨hO2, hK2⟩ := hcut; have HB2 := hid (HB.out.kt hT hK2); clear HO HKt HB; have HKt := hid hK2; have HB := hid HB2.out; obtain ⟨l1, hl1⟩ : ∃ l1, l1 = l ++ (if neg then [45] else []) := ⟨_, rfl⟩; rw [← hl1] at hO2; have hll1 : l1.length ≤ 100000001 := by rw [hl1, List.length_append]; cases neg <;> simp <;> omega
  have HO := hid hO2; have HL1 := hid hl1; clear hO2 hK2 HB2 hl1; have c0 := HB.out.cell 0 hd0; have hds0 := dg_lt HSm.out 0; go_upto_if 92 with (at_builtin; go_must (refine wp_out_int rfl _ _ rfl w0 S _ _ rfl (HO.out.alloc _) _ _ _ rfl (cell_new _ _ _ _) ?_ ?_ ?_); go_must (omega); go_must (first | omega | (simp only [List.length_append, List.length_cons, List.length_nil]; omega)); intro v2 w2 hO2 hK2 hP2; have HKn := hid (HKt.out.trans ((Kt.alloc _ _).trans hK2)); have HBn := hid (HB.out.kt hT ((Kt.alloc _ _).trans hK2)); clear HO HKt HB; have HO := hid hO2; have HKt := hid HKn.out; have HB := hid HBn.out; clear hO2 hK2 hP2 HKn HBn)
  go_cut [0, 20, 21] (fun s0 s20 s21 wx => Out w0 S wx s0 (l1 ++ [48 + dg ds 0] ++ (if 1 < ds.length then 46 :: (ds.drop 1).map (48 + ·) else [])) ∧ Kt w wx)
  case first =>
   as_aux_lemma =>
   by_cases h1 : 1 < ds.length
   ·
    have k9 : decide ((1 : Int) < (ds.length : Int)) = true := by rw [decide_eq_true_eq]; omega
    go_upto_region 31 with (at_builtin; go_must (refine wp_out_int rfl _ _ rfl w0 S _ _ rfl (HO.out.alloc _) _ _ _ rfl (cell_new _ _ _ _) ?_ ?_ ?_); go_must (omega); go_must (first | omega | (simp only [List.length_append, List.length_cons, List.length_nil]; omega)); intro v2 w2 hO2 hK2 hP2; have HKn := hid (HKt.out.trans ((Kt.alloc _ _).trans hK2)); have HBn := hid (HB.out.kt hT ((Kt.alloc _ _).trans hK2)); clear HO HKt HB; have HO := hid hO2; have HKt := hid HKn.out; have HB := hid HBn.out; clear hO2 hK2 hP2 HKn HBn)
    clear c0; go_wp2_with (at_builtin; go_must (refine wp_out_row rfl _ _ rfl w0 S _ _ rfl HO.out ⟨b, 1, none⟩ _ _ ((ds.drop 1).map (48 + ·)) ?_ rfl ?_ ?_ ?_ ?_); go_must (simp; try omega); go_must (exact dig_row HB.out); go_must (first | omega | (simp only [List.length_append, List.length_cons, List.length_nil]; omega)); go_must (simp; omega); intro v2 w2 hO2 hK2 hP2; have HKn := hid (HKt.out.trans hK2); have HBn := hid (HB.out.kt hT hK2); clear HO HKt HB; have HO := hid hO2; have HKt := hid HKn.out; have HB := hid HBn.out; clear hO2 hK2 hP2 HKn HBn)
    go_loop [0, 114] (fun s0 s114 => s0 = v2 ∧ s114 = .int .i64 0) (fun _ _ => 0)
    case atStart => exact ⟨rfl, rfl⟩
    case round =>
     obtain ⟨rfl, rfl⟩ := hrel; go_wp2_with fail
     go_meet; refine ⟨?_, HKt.out⟩; have h9 := HO.out; rw [if_pos h1]; have e9 : (48 + (dg ds 0 : Int)).toNat = 48 + dg ds 0 := by omega
     simpa [e9] using h9
   · have k9 : decide ((1 : Int) < (ds.length : Int)) = false := by rw [decide_eq_false_iff_not]; omega
     go_wp2_with fail
     go_meet; have e9 : (48 + (dg ds 0 : Int)).toNat = 48 + dg ds 0 := by omega
     exact ⟨by rw [if_neg h1]; simpa [e9] using HO.out, HKt.out⟩
  case rest =>
  as_aux_lemma =>
  obtain ⟨hO2, hK2⟩ := hcut; have HB2 := hid (HB0.out.kt hT hK2); clear HO HKt HB; have HKt := hid hK2; have HB := hid HB2.out; obtain ⟨l2, hl2⟩ : ∃ l2, l2 = l1 ++ [48 + dg ds 0] ++ (if 1 < ds.length then 46 :: (ds.drop 1).map (48 + ·) else []) := ⟨_, rfl⟩
  rw [← hl2] at hO2; have hll2 : l2.length ≤ 100000100 := by
   rw [hl2, List.length_append, List.length_append]
   split <;> simp <;> omega
  have HO := hid hO2; have HL2 := hid hl2; clear hO2 hK2 HB2 hl2 c0; have kn : ((ds.length : Int) == 0) = false := by rw [beq_eq_false_iff_ne]; omega
  go_upto_if 129 with (at_builtin; go_must (refine wp_out_int rfl _ _ rfl w0 S _ _ rfl (HO.out.alloc _) _ _ _ rfl (cell_new _ _ _ _) ?_ ?_ ?_); go_must (omega); go_must (first | omega | (simp only [List.length_append, List.length_cons, List.length_nil]; omega)); intro v2 w2 hO2 hK2 hP2; have HKn := hid (HKt.out.trans ((Kt.alloc _ _).trans hK2)); have HBn := hid (HB.out.kt hT ((Kt.alloc _ _).trans hK2)); clear HO HKt HB; have HO := hid hO2; have HKt := hid HKn.out; have HB := hid HBn.out; clear hO2 hK2 hP2 HKn HBn)
  obtain ⟨x, hx⟩ : ∃ x, x = (dp - 1).natAbs := ⟨_, rfl⟩; obtain ⟨sg, hsg⟩ : ∃ sg : Nat, sg = if dp - 1 < 0 then 45 else 43 := ⟨_, rfl⟩; have hxl : x ≤ 401 := by omega
  have hsl : sg ≤ 45 := by rw [hsg]; split <;> omega
  have HX := hid hx; have HSg := hid hsg; go_cut [19, 22] (fun s19 s22 wx => s19 = .int .u8 (sg : Int) ∧ s22 = .int .i64 (x : Int) ∧ wx = w2)
  case first =>
   as_aux_lemma =>
   by_cases hn : dp - 1 < 0
   ·
    have hxi : -(dp - 1) = (x : Int) := by omega
    have hs : sg = 45 := by rw [hsg, if_pos hn]
    have k3 : decide (dp - 1 < 0) = true := decide_eq_true hn; rw [k3]; clear hn hx hsg k3; go_wp2_with fail
    go_meet; exact ⟨by rw [hs]; rfl, by first | rfl | rw [← hxi], rfl⟩
   ·
    have hxi : (dp - 1) = (x : Int) := by omega
    have hs : sg = 43 := by rw [hsg, if_neg hn]
    have k3 : decide (dp - 1 < 0) = false := decide_eq_false hn; rw [k3]; clear hn hx hsg k3; go_wp2_with fail
    go_meet; exact ⟨by rw [hs]; rfl, by first | rfl | rw [hxi], rfl⟩
  case rest =>
  as_aux_lemma =>
  obtain ⟨rfl, rfl, hwx⟩ := hcut; have hwx2 := hwx.symm; subst hwx2; clear hx hsg; go_upto_region 47 with (at_builtin; go_must (refine wp_out_int rfl _ _ rfl w0 S _ _ rfl (HO.out.alloc _) _ _ _ rfl (cell_new _ _ _ _) ?_ ?_ ?_); go_must (omega); go_must (first | omega | (simp only [List.length_append, List.length_cons, List.length_nil]; omega)); intro v2 w2 hO2 hK2 hP2; have HKn := hid (HKt.out.trans ((Kt.alloc _ _).trans hK2)); have HBn := hid (HB.out.kt hT ((Kt.alloc _ _).trans hK2)); clear HO HKt HB; have HO := hid hO2; have HKt := hid HKn.out; have HB := hid HBn.out; clear hO2 hK2 hP2 HKn HBn)
  have hfin : Hid (txt = l2 ++ [101] ++ [sg] ++ (expDigs x).map (48 + ·)) := by
   show _ = _
   rw [HTx.out, HL2.out, HL1.out, HX.out, HSg.out]; simp only [List.append_assoc, List.cons_append, List.nil_append]
  by_cases h10 : x < 10
  ·
   as_aux_lemma =>
   have k4 : decide ((x : Int) < 10) = true := by rw [decide_eq_true_eq]; omega
   go_wp2_with (at_builtin; go_must (refine wp_out_two rfl _ _ rfl w0 S _ _ rfl _ _ _ _ (HO.out.alloc _) rfl (by rw [cells_new]; rfl) (by rw [cells_new]; rfl) ?_ ?_ ?_ ?_); go_must (omega); go_must (omega); go_must (first | omega | (simp only [List.length_append, List.length_cons, List.length_nil]; omega)); intro v2 w2 hO2 hK2 hP2; have HKn := hid (HKt.out.trans ((Kt.alloc _ _).trans hK2)); clear HO HKt; have HO := hid hO2; have HKt := hid HKn.out; clear hO2 hK2 hP2 HKn)
   go_ret; refine ⟨_, rfl, ?_, HKt.out⟩; have h9 := HO.out; rw [hfin.out, show expDigs x = [0, x] from by unfold expDigs; rw [if_pos h10]]; have e : l2 ++ [Int.toNat 101] ++ [((sg : Nat) : Int).toNat] ++ [Int.toNat 48, ((x : Int) + 48).toNat] = l2 ++ [101] ++ [sg] ++ List.map (48 + ·) [0, x] := by
    rw [show ((x : Int) + 48).toNat = 48 + x from by omega]; rfl
   rw [e] at h9; exact h9
  ·
   have k4 : decide ((x : Int) < 10) = false := by rw [decide_eq_false_iff_not]; omega
   by_cases h100 : x < 100
   ·
    as_aux_lemma =>
    have k5 : decide ((x : Int) < 100) = true := by rw [decide_eq_true_eq]; omega
    go_wp2_with (at_builtin; go_must (refine wp_out_two rfl _ _ rfl w0 S _ _ rfl _ _ _ _ (HO.out.alloc _) rfl (by rw [cells_new]; rfl) (by rw [cells_new]; rfl) ?_ ?_ ?_ ?_); go_must (omega); go_must (omega); go_must (first | omega | (simp only [List.length_append, List.length_cons, List.length_nil]; omega)); intro v2 w2 hO2 hK2 hP2; have HKn := hid (HKt.out.trans ((Kt.alloc _ _).trans hK2)); clear HO HKt; have HO := hid hO2; have HKt := hid HKn.out; clear hO2 hK2 hP2 HKn)
    go_ret; refine ⟨_, rfl, ?_, HKt.out⟩; have h9 := HO.out; rw [hfin.out, show expDigs x = [x / 10, x % 10] from by unfold expDigs; rw [if_neg h10, if_pos h100]]; have e : l2 ++ [Int.toNat 101] ++ [((sg : Nat) : Int).toNat] ++ [((x : Int) / 10 + 48).toNat, ((x : Int) % 10 + 48).toNat] = l2 ++ [101] ++ [sg] ++ List.map (48 + ·) [x / 10, x % 10] := by
     rw [show ((x : Int) / 10 + 48).toNat = 48 + x / 10 from by omega, show ((x : Int) % 10 + 48).toNat = 48 + x % 10 from by omega]; rfl
    rw [e] at h9; exact h9
   ·
    as_aux_lemma =>
    have k5 : decide ((x : Int) < 100) = false := by rw [decide_eq_false_iff_not]; omega
    go_wp2_with (at_builtin; go_must (refine wp_out_three rfl _ _ rfl w0 S _ _ rfl _ _ _ _ _ (HO.out.alloc _) rfl (by rw [cells_new]; rfl) (by rw [cells_new]; rfl) (by rw [cells_new]; rfl) ?_ ?_ ?_ ?_ ?_); go_must (omega); go_must (omega); go_must (omega); go_must (first | omega | (simp only [List.length_append, List.length_cons, List.length_nil]; omega)); intro v2 w2 hO2 hK2 hP2; have HKn := hid (HKt.out.trans ((Kt.alloc _ _).trans hK2)); clear HO HKt; have HO := hid hO2; have HKt := hid HKn.out; clear hO2 hK2 hP2 HKn)
    go_ret; refine ⟨_, rfl, ?_, HKt.out⟩; have h9 := HO.out; rw [hfin.out, show expDigs x = [x / 100, x / 10 % 10, x % 10] from by unfold expDigs; rw [if_neg h10, if_neg h100]]; have e : l2 ++ [Int.toNat 101] ++ [((sg : Nat) : Int).toNat] ++ [((x : Int) / 100 + 48).toNat, ((x : Int) / 10 % 10 + 48).toNat, ((x : Int) % 10 + 48).toNat] = l2 ++ [101] ++ [sg] ++ List.map (48 + ·) [x / 100, x / 10 % 10, x % 10] := by
     rw [show ((x : Int) / 100 + 48).toNat = 48 + x / 100 from by omega, show ((x : Int) / 10 % 10 + 48).toNat = 48 + x / 10 % 10 from by omega, show ((x : Int) % 10 + 48).toNat = 48 + x % 10 from by omega]; rfl
    rw [e] at h9; exact h9
 ·
  have k1 : True := trivial; clear k1; go_enter Tryz.func76, Tryz.ntmps76
  go_upto_if 78 with fail
  go_cut [0] (fun s0 wx => Out w0 S wx s0 (l ++ (if neg then [45] else [])) ∧ Kt w wx)
  case first =>
   as_aux_lemma =>
   cases neg with
   | true =>
    go_wp2_with (at_builtin; go_must (refine wp_out_int rfl _ _ rfl w0 S _ _ rfl (HO.out.alloc _) _ _ _ rfl (cell_new _ _ _ _) ?_ ?_ ?_); go_must (omega); go_must (first | omega | (simp only [List.length_append, List.length_cons, List.length_nil]; omega)); intro v2 w2 hO2 hK2 hP2; have HKn := hid (HKt.out.trans ((Kt.alloc _ _).trans hK2)); have HBn := hid (HB.out.kt hT ((Kt.alloc _ _).trans hK2)); clear HO HKt HB; have HO := hid hO2; have HKt := hid HKn.out; have HB := hid HBn.out; clear hO2 hK2 hP2 HKn HBn)
    go_meet; exact ⟨HO.out, HKt.out⟩
   | false =>
    go_wp2_with fail
    go_meet; exact ⟨by simpa using HO.out, HKt.out⟩
  case rest =>
  as_aux_lemma =>
  obtain ⟨hO2, hK2⟩ := hcut; have HB2 := hid (HB.out.kt hT hK2); clear HO HKt HB; have HKt := hid hK2; have HB := hid HB2.out; obtain ⟨l1, hl1⟩ : ∃ l1, l1 = l ++ (if neg then [45] else []) := ⟨_, rfl⟩; rw [← hl1] at hO2; have hll1 : l1.length ≤ 100000001 := by rw [hl1, List.length_append]; cases neg <;> simp <;> omega
  have HO := hid hO2; have HL1 := hid hl1; clear hO2 hK2 HB2 hl1; have c0 := HB.out.cell 0 hd0; have hds0 := dg_lt HSm.out 0; go_upto_if 92 with (at_builtin; go_must (refine wp_out_int rfl _ _ rfl w0 S _ _ rfl (HO.out.alloc _) _ _ _ rfl (cell_new _ _ _ _) ?_ ?_ ?_); go_must (omega); go_must (first | omega | (simp only [List.length_append, List.length_cons, List.length_nil]; omega)); intro v2 w2 hO2 hK2 hP2; have HKn := hid (HKt.out.trans ((Kt.alloc _ _).trans hK2)); have HBn := hid (HB.out.kt hT ((Kt.alloc _ _).trans hK2)); clear HO HKt HB; have HO := hid hO2; have HKt := hid HKn.out; have HB := hid HBn.out; clear hO2 hK2 hP2 HKn HBn)
  go_cut [0, 20, 21] (fun s0 s20 s21 wx => Out w0 S wx s0 (l1 ++ [48 + dg ds 0] ++ (if 1 < ds.length then 46 :: (ds.drop 1).map (48 + ·) else [])) ∧ Kt w wx)
  case first =>
   as_aux_lemma =>
   by_cases h1 : 1 < ds.length
   ·
    have k9 : decide ((1 : Int) < (ds.length : Int)) = true := by rw [decide_eq_true_eq]; omega
    go_upto_region 31 with (at_builtin; go_must (refine wp_out_int rfl _ _ rfl w0 S _ _ rfl (HO.out.alloc _) _ _ _ rfl (cell_new _ _ _ _) ?_ ?_ ?_); go_must (omega); go_must (first | omega | (simp only [List.length_append, List.length_cons, List.length_nil]; omega)); intro v2 w2 hO2 hK2 hP2; have HKn := hid (HKt.out.trans ((Kt.alloc _ _).trans hK2)); have HBn := hid (HB.out.kt hT ((Kt.alloc _ _).trans hK2)); clear HO HKt HB; have HO := hid hO2; have HKt := hid HKn.out; have HB := hid HBn.out; clear hO2 hK2 hP2 HKn HBn)
    clear c0; go_wp2_with (at_builtin; go_must (refine wp_out_row rfl _ _ rfl w0 S _ _ rfl HO.out ⟨b, 1, none⟩ _ _ ((ds.drop 1).map (48 + ·)) ?_ rfl ?_ ?_ ?_ ?_); go_must (simp; try omega); go_must (exact dig_row HB.out); go_must (first | omega | (simp only [List.length_append, List.length_cons, List.length_nil]; omega)); go_must (simp; omega); intro v2 w2 hO2 hK2 hP2; have HKn := hid (HKt.out.trans hK2); have HBn := hid (HB.out.kt hT hK2); clear HO HKt HB; have HO := hid hO2; have HKt := hid HKn.out; have HB := hid HBn.out; clear hO2 hK2 hP2 HKn HBn)
    go_loop [0, 114] (fun s0 s114 => s0 = v2 ∧ s114 = .int .i64 0) (fun _ _ => 0)
    case atStart => exact ⟨rfl, rfl⟩
    case round =>
     obtain ⟨rfl, rfl⟩ := hrel; go_wp2_with fail
     go_meet; refine ⟨?_, HKt.out⟩; have h9 := HO.out; rw [if_pos h1]; have e9 : (48 + (dg ds 0 : Int)).toNat = 48 + dg ds 0 := by omega
     simpa [e9] using h9
   · have k9 : decide ((1 : Int) < (ds.length : Int)) = false := by rw [decide_eq_false_iff_not]; omega
     go_wp2_with fail
     go_meet; have e9 : (48 + (dg ds 0 : Int)).toNat = 48 + dg ds 0 := by omega
     exact ⟨by rw [if_neg h1]; simpa [e9] using HO.out, HKt.out⟩
  case rest =>
  as_aux_lemma =>
  obtain ⟨hO2, hK2⟩ := hcut; have HB2 := hid (HB0.out.kt hT hK2); clear HO HKt HB; have HKt := hid hK2; have HB := hid HB2.out; obtain ⟨l2, hl2⟩ : ∃ l2, l2 = l1 ++ [48 + dg ds 0] ++ (if 1 < ds.length then 46 :: (ds.drop 1).map (48 + ·) else []) := ⟨_, rfl⟩
  rw [← hl2] at hO2; have hll2 : l2.length ≤ 100000100 := by
   rw [hl2, List.length_append, List.length_append]
   split <;> simp <;> omega
  have HO := hid hO2; have HL2 := hid hl2; clear hO2 hK2 HB2 hl2 c0; have kn : ((ds.length : Int) == 0) = false := by rw [beq_eq_false_iff_ne]; omega
  go_upto_if 129 with (at_builtin; go_must (refine wp_out_int rfl _ _ rfl w0 S _ _ rfl (HO.out.alloc _) _ _ _ rfl (cell_new _ _ _ _) ?_ ?_ ?_); go_must (omega); go_must (first | omega | (simp only [List.length_append, List.length_cons, List.length_nil]; omega)); intro v2 w2 hO2 hK2 hP2; have HKn := hid (HKt.out.trans ((Kt.alloc _ _).trans hK2)); have HBn := hid (HB.out.kt hT ((Kt.alloc _ _).trans hK2)); clear HO HKt HB; have HO := hid hO2; have HKt := hid HKn.out; have HB := hid HBn.out; clear hO2 hK2 hP2 HKn HBn)
  obtain ⟨x, hx⟩ : ∃ x, x = (dp - 1).natAbs := ⟨_, rfl⟩; obtain ⟨sg, hsg⟩ : ∃ sg : Nat, sg = if dp - 1 < 0 then 45 else 43 := ⟨_, rfl⟩; have hxl : x ≤ 401 := by omega
  have hsl : sg ≤ 45 := by rw [hsg]; split <;> omega
  have HX := hid hx; have HSg := hid hsg; go_cut [19, 22] (fun s19 s22 wx => s19 = .int .u8 (sg : Int) ∧ s22 = .int .i64 (x : Int) ∧ wx = w2)
  case first =>
   as_aux_lemma =>
   by_cases hn : dp - 1 < 0
   ·
    have hxi : -(dp - 1) = (x : Int) := by omega
    have hs : sg = 45 := by rw [hsg, if_pos hn]
    have k3 : decide (dp - 1 < 0) = true := decide_eq_true hn; rw [k3]; clear hn hx hsg k3; go_wp2_with fail
    go_meet; exact ⟨by rw [hs]; rfl, by first | rfl | rw [← hxi], rfl⟩
   ·
    have hxi : (dp - 1) = (x : Int) := by omega
    have hs : sg = 43 := by rw [hsg, if_neg hn]
    have k3 : decide (dp - 1 < 0) = false := decide_eq_false hn; rw [k3]; clear hn hx hsg k3; go_wp2_with fail
    go_meet; exact ⟨by rw [hs]; rfl, by first | rfl | rw [hxi], rfl⟩
  case rest =>
  as_aux_lemma =>
  obtain ⟨rfl, rfl, hwx⟩ := hcut; have hwx2 := hwx.symm; subst hwx2; clear hx hsg; go_upto_region 47 with (at_builtin; go_must (refine wp_out_int rfl _ _ rfl w0 S _ _ rfl (HO.out.alloc _) _ _ _ rfl (cell_new _ _ _ _) ?_ ?_ ?_); go_must (omega); go_must (first | omega | (simp only [List.length_append, List.length_cons, List.length_nil]; omega)); intro v2 w2 hO2 hK2 hP2; have HKn := hid (HKt.out.trans ((Kt.alloc _ _).trans hK2)); have HBn := hid (HB.out.kt hT ((Kt.alloc _ _).trans hK2)); clear HO HKt HB; have HO := hid hO2; have HKt := hid HKn.out; have HB := hid HBn.out; clear hO2 hK2 hP2 HKn HBn)
  have hfin : Hid (txt = l2 ++ [69] ++ [sg] ++ (expDigs x).map (48 + ·)) := by
   show _ = _
   rw [HTx.out, HL2.out, HL1.out, HX.out, HSg.out]; simp only [List.append_assoc, List.cons_append, List.nil_append]
  by_cases h10 : x < 10
  ·
   as_aux_lemma =>
   have k4 : decide ((x : Int) < 10) = true := by rw [decide_eq_true_eq]; omega
   go_wp2_with (at_builtin; go_must (refine wp_out_two rfl _ _ rfl w0 S _ _ rfl _ _ _ _ (HO.out.alloc _) rfl (by rw [cells_new]; rfl) (by rw [cells_new]; rfl) ?_ ?_ ?_ ?_); go_must (omega); go_must (omega); go_must (first | omega | (simp only [List.length_append, List.length_cons, List.length_nil]; omega)); intro v2 w2 hO2 hK2 hP2; have HKn := hid (HKt.out.trans ((Kt.alloc _ _).trans hK2)); clear HO HKt; have HO := hid hO2; have HKt := hid HKn.out; clear hO2 hK2 hP2 HKn)
   go_ret; refine ⟨_, rfl, ?_, HKt.out⟩; have h9 := HO.out; rw [hfin.out, show expDigs x = [0, x] from by unfold expDigs; rw [if_pos h10]]; have e : l2 ++ [Int.toNat 69] ++ [((sg : Nat) : Int).toNat] ++ [Int.toNat 48, ((x : Int) + 48).toNat] = l2 ++ [69] ++ [sg] ++ List.map (48 + ·) [0, x] := by
    rw [show ((x : Int) + 48).toNat = 48 + x from by omega]; rfl
   rw [e] at h9; exact h9
  ·
   have k4 : decide ((x : Int) < 10) = false := by rw [decide_eq_false_iff_not]; omega
   by_cases h100 : x < 100
   ·
    as_aux_lemma =>
    have k5 : decide ((x : Int) < 100) = true := by rw [decide_eq_true_eq]; omega
    go_wp2_with (at_builtin; go_must (refine wp_out_two rfl _ _ rfl w0 S _ _ rfl _ _ _ _ (HO.out.alloc _) rfl (by rw [cells_new]; rfl) (by rw [cells_new]; rfl) ?_ ?_ ?_ ?_); go_must (omega); go_must (omega); go_must (first | omega | (simp only [List.length_append, List.length_cons, List.length_nil]; omega)); intro v2 w2 hO2 hK2 hP2; have HKn := hid (HKt.out.trans ((Kt.alloc _ _).trans hK2)); clear HO HKt; have HO := hid hO2; have HKt := hid HKn.out; clear hO2 hK2 hP2 HKn)
    go_ret; refine ⟨_, rfl, ?_, HKt.out⟩; have h9 := HO.out; rw [hfin.out, show expDigs x = [x / 10, x % 10] from by unfold expDigs; rw [if_neg h10, if_pos h100]]; have e : l2 ++ [Int.toNat 69] ++ [((sg : Nat) : Int).toNat] ++ [((x : Int) / 10 + 48).toNat, ((x : Int) % 10 + 48).toNat] = l2 ++ [69] ++ [sg] ++ List.map (48 + ·) [x / 10, x % 10] := by
     rw [show ((x : Int) / 10 + 48).toNat = 48 + x / 10 from by omega, show ((x : Int) % 10 + 48).toNat = 48 + x % 10 from by omega]; rfl
    rw [e] at h9; exact h9
   ·
    as_aux_lemma =>
    have k5 : decide ((x : Int) < 100) = false := by rw [decide_eq_false_iff_not]; omega
    go_wp2_with (at_builtin; go_must (refine wp_out_three rfl _ _ rfl w0 S _ _ rfl _ _ _ _ _ (HO.out.alloc _) rfl (by rw [cells_new]; rfl) (by rw [cells_new]; rfl) (by rw [cells_new]; rfl) ?_ ?_ ?_ ?_ ?_); go_must (omega); go_must (omega); go_must (omega); go_must (first | omega | (simp only [List.length_append, List.length_cons, List.length_nil]; omega)); intro v2 w2 hO2 hK2 hP2; have HKn := hid (HKt.out.trans ((Kt.alloc _ _).trans hK2)); clear HO HKt; have HO := hid hO2; have HKt := hid HKn.out; clear hO2 hK2 hP2 HKn)
    go_ret; refine ⟨_, rfl, ?_, HKt.out⟩; have h9 := HO.out; rw [hfin.out, show expDigs x = [x / 100, x / 10 % 10, x % 10] from by unfold expDigs; rw [if_neg h10, if_neg h100]]; have e : l2 ++ [Int.toNat 69] ++ [((sg : Nat) : Int).toNat] ++ [((x : Int) / 100 + 48).toNat, ((x : Int) / 10 % 10 + 48).toNat, ((x : Int) % 10 + 48).toNat] = l2 ++ [69] ++ [sg] ++ List.map (48 + ·) [x / 100, x / 10 % 10, x % 10] := by
     rw [show ((x : Int) / 100 + 48).toNat = 48 + x / 100 from by omega, show ((x : Int) / 10 % 10 + 48).toNat = 48 + x / 10 % 10 from by omega, show ((x : Int) % 10 + 48).toNat = 48 + x % 10 from by omega]; rfl
    rw [e] at h9; exact h9
end
section
open Go.RowKit
set_option maxRecDepth 100000 in
set_option maxHeartbeats 4000000 in
theorem efgG (w0 w : World) (S : List Nat) (v : Value) (l txt : List Nat) (neg : Bool) (b N T : Nat) (ds : List Nat) (dp : Int) (hO : Out w0 S w v l) (hl : l.length ≤ 100000000) (hB : DigBlk w b T ds) (hT : T ≠ 5)
  (hd0 : 0 < ds.length) (hd1 : ds.length ≤ 20) (hsm : ∀ x ∈ ds, x < 10) (hNl : ds.length ≤ N) (hN : N ≤ 1000) (hdp1 : -400 ≤ dp) (hdp2 : dp ≤ 400) (hout : dp - 1 < -4 ∨ 6 ≤ dp - 1)
  (htxt : txt = l ++ ((if neg then [45] else []) ++ [48 + dg ds 0] ++ (if 1 < ds.length then 46 :: (ds.drop 1).map (48 + ·) else []) ++ [101, if dp - 1 < 0 then 45 else 43] ++ (expDigs (dp - 1).natAbs).map (48 + ·))) :
  Calls Tryz.prog 76 #[v, .bool neg, .slice (some ⟨b, 0, none⟩) N N, .int .i64 dp, .int .i64 ds.length, .int .i64 ds.length, .int .u8 103, .bool true] w fun e w' => ∃ v', e = .returned v' ∧ Out w0 S w' v' txt ∧ Kt w w' := by
 have HO := hid hO; have HB := hid hB; have HB0 := hid hB; have HKt := hid (Kt.refl w); have HTx := hid htxt; have HSm := hid hsm; clear hO hB htxt hsm; have j1 : decide ((ds.length : Int) > (ds.length : Int)) = false := by rw [decide_eq_false_iff_not]; omega
 ·
  have k1 : True := trivial; clear k1; go_enter Tryz.func76, Tryz.ntmps76
  go_upto_region 8 with fail
  go_cut [56] (fun s56 wx => s56 = .bool true ∧ wx = w)
  case first =>
   rcases hout with h | h
   · have j2 : decide (dp - 1 < -4) = true := by rw [decide_eq_true_eq]; omega
     go_wp2_with fail
     go_meet; exact ⟨rfl, rfl⟩
   · have j2 : decide (dp - 1 < -4) = false := by rw [decide_eq_false_iff_not]; omega
     have j3 : decide (dp - 1 ≥ 6) = true := by rw [decide_eq_true_eq]; omega
     go_wp2_with fail
     go_meet; exact ⟨rfl, rfl⟩
  case rest =>
  obtain ⟨rfl, hwx⟩ := hcut; have hwx2 := hwx.symm; subst hwx2; clear hout; go_upto_if 78 with fail
  clear j1; go_cut [0] (fun s0 wx => Out w0 S wx s0 (l ++ (if neg then [45] else [])) ∧ Kt w wx)
  case first =>
   as_aux_lemma =>
   cases neg with
   | true =>
    go_wp2_with (at_builtin; go_must (refine wp_out_int rfl _ _ rfl w0 S _ _ rfl (HO.out.alloc _) _ _ _ rfl (cell_new _ _ _ _) ?_ ?_ ?_); go_must (omega); go_must (first | omega | (simp only [List.length_append, List.length_cons, List.length_nil]; omega)); intro v2 w2 hO2 hK2 hP2; have HKn := hid (HKt.out.trans ((Kt.alloc _ _).trans hK2)); have HBn := hid (HB.out.kt hT ((Kt.alloc _ _).trans hK2)); clear HO HKt HB; have HO := hid hO2; have HKt := hid HKn.out; have HB := hid HBn.out; clear hO2 hK2 hP2 HKn HBn)
    go_meet; exact ⟨HO.out, HKt.out⟩
   | false =>
    go_wp2_with fail
    go_meet; exact ⟨by simpa using HO.out, HKt.out⟩
  case rest =>
  as_aux_lemma =>
  obtain ⟨hO2, hK2⟩ := hcut; have HB2 := hid (HB.out.kt hT hK2); clear HO HKt HB; have HKt := hid hK2; have HB := hid HB2.out; obtain ⟨l1, hl1⟩ : ∃ l1, l1 = l ++ (if neg then [45] else []) := ⟨_, rfl⟩; rw [← hl1] at hO2; have hll1 : l1.length ≤ 100000001 := by rw [hl1, List.length_append]; cases neg <;> simp <;> omega
  have HO := hid hO2; have HL1 := hid hl1; clear hO2 hK2 HB2 hl1; have c0 := HB.out.cell 0 hd0; have hds0 := dg_lt HSm.out 0; go_upto_if 92 with (at_builtin; go_must (refine wp_out_int rfl _ _ rfl w0 S _ _ rfl (HO.out.alloc _) _ _ _ rfl (cell_new _ _ _ _) ?_ ?_ ?_); go_must (omega); go_must (first | omega | (simp only [List.length_append, List.length_cons, List.length_nil]; omega)); intro v2 w2 hO2 hK2 hP2; have HKn := hid (HKt.out.trans ((Kt.alloc _ _).trans hK2)); have HBn := hid (HB.out.kt hT ((Kt.alloc _ _).trans hK2)); clear HO HKt HB; have HO := hid hO2; have HKt := hid HKn.out; have HB := hid HBn.out; clear hO2 hK2 hP2 HKn HBn)
  go_cut [0, 20, 21] (fun s0 s20 s21 wx => Out w0 S wx s0 (l1 ++ [48 + dg ds 0] ++ (if 1 < ds.length then 46 :: (ds.drop 1).map (48 + ·) else [])) ∧ Kt w wx)
  case first =>
   as_aux_lemma =>
   by_cases h1 : 1 < ds.length
   ·
    have k9 : decide ((1 : Int) < (ds.length : Int)) = true := by rw [decide_eq_true_eq]; omega
    go_upto_region 31 with (at_builtin; go_must (refine wp_out_int rfl _ _ rfl w0 S _ _ rfl (HO.out.alloc _) _ _ _ rfl (cell_new _ _ _ _) ?_ ?_ ?_); go_must (omega); go_must (first | omega | (simp only [List.length_append, List.length_cons, List.length_nil]; omega)); intro v2 w2 hO2 hK2 hP2; have HKn := hid (HKt.out.trans ((Kt.alloc _ _).trans hK2)); have HBn := hid (HB.out.kt hT ((Kt.alloc _ _).trans hK2)); clear HO HKt HB; have HO := hid hO2; have HKt := hid HKn.out; have HB := hid HBn.out; clear hO2 hK2 hP2 HKn HBn)
    clear c0; go_wp2_with (at_builtin; go_must (refine wp_out_row rfl _ _ rfl w0 S _ _ rfl HO.out ⟨b, 1, none⟩ _ _ ((ds.drop 1).map (48 + ·)) ?_ rfl ?_ ?_ ?_ ?_); go_must (simp; try omega); go_must (exact dig_row HB.out); go_must (first | omega | (simp only [List.length_append, List.length_cons, List.length_nil]; omega)); go_must (simp; omega); intro v2 w2 hO2 hK2 hP2; have HKn := hid (HKt.out.trans hK2); have HBn := hid (HB.out.kt hT hK2); clear HO HKt HB; have HO := hid hO2; have HKt := hid HKn.out; have HB := hid HBn.out; clear hO2 hK2 hP2 HKn HBn)
    go_loop [0, 114] (fun s0 s114 => s0 = v2 ∧ s114 = .int .i64 0) (fun _ _ => 0)
    case atStart => exact ⟨rfl, rfl⟩
    case round =>
     obtain ⟨rfl, rfl⟩ := hrel; go_wp2_with fail
     go_meet; refine ⟨?_, HKt.out⟩; have h9 := HO.out; rw [if_pos h1]; have e9 : (48 + (dg ds 0 : Int)).toNat = 48 + dg ds 0 := by omega
     simpa [e9] using h9
   · have k9 : decide ((1 : Int) < (ds.length : Int)) = false := by rw [decide_eq_false_iff_not]; omega
     go_wp2_with fail
     go_meet; have e9 : (48 + (dg ds 0 : Int)).toNat = 48 + dg ds 0 := by omega
     exact ⟨by rw [if_neg h1]; simpa [e9] using HO.out, HKt.out⟩
  case rest =>
  as_aux_lemma =>
  obtain ⟨hO2, hK2⟩ := hcut; have HB2 := hid (HB0.out.kt hT hK2); clear HO HKt HB; have HKt := hid hK2; have HB := hid HB2.out; obtain ⟨l2, hl2⟩ : ∃ l2, l2 = l1 ++ [48 + dg ds 0] ++ (if 1 < ds.length then 46 :: (ds.drop 1).map (48 + ·) else []) := ⟨_, rfl⟩
  rw [← hl2] at hO2; have hll2 : l2.length ≤ 100000100 := by
   rw [hl2, List.length_append, List.length_append]
   split <;> simp <;> omega
  have HO := hid hO2; have HL2 := hid hl2; clear hO2 hK2 HB2 hl2 c0; have kn : ((ds.length : Int) == 0) = false := by rw [beq_eq_false_iff_ne]; omega
  go_upto_if 129 with (at_builtin; go_must (refine wp_out_int rfl _ _ rfl w0 S _ _ rfl (HO.out.alloc _) _ _ _ rfl (cell_new _ _ _ _) ?_ ?_ ?_); go_must (omega); go_must (first | omega | (simp only [List.length_append, List.length_cons, List.length_nil]; omega)); intro v2 w2 hO2 hK2 hP2; have HKn := hid (HKt.out.trans ((Kt.alloc _ _).trans hK2)); have HBn := hid (HB.out.kt hT ((Kt.alloc _ _).trans hK2)); clear HO HKt HB; have HO := hid hO2; have HKt := hid HKn.out; have HB := hid HBn.out; clear hO2 hK2 hP2 HKn HBn)
  obtain ⟨x, hx⟩ : ∃ x, x = (dp - 1).natAbs := ⟨_, rfl⟩; obtain ⟨sg, hsg⟩ : ∃ sg : Nat, sg = if dp - 1 < 0 then 45 else 43 := ⟨_, rfl⟩; have hxl : x ≤ 401 := by omega
  have hsl : sg ≤ 45 := by rw [hsg]; split <;> omega
  have HX := hid hx; have HSg := hid hsg; go_cut [18, 19, 22] (fun s18 s19 s22 wx => s19 = .int .u8 (sg : Int) ∧ s22 = .int .i64 (x : Int) ∧ wx = w2)
  case first =>
   as_aux_lemma =>
   by_cases hn : dp - 1 < 0
   ·
    have hxi : -(dp - 1) = (x : Int) := by omega
    have hs : sg = 45 := by rw [hsg, if_pos hn]
    have k3 : decide (dp - 1 < 0) = true := decide_eq_true hn; rw [k3]; clear hn hx hsg k3; go_wp2_with fail
    go_meet; exact ⟨by rw [hs]; rfl, by first | rfl | rw [← hxi], rfl⟩
   ·
    have hxi : (dp - 1) = (x : Int) := by omega
    have hs : sg = 43 := by rw [hsg, if_neg hn]
    have k3 : decide (dp - 1 < 0) = false := decide_eq_false hn; rw [k3]; clear hn hx hsg k3; go_wp2_with fail
    go_meet; exact ⟨by rw [hs]; rfl, by first | rfl | rw [hxi], rfl⟩
  case rest =>
  as_aux_lemma =>
  obtain ⟨rfl, rfl, hwx⟩ := hcut; have hwx2 := hwx.symm; subst hwx2; clear hx hsg; go_upto_region 47 with (at_builtin; go_must (refine wp_out_int rfl _ _ rfl w0 S _ _ rfl (HO.out.alloc _) _ _ _ rfl (cell_new _ _ _ _) ?_ ?_ ?_); go_must (omega); go_must (first | omega | (simp only [List.length_append, List.length_cons, List.length_nil]; omega)); intro v2 w2 hO2 hK2 hP2; have HKn := hid (HKt.out.trans ((Kt.alloc _ _).trans hK2)); have HBn := hid (HB.out.kt hT ((Kt.alloc _ _).trans hK2)); clear HO HKt HB; have HO := hid hO2; have HKt := hid HKn.out; have HB := hid HBn.out; clear hO2 hK2 hP2 HKn HBn)
  have hfin : Hid (txt = l2 ++ [101] ++ [sg] ++ (expDigs x).map (48 + ·)) := by
   show _ = _
   rw [HTx.out, HL2.out, HL1.out, HX.out, HSg.out]; simp only [List.append_assoc, List.cons_append, List.nil_append]
  by_cases h10 : x < 10
  ·
   as_aux_lemma =>
   have k4 : decide ((x : Int) < 10) = true := by rw [decide_eq_true_eq]; omega
   go_wp2_with (at_builtin; go_must (refine wp_out_two rfl _ _ rfl w0 S _ _ rfl _ _ _ _ (HO.out.alloc _) rfl (by rw [cells_new]; rfl) (by rw [cells_new]; rfl) ?_ ?_ ?_ ?_); go_must (omega); go_must (omega); go_must (first | omega | (simp only [List.length_append, List.length_cons, List.length_nil]; omega)); intro v2 w2 hO2 hK2 hP2; have HKn := hid (HKt.out.trans ((Kt.alloc _ _).trans hK2)); clear HO HKt; have HO := hid hO2; have HKt := hid HKn.out; clear hO2 hK2 hP2 HKn)
   go_ret; refine ⟨_, rfl, ?_, HKt.out⟩; have h9 := HO.out; rw [hfin.out, show expDigs x = [0, x] from by unfold expDigs; rw [if_pos h10]]; have e : l2 ++ [Int.toNat 101] ++ [((sg : Nat) : Int).toNat] ++ [Int.toNat 48, ((x : Int) + 48).toNat] = l2 ++ [101] ++ [sg] ++ List.map (48 + ·) [0, x] := by
    rw [show ((x : Int) + 48).toNat = 48 + x from by omega]; rfl
   rw [e] at h9; exact h9
  ·
   have k4 : decide ((x : Int) < 10) = false := by rw [decide_eq_false_iff_not]; omega
   by_cases h100 : x < 100
   ·
    as_aux_lemma =>
    have k5 : decide ((x : Int) < 100) = true := by rw [decide_eq_true_eq]; omega
    go_wp2_with (at_builtin; go_must (refine wp_out_two rfl _ _ rfl w0 S _ _ rfl _ _ _ _ (HO.out.alloc _) rfl (by rw [cells_new]; rfl) (by rw [cells_new]; rfl) ?_ ?_ ?_ ?_); go_must (omega); go_must (omega); go_must (first | omega | (simp only [List.length_append, List.length_cons, List.length_nil]; omega)); intro v2 w2 hO2 hK2 hP2; have HKn := hid (HKt.out.trans ((Kt.alloc _ _).trans hK2)); clear HO HKt; have HO := hid hO2; have HKt := hid HKn.out; clear hO2 hK2 hP2 HKn)
    go_ret; refine ⟨_, rfl, ?_, HKt.out⟩; have h9 := HO.out; rw [hfin.out, show expDigs x = [x / 10, x % 10] from by unfold expDigs; rw [if_neg h10, if_pos h100]]; have e : l2 ++ [Int.toNat 101] ++ [((sg : Nat) : Int).toNat] ++ [((x : Int) / 10 + 48).toNat, ((x : Int) % 10 + 48).toNat] = l2 ++ [101] ++ [sg] ++ List.map (48 + ·) [x / 10, x % 10] := by
     rw [show ((x : Int) / 10 + 48).toNat = 48 + x / 10 from by omega, show ((x : Int) % 10 + 48).toNat = 48 + x % 10 from by omega]; rfl
    rw [e] at h9; exact h9
   ·
    as_aux_lemma =>
    have k5 : decide ((x : Int) < 100) = false := by rw [decide_eq_false_iff_not]; omega
    go_wp2_with (at_builtin; go_must (refine wp_out_three rfl _ _ rfl w0 S _ _ rfl _ _ _ _ _ (HO.out.alloc _) rfl (by rw [cells_new]; rfl) (by rw [cells_new]; rfl) (by rw [cells_new]; rfl) ?_ ?_ ?_ ?_ ?_); go_must (omega); go_must (omega); go_must (omega); go_must (first | omega | (simp only [List.length_append, List.length_cons, List.length_nil]; omega)); intro v2 w2 hO2 hK2 hP2; have HKn := hid (HKt.out.trans ((Kt.alloc _ _).trans hK2)); clear HO HKt; have HO := hid hO2; have HKt := hid HKn.out; clear hO2 hK2 hP2 HKn)
    go_ret; refine ⟨_, rfl, ?_, HKt.out⟩; have h9 := HO.out; rw [hfin.out, show expDigs x = [x / 100, x / 10 % 10, x % 10] from by unfold expDigs; rw [if_neg h10, if_neg h100]]; have e : l2 ++ [Int.toNat 101] ++ [((sg : Nat) : Int).toNat] ++ [((x : Int) / 100 + 48).toNat, ((x : Int) / 10 % 10 + 48).toNat, ((x : Int) % 10 + 48).toNat] = l2 ++ [101] ++ [sg] ++ List.map (48 + ·) [x / 100, x / 10 % 10, x % 10] := by
     rw [show ((x : Int) / 100 + 48).toNat = 48 + x / 100 from by omega, show ((x : Int) / 10 % 10 + 48).toNat = 48 + x / 10 % 10 from by omega, show ((x : Int) % 10 + 48).toNat = 48 + x % 10 from by omega]; rfl
    rw [e] at h9; exact h9
end
end Go.Proofs.YtljaoopfomcaoaaGreatDoor
