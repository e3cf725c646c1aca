import Derived.Deep.DeepCutAuto
import Derived.Test.YtljaoopfomcaoaaGreatDoorM19
import Derived.Test.YtljaoopfomcaoaaGreatDoorM21
set_option linter.all false
open Go.Lib (hid)
namespace Go.Proofs.YtljaoopfomcaoaaGreatDoor
section
open Go.RowKit
theorem DigBlk.cell8 {w : World} {b T : Nat} {ds : List Nat} (h : DigBlk w b T ds) (i d : Nat) (hi : i < ds.length) (hd : d = dg ds i) : w.cell? ⟨b, i, none⟩ = some (.int .u8 ((48 + d : Nat) : Int)) := by rw [hd]; exact h.cell i hi
theorem take_map {ds : List Nat} {i : Nat} (h : i < ds.length) : (ds.take (i + 1)).map (48 + ·) = (ds.take i).map (48 + ·) ++ [48 + dg ds i] := by
 rw [take_step h, List.map_append]; rfl
theorem take_min' (ds : List Nat) (q : Nat) : ds.take q = ds.take (min ds.length q) := by
 by_cases h : q ≤ ds.length
 · rw [Nat.min_eq_right h]
 · rw [Nat.min_eq_left (by omega), List.take_of_length_le (by omega), List.take_length]
theorem rep_step (i x : Nat) : List.replicate (i + 1) x = List.replicate i x ++ [x] := List.replicate_succ'
set_option maxRecDepth 100000 in
set_option maxHeartbeats 4000000 in
theorem efgF (w0 w : World) (S : List Nat) (v : Value) (l txt : List Nat) (neg : Bool) (b N T : Nat) (ds : List Nat) (dp : Int) (hO : Out w0 S w v l) (hl : l.length ≤ 100000000) (hB : DigBlk w b T ds) (hT : T ≠ 5)
  (hd0 : 0 < ds.length) (hd1 : ds.length ≤ 20) (hsm : ∀ x ∈ ds, x < 10) (hNl : ds.length ≤ N) (hN : N ≤ 1000) (hdp1 : -3 ≤ dp) (hdp2 : dp ≤ 6)
  (htxt : txt = l ++ (if neg then [45] else []) ++ (if 0 < dp then (ds.take dp.toNat).map (48 + ·) ++ List.replicate (dp.toNat - ds.length) 48 else [48]) ++
   (if dp < ds.length then 46 :: (List.replicate (-dp).toNat 48 ++ (ds.drop dp.toNat).map (48 + ·)) else [])) :
  Calls Tryz.prog 76 #[v, .bool neg, .slice (some ⟨b, 0, none⟩) N N, .int .i64 dp, .int .i64 ds.length, .int .i64 ds.length, .int .u8 103, .bool true] w fun e w' => ∃ v', e = .returned v' ∧ Out w0 S w' v' txt ∧ Kt w w' := by
 have HO := hid hO; have HB0 := hid hB; have HKt := hid (Kt.refl w); have HTx := hid htxt; have HSm := hid hsm; clear hO hB htxt hsm; have j1 : decide ((ds.length : Int) > (ds.length : Int)) = false := by rw [decide_eq_false_iff_not]; omega
 have j2 : decide (dp - 1 < -4) = false := by rw [decide_eq_false_iff_not]; omega
 have j3 : decide (dp - 1 ≥ 6) = false := by rw [decide_eq_false_iff_not]; omega
 obtain ⟨pr, hpr⟩ : ∃ pr : Nat, max ((ds.length : Int) - dp) 0 = (pr : Int) := ⟨(max ((ds.length : Int) - dp) 0).toNat, by omega⟩; have hpr2 : pr = ((ds.length : Int) - dp).toNat := by omega
 have HPr := hid hpr2; clear hpr2; go_enter Tryz.func76, Tryz.ntmps76
 go_upto_if 68 with fail
 go_cut [5] (fun s5 wx => s5 = .int .i64 (ds.length : Int) ∧ wx = w)
 case first =>
  by_cases hh : (ds.length : Int) > dp
  · go_wp2_with fail
    go_meet; exact ⟨rfl, rfl⟩
  · go_wp2_with fail
    go_meet; exact ⟨rfl, rfl⟩
 case rest =>
 as_aux_lemma =>
 obtain ⟨rfl, hwx⟩ := hcut; have hwx2 := hwx.symm; subst hwx2; go_upto_if 178 with fail
 clear j1 j2 j3; go_cut [0] (fun s0 wx => Out w0 S wx s0 (l ++ (if neg then [45] else [])) ∧ Kt w wx)
 case first =>
  cases neg with
  | true =>
   go_wp2_with (at_builtin; go_must (refine wp_out_int rfl _ _ rfl w0 S _ _ rfl (HO.out.alloc _) _ _ _ rfl (cell_new _ _ _ _) ?_ ?_ ?_); go_must (omega); go_must (first | omega | (simp only [List.length_append, List.length_cons, List.length_nil, List.length_map, List.length_take, List.length_replicate, List.length_drop]; omega)); intro v2 w2 hO2 hK2 hP2; have HKn := hid (HKt.out.trans ((Kt.alloc _ _).trans hK2)); clear HO HKt; have HO := hid hO2; have HKt := hid HKn.out; clear hO2 hK2 hP2 HKn)
   go_meet; exact ⟨HO.out, HKt.out⟩
  | false =>
   go_wp2_with fail
   go_meet; exact ⟨by simpa using HO.out, HKt.out⟩
 case rest =>
 as_aux_lemma =>
 obtain ⟨hO2, hK2⟩ := hcut; clear HO HKt; have HKt := hid hK2; obtain ⟨l1, hl1⟩ : ∃ l1, l1 = l ++ (if neg then [45] else []) := ⟨_, rfl⟩; rw [← hl1] at hO2; have hll1 : l1.length ≤ 100000001 := by rw [hl1, List.length_append]; cases neg <;> simp <;> omega
 have HO := hid hO2; have HL1 := hid hl1; clear hO2 hK2 hl1; go_upto_if 183 with fail
 go_cut [0, 23, 25] (fun s0 s23 s25 wx => Out w0 S wx s0 (l1 ++ (if 0 < dp then (ds.take dp.toNat).map (48 + ·) ++ List.replicate (dp.toNat - ds.length) 48 else [48])) ∧ Kt w wx)
 case first =>
  as_aux_lemma =>
  by_cases hp : 0 < dp
  ·
   obtain ⟨q, hq⟩ : ∃ q : Nat, dp = (q : Int) := ⟨dp.toNat, by omega⟩; obtain ⟨mm, hmm⟩ : ∃ mm : Nat, mm = min ds.length q := ⟨_, rfl⟩; have hmin : min (ds.length : Int) dp = (mm : Int) := by omega
   have k1 : decide (dp > 0) = true := by rw [decide_eq_true_eq]; exact hp
   have HQ := hid hq; have hmd : mm ≤ ds.length := by omega
   have hmN : mm ≤ N := by omega
   have hq1 : dp - (mm : Int) = ((q - mm : Nat) : Int) := by omega
   have hq2 : q ≤ 6 := by omega
   have HMm := hid hmm; clear hmm hq; go_wp2_with fail
   go_loopw [0, 25, 191] (fun v0 v25 v191 wr => ∃ i : Nat, v191 = .int .i64 (i : Int) ∧ i ≤ mm ∧ Out w0 S wr v0 (l1 ++ (ds.take i).map (48 + ·)) ∧ Kt w wr) (fun v0 v25 v191 wr => mm - (intOf v191).toNat)
   case atStart => exact ⟨0, rfl, by omega, by simpa using HO.out, HKt.out⟩
   case round =>
    obtain ⟨i, rfl, hi, hO2, hK2⟩ := hrel; clear HO HKt; have HO := hid hO2; have HKt := hid hK2; clear hO2 hK2; by_cases hlt : i < mm
    ·
     as_aux_lemma =>
     have hB := HB0.out.kt hT HKt.out; obtain ⟨d, hd⟩ : ∃ d, d = dg ds i := ⟨_, rfl⟩; have c0 := hB.cell8 i d (by omega) hd; have hdl : d < 10 := by rw [hd]; exact dg_lt HSm.out i
     have HDd := hid hd; clear hB hd; go_wp2_with (at_builtin; go_must (refine wp_out_int rfl _ _ rfl w0 S _ _ rfl (HO.out.alloc _) _ _ _ rfl (cell_new _ _ _ _) ?_ ?_ ?_); go_must (omega); go_must (first | omega | (simp only [List.length_append, List.length_cons, List.length_nil, List.length_map, List.length_take, List.length_replicate, List.length_drop]; omega)); intro v2 w2 hO2 hK2 hP2; have HKn := hid (HKt.out.trans ((Kt.alloc _ _).trans hK2)); clear HO HKt; have HO := hid hO2; have HKt := hid HKn.out; clear hO2 hK2 hP2 HKn)
     refine ⟨⟨i + 1, by congr 1, by omega, ?_, HKt.out⟩, ?_⟩
     · have h9 := HO.out
       rw [take_map (by omega), ← HDd.out, ← List.append_assoc]; have e9 : (48 + (d : Int)).toNat = 48 + d := by omega
       rw [e9] at h9; exact h9
     · show mm - ((i : Int) + 1).toNat < mm - ((i : Int)).toNat
       omega
    ·
     obtain rfl : i = mm := by omega
     go_wp2_with fail
     go_loopw [0, 203] (fun v0 v203 wr => ∃ k : Nat, v203 = .int .i64 (k : Int) ∧ k ≤ q - i ∧ Out w0 S wr v0 (l1 ++ (ds.take i).map (48 + ·) ++ List.replicate k 48) ∧ Kt w wr) (fun v0 v203 wr => (q - i) - (intOf v203).toNat)
     case atStart => exact ⟨0, rfl, by omega, by simpa using HO.out, HKt.out⟩
     case round =>
      obtain ⟨k, rfl, hk, hO2, hK2⟩ := hrel; clear HO HKt; have HO := hid hO2; have HKt := hid hK2; clear hO2 hK2; by_cases hlt : k < q - i
      · as_aux_lemma =>
        have k8 : decide ((k : Int) < ((q - i : Nat) : Int)) = true := by rw [decide_eq_true_eq]; omega
        go_wp2_with (at_builtin; go_must (refine wp_out_int rfl _ _ rfl w0 S _ _ rfl (HO.out.alloc _) _ _ _ rfl (cell_new _ _ _ _) ?_ ?_ ?_); go_must (omega); go_must (first | omega | (simp only [List.length_append, List.length_cons, List.length_nil, List.length_map, List.length_take, List.length_replicate, List.length_drop]; omega)); intro v2 w2 hO2 hK2 hP2; have HKn := hid (HKt.out.trans ((Kt.alloc _ _).trans hK2)); clear HO HKt; have HO := hid hO2; have HKt := hid HKn.out; clear hO2 hK2 hP2 HKn)
        refine ⟨⟨k + 1, by congr 1, by omega, ?_, HKt.out⟩, ?_⟩
        · have h9 := HO.out
          rw [rep_step, ← List.append_assoc]; exact h9
        · show (q - i) - ((k : Int) + 1).toNat < (q - i) - ((k : Int)).toNat
          omega
      · obtain rfl : k = q - i := by omega
        go_wp2_with fail
        go_meet; refine ⟨?_, HKt.out⟩; have h9 := HO.out; rw [if_pos hp, HQ.out, Int.toNat_natCast, take_min' ds q]; rw [List.append_assoc, HMm.out, show q - min ds.length q = q - ds.length from by omega] at h9; exact h9
  ·
   have k1 : decide (dp > 0) = false := by rw [decide_eq_false_iff_not]; exact hp
   go_wp2_with (at_builtin; go_must (refine wp_out_int rfl _ _ rfl w0 S _ _ rfl (HO.out.alloc _) _ _ _ rfl (cell_new _ _ _ _) ?_ ?_ ?_); go_must (omega); go_must (first | omega | (simp only [List.length_append, List.length_cons, List.length_nil, List.length_map, List.length_take, List.length_replicate, List.length_drop]; omega)); intro v2 w2 hO2 hK2 hP2; have HKn := hid (HKt.out.trans ((Kt.alloc _ _).trans hK2)); clear HO HKt; have HO := hid hO2; have HKt := hid HKn.out; clear hO2 hK2 hP2 HKn)
   go_meet; refine ⟨?_, HKt.out⟩; rw [if_neg (by omega)]; exact HO.out
 case rest =>
 as_aux_lemma =>
 obtain ⟨hO2, hK2⟩ := hcut; clear HO HKt; have HKt := hid hK2; obtain ⟨l2, hl2⟩ : ∃ l2, l2 = l1 ++ (if 0 < dp then (ds.take dp.toNat).map (48 + ·) ++ List.replicate (dp.toNat - ds.length) 48 else [48]) := ⟨_, rfl⟩
 rw [← hl2] at hO2; have hll2 : l2.length ≤ 100000100 := by
  rw [hl2, List.length_append]
  split
  · rw [List.length_append, List.length_map, List.length_take, List.length_replicate]; omega
  · simp; omega
 have HO := hid hO2; have HL2 := hid hl2; clear hO2 hK2 hl2; go_upto_if 213 with fail
 have hnl : Hid (txt = l2 ++ (if dp < ds.length then 46 :: (List.replicate (-dp).toNat 48 ++ (ds.drop dp.toNat).map (48 + ·)) else [])) := by
  show _ = _
  rw [HTx.out, HL2.out, HL1.out]
 by_cases hp0 : 0 < pr
 ·
  obtain ⟨z, hz⟩ : ∃ z : Nat, z = (-dp).toNat := ⟨_, rfl⟩; obtain ⟨o, ho⟩ : ∃ o : Nat, o = dp.toNat := ⟨_, rfl⟩; obtain ⟨c, hc⟩ : ∃ c : Nat, c = ds.length - o := ⟨_, rfl⟩; have hprl := HPr.out; have f0 : decide (0 < pr) = true := decide_eq_true hp0; have f1 : max (0 : Int) (-dp) = (z : Int) := by omega
  have f2 : min (pr : Int) (z : Int) = (z : Int) := by omega
  have f3 : dp + (z : Int) = (o : Int) := by omega
  have f4 : (pr : Int) - (z : Int) = (c : Int) := by omega
  have f5 : (ds.length : Int) - (o : Int) = (c : Int) := by omega
  have f6 : max (0 : Int) (c : Int) = (c : Int) := by omega
  have f7 : min (c : Int) (c : Int) = (c : Int) := by omega
  have hoc : o + c = ds.length := by omega
  have hzl : z ≤ 3 := by omega
  have hlt : dp < (ds.length : Int) := by omega
  have HZ := hid hz; have HOo := hid ho; clear hz ho hc hprl hp0; rw [f0]; clear f0; go_wp2_with (at_builtin; go_must (refine wp_out_int rfl _ _ rfl w0 S _ _ rfl (HO.out.alloc _) _ _ _ rfl (cell_new _ _ _ _) ?_ ?_ ?_); go_must (omega); go_must (first | omega | (simp only [List.length_append, List.length_cons, List.length_nil, List.length_map, List.length_take, List.length_replicate, List.length_drop]; omega)); intro v2 w2 hO2 hK2 hP2; have HKn := hid (HKt.out.trans ((Kt.alloc _ _).trans hK2)); clear HO HKt; have HO := hid hO2; have HKt := hid HKn.out; clear hO2 hK2 hP2 HKn)
  go_loopw [0, 240] (fun v0 v240 wr => ∃ k : Nat, v240 = .int .i64 (k : Int) ∧ k ≤ z ∧ Out w0 S wr v0 (l2 ++ [46] ++ List.replicate k 48) ∧ Kt w wr) (fun v0 v240 wr => z - (intOf v240).toNat)
  case atStart => exact ⟨0, rfl, by omega, by simpa using HO.out, HKt.out⟩
  case round =>
   obtain ⟨k, rfl, hk, hO2, hK2⟩ := hrel; clear HO HKt; have HO := hid hO2; have HKt := hid hK2; clear hO2 hK2; by_cases hlk : k < z
   ·
    as_aux_lemma =>
    go_wp2_with (at_builtin; go_must (refine wp_out_int rfl _ _ rfl w0 S _ _ rfl (HO.out.alloc _) _ _ _ rfl (cell_new _ _ _ _) ?_ ?_ ?_); go_must (omega); go_must (first | omega | (simp only [List.length_append, List.length_cons, List.length_nil, List.length_map, List.length_take, List.length_replicate, List.length_drop]; omega)); intro v2 w2 hO2 hK2 hP2; have HKn := hid (HKt.out.trans ((Kt.alloc _ _).trans hK2)); clear HO HKt; have HO := hid hO2; have HKt := hid HKn.out; clear hO2 hK2 hP2 HKn)
    refine ⟨⟨k + 1, by congr 1, by omega, ?_, HKt.out⟩, ?_⟩
    · have h9 := HO.out
      rw [rep_step, ← List.append_assoc]; exact h9
    · show z - ((k : Int) + 1).toNat < z - ((k : Int)).toNat
      omega
   ·
    obtain rfl : k = z := by omega
    go_wp2_with fail
    go_loopw [0, 30, 247] (fun v0 v30 v247 wr => ∃ i : Nat, v247 = .int .i64 (i : Int) ∧ i ≤ c ∧ Out w0 S wr v0 (l2 ++ [46] ++ List.replicate k 48 ++ ((ds.drop o).take i).map (48 + ·)) ∧ Kt w wr) (fun v0 v30 v247 wr => c - (intOf v247).toNat)
    case atStart => exact ⟨0, rfl, by omega, by simpa using HO.out, HKt.out⟩
    case round =>
     obtain ⟨i, rfl, hi, hO2, hK2⟩ := hrel; clear HO HKt; have HO := hid hO2; have HKt := hid hK2; clear hO2 hK2; by_cases hli : i < c
     ·
      as_aux_lemma =>
      have hB := HB0.out.kt hT HKt.out; obtain ⟨d, hd⟩ : ∃ d, d = dg ds (o + i) := ⟨_, rfl⟩; have c0 := hB.cell8 (o + i) d (by omega) hd; have hdl : d < 10 := by rw [hd]; exact dg_lt HSm.out _
      have HDd := hid hd; clear hB hd; go_wp2_with (at_builtin; go_must (refine wp_out_int rfl _ _ rfl w0 S _ _ rfl (HO.out.alloc _) _ _ _ rfl (cell_new _ _ _ _) ?_ ?_ ?_); go_must (omega); go_must (first | omega | (simp only [List.length_append, List.length_cons, List.length_nil, List.length_map, List.length_take, List.length_replicate, List.length_drop]; omega)); intro v2 w2 hO2 hK2 hP2; have HKn := hid (HKt.out.trans ((Kt.alloc _ _).trans hK2)); clear HO HKt; have HO := hid hO2; have HKt := hid HKn.out; clear hO2 hK2 hP2 HKn)
      refine ⟨⟨i + 1, by congr 1, by omega, ?_, HKt.out⟩, ?_⟩
      · have h9 := HO.out
        have e8 : dg (ds.drop o) i = d := by rw [HDd.out]; unfold dg; rw [List.getD_eq_getElem?_getD, List.getD_eq_getElem?_getD, List.getElem?_drop]
        rw [take_map (by rw [List.length_drop]; omega), e8, ← List.append_assoc]; have e9 : (48 + (d : Int)).toNat = 48 + d := by omega
        rw [e9] at h9; exact h9
      · show c - ((i : Int) + 1).toNat < c - ((i : Int)).toNat
        omega
     ·
      obtain rfl : i = c := by omega
      as_aux_lemma =>
      go_wp2_with fail
      go_loop [0, 261] (fun s0 s261 => s0 = u0 ∧ s261 = .int .i64 0) (fun _ _ => 0)
      case atStart => exact ⟨rfl, rfl⟩
      case round =>
       obtain ⟨rfl, rfl⟩ := hrel; go_wp2_with fail
       go_ret; refine ⟨_, rfl, ?_, HKt.out⟩; have h9 := HO.out; rw [hnl.out, if_pos hlt, ← HZ.out, ← HOo.out]; rw [List.take_of_length_le (by rw [List.length_drop]; omega)] at h9; simp only [List.append_assoc, List.cons_append, List.nil_append] at h9 ⊢; exact h9
 ·
  have f0 : decide (0 < pr) = false := decide_eq_false hp0; have hge : ¬ dp < (ds.length : Int) := by have := HPr.out; omega
  rw [f0]; clear f0
  as_aux_lemma =>
  go_wp2_with fail
  go_ret; refine ⟨_, rfl, ?_, HKt.out⟩; have h9 := HO.out; rw [hnl.out, if_neg (by omega), List.append_nil]; exact h9
end
section
open Go.RowKit
set_option maxRecDepth 100000 in
set_option maxHeartbeats 4000000 in
theorem efgZ101 (w0 w : World) (S : List Nat) (v : Value) (l : List Nat) (neg : Bool) (hO : Out w0 S w v l) (hl : l.length ≤ 100000000) :
  Calls Tryz.prog 76 #[v, .bool neg, .slice none 0 0, .int .i64 0, .int .i64 0, .int .i64 (-1), .int .u8 101, .bool true] w fun e w' => ∃ v', e = .returned v' ∧ Out w0 S w' v' (l ++ (if neg then [45] else []) ++ [48, 101, 43, 48, 48]) ∧ Kt w w' := by
 have HO := hid hO; have HKt := hid (Kt.refl w); clear hO; obtain ⟨txt, htx⟩ : ∃ txt, txt = l ++ (if neg then [45] else []) ++ [48, 101, 43, 48, 48] := ⟨_, rfl⟩; rw [← htx]; have HTx := hid htx; clear htx
 cases neg with
 | true =>
  as_aux_lemma =>
  go_enter Tryz.func76, Tryz.ntmps76
  go_upto_region 47 with (at_builtin; go_must (refine wp_out_int rfl _ _ rfl w0 S _ _ rfl (HO.out.alloc _) _ _ _ rfl (cell_new _ _ _ _) ?_ ?_ ?_); go_must (omega); go_must (first | omega | (simp only [List.length_append, List.length_cons, List.length_nil]; omega)); intro v2 w2 hO2 hK2 hP2; have HKn := hid (HKt.out.trans ((Kt.alloc _ _).trans hK2)); clear HO HKt; have HO := hid hO2; have HKt := hid HKn.out; clear hO2 hK2 hP2 HKn)
  go_wp2_with (at_builtin; go_must (refine wp_out_two rfl _ _ rfl w0 S _ _ rfl _ _ _ _ (HO.out.alloc _) rfl (by rw [cells_new]; rfl) (by rw [cells_new]; rfl) ?_ ?_ ?_ ?_); go_must (omega); go_must (omega); go_must (first | omega | (simp only [List.length_append, List.length_cons, List.length_nil]; omega)); intro v2 w2 hO2 hK2 hP2; have HKn := hid (HKt.out.trans ((Kt.alloc _ _).trans hK2)); clear HO HKt; have HO := hid hO2; have HKt := hid HKn.out; clear hO2 hK2 hP2 HKn)
  go_ret; refine ⟨_, rfl, ?_, HKt.out⟩; have h9 := HO.out; rw [HTx.out]; simpa using h9
 | false =>
  as_aux_lemma =>
  go_enter Tryz.func76, Tryz.ntmps76
  go_upto_region 47 with (at_builtin; go_must (refine wp_out_int rfl _ _ rfl w0 S _ _ rfl (HO.out.alloc _) _ _ _ rfl (cell_new _ _ _ _) ?_ ?_ ?_); go_must (omega); go_must (first | omega | (simp only [List.length_append, List.length_cons, List.length_nil]; omega)); intro v2 w2 hO2 hK2 hP2; have HKn := hid (HKt.out.trans ((Kt.alloc _ _).trans hK2)); clear HO HKt; have HO := hid hO2; have HKt := hid HKn.out; clear hO2 hK2 hP2 HKn)
  go_wp2_with (at_builtin; go_must (refine wp_out_two rfl _ _ rfl w0 S _ _ rfl _ _ _ _ (HO.out.alloc _) rfl (by rw [cells_new]; rfl) (by rw [cells_new]; rfl) ?_ ?_ ?_ ?_); go_must (omega); go_must (omega); go_must (first | omega | (simp only [List.length_append, List.length_cons, List.length_nil]; omega)); intro v2 w2 hO2 hK2 hP2; have HKn := hid (HKt.out.trans ((Kt.alloc _ _).trans hK2)); clear HO HKt; have HO := hid hO2; have HKt := hid HKn.out; clear hO2 hK2 hP2 HKn)
  go_ret; refine ⟨_, rfl, ?_, HKt.out⟩; have h9 := HO.out; rw [HTx.out]; simpa using h9
set_option maxRecDepth 100000 in
set_option maxHeartbeats 4000000 in
theorem efgZ69 (w0 w : World) (S : List Nat) (v : Value) (l : List Nat) (neg : Bool) (hO : Out w0 S w v l) (hl : l.length ≤ 100000000) :
  Calls Tryz.prog 76 #[v, .bool neg, .slice none 0 0, .int .i64 0, .int .i64 0, .int .i64 (-1), .int .u8 69, .bool true] w fun e w' => ∃ v', e = .returned v' ∧ Out w0 S w' v' (l ++ (if neg then [45] else []) ++ [48, 69, 43, 48, 48]) ∧ Kt w w' := by
 have HO := hid hO; have HKt := hid (Kt.refl w); clear hO; obtain ⟨txt, htx⟩ : ∃ txt, txt = l ++ (if neg then [45] else []) ++ [48, 69, 43, 48, 48] := ⟨_, rfl⟩; rw [← htx]; have HTx := hid htx; clear htx
 cases neg with
 | true =>
  as_aux_lemma =>
  go_enter Tryz.func76, Tryz.ntmps76
  go_upto_region 47 with (at_builtin; go_must (refine wp_out_int rfl _ _ rfl w0 S _ _ rfl (HO.out.alloc _) _ _ _ rfl (cell_new _ _ _ _) ?_ ?_ ?_); go_must (omega); go_must (first | omega | (simp only [List.length_append, List.length_cons, List.length_nil]; omega)); intro v2 w2 hO2 hK2 hP2; have HKn := hid (HKt.out.trans ((Kt.alloc _ _).trans hK2)); clear HO HKt; have HO := hid hO2; have HKt := hid HKn.out; clear hO2 hK2 hP2 HKn)
  go_wp2_with (at_builtin; go_must (refine wp_out_two rfl _ _ rfl w0 S _ _ rfl _ _ _ _ (HO.out.alloc _) rfl (by rw [cells_new]; rfl) (by rw [cells_new]; rfl) ?_ ?_ ?_ ?_); go_must (omega); go_must (omega); go_must (first | omega | (simp only [List.length_append, List.length_cons, List.length_nil]; omega)); intro v2 w2 hO2 hK2 hP2; have HKn := hid (HKt.out.trans ((Kt.alloc _ _).trans hK2)); clear HO HKt; have HO := hid hO2; have HKt := hid HKn.out; clear hO2 hK2 hP2 HKn)
  go_ret; refine ⟨_, rfl, ?_, HKt.out⟩; have h9 := HO.out; rw [HTx.out]; simpa using h9
 | false =>
  as_aux_lemma =>
  go_enter Tryz.func76, Tryz.ntmps76
  go_upto_region 47 with (at_builtin; go_must (refine wp_out_int rfl _ _ rfl w0 S _ _ rfl (HO.out.alloc _) _ _ _ rfl (cell_new _ _ _ _) ?_ ?_ ?_); go_must (omega); go_must (first | omega | (simp only [List.length_append, List.length_cons, List.length_nil]; omega)); intro v2 w2 hO2 hK2 hP2; have HKn := hid (HKt.out.trans ((Kt.alloc _ _).trans hK2)); clear HO HKt; have HO := hid hO2; have HKt := hid HKn.out; clear hO2 hK2 hP2 HKn)
  go_wp2_with (at_builtin; go_must (refine wp_out_two rfl _ _ rfl w0 S _ _ rfl _ _ _ _ (HO.out.alloc _) rfl (by rw [cells_new]; rfl) (by rw [cells_new]; rfl) ?_ ?_ ?_ ?_); go_must (omega); go_must (omega); go_must (first | omega | (simp only [List.length_append, List.length_cons, List.length_nil]; omega)); intro v2 w2 hO2 hK2 hP2; have HKn := hid (HKt.out.trans ((Kt.alloc _ _).trans hK2)); clear HO HKt; have HO := hid hO2; have HKt := hid HKn.out; clear hO2 hK2 hP2 HKn)
  go_ret; refine ⟨_, rfl, ?_, HKt.out⟩; have h9 := HO.out; rw [HTx.out]; simpa using h9
set_option maxRecDepth 100000 in
set_option maxHeartbeats 4000000 in
theorem efgZ103 (w0 w : World) (S : List Nat) (v : Value) (l : List Nat) (neg : Bool) (hO : Out w0 S w v l) (hl : l.length ≤ 100000000) :
  Calls Tryz.prog 76 #[v, .bool neg, .slice none 0 0, .int .i64 0, .int .i64 0, .int .i64 (-1), .int .u8 103, .bool true] w fun e w' => ∃ v', e = .returned v' ∧ Out w0 S w' v' (l ++ (if neg then [45] else []) ++ [48]) ∧ Kt w w' := by
 have HO := hid hO; have HKt := hid (Kt.refl w); clear hO; obtain ⟨txt, htx⟩ : ∃ txt, txt = l ++ (if neg then [45] else []) ++ [48] := ⟨_, rfl⟩; rw [← htx]; have HTx := hid htx; clear htx
 cases neg with
 | true =>
  as_aux_lemma =>
  go_enter Tryz.func76, Tryz.ntmps76
  go_wp2_with (at_builtin; go_must (refine wp_out_int rfl _ _ rfl w0 S _ _ rfl (HO.out.alloc _) _ _ _ rfl (cell_new _ _ _ _) ?_ ?_ ?_); go_must (omega); go_must (first | omega | (simp only [List.length_append, List.length_cons, List.length_nil]; omega)); intro v2 w2 hO2 hK2 hP2; have HKn := hid (HKt.out.trans ((Kt.alloc _ _).trans hK2)); clear HO HKt; have HO := hid hO2; have HKt := hid HKn.out; clear hO2 hK2 hP2 HKn)
  go_ret; refine ⟨_, rfl, ?_, HKt.out⟩; have h9 := HO.out; rw [HTx.out]; simpa using h9
 | false =>
  as_aux_lemma =>
  go_enter Tryz.func76, Tryz.ntmps76
  go_wp2_with (at_builtin; go_must (refine wp_out_int rfl _ _ rfl w0 S _ _ rfl (HO.out.alloc _) _ _ _ rfl (cell_new _ _ _ _) ?_ ?_ ?_); go_must (omega); go_must (first | omega | (simp only [List.length_append, List.length_cons, List.length_nil]; omega)); intro v2 w2 hO2 hK2 hP2; have HKn := hid (HKt.out.trans ((Kt.alloc _ _).trans hK2)); clear HO HKt; have HO := hid hO2; have HKt := hid HKn.out; clear hO2 hK2 hP2 HKn)
  go_ret; refine ⟨_, rfl, ?_, HKt.out⟩; have h9 := HO.out; rw [HTx.out]; simpa using h9
end
end Go.Proofs.YtljaoopfomcaoaaGreatDoor
