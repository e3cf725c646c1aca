import Derived.Deep.DeepMust
import Derived.Test.YtljaoopfomcaoaaGreatDoorM02
set_option linter.all false
open Go.Lib (hid)
namespace Go.Proofs.YtljaoopfomcaoaaGreatDoor
section
open Go.RowKit
set_option maxRecDepth 100000 in
theorem isTable_is (w : World) (v : JV) (kp lp : Option Addr) (kc lc : Nat) :
  Calls Tryz.prog 6 #[valOf v kp kc lp lc] w fun e w' => e = .returned (.bool (v.kind == 7)) ∧ Kp [] w w' := by
 unfold valOf; go_enter Tryz.func6, Tryz.ntmps6
 go_wp2_with fail
 go_ret; exact ⟨rfl, ((Kp.refl _ _).alloc _)⟩
set_option maxRecDepth 100000 in
theorem fits3_is (w : World) (kp : Option Addr) (kc : Nat) (ks : List ByteArray) (h : StrsAt w kp ks) :
  Calls Tryz.prog 16 #[.slice kp ks.length kc] w fun e w' => ∃ b, e = .returned (.bool b) ∧ Kp [] w w' := by
 by_cases hb : (ks.length : Int) > 2147483647
 ·
  have k1 : decide ((ks.length : Int) > 2147483647) = true := by rw [decide_eq_true_eq]; exact hb
  go_enter Tryz.func16, Tryz.ntmps16
  go_wp2_with fail
  go_ret; exact ⟨_, rfl, Kp.refl _ _⟩
 have k1 : decide ((ks.length : Int) > 2147483647) = false := by rw [decide_eq_false_iff_not]; exact hb
 have H := hid h; clear h; go_enter Tryz.func16, Tryz.ntmps16
 go_wp2_with fail
 go_loopw [4, 10] (fun v4 v10 wr => ∃ i : Nat, i ≤ ks.length ∧ v10 = .int .i64 (i : Int) ∧ Kp [] w wr) (fun v4 v10 _ => ks.length - (intOf v10).toNat)
 case atStart => exact ⟨0, by omega, rfl, Kp.refl _ _⟩
 case round =>
  obtain ⟨i, hi, rfl, hk⟩ := hrel; have HK := hid hk; clear hk; by_cases hlt : i < ks.length
  ·
   rcases H.out with h0 | ⟨g, o, rfl, hc⟩
   · rw [h0] at hlt; simp at hlt
   have c0 := cell_kp (hc i hlt) HK.out; have k2 : decide ((i : Int) < (ks.length : Int)) = true := by rw [decide_eq_true_eq]; omega
   clear hc; by_cases hz : ((ks[i].size : Nat) : Int) > 2147483647
   · have k3 : decide (((ks[i].size : Nat) : Int) > 2147483647) = true := by rw [decide_eq_true_eq]; exact hz
     go_wp2_with fail
     go_ret; exact ⟨_, rfl, HK.out⟩
   · have k3 : decide (((ks[i].size : Nat) : Int) > 2147483647) = false := by rw [decide_eq_false_iff_not]; exact hz
     go_wp2_with fail
     go_roundw
     case measure => simp [intOf]; omega
     case rel => exact ⟨i + 1, by omega, by push_cast; rfl, HK.out⟩
  · have k2 : decide ((i : Int) < (ks.length : Int)) = false := by rw [decide_eq_false_iff_not]; omega
    go_wp2_with fail
    go_ret; exact ⟨_, rfl, HK.out⟩
set_option maxRecDepth 100000 in
theorem fits2_is (w : World) (v : JV) (kp lp : Option Addr) (kc lc : Nat) (h : StrsAt w kp v.ks) :
  Calls Tryz.prog 4 #[valOf v kp kc lp lc] w fun e w' => ∃ b, e = .returned (.bool b) ∧ Kp [] w w' := by
 unfold valOf; have H := hid h; clear h; generalize v.kind = k; generalize v.b = b; generalize v.i = i; generalize v.f = f; generalize v.t = t; by_cases hb : (t.size : Int) > 2147483647
 ·
  have k1 : decide ((t.size : Int) > 2147483647) = true := by rw [decide_eq_true_eq]; exact hb
  go_enter Tryz.func4, Tryz.ntmps4
  go_wp2_with fail
  go_ret; exact ⟨_, rfl, (Kp.refl _ _).alloc _⟩
 have k1 : decide ((t.size : Int) > 2147483647) = false := by rw [decide_eq_false_iff_not]; exact hb
 have hG : ∀ w0, Kp [] w w0 → _ := fun w0 hk => fits3_is w0 kp kc v.ks (H.out.kp hk)
 have HG := hid hG; clear hG; go_enter Tryz.func4, Tryz.ntmps4
 go_wp2_with fail
 refine (HG.out _ ((Kp.refl _ _).alloc _)).mono ?_
 rintro e1 w1 ⟨b1, rfl, hk1⟩
 have HK := hid (((Kp.refl [] w).alloc (.cells #[.int .i64 k, .bool b, .int .i64 i, .float .f64 f, .string t, .slice kp v.ks.length kc, .slice lp v.l.length lc] 26)).trans hk1); have c6 : w1.cell? ⟨w.heap.size, 6, none⟩ = some (.slice lp v.l.length lc) := by
  refine cell_kp ?_ hk1; rw [cell_fresh]; rfl
 clear hk1
 cases b1 with
 | false =>
  go_wp2_with fail
  go_ret; exact ⟨_, rfl, HK.out⟩
 | true =>
  by_cases hl : (v.l.length : Int) > 2147483647
  · have k2 : decide ((v.l.length : Int) > 2147483647) = true := by rw [decide_eq_true_eq]; exact hl
    go_wp2_with fail
    go_ret; exact ⟨_, rfl, HK.out⟩
  · have k2 : decide ((v.l.length : Int) > 2147483647) = false := by rw [decide_eq_false_iff_not]; exact hl
    go_wp2_with fail
    go_ret; exact ⟨_, rfl, HK.out⟩
end
end Go.Proofs.YtljaoopfomcaoaaGreatDoor
