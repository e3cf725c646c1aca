import Derived.StillTailTactics
import Derived.Test.YtljaoopfomcaoaaGreatDoorM29
import Derived.Test.YtljaoopfomcaoaaGreatDoorM30
import Derived.Test.YtljaoopfomcaoaaGreatDoorM32
set_option linter.all false
open Go.Lib (hid)
namespace Go.Proofs.YtljaoopfomcaoaaGreatDoor
section
open Go.RowKit
attribute [local go_sem] bt_eq
theorem skip_q (s : ByteArray) (x : Int) (i j : Nat) (w : World) (hx : x = (i : Int)) (hs : s.size ≤ 1000000) (hj : j ≤ s.size) (hw : Ws (bt s) i j) (he : j < s.size → ws (bt s j) = false) :
  Calls Tryz.prog 128 #[.string s, .int .i64 x] w fun e w' => e = .returned (.int .i64 j) ∧ w' = w :=
 (skip_int s x i j w hx hs hj hw he).mono fun _ _ h => ⟨h.1, h.2.symm⟩
set_option maxRecDepth 100000 in
set_option maxHeartbeats 2000000 in
theorem inside_is (w : World) (b : Nat) (s : ByteArray) (i a p fin : Nat) (res : Bool) (hs : s.size ≤ 1000000) (hr : RdAt w b s i) (h1 : Ws (bt s) i a) (ha : a < s.size) (h2 : ws (bt s a) = false)
  (h3 : Ws (bt s) (a + 1) p) (hp : p ≤ s.size) (h4 : p < s.size → ws (bt s p) = false)
  (hc : (bt s a = 44 ∧ res = true ∧ fin = p) ∨ ((bt s a = 91 ∨ bt s a = 123) ∧ p < s.size ∧ bt s p ≠ bt s a + 2 ∧ res = true ∧ fin = p) ∨
   ((bt s a = 91 ∨ bt s a = 123) ∧ p < s.size ∧ bt s p = bt s a + 2 ∧ res = false ∧ fin = p + 1) ∨ ((bt s a = 93 ∨ bt s a = 125) ∧ res = false ∧ fin = p)) :
  Calls Tryz.prog 133 #[.pointer (some ⟨b, 0, none⟩)] w fun e w' => e = .returned (.bool res) ∧ Kp [b] w w' ∧ RdAt w' b s fin := by
 have H1 := hid h1; have H2 : Hid (ws (bt s a) = false) := h2; have H3 := hid h3; have H4 := hid h4; have HC := hid hc; have HR := hid hr; have c0 := hr.c0; have c1 := hr.c1; have f1 := hr.fr 1; have hbw := hr.lt; clear h1 h2 h3 h4 hc hr; go_enter Tryz.func133, Tryz.ntmps133
 go_wp2_with fail
 go_still_tail 12, (by kernel_rfl)
 still_call (skip_q s _ i a _ rfl hs (by omega) H1.out (fun _ => H2.out))
 repeat still_step
 refine wpStill_nil ?_; have d0 : ((w.drew).setCell ⟨b, 1, none⟩ (.int .i64 a)).cell? ⟨b, 0, none⟩ = some (.string s) := (RdAt.move (y := (a : Int)) (RdAt.same (w' := w.drew) HR.out rfl)).c0; have k0 : (0 : Int) ≤ (a : Int) := by omega
 have k1 : (a : Int) < (s.size : Int) := by omega
 have k2 : IntKind.i64.wrap ((a : Int) + 1) = (a : Int) + 1 := IntWalk.i64_in _ (by omega); clear d0; go_wp2_with fail
 go_quiet (fail)
 go_wp2_with fail
 generalize hW : (w.setCell ⟨b, 1, none⟩ (.int .i64 a)).drew.drewN nq = W1; have R1 : RdAt W1 b s a := by rw [← hW]; exact RdAt.same (HR.out.move (y := (a : Int))) rfl
 have K1 : Kp [b] w W1 := by rw [← hW]; exact ((Kp.refl [b] w).setCell (by simp) _).drew.drewN _
 clear hW c0 c1 f1; have c0 := R1.c0; have c1 := R1.c1; have f1 := R1.fr 1; have HR1 := hid R1; have HK1 := hid K1; clear R1 K1; go_still_tail 13, (by kernel_rfl)
 still_call (skip_q s _ (a + 1) p _ (by omega) hs hp H3.out H4.out)
 repeat still_step
 refine wpStill_nil ?_; go_wp2_with fail
 generalize hW : (W1.setCell ⟨b, 1, none⟩ (.int .i64 p)).drew = W2; have R1 : RdAt W2 b s p := by rw [← hW]; exact RdAt.same (HR1.out.move (y := (p : Int))) rfl
 have K1 : Kp [b] w W2 := by rw [← hW]; exact (HK1.out.setCell (by simp) _).drew
 clear hW c0 c1 f1; have c0 := R1.c0; have c1 := R1.c1; have f1 := R1.fr 1; have HR2 := hid R1; have HK2 := hid K1; clear R1 K1; have hmin : ∃ m : Nat, min (p : Int) ((s.size : Int) - 1) = (m : Int) ∧ m < s.size ∧ (p < s.size → m = p) := by
  by_cases h : p < s.size
  · exact ⟨p, by omega, h, fun _ => rfl⟩
  · exact ⟨s.size - 1, by omega, by omega, fun c => absurd c h⟩
 obtain ⟨m, hm1, hm2, hm3⟩ := hmin; have hm4 : IntKind.i64.wrap ((s.size : Int) - 1) = (s.size : Int) - 1 := IntWalk.i64_in _ (by omega); have hm0 : (0 : Int) ≤ (m : Int) := by omega
 have hmz : (m : Int) < (s.size : Int) := by omega
 go_quiet (fail)
 rcases HC.out with ⟨g1, rfl, g5⟩ | ⟨g1 | g1, g2, g3, rfl, g5⟩ | ⟨g1 | g1, g2, g3, rfl, g5⟩ | ⟨g1 | g1, rfl, g5⟩
 ·
  have G5 := hid g5; clear g5; go_wp2_with fail
  go_ret; exact ⟨rfl, HK2.out.drewN _, by rw [G5.out]; exact RdAt.same HR2.out rfl⟩
 ·
  have G5 := hid g5; have g6 : ((bt s m : Int) != 93) = true := by rw [hm3 g2]; simp; omega
  clear g5 g3 g2 hm3; go_wp2_with fail
  go_ret; exact ⟨rfl, HK2.out.drewN _, by rw [G5.out]; exact RdAt.same HR2.out rfl⟩
 ·
  have G5 := hid g5; have g6 : ((bt s m : Int) != 125) = true := by rw [hm3 g2]; simp; omega
  clear g5 g3 g2 hm3; go_wp2_with fail
  go_ret; exact ⟨rfl, HK2.out.drewN _, by rw [G5.out]; exact RdAt.same HR2.out rfl⟩
 ·
  have G5 := hid g5; have g6 : ((bt s m : Int) != 93) = false := by rw [hm3 g2]; simp; omega
  clear g5 g3 g2 hm3; go_wp2_with fail
  go_ret; refine ⟨rfl, (HK2.out.drewN nq).setCell (by simp) _, ?_⟩; rw [G5.out]; exact RdAt.move (y := ((p + 1 : Nat) : Int)) (RdAt.same HR2.out rfl)
 ·
  have G5 := hid g5; have g6 : ((bt s m : Int) != 125) = false := by rw [hm3 g2]; simp; omega
  clear g5 g3 g2 hm3; go_wp2_with fail
  go_ret; refine ⟨rfl, (HK2.out.drewN nq).setCell (by simp) _, ?_⟩; rw [G5.out]; exact RdAt.move (y := ((p + 1 : Nat) : Int)) (RdAt.same HR2.out rfl)
 ·
  have G5 := hid g5; clear g5; go_wp2_with fail
  go_ret; exact ⟨rfl, HK2.out.drewN _, by rw [G5.out]; exact RdAt.same HR2.out rfl⟩
 ·
  have G5 := hid g5; clear g5; go_wp2_with fail
  go_ret; exact ⟨rfl, HK2.out.drewN _, by rw [G5.out]; exact RdAt.same HR2.out rfl⟩
theorem inside_elem (w : World) (b : Nat) (s : ByteArray) (i a p : Nat) (hs : s.size ≤ 1000000) (hr : RdAt w b s i) (h1 : Ws (bt s) i a) (ha : a < s.size) (hc : bt s a = 44 ∨ bt s a = 91 ∨ bt s a = 123)
  (h3 : Ws (bt s) (a + 1) p) (hp : p < s.size) (h4 : ws (bt s p) = false) (h5 : bt s p ≠ 93) (h6 : bt s p ≠ 125) :
  Calls Tryz.prog 133 #[.pointer (some ⟨b, 0, none⟩)] w fun e w' => e = .returned (.bool true) ∧ Kp [b] w w' ∧ RdAt w' b s p :=
 inside_is w b s i a p p true hs hr h1 ha (by rcases hc with h | h | h <;> (rw [h]; rfl)) h3 (by omega) (fun _ => h4)
  (by rcases hc with h | h | h
      · exact Or.inl ⟨h, rfl, rfl⟩
      · exact Or.inr (Or.inl ⟨Or.inl h, hp, by omega, rfl, rfl⟩)
      · exact Or.inr (Or.inl ⟨Or.inr h, hp, by omega, rfl, rfl⟩))
theorem inside_none (w : World) (b : Nat) (s : ByteArray) (i a p : Nat) (hs : s.size ≤ 1000000) (hr : RdAt w b s i) (h1 : Ws (bt s) i a) (ha : a < s.size) (hc : bt s a = 91 ∨ bt s a = 123)
  (h3 : Ws (bt s) (a + 1) p) (hp : p < s.size) (h4 : bt s p = bt s a + 2) :
  Calls Tryz.prog 133 #[.pointer (some ⟨b, 0, none⟩)] w fun e w' => e = .returned (.bool false) ∧ Kp [b] w w' ∧ RdAt w' b s ((p + 1 : Nat) : Int) :=
 inside_is w b s i a p (p + 1) false hs hr h1 ha (by rcases hc with h | h <;> (rw [h]; rfl)) h3 (by omega) (fun _ => by rw [h4]; rcases hc with h | h <;> (rw [h]; rfl))
  (Or.inr (Or.inr (Or.inl ⟨hc, hp, h4, rfl, rfl⟩)))
theorem inside_close (w : World) (b : Nat) (s : ByteArray) (i a p : Nat) (hs : s.size ≤ 1000000) (hr : RdAt w b s i) (h1 : Ws (bt s) i a) (ha : a < s.size) (hc : bt s a = 93 ∨ bt s a = 125)
  (h3 : Ws (bt s) (a + 1) p) (hp : p ≤ s.size) (h4 : p < s.size → ws (bt s p) = false) :
  Calls Tryz.prog 133 #[.pointer (some ⟨b, 0, none⟩)] w fun e w' => e = .returned (.bool false) ∧ Kp [b] w w' ∧ RdAt w' b s p :=
 inside_is w b s i a p p false hs hr h1 ha (by rcases hc with h | h <;> (rw [h]; rfl)) h3 hp h4 (Or.inr (Or.inr (Or.inr ⟨hc, rfl, rfl⟩)))
end
section
open Go.RowKit
attribute [local go_sem] bt_eq
def NumReads (S : NumSem) : Prop :=
 ∀ (m : Num) (f : Nat) (s : ByteArray) (w : World), m.Ok → S m f → bytesOf s = m.text → s.size ≤ 1000000 → Env w →
  Calls Tryz.prog 135 #[.string s, .int .i64 64] w fun e w' => e = .returned (.tuple #[.float .f64 f, .nilIface]) ∧ Kp [] w w'
def Made (w w' : World) (g : Nat) : Prop := w.heap.size ≤ g ∧ g < w'.heap.size
def ValDoes (S : NumSem) (n : Nat) : Prop :=
 ∀ (w : World) (b : Nat) (s : ByteArray) (i a j : Nat) (v : JV), s.size ≤ 1000000 → RdAt w b s i → Env w → 11 ≤ b → Ws (bt s) i a → Tx S (bt s) n a j v → j ≤ s.size → NumStop s j →
  Calls Tryz.prog 93 #[.pointer (some ⟨b, 0, none⟩)] w fun e w' => ∃ x j', e = .returned x ∧ AnyRep n (Made w w') w' x v ∧ Kp [b] w w' ∧ RdAt w' b s (j' : Nat) ∧ Ws (bt s) j j' ∧ j' ≤ s.size
theorem bytesOf_inj {s t : ByteArray} (h : bytesOf s = bytesOf t) : s = t := by
 obtain ⟨⟨l⟩⟩ := s; obtain ⟨⟨m⟩⟩ := t; have h' : l.map UInt8.toNat = m.map UInt8.toNat := h; have : l = m := List.map_inj_right (fun a b hab => UInt8.toNat_inj.1 hab) |>.1 h'
 rw [this]
theorem scanNumber_q (s : ByteArray) (i a b c j : Nat) (w : World) (hs : s.size ≤ 1000000) (hj : j ≤ s.size) (H : NumPos s i a b c j) :
  Calls Tryz.prog 132 #[.string s, .int .i64 i] w fun e w' => e = .returned (.tuple #[.int .i64 j, .nilIface]) ∧ w' = w :=
 (scanNumber_to s i a b c j w hs hj H).mono fun _ _ h => ⟨h.1, h.2.symm⟩
theorem RdAt.drewN {w : World} {b : Nat} {s : ByteArray} {x : Int} (h : RdAt w b s x) (n : Nat) : RdAt (w.drewN n) b s x := h
theorem RdAt.drew {w : World} {b : Nat} {s : ByteArray} {x : Int} (h : RdAt w b s x) : RdAt w.drew b s x := h
theorem Ws.self (g : Nat → Nat) (j : Nat) : Ws g j j := ⟨Nat.le_refl _, fun k h1 h2 => by omega⟩
set_option maxRecDepth 100000 in
set_option maxHeartbeats 4000000 in
theorem val_scalar (S : NumSem) (hN : NumReads S) (n : Nat) (w : World) (b : Nat) (s : ByteArray) (i a j : Nat) (v : JV) (hs : s.size ≤ 1000000) (hr : RdAt w b s i) (he : Env w) (hb : 11 ≤ b)
  (hw : Ws (bt s) i a) (hT : Tx S (bt s) (n + 1) a j v) (hj : j ≤ s.size) (hst : NumStop s j) (hk : v.kind ≠ 6 ∧ v.kind ≠ 7) :
  Calls Tryz.prog 93 #[.pointer (some ⟨b, 0, none⟩)] w fun e w' => ∃ x j', e = .returned x ∧ AnyRep (n + 1) (Made w w') w' x v ∧ Kp [b] w w' ∧ RdAt w' b s (j' : Nat) ∧ Ws (bt s) j j' ∧ j' ≤ s.size := by
 obtain ⟨haj, hws, _, _⟩ := hT.start; have has : a < s.size := by omega
 have HW := hid hw; have HE := hid he; have HR := hid hr; have HA : Hid (ws (bt s a) = false) := hws; have c0 := hr.c0; have c1 := hr.c1; have f1 := hr.fr 1; have hbw := hr.lt; have k0 : (0 : Int) ≤ (a : Int) := by omega
 have k1 : (a : Int) < (s.size : Int) := by omega
 have HN := hid hN; clear hw he hr hws hN; rcases hT with ⟨h, e, g⟩ | ⟨h, e, g⟩ | ⟨h, e, g⟩ | ⟨m, hm, h, e, gS, g⟩ | ⟨rs, h, gt, g⟩ | ⟨e, h1, h2, h3, h4, h5⟩ | ⟨e, h1, h2, h3, h4, h5, _⟩
 ·
  have g0 : bt s a = 110 := (At_cons.1 h).1; have HJ := hid e; have HG := hid g; clear h e g; go_enter Tryz.func93, Tryz.ntmps93
  go_wp2_with fail
  go_still_tail 12, (by kernel_rfl)
  still_call (skip_q s _ i a _ rfl hs (by omega) HW.out (fun _ => HA.out))
  repeat still_step
  refine wpStill_nil ?_; go_wp2_with fail
  go_quiet (fail)
  go_wp2_with fail
  go_ret; have ej : (j : Int) = (a : Int) + 4 := by rw [HJ.out]; omega
  refine ⟨_, j, rfl, Or.inl ⟨HG.out, rfl⟩, (by repeat (first | exact Kp.refl _ _ | refine Kp.drewN ?_ _ | refine Kp.drew ?_ | refine Kp.setCell ?_ (by simp) _)), ?_, Ws.self _ _, hj⟩; rw [ej]; exact RdAt.move (RdAt.same (HR.out.move (y := (a : Int))) rfl)
 ·
  have g0 : bt s a = 116 := (At_cons.1 h).1; have HJ := hid e; have HG := hid g; clear h e g; go_enter Tryz.func93, Tryz.ntmps93
  go_wp2_with fail
  go_still_tail 12, (by kernel_rfl)
  still_call (skip_q s _ i a _ rfl hs (by omega) HW.out (fun _ => HA.out))
  repeat still_step
  refine wpStill_nil ?_; go_wp2_with fail
  go_quiet (fail)
  go_wp2_with fail
  go_ret; have ej : (j : Int) = (a : Int) + 4 := by rw [HJ.out]; omega
  refine ⟨_, j, rfl, Or.inr (Or.inl ⟨HG.out.1, by rw [HG.out.2]; rfl⟩), (by repeat (first | exact Kp.refl _ _ | refine Kp.drewN ?_ _ | refine Kp.drew ?_ | refine Kp.setCell ?_ (by simp) _)), ?_, Ws.self _ _, hj⟩; rw [ej]; exact RdAt.move (RdAt.same (HR.out.move (y := (a : Int))) rfl)
 ·
  have g0 : bt s a = 102 := (At_cons.1 h).1; have HJ := hid e; have HG := hid g; clear h e g; go_enter Tryz.func93, Tryz.ntmps93
  go_wp2_with fail
  go_still_tail 12, (by kernel_rfl)
  still_call (skip_q s _ i a _ rfl hs (by omega) HW.out (fun _ => HA.out))
  repeat still_step
  refine wpStill_nil ?_; go_wp2_with fail
  go_quiet (fail)
  go_wp2_with fail
  go_ret; have ej : (j : Int) = (a : Int) + 5 := by rw [HJ.out]; omega
  refine ⟨_, j, rfl, Or.inr (Or.inl ⟨HG.out.1, by rw [HG.out.2]; rfl⟩), (by repeat (first | exact Kp.refl _ _ | refine Kp.drewN ?_ _ | refine Kp.drew ?_ | refine Kp.setCell ?_ (by simp) _)), ?_, Ws.self _ _, hj⟩; rw [ej]; exact RdAt.move (RdAt.same (HR.out.move (y := (a : Int))) rfl)
 ·
  obtain ⟨p, q, r, hp⟩ := Num.pos (m := m) hm h e hj hst; have hstart := (Num.start hm h).2; have HP := hid hp; have g1 := beq_not (k := 123) (c := bt s a) (by omega); have g2 := beq_not (k := 91) (c := bt s a) (by omega); have g3 := beq_not (k := 34) (c := bt s a) (by omega); have g4 := beq_not (k := 116) (c := bt s a) (by omega); have g5 := beq_not (k := 102) (c := bt s a) (by omega); have g6 := beq_not (k := 110) (c := bt s a) (by omega); have HH := hid h; have HJ := hid e; have HM : Hid m.Ok := hm; have HS := hid gS; have HG := hid g; have HB : Hid (bytesOf (s.extract a j) = m.text) := by
   show _ = _
   have hz := size_extract s a j hj; apply List.ext_getElem
   · simp only [bytesOf, List.length_map]
     have : (s.extract a j).data.toList.length = (s.extract a j).size := (Lib.size_eq _).symm; omega
   ·
    intro k hk1 hk2; have := h k hk2; rw [List.getD_eq_getElem?_getD, List.getElem?_eq_getElem hk2] at this; have hb2 := bt_extract s a j k (by omega); simp only [Option.getD_some] at this; rw [← this, ← hb2]; unfold bt bytesOf; have hk3 : k < (s.extract a j).data.toList.length := by simpa [bytesOf] using hk1
    rw [List.getD_eq_getElem?_getD, List.getElem?_eq_getElem hk3]; simp
  clear h e hp hst hstart hm gS g; go_enter Tryz.func93, Tryz.ntmps93
  go_wp2_with fail
  go_still_tail 12, (by kernel_rfl)
  still_call (skip_q s _ i a _ rfl hs (by omega) HW.out (fun _ => HA.out))
  repeat still_step
  refine wpStill_nil ?_; go_wp2_with fail
  go_quiet (fail)
  go_wp2_with fail
  generalize hW : (w.setCell ⟨b, 1, none⟩ (.int .i64 a)).drewN (1 + nq) = W1; have R1 : RdAt W1 b s a := by rw [← hW]; exact RdAt.same (HR.out.move (y := (a : Int))) rfl
  have K1 : Kp [b] w W1 := by rw [← hW]; exact ((Kp.refl [b] w).setCell (by simp) _).drewN _
  clear hW c0 c1 f1; have c0 := R1.c0; have c1 := R1.c1; have c2 := R1.c2; have f1 := R1.fr 1; have HR1 := hid R1; have HK1 := hid K1; have k2 : (a : Int) ≤ (j : Int) := by omega
  have k3 : (j : Int) ≤ (s.size : Int) := by omega
  clear R1 K1; go_quiet ((go_at_call 132; refine Calls.quiet_of_same (scanNumber_q s a p q r j _ hs hj HP.out)))
  go_wp2_with fail
  go_quiet (fail)
  go_wp2_with fail
  refine (HN.out m v.f (s.extract a j) _ HM.out HS.out HB.out (by rw [size_extract s a j hj]; omega) (by exact HE.out.kp ((HK1.out.drewN _).setCell (by simp) _) (fun x hx => by simp at hx; omega))).mono ?_
  rintro e1 w2 ⟨rfl, hk2⟩
  have K2 : Kp [b] w w2 := ((HK1.out.drewN _).setCell (by simp) _).trans (hk2.mono (by simp)); have R2 : RdAt w2 b s j := RdAt.same (RdAt.move (y := (j : Int)) (RdAt.drewN HR1.out _)) (hk2.block b (by have := HR1.out.lt; simpa [World.setCell] using this) (by simp)); have HR2 := hid R2; have HK2 := hid K2; clear R2 K2 hk2; go_wp2_with fail
  go_ret; exact ⟨_, j, rfl, Or.inr (Or.inr (Or.inr (Or.inl ⟨HG.out, rfl⟩))), HK2.out, HR2.out, Ws.self _ _, hj⟩
 ·
  have hx : bt s a = 34 := h.1; have HH := hid h; have HG := hid g; have HT := hid gt; clear h gt g; go_enter Tryz.func93, Tryz.ntmps93
  go_wp2_with fail
  go_still_tail 12, (by kernel_rfl)
  still_call (skip_q s _ i a _ rfl hs (by omega) HW.out (fun _ => HA.out))
  repeat still_step
  refine wpStill_nil ?_; go_wp2_with fail
  go_quiet (fail)
  go_wp2_with fail
  refine (rtext_is _ b s a j rs hs hj (by exact RdAt.same (HR.out.move (y := (a : Int))) rfl) (by exact HE.out.kp (((Kp.refl [b] w).setCell (by simp) _).drewN _) (fun x hx => by simp at hx; omega)) hb HH.out).mono ?_
  rintro e1 w2 ⟨t, rfl, ht, hk2, hr2⟩
  have et : t = v.t := bytesOf_inj (ht.trans HT.out.symm); subst et; have HR2 := hid hr2; have HK2 := hid ((((Kp.refl [b] w).setCell (by simp) _).drewN _).trans hk2); clear ht hk2 hr2; go_wp2_with fail
  go_ret; exact ⟨_, j, rfl, Or.inr (Or.inr (Or.inr (Or.inr (Or.inl ⟨HG.out, rfl⟩)))), HK2.out, HR2.out, Ws.self _ _, hj⟩
 · exact absurd h5 hk.1
 · exact absurd h5 hk.2
end
section
open Go.RowKit
attribute [local go_sem] bt_eq
theorem ws_end (s : ByteArray) : ∀ d i, i + d = s.size → ∃ p, Ws (bt s) i p ∧ p ≤ s.size ∧ (p < s.size → ws (bt s p) = false)
 | 0, i, h => ⟨i, Ws.self _ _, by omega, fun c => by omega⟩
 | d + 1, i, h => by
  cases hw : ws (bt s i) with
  | false => exact ⟨i, Ws.self _ _, by omega, fun _ => hw⟩
  | true =>
   obtain ⟨p, h1, h2, h3⟩ := ws_end s d (i + 1) (by omega); refine ⟨p, ⟨by have := h1.1; omega, fun k k1 k2 => ?_⟩, h2, h3⟩; by_cases e : k = i
   · rw [e]; exact hw
   · exact h1.2 k (by omega) k2
def Fl (w wr : World) (l : Value) (g : Nat) : Prop := w.heap.size ≤ g ∧ g < wr.heap.size ∧ some g ≠ l.ownBlock
structure LInv (S : NumSem) (n : Nat) (w : World) (b : Nat) (s : ByteArray) (a e : Nat) (vs : List JV) (l : Value) (wr : World) (k : Nat) (done rest : List JV) (xs : List Value) : Prop where
 rd : RdAt wr b s k
 all : vs = done ++ rest
 pos : (done = [] ∧ k = a ∧ ((rest = [] ∧ Ws (bt s) (a + 1) e) ∨ Elems (bt s) (fun a b x => Tx S (bt s) n a b x) (a + 1) e rest)) ∨
  (done ≠ [] ∧ ((rest = [] ∧ Ws (bt s) k e) ∨ ∃ c, Ws (bt s) k c ∧ bt s c = 44 ∧ Elems (bt s) (fun a b x => Tx S (bt s) n a b x) (c + 1) e rest))
 own : wr.ownsRow w.heap.size 20 1 l done.length xs
 reps : ∀ i (h : i < done.length) (h' : i < xs.length), AnyRep n (Fl w wr l) wr xs[i] done[i]
 kp : Kp [b] w wr
 ks : k ≤ s.size
theorem LInv.step {S : NumSem} {n : Nat} {w : World} {b : Nat} {s : ByteArray} {a e : Nat} {vs : List JV} {l : Value} {wr : World} {k : Nat} {done rest : List JV} {xs : List Value}
  (h : LInv S n w b s a e vs l wr k done rest xs) (ha : bt s a = 91) (he : bt s e = 93) (hes : e < s.size) :
  (∃ c p q u rest', rest = u :: rest' ∧ Ws (bt s) k c ∧ c < s.size ∧ (bt s c = 44 ∨ bt s c = 91) ∧ Ws (bt s) (c + 1) p ∧ Tx S (bt s) n p q u ∧ q ≤ e ∧ NumStop s q ∧ k < q ∧
   ((rest' = [] ∧ Ws (bt s) q e) ∨ ∃ c, Ws (bt s) q c ∧ bt s c = 44 ∧ Elems (bt s) (fun a b x => Tx S (bt s) n a b x) (c + 1) e rest')) ∨
  (rest = [] ∧ done = [] ∧ k = a ∧ Ws (bt s) (a + 1) e) ∨ (rest = [] ∧ Ws (bt s) k e) := by
 have hT : ∀ a b w, Tx S (bt s) n a b w → a < b := fun a b w hw => (Tx.start hw).1
 have el : ∀ c, Elems (bt s) (fun a b x => Tx S (bt s) n a b x) (c + 1) e rest → Ws (bt s) k c → (bt s c = 44 ∨ bt s c = 91) →
   (∃ c p q u rest', rest = u :: rest' ∧ Ws (bt s) k c ∧ c < s.size ∧ (bt s c = 44 ∨ bt s c = 91) ∧ Ws (bt s) (c + 1) p ∧ Tx S (bt s) n p q u ∧ q ≤ e ∧ NumStop s q ∧ k < q ∧
   ((rest' = [] ∧ Ws (bt s) q e) ∨ ∃ c, Ws (bt s) q c ∧ bt s c = 44 ∧ Elems (bt s) (fun a b x => Tx S (bt s) n a b x) (c + 1) e rest')) := by
  intro c hE hw hc; have hle := hE.le hT; obtain ⟨p, q, u, k1, k2, k3⟩ := hE.head; have hpq := k2.start.1; have hcp := k1.1; have hkc := hw.1; rcases k3 with ⟨k3, rfl⟩ | ⟨r, us', k3, k4, k5, rfl⟩
  · exact ⟨c, p, q, u, [], rfl, hw, by omega, hc, k1, k2, k3.1, ws_stop k3 (by omega), by omega, Or.inl ⟨rfl, k3⟩⟩
  · have h1 := k3.1
    have h2 := k5.le hT; exact ⟨c, p, q, u, us', rfl, hw, by omega, hc, k1, k2, by omega, ws_stop k3 (by omega), by omega, Or.inr ⟨r, k3, k4, k5⟩⟩
 rcases h.pos with ⟨h1, h2, h3⟩ | ⟨h1, h3⟩
 · rcases h3 with ⟨h3, h4⟩ | h3
   · exact Or.inr (Or.inl ⟨h3, h1, h2, h4⟩)
   · exact Or.inl (el a h3 (by rw [h2]; exact Ws.self _ _) (Or.inr ha))
 · rcases h3 with ⟨h3, h4⟩ | ⟨c, h3, h4, h5⟩
   · exact Or.inr (Or.inr ⟨h3, h4⟩)
   · exact Or.inl (el c h5 h3 (Or.inl h4))
theorem info20 : (Tryz.prog.info? 20).map (fun i => (i.zero, i.size, i.bytes)) = some (some .nilIface, 1, 16) := by kernel_rfl
theorem Fl.next {w wr w1 w2 w3 : World} {l l3 : Value} {g : Nat} (h : Fl w wr l g) (h1 : wr.heap.size ≤ w2.heap.size) (h2 : w2.heap.size ≤ w3.heap.size) (hl : l3.ownBlock = l.ownBlock ∨ l3.ownBlock = some w2.heap.size) : Fl w w3 l3 g := by
 obtain ⟨a, b, c⟩ := h; refine ⟨a, by omega, ?_⟩; rcases hl with hl | hl
 · rw [hl]; exact c
 · rw [hl]; intro e; have := Option.some.inj e; omega
theorem LInv.next {S : NumSem} {n : Nat} {w : World} {b : Nat} {s : ByteArray} {a e : Nat} {vs : List JV} {l : Value} {wr : World} {k : Nat} {done rest : List JV} {xs : List Value} {u : JV}
  (h : LInv S n w b s a e vs l wr k done (u :: rest) xs) {w1 w2 w3 w4 : World} {x l3 : Value} {j' q : Nat} (hbw : b < w.heap.size)
  (k1 : Kp [b] wr w1) (k2 : Kp [b] w1 w2) (hx : AnyRep n (Made w1 w2) w2 x u) (h3 : w2.heap.size ≤ w3.heap.size) (h3b : ∀ g, g < w2.heap.size → w3.heap[g]? = w2.heap[g]?)
  (ho : w4.ownsRow w.heap.size 20 1 l3 (done.length + 1) (xs ++ [x])) (hg : w3.grownBy w4 l.ownBlock) (hl : l3.ownBlock = l.ownBlock ∨ l3.ownBlock = some w3.heap.size)
  (hrd : RdAt w4 b s j') (kp : Kp [b] w w4) (hj : Ws (bt s) q j') (hjs : j' ≤ s.size) (hkq : k < q) (hes : e < s.size) (he : bt s e = 93)
  (hrest : (rest = [] ∧ Ws (bt s) q e) ∨ ∃ c, Ws (bt s) q c ∧ bt s c = 44 ∧ Elems (bt s) (fun a b x => Tx S (bt s) n a b x) (c + 1) e rest) :
  (∃ k' done' rest' xs', LInv S n w b s a e vs l3 w4 k' done' rest' xs') ∧ s.size - rdPos b w4 < s.size - rdPos b wr := by
 have fit : ∀ c, Ws (bt s) q c → c < s.size → ws (bt s c) = false → Ws (bt s) j' c := by
  intro c hc hcs hcw; have : j' ≤ c := by
   rcases Nat.lt_or_ge c j' with g | g
   · have := hj.2 c hc.1 g; rw [hcw] at this; cases this
   · exact g
  exact ⟨this, fun m m1 m2 => hc.2 m (by have := hj.1; omega) m2⟩
 have hlen : xs.length = done.length := by have := h.own.1; omega
 have s1 := k1.size; have s2 := k2.size; have s4 := hg.size; have keep0 : ∀ g, Fl w wr l g → g < wr.heap.size → Fl w w4 l3 g ∧ w4.heap[g]? = wr.heap[g]? := by
  intro g hgF hgs; obtain ⟨ga, gb, gc⟩ := hgF; refine ⟨⟨ga, by omega, ?_⟩, ?_⟩
  · rcases hl with hl | hl
    · rw [hl]; exact gc
    · rw [hl]; intro e; have := Option.some.inj e; omega
  · have hne : g ∉ [b] := by simp; omega
    rw [hg.block g (by omega) gc, h3b g (by omega), k2.block g (by omega) hne, k1.block g hgs hne]
 have keep1 : ∀ g, Made w1 w2 g → g < w2.heap.size → Fl w w4 l3 g ∧ w4.heap[g]? = w2.heap[g]? := by
  intro g hgF hgs; obtain ⟨ga, gb⟩ := hgF; have hlo : ∀ g', l.ownBlock = some g' → g' < wr.heap.size := fun g' e => (h.own.lt g' e).2
  have hne : some g ≠ l.ownBlock := fun e => by have := hlo g e.symm; omega
  refine ⟨⟨by have := h.kp.size; omega, by omega, ?_⟩, ?_⟩
  · rcases hl with hl | hl
    · rw [hl]; exact hne
    · rw [hl]; intro e; have := Option.some.inj e; omega
  · rw [hg.block g (by omega) hne, h3b g (by omega)]
 have hws93 : ws (bt s e) = false := by rw [he]; rfl
 refine ⟨⟨j', done ++ [u], rest, xs ++ [x], hrd, by rw [h.all]; simp, Or.inr ⟨by simp, ?_⟩, by simpa using ho, ?_, kp, hjs⟩, ?_⟩
 · rcases hrest with ⟨r1, r2⟩ | ⟨c, r1, r2, r3⟩
   · exact Or.inl ⟨r1, fit e r2 hes hws93⟩
   · have := r3.le (fun a b w hw => (Tx.start hw).1)
     exact Or.inr ⟨c, fit c r1 (by omega) (by rw [r2]; rfl), r2, r3⟩
 ·
  intro i hi hi'; by_cases hlt : i < done.length
  · have := h.reps i hlt (by omega)
    rw [List.getElem_append_left (by omega), List.getElem_append_left hlt]; exact this.keep (by omega) keep0
  ·
   have hi2 : i = done.length := by simp at hi; omega
   subst hi2; have e1 : (xs ++ [x])[done.length] = x := by
    rw [List.getElem_append_right (by omega)]; simp [hlen]
   have e2 : (done ++ [u])[done.length] = u := by
    rw [List.getElem_append_right (by omega)]; simp
   rw [e1, e2]; exact hx.keep (by omega) keep1
 · rw [rdPos_of hrd, rdPos_of h.rd]
   have := hj.1; have := h.ks; omega
theorem LInv.done {S : NumSem} {n : Nat} {w : World} {b : Nat} {s : ByteArray} {a e : Nat} {v : JV} {l : Value} {wr w' : World} {k : Nat} {done : List JV} {xs : List Value}
  (h : LInv S n w b s a e v.l l wr k done [] xs) (hk : v.kind = 6) (hbw : b < w.heap.size) (k1 : Kp [b] wr w') : AnyRep (n + 1) (Made w w') w' (.iface 85 l) v := by
 have hv : v.l = done := by rw [h.all]; simp
 obtain ⟨o1, o2⟩ := h.own; have s1 := k1.size; refine Or.inr (Or.inr (Or.inr (Or.inr (Or.inr (Or.inl ⟨hk, ?_⟩))))); rcases o2 with ⟨rfl, hn⟩ | ⟨g, cap, cur, rfl, hg, hh, _, _, hsz, ht⟩
 · have : done = [] := List.length_eq_zero_iff.1 hn
   subst this; exact ⟨none, 0, by rw [hv]; rfl, Or.inl hv⟩
 ·
  refine ⟨some ⟨g, 0, none⟩, cap, by rw [hv], Or.inr ⟨g, rfl, ?_, ?_, ?_⟩⟩
  · have := lt_of_block hh
    exact ⟨hg, by omega⟩
  · have := lt_of_block hh; omega
  ·
   rw [hv]; intro i hi; have hgb : g ∉ [b] := by simp; omega
   have hlt := lt_of_block hh; have hix : i < xs.length := by omega
   refine ⟨xs[i], ?_, (h.reps i hi hix).keep s1 fun g' hg' hgs => ⟨⟨hg'.1, by omega⟩, k1.block g' hgs (by have := hg'.1; simp; omega)⟩⟩; rw [cell_of_heap (w := wr) (p := ⟨g, i, none⟩) (k1.block g hlt hgb)]; simp only [World.cell?, hh]; simp only [Option.isSome_none, Bool.false_eq_true, if_false]; have e : cur[i]? = xs[i]? := by
    rw [← ht, List.getElem?_take, if_pos (by omega), Array.getElem?_toList]
   rw [e, List.getElem?_eq_getElem hix]
theorem Elems.count {g : Nat → Nat} {T : Nat → Nat → JV → Prop} (hT : ∀ a b v, T a b v → a < b) : ∀ {vs : List JV} {i j : Nat}, Elems g T i j vs → vs.length + i ≤ j
 | [], _, _, h => absurd h (by simp [Elems])
 | [v], i, j, ⟨a, b, h1, h2, h3⟩ => by have := hT _ _ _ h2; have := h1.1; have := h3.1; simp; omega
 | v :: u :: vs, i, j, ⟨a, b, c, h1, h2, h3, h4, h5⟩ => by have := hT _ _ _ h2; have := h1.1; have := h3.1; have := Elems.count hT h5; simp at *; omega
theorem one_new (w : World) (x : Value) (t : TypeId) (f : Nat × Nat) : ∀ (j : Nat) u, ([x] : List Value)[j]? = some u → (w.alloc (.cells #[x] t f)).cell? ((⟨w.heap.size, 0, none⟩ : Addr).add j) = some u := by
 intro j u hj
 cases j with
 | zero => simp at hj; subst hj; exact cell_new w x t f
 | succ j => simp at hj
theorem AnyRep.one {n : Nat} {F : Nat → Prop} {w : World} {x : Value} {u : JV} (h : AnyRep n F w x u) : x.oneCell' = true := by
 cases n with
 | zero => exact absurd h (by simp [AnyRep])
 | succ n =>
  rcases h with ⟨_, rfl⟩ | ⟨_, rfl⟩ | ⟨_, rfl⟩ | ⟨_, rfl⟩ | ⟨_, rfl⟩ | ⟨_, a, cap, rfl, _⟩ | ⟨_, r, m, es, rfl, _⟩; all_goals rfl
theorem AnyRep.form {n : Nat} {F : Nat → Prop} {w : World} {x : Value} {u : JV} (h : AnyRep n F w x u) : x = .nilIface ∨ ∃ t y, x = .iface t y := by
 cases n with
 | zero => exact absurd h (by simp [AnyRep])
 | succ n =>
  rcases h with ⟨_, rfl⟩ | ⟨_, rfl⟩ | ⟨_, rfl⟩ | ⟨_, rfl⟩ | ⟨_, rfl⟩ | ⟨_, a, cap, rfl, _⟩ | ⟨_, r, m, es, rfl, _⟩
  · exact Or.inl rfl
  all_goals exact Or.inr ⟨_, _, rfl⟩
set_option maxRecDepth 100000 in
set_option maxHeartbeats 4000000 in
theorem val_list (S : NumSem) (n : Nat) (ih : ValDoes S n) (w : World) (b : Nat) (s : ByteArray) (i a e : Nat) (v : JV) (hs : s.size ≤ 1000000) (hr : RdAt w b s i) (he : Env w) (hb : 11 ≤ b)
  (hw : Ws (bt s) i a) (hes : e < s.size) (h1 : bt s a = 91) (h2 : bt s e = 93) (h3 : (v.l = [] ∧ Ws (bt s) (a + 1) e) ∨ Elems (bt s) (fun a b x => Tx S (bt s) n a b x) (a + 1) e v.l) (hk : v.kind = 6) :
  Calls Tryz.prog 93 #[.pointer (some ⟨b, 0, none⟩)] w fun e' w' => ∃ x j', e' = .returned x ∧ AnyRep (n + 1) (Made w w') w' x v ∧ Kp [b] w w' ∧ RdAt w' b s (j' : Nat) ∧ Ws (bt s) (e + 1) j' ∧ j' ≤ s.size := by
 have hT : ∀ a b w, Tx S (bt s) n a b w → a < b := fun a b w hw => (Tx.start hw).1
 have hae : a + 1 ≤ e := by
  rcases h3 with ⟨_, h⟩ | h
  · exact h.1
  · exact Nat.le_of_lt (h.le hT)
 have has : a < s.size := by omega
 have hcount : v.l.length ≤ s.size := by
  rcases h3 with ⟨h, _⟩ | h
  · rw [h]; simp
  · have := h.count hT; omega
 have HW := hid hw; have HE := hid he; have HR := hid hr; have H2 := hid h2; have H1 := hid h1; have H3 := hid h3; have HK := hid hk; have IH := hid ih; have HA : Hid (ws (bt s a) = false) := by show _ = _; rw [h1]; rfl
 have c0 := hr.c0; have c1 := hr.c1; have f1 := hr.fr 1; have hbw := hr.lt; have k0 : (0 : Int) ≤ (a : Int) := by omega
 have k1 : (a : Int) < (s.size : Int) := by omega
 clear hw he hr h2 h3 hk ih hT; go_enter Tryz.func93, Tryz.ntmps93
 go_wp2_with fail
 go_still_tail 12, (by kernel_rfl)
 still_call (skip_q s _ i a _ rfl hs (by omega) HW.out (fun _ => HA.out))
 repeat still_step
 refine wpStill_nil ?_; go_wp2_with fail
 go_quiet (fail)
 go_wp2_with fail
 obtain ⟨i0, hi0, hz0, hz1, hz2⟩ := info_parts info20; go_loopw [5] (fun l wr => ∃ k done rest xs, LInv S n w b s a e v.l l wr k done rest xs) (fun _ wr => s.size - rdPos b wr)
 case atStart =>
  refine ⟨a, [], v.l, [], ?_, rfl, Or.inl ⟨rfl, rfl, H3.out⟩, ⟨rfl, Or.inr ⟨w.heap.size, 0, #[], rfl, Nat.le_refl _, ?_, Nat.le_refl _, by decide, rfl, rfl⟩⟩, fun i h => absurd h (Nat.not_lt_zero i), ?_, by omega⟩
  · have h0 : RdAt ((w.setCell ⟨b, 1, none⟩ (.int .i64 a)).drewN (1 + nq)) b s a := RdAt.same (HR.out.move (y := (a : Int))) rfl
    exact h0.same (Below.heap_alloc _ _ _ h0.lt)
  · have : (((w.setCell ⟨b, 1, none⟩ (.int .i64 a)).drewN (1 + nq)).alloc (Obj.cells #[] 20)).heap[((w.setCell ⟨b, 1, none⟩ (.int .i64 a)).drewN (1 + nq)).heap.size]? = some (Obj.cells #[] 20) := heap_alloc_new _ _
    simpa [World.setCell] using this
  · exact (((Kp.refl [b] w).setCell (by simp) _).drewN _).alloc _
 case round =>
  obtain ⟨k, done, rest, xs, hI⟩ := hrel; have HI := hid hI; rcases hI.step H1.out H2.out hes with ⟨c, p, q, u, rest', rfl, g1, g2, g3, g4, g5, g6, g7, g8, g9⟩ | ⟨rfl, rfl, rfl, g1⟩ | ⟨rfl, g1⟩
  ·
   have g5' := g5.start; have G3 := hid g3; have G9 := hid g9; have G7 := hid g7; have hps : p < s.size := by omega
   have G10 : Hid (bt s p ≠ 93) := g5'.2.2.1; have G11 : Hid (bt s p ≠ 125) := g5'.2.2.2; have G1 := hid g1; have G4 := hid g4; have G5 := hid g5; have G5w : Hid (ws (bt s p) = false) := g5'.2.1; have hlen : xs.length = done.length := by have := hI.own.1; omega
   have hdl : done.length ≤ 1000000 := by have := congrArg List.length hI.all; simp at this; omega
   clear hI g3 g9 g7 g1 g4 g5 g5' c0 c1 f1 k0 k1; go_wp2_with fail
   refine (inside_elem wr b s k c p hs HI.out.rd G1.out g2 (by have := G3.out; omega) G4.out hps G5w.out G10.out G11.out).mono ?_
   rintro e1 w1 ⟨rfl, k1, r1⟩
   have K1 := hid k1; have R1 := hid r1; clear k1 r1; go_wp2_with fail
   refine (IH.out w1 b s p p q u hs R1.out (by exact HE.out.kp (HI.out.kp.trans K1.out) (fun x hx => by simp at hx; omega)) hb (Ws.self _ _) G5.out (by omega) G7.out).mono ?_
   rintro e2 w2 ⟨x, j', rfl, hx, k2, r2, hj, hjs⟩
   have K2 := hid k2; have R2 := hid r2; have HX := hid hx; have HJ := hid hj; clear k2 r2 hx hj; have hb1 : b < wr.heap.size := by have := HI.out.kp.size; omega
   have hb2 : b < w2.heap.size := R2.out.lt; rcases HX.out.form with hxf | ⟨tx, yx, hxf⟩; all_goals
    subst hxf; go_wp2_with (at_builtin; go_must (refine wp_append_at rfl _ _ 85 rfl w [b] 20 i0 .nilIface 1 16 Tryz.underlying85 hi0 hz0 hz1 hz2 rfl (by decide) _ done.length xs rfl ((own_kp (own_kp HI.out.own K1.out (by simp; omega)) K2.out (by simp; omega)).alloc _) ⟨w2.heap.size, 0, none⟩ 1 _ (by decide) [_] rfl rfl (one_new _ _ _ _) (by intro u' hu'; simp at hu'; subst hu'; rfl) (by unfold maxLen; omega) (by omega) (((HI.out.kp.trans K1.out).trans K2.out).alloc _) ?_); intro l3 w4 ho kp4 hg hl; have HO := hid ho; have HP4 := hid kp4; have HG := hid hg; have HL := hid hl; clear ho kp4 hg hl)
    exact HI.out.next hbw K1.out K2.out HX.out (by simp) (fun g hg => Below.heap_alloc _ _ _ hg) HO.out HG.out HL.out
     (RdAt.same R2.out ((HG.out.block b (by simp; omega) (fun e => by have := (HI.out.own.lt b e.symm).1; omega)).trans (Below.heap_alloc _ _ _ hb2))) HP4.out HJ.out hjs g8 hes H2.out G9.out
  ·
   have G1 := hid g1; clear hI g1 c0 c1 f1 k0 k1; go_wp2_with fail
   refine (inside_none wr b s k k e hs HI.out.rd (Ws.self _ _) has (Or.inl H1.out) G1.out hes (by rw [H1.out]; exact H2.out)).mono ?_
   rintro e1 w1 ⟨rfl, k1, r1⟩
   have K1 := hid k1; have R1 := hid r1; clear k1 r1; go_wp2_with fail
   go_ret; exact ⟨_, e + 1, rfl, HI.out.done HK.out hbw K1.out, HI.out.kp.trans K1.out, R1.out, Ws.self _ _, by omega⟩
  ·
   obtain ⟨p, p1, p2, p3⟩ := ws_end s (s.size - (e + 1)) (e + 1) (by omega); have G1 := hid g1; have P1 := hid p1; have P3 := hid p3; clear hI g1 p1 p3 c0 c1 f1 k0 k1; go_wp2_with fail
   refine (inside_close wr b s k e p hs HI.out.rd G1.out hes (Or.inl H2.out) P1.out p2 P3.out).mono ?_
   rintro e1 w1 ⟨rfl, k1, r1⟩
   have K1 := hid k1; have R1 := hid r1; clear k1 r1; go_wp2_with fail
   go_ret; exact ⟨_, p, rfl, HI.out.done HK.out hbw K1.out, HI.out.kp.trans K1.out, R1.out, P1.out, p2⟩
end
section
open Go.RowKit
attribute [local go_sem] bt_eq
theorem keyOf_str (k : ByteArray) (h : k.size ≤ maxLen) : keyOf Tryz.prog 9 (.string k) = some (.string k.data.toList) := by
 unfold keyOf; rw [Tryz.underlying9]; simp [mapKey, Tryz.underlying9, h]
def Fm (w wr : World) (r : Nat) (g : Nat) : Prop := w.heap.size ≤ g ∧ g < wr.heap.size ∧ g ≠ r
structure MInv (S : NumSem) (n : Nat) (w : World) (b : Nat) (s : ByteArray) (a e : Nat) (ks : List ByteArray) (vs : List JV) (r : Nat) (wr : World) (k : Nat) (dk : List ByteArray) (done : List JV)
  (rk : List ByteArray) (rest : List JV) (es : List (ByteArray × Value)) : Prop where
 rd : RdAt wr b s k
 allk : ks = dk ++ rk
 all : vs = done ++ rest
 pos : (done = [] ∧ k = a ∧ ((rest = [] ∧ rk = [] ∧ Ws (bt s) (a + 1) e) ∨ Membs (bt s) (fun a b x => Tx S (bt s) n a b x) (a + 1) e rk rest)) ∨
  (done ≠ [] ∧ ((rest = [] ∧ rk = [] ∧ Ws (bt s) k e) ∨ ∃ c, Ws (bt s) k c ∧ bt s c = 44 ∧ Membs (bt s) (fun a b x => Tx S (bt s) n a b x) (c + 1) e rk rest))
 map : MapIs wr r done.length es
 keys : es.map (·.1) = dk
 len : es.length = done.length
 reps : ∀ i (h : i < done.length) (h' : i < es.length), AnyRep n (Fm w wr r) wr es[i].2 done[i]
 kp : Kp [b] w wr
 ks' : k ≤ s.size
 rb : w.heap.size ≤ r ∧ r < wr.heap.size
theorem Membs.count {g : Nat → Nat} {T : Nat → Nat → JV → Prop} (hT : ∀ a b v, T a b v → a < b) : ∀ (ks : List ByteArray) {vs : List JV} {i j : Nat}, Membs g T i j ks vs → vs.length + i ≤ j
 | ks, [], i, j, h => by
  cases ks with
  | nil => exact absurd h (by simp [Membs])
  | cons k ks => cases ks <;> exact absurd h (by simp [Membs])
 | ks, v :: vs, i, j, h => by
  obtain ⟨k, ks', v', vs', a, b, c, d, e, rs, rfl, hv, h1, h2, _, h4, h5, h6, h7, h8⟩ := h.head
  injection hv with hv1 hv2
  subst hv1; subst hv2; have := hT _ _ _ h7; have := h1.1; have := h4.1; have := h6.1; obtain ⟨_, _, _, _, _, _, _⟩ := h2.steps; rcases h8 with ⟨h8, _, h9⟩ | ⟨f, h8, h9, h10⟩
  · have := h8.1; subst h9; simp; omega
  · have := h8.1; have := Membs.count hT ks' h10; simp; omega
theorem MInv.step {S : NumSem} {n : Nat} {w : World} {b : Nat} {s : ByteArray} {a e : Nat} {ks : List ByteArray} {vs : List JV} {r : Nat} {wr : World} {k : Nat} {dk : List ByteArray} {done : List JV}
  {rk : List ByteArray} {rest : List JV} {es : List (ByteArray × Value)}
  (h : MInv S n w b s a e ks vs r wr k dk done rk rest es) (ha : bt s a = 123) (he : bt s e = 125) (hes : e < s.size) :
  (∃ c p q t d y z u ky rs rk' rest', rk = ky :: rk' ∧ rest = u :: rest' ∧ Ws (bt s) k c ∧ c < s.size ∧ (bt s c = 44 ∨ bt s c = 123) ∧ Ws (bt s) (c + 1) p ∧ StrAt (bt s) p q rs ∧ bytesOf ky = enc rs ∧
   Ws (bt s) q t ∧ bt s t = 58 ∧ Ws (bt s) (t + 1) d ∧ Tx S (bt s) n d y u ∧ y ≤ e ∧ NumStop s y ∧ k < y ∧ p < q ∧ q ≤ t ∧ t < d ∧ z = y ∧
   ((rest' = [] ∧ rk' = [] ∧ Ws (bt s) y e) ∨ ∃ c, Ws (bt s) y c ∧ bt s c = 44 ∧ Membs (bt s) (fun a b x => Tx S (bt s) n a b x) (c + 1) e rk' rest')) ∨
  (rest = [] ∧ rk = [] ∧ done = [] ∧ k = a ∧ Ws (bt s) (a + 1) e) ∨ (rest = [] ∧ rk = [] ∧ Ws (bt s) k e) := by
 have hT : ∀ a b w, Tx S (bt s) n a b w → a < b := fun a b w hw => (Tx.start hw).1
 have el : ∀ c, Membs (bt s) (fun a b x => Tx S (bt s) n a b x) (c + 1) e rk rest → Ws (bt s) k c → (bt s c = 44 ∨ bt s c = 123) →
   (∃ c p q t d y z u ky rs rk' rest', rk = ky :: rk' ∧ rest = u :: rest' ∧ Ws (bt s) k c ∧ c < s.size ∧ (bt s c = 44 ∨ bt s c = 123) ∧ Ws (bt s) (c + 1) p ∧ StrAt (bt s) p q rs ∧ bytesOf ky = enc rs ∧
   Ws (bt s) q t ∧ bt s t = 58 ∧ Ws (bt s) (t + 1) d ∧ Tx S (bt s) n d y u ∧ y ≤ e ∧ NumStop s y ∧ k < y ∧ p < q ∧ q ≤ t ∧ t < d ∧ z = y ∧
   ((rest' = [] ∧ rk' = [] ∧ Ws (bt s) y e) ∨ ∃ c, Ws (bt s) y c ∧ bt s c = 44 ∧ Membs (bt s) (fun a b x => Tx S (bt s) n a b x) (c + 1) e rk' rest')) := by
  intro c hE hw hc; have hle := hE.le hT; obtain ⟨ky, rk', u, rest', p, q, t, d, y, rs, rfl, rfl, h1, h2, h3, h4, h5, h6, h7, h8⟩ := hE.head; have hpq : p < q := by obtain ⟨_, _, _, _, _, _, _⟩ := h2.steps; omega
  have hdy := h7.start.1; have := h1.1; have := h4.1; have := h6.1; have := hw.1; rcases h8 with ⟨h8, rfl, rfl⟩ | ⟨f, h8, h9, h10⟩
  · exact ⟨c, p, q, t, d, y, y, u, ky, rs, [], [], rfl, rfl, hw, by omega, hc, h1, h2, h3, h4, h5, h6, h7, h8.1, ws_stop h8 (by omega), by omega, hpq, h4.1, by omega, rfl, Or.inl ⟨rfl, rfl, h8⟩⟩
  · have := h8.1
    have := h10.le hT; exact ⟨c, p, q, t, d, y, y, u, ky, rs, rk', rest', rfl, rfl, hw, by omega, hc, h1, h2, h3, h4, h5, h6, h7, by omega, ws_stop h8 (by omega), by omega, hpq, h4.1, by omega, rfl, Or.inr ⟨f, h8, h9, h10⟩⟩
 rcases h.pos with ⟨h1, h2, h3⟩ | ⟨h1, h3⟩
 · rcases h3 with ⟨h3, h3b, h4⟩ | h3
   · exact Or.inr (Or.inl ⟨h3, h3b, h1, h2, h4⟩)
   · exact Or.inl (el a h3 (by rw [h2]; exact Ws.self _ _) (Or.inr ha))
 · rcases h3 with ⟨h3, h3b, h4⟩ | ⟨c, h3, h4, h5⟩
   · exact Or.inr (Or.inr ⟨h3, h3b, h4⟩)
   · exact Or.inl (el c h5 h3 (Or.inl h4))
theorem MInv.next {S : NumSem} {n : Nat} {w : World} {b : Nat} {s : ByteArray} {a e : Nat} {ks : List ByteArray} {vs : List JV} {r : Nat} {wr : World} {k : Nat} {dk : List ByteArray} {done : List JV}
  {rk : List ByteArray} {rest : List JV} {es : List (ByteArray × Value)} {u : JV} {ky : ByteArray}
  (h : MInv S n w b s a e ks vs r wr k dk done (ky :: rk) (u :: rest) es) (hrise : Rise ks) {w1 w2 w4 : World} {x : Value} {j' q : Nat} (hbw : b < w.heap.size)
  (k1 : Kp [b] wr w1) (k2 : Kp [b] w1 w2) (hx : AnyRep n (Made w1 w2) w2 x u)
  (ho : w4.ownsMap Tryz.prog 9 RV r (done.length + 1) ((DataW.map (es.map entry)).put (.string ky.data.toList) (.held x))) (hg : w2.grownBy w4 (some r))
  (hrd : RdAt w4 b s j') (kp : Kp [b] w w4) (hj : Ws (bt s) q j') (hjs : j' ≤ s.size) (hkq : k < q) (hes : e < s.size) (he : bt s e = 125)
  (hrest : (rest = [] ∧ rk = [] ∧ Ws (bt s) q e) ∨ ∃ c, Ws (bt s) q c ∧ bt s c = 44 ∧ Membs (bt s) (fun a b x => Tx S (bt s) n a b x) (c + 1) e rk rest) :
  (∃ k' dk' done' rk' rest' es', MInv S n w b s a e ks vs r w4 k' dk' done' rk' rest' es') ∧ s.size - rdPos b w4 < s.size - rdPos b wr := by
 have fit : ∀ c, Ws (bt s) q c → c < s.size → ws (bt s c) = false → Ws (bt s) j' c := by
  intro c hc hcs hcw; have : j' ≤ c := by
   rcases Nat.lt_or_ge c j' with g | g
   · have := hj.2 c hc.1 g; rw [hcw] at this; cases this
   · exact g
  exact ⟨this, fun m m1 m2 => hc.2 m (by have := hj.1; omega) m2⟩
 have s1 := k1.size; have s2 := k2.size; have s4 := hg.size; have hrb := h.rb; have keep0 : ∀ g, Fm w wr r g → g < wr.heap.size → Fm w w4 r g ∧ w4.heap[g]? = wr.heap[g]? := by
  intro g hgF hgs; obtain ⟨ga, gb, gc⟩ := hgF; have hne : g ∉ [b] := by simp; omega
  exact ⟨⟨ga, by omega, gc⟩, by rw [hg.block g (by omega) (fun e => gc (Option.some.inj e)), k2.block g (by omega) hne, k1.block g hgs hne]⟩
 have keep1 : ∀ g, Made w1 w2 g → g < w2.heap.size → Fm w w4 r g ∧ w4.heap[g]? = w2.heap[g]? := by
  intro g hgF hgs; obtain ⟨ga, gb⟩ := hgF; have gc : g ≠ r := by omega
  exact ⟨⟨by have := h.kp.size; omega, by omega, gc⟩, hg.block g (by omega) (fun e => gc (Option.some.inj e))⟩
 have hws : ws (bt s e) = false := by rw [he]; rfl
 have hput := put_last es ky x (fun p hp => by
  have hk : p.1 ∈ dk := by rw [← h.keys]; exact List.mem_map_of_mem hp
  unfold Rise at hrise; rw [h.allk, List.pairwise_append] at hrise; exact hrise.2.2 p.1 hk ky (by simp))
 have hlen := h.len; refine ⟨⟨j', dk ++ [ky], done ++ [u], rk, rest, es ++ [(ky, x)], hrd, by rw [h.allk]; simp, by rw [h.all]; simp, Or.inr ⟨by simp, ?_⟩, ?_, by simp [h.keys], by simp [hlen], ?_, kp, hjs, by omega⟩, ?_⟩
 · rcases hrest with ⟨r1, r1b, r2⟩ | ⟨c, r1, r2, r3⟩
   · exact Or.inl ⟨r1, r1b, fit e r2 hes hws⟩
   · have := r3.le (fun a b w hw => (Tx.start hw).1)
     exact Or.inr ⟨c, fit c r1 (by omega) (by rw [r2]; rfl), r2, r3⟩
 · unfold MapIs
   rw [← hput]; simpa using ho
 ·
  intro i hi hi'; by_cases hlt : i < done.length
  · have := h.reps i hlt (by omega)
    have e1 : (es ++ [(ky, x)])[i] = es[i]'(by omega) := List.getElem_append_left (by omega); rw [e1, List.getElem_append_left hlt]; exact this.keep (by omega) keep0
  ·
   have hi2 : i = done.length := by simp at hi; omega
   subst hi2; have e1 : (es ++ [(ky, x)])[done.length] = (ky, x) := by
    rw [List.getElem_append_right (by omega)]; simp [hlen]
   have e2 : (done ++ [u])[done.length] = u := by
    rw [List.getElem_append_right (by omega)]; simp
   rw [e1, e2]; exact hx.keep (by omega) keep1
 · rw [rdPos_of hrd, rdPos_of h.rd]
   have := hj.1; have := h.ks'; omega
theorem MInv.done {S : NumSem} {n : Nat} {w : World} {b : Nat} {s : ByteArray} {a e : Nat} {v : JV} {r : Nat} {wr w' : World} {k : Nat} {dk : List ByteArray} {done : List JV} {es : List (ByteArray × Value)}
  (h : MInv S n w b s a e v.ks v.l r wr k dk done [] [] es) (hk : v.kind = 7) (hbw : b < w.heap.size) (k1 : Kp [b] wr w') : AnyRep (n + 1) (Made w w') w' (.iface 55 (.map (some r))) v := by
 have hv : v.l = done := by rw [h.all]; simp
 have hks : v.ks = dk := by rw [h.allk]; simp
 have s1 := k1.size; have hrb := h.rb; refine Or.inr (Or.inr (Or.inr (Or.inr (Or.inr (Or.inr ⟨hk, r, done.length, es, rfl, ⟨by omega, by omega⟩, by omega, ?_, by rw [hks]; exact h.keys, by rw [hv]; exact h.len, ?_⟩)))))
 · exact h.map.heap (k1.block r hrb.2 (by simp; omega))
 · rw [hv]
   intro i hi hi'; exact (h.reps i hi hi').keep s1 fun g' hg' hgs => ⟨⟨hg'.1, by omega⟩, k1.block g' hgs (by have := hg'.1; simp; omega)⟩
end
section
open Go.RowKit
attribute [local go_sem] bt_eq
theorem MapIs.new (w : World) : MapIs (w.alloc (.map #[] 0)) w.heap.size 0 [] :=
 World.ownsMap_made w Tryz.prog 9 RV
theorem Piece.fits {g : Nat → Nat} {i j r : Nat} (h : Piece g i j r) : i + (utf8 r).length ≤ j + 3 * (j - i) ∧ i < j := by
 have := utf8_len r; rcases h with ⟨_, _, _, _, _, h⟩ | ⟨_, h, _⟩ | ⟨_, h, _⟩ | ⟨_, _, _, _, h, _⟩ <;> omega
theorem StrBody.fits {g : Nat → Nat} {j : Nat} : ∀ {rs : List Nat} {i : Nat}, StrBody g i j rs → i ≤ j ∧ (enc rs).length ≤ 4 * (j - i)
 | [], i, h => by have : i = j := h; subst this; simp [enc]
 | r :: rs, i, ⟨a, h1, h2⟩ => by
  have := h1.fits; have := h2.fits; simp only [enc, List.length_append]; omega
theorem StrAt.fits {g : Nat → Nat} {i j : Nat} {rs : List Nat} (h : StrAt g i j rs) : (enc rs).length ≤ 4 * j := by
 obtain ⟨_, e, h1, _, h2⟩ := h; have := h1.fits; omega
theorem size_of_bytes {k : ByteArray} {l : List Nat} (h : bytesOf k = l) : k.size = l.length := by
 rw [← h]; unfold bytesOf; rw [List.length_map]; rfl
set_option maxRecDepth 100000 in
set_option maxHeartbeats 4000000 in
theorem val_obj (S : NumSem) (n : Nat) (ih : ValDoes S n) (w : World) (b : Nat) (s : ByteArray) (i a e : Nat) (v : JV) (hs : s.size ≤ 1000000) (hr : RdAt w b s i) (he : Env w) (hb : 11 ≤ b)
  (hw : Ws (bt s) i a) (hes : e < s.size) (h1 : bt s a = 123) (h2 : bt s e = 125)
  (h3 : (v.l = [] ∧ v.ks = [] ∧ Ws (bt s) (a + 1) e) ∨ Membs (bt s) (fun a b x => Tx S (bt s) n a b x) (a + 1) e v.ks v.l) (hR : Rise v.ks) (hk : v.kind = 7) :
  Calls Tryz.prog 93 #[.pointer (some ⟨b, 0, none⟩)] w fun e' w' => ∃ x j', e' = .returned x ∧ AnyRep (n + 1) (Made w w') w' x v ∧ Kp [b] w w' ∧ RdAt w' b s (j' : Nat) ∧ Ws (bt s) (e + 1) j' ∧ j' ≤ s.size := by
 have hT : ∀ a b w, Tx S (bt s) n a b w → a < b := fun a b w hw => (Tx.start hw).1
 have hae : a + 1 ≤ e := by
  rcases h3 with ⟨_, _, h⟩ | h
  · exact h.1
  · exact Nat.le_of_lt (h.le hT)
 have has : a < s.size := by omega
 have hcount : v.l.length ≤ s.size := by
  rcases h3 with ⟨h, _⟩ | h
  · rw [h]; simp
  · have := h.count hT; omega
 have HW := hid hw; have HE := hid he; have HR := hid hr; have H2 := hid h2; have H1 := hid h1; have H3 := hid h3; have HK := hid hk; have HRi := hid hR; have IH := hid ih; have HA : Hid (ws (bt s a) = false) := by show _ = _; rw [h1]; rfl
 have c0 := hr.c0; have c1 := hr.c1; have f1 := hr.fr 1; have hbw := hr.lt; have k0 : (0 : Int) ≤ (a : Int) := by omega
 have k1 : (a : Int) < (s.size : Int) := by omega
 have hmm := @run_makeMap Tryz.prog; clear hw he hr h2 h3 hk ih hT hR; go_enter Tryz.func93, Tryz.ntmps93
 go_wp2_with fail
 go_still_tail 12, (by kernel_rfl)
 still_call (skip_q s _ i a _ rfl hs (by omega) HW.out (fun _ => HA.out))
 repeat still_step
 refine wpStill_nil ?_; go_wp2_with fail
 go_quiet (fail)
 go_wp2_with fail
 go_loopw [4] (fun _ wr => ∃ k dk done rk rest es, MInv S n w b s a e v.ks v.l w.heap.size wr k dk done rk rest es) (fun _ wr => s.size - rdPos b wr)
 case atStart =>
  refine ⟨a, [], [], v.ks, v.l, [], ?_, rfl, rfl, Or.inl ⟨rfl, rfl, H3.out⟩, ?_, rfl, rfl, fun i h => absurd h (Nat.not_lt_zero i), ?_, by omega, Nat.le_refl _, ?_⟩
  · have h0 : RdAt ((w.setCell ⟨b, 1, none⟩ (.int .i64 a)).drewN (1 + nq)) b s a := RdAt.same (HR.out.move (y := (a : Int))) rfl
    exact h0.same (Below.heap_alloc _ _ _ h0.lt)
  · have := MapIs.new ((w.setCell ⟨b, 1, none⟩ (.int .i64 a)).drewN (1 + nq))
    simpa [World.setCell] using this
  · exact (((Kp.refl [b] w).setCell (by simp) _).drewN _).alloc _
  · simp [World.setCell]
 case round =>
  obtain ⟨k, dk, done, rk, rest, es, hI⟩ := hrel; have HI := hid hI; rcases hI.step H1.out H2.out hes with ⟨c, p, q, t, d, y, z, u, ky, rs, rk', rest', rfl, rfl, g1, g2, g3, g4, g5, g6, g7, g8, g9, g10, g11, g12, g13, g14, g15, g16, -, g17⟩ | ⟨rfl, rfl, rfl, rfl, g1⟩ | ⟨rfl, rfl, g1⟩
  ·
   have hdy := g10.start.1; have htd := g9.1; have hps : p < s.size := by omega
   have G1 := hid g1; have G3 := hid g3; have G4 := hid g4; have hq34 : bt s p = 34 := g5.1; have G5 := hid g5; have G6 := hid g6; have G7 := hid g7; have G8 := hid g8; have G9 := hid g9; have G10 := hid g10; have G12 := hid g12; have G17 := hid g17; have G20 : Hid (ws (bt s p) = false) := by show _ = _; rw [hq34]; rfl
   have G21 : Hid (bt s p ≠ 93) := by show _ ≠ _; rw [hq34]; decide
   have G22 : Hid (bt s p ≠ 125) := by show _ ≠ _; rw [hq34]; decide
   have G23 : Hid (ws (bt s t) = false) := by show _ = _; rw [g8]; rfl
   have hdl : done.length ≤ 1000000 := by have := congrArg List.length hI.all; simp at this; omega
   clear hI g1 g3 g4 g5 g6 g7 g8 g9 g10 g12 g17 c0 c1 f1 k0 k1 hq34; go_wp2_with fail
   refine (inside_elem wr b s k c p hs HI.out.rd G1.out g2 (by have := G3.out; omega) G4.out hps G20.out G21.out G22.out).mono ?_
   rintro e1 w1 ⟨rfl, k1, r1⟩
   have K1 := hid k1; have R1 := hid r1; have d0 := r1.c0; have d1 := r1.c1; have e1 := r1.fr 1; clear k1 r1; go_wp2_with fail
   go_still_tail 12, (by kernel_rfl)
   still_call (skip_q s _ p p _ rfl hs (by omega) (Ws.self _ _) (fun _ => G20.out))
   repeat still_step
   refine wpStill_nil ?_; go_wp2_with fail
   refine (rtext_is _ b s p q rs hs (by omega) (by exact RdAt.same (R1.out.move (y := (p : Int))) rfl) (by
    refine Env.kp (S := [b]) HE.out (HI.out.kp.trans ?_) (fun x hx => by simp at hx; omega)
    repeat (first | exact K1.out | refine Kp.drewN ?_ _ | refine Kp.drew ?_ | refine Kp.setCell ?_ (by simp) _)) hb G5.out).mono ?_
   rintro e2 w2 ⟨ky', rfl, hky, k2, r2⟩
   have eky : ky' = ky := bytesOf_inj (hky.trans G6.out.symm); subst eky; have K2 : Hid (Kp [b] wr w2) := by
    show Kp _ _ _
    refine Kp.trans ?_ k2
    repeat (first | exact K1.out | refine Kp.drewN ?_ _ | refine Kp.drew ?_ | refine Kp.setCell ?_ (by simp) _)
   have R2 := hid r2; clear d0 d1 e1; have d0 := r2.c0; have d1 := r2.c1; have e1 := r2.fr 1; clear k2 r2 hky; go_wp2_with fail
   go_still_tail 13, (by kernel_rfl)
   still_call (skip_q s _ q t _ rfl hs (by omega) G7.out (fun _ => G23.out))
   repeat still_step
   refine wpStill_nil ?_; go_wp2_with fail
   have hw3 : ∀ y : Int, y = ((t + 1 : Nat) : Int) → ∀ m, RdAt ((w2.setCell ⟨b, 1, none⟩ (.int .i64 y)).drewN m) b s ((t + 1 : Nat) : Int) := fun y hy m => by subst hy; exact RdAt.same R2.out.move rfl
   generalize hW : World.setCell w2 _ _ = w2s at *; have R2s : Hid (RdAt w2s b s ((t + 1 : Nat) : Int)) := by
    show RdAt _ _ _ _
    rw [← hW]; have := R2.out.move (y := (t : Int) + 1); simpa using this
   have KW : Hid (Kp [b] wr w2s) := by
    show Kp _ _ _
    rw [← hW]; exact K2.out.setCell (by simp) _
   have HksZ : ky'.size ≤ maxLen := by
    rw [size_of_bytes G6.out]; have := G5.out.fits; unfold maxLen; omega
   clear hw3 hW d0 d1 e1; refine (IH.out _ b s (t + 1) d y u hs (by exact RdAt.same R2s.out rfl) (by
    refine Env.kp (S := [b]) HE.out (HI.out.kp.trans ?_) (fun x hx => by simp at hx; omega); exact KW.out.drew) hb G9.out G10.out (by omega) G12.out).mono ?_
   rintro e3 w3 ⟨x, j', rfl, hx, k3, r3, hj, hjs⟩
   have K3 := hid k3; have R3 := hid r3; have HX := hid hx; have HJ := hid hj; have HM : Hid (MapIs w3 w.heap.size done.length es) := by
    show MapIs _ _ _ _
    have := HI.out.rb; have s1 := KW.out.size; have h1 : w2s.heap[w.heap.size]? = wr.heap[w.heap.size]? := KW.out.block _ this.2 (by simp; omega); have h2 : w3.heap[w.heap.size]? = w2s.drew.heap[w.heap.size]? := K3.out.block _ (by show _ < w2s.heap.size; omega) (by simp; omega); exact (HI.out.map.heap (h1)).heap (h2)
   clear k3 r3 hx hj; go_wp2_with (at_mapUpdate; go_must (refine wpList_mapUpdate_own _ rfl _ _ _ 55 rfl 9 20 strKeyed Tryz.underlying55 RV w.heap.size done.length (.map (es.map entry)) rfl HM.out (by unfold maxLen; omega) (.string ky') _ (.string ky'.data.toList) rfl rfl (keyOf_str _ HksZ) (.held x) [] rfl ?_); intro w4 ho hg; have HO := hid ho; have HG := hid hg; clear ho hg)
   have hbw' : b < w2s.drew.heap.size := R2s.out.lt; have HNX := HI.out.next HRi.out hbw (KW.out.drew) K3.out HX.out HO.out HG.out
    (RdAt.same R3.out (HG.out.block b R3.out.lt (fun e => by have := Option.some.inj e; omega)))
    (((HI.out.kp.trans KW.out.drew).trans K3.out).grown HG.out (fun g e => by have := Option.some.inj e; omega)) HJ.out hjs g13 hes H2.out G17.out
   exact ⟨⟨_, _, _, _, _, _, _, _, _, _, _, _, _, _, _, _, _, _, _, _, _, _, _, _, _, _, _, _, _, _, _, _, _, _, HNX.1, rfl⟩, HNX.2⟩
  ·
   have G1 := hid g1; clear hI g1 c0 c1 f1 k0 k1; go_wp2_with fail
   refine (inside_none wr b s k k e hs HI.out.rd (Ws.self _ _) has (Or.inr H1.out) G1.out hes (by rw [H1.out]; exact H2.out)).mono ?_
   rintro e1 w1 ⟨rfl, k1, r1⟩
   have K1 := hid k1; have R1 := hid r1; clear k1 r1; go_wp2_with fail
   go_ret; exact ⟨_, e + 1, rfl, HI.out.done HK.out hbw K1.out, HI.out.kp.trans K1.out, R1.out, Ws.self _ _, by omega⟩
  ·
   obtain ⟨p, p1, p2, p3⟩ := ws_end s (s.size - (e + 1)) (e + 1) (by omega); have G1 := hid g1; have P1 := hid p1; have P3 := hid p3; clear hI g1 p1 p3 c0 c1 f1 k0 k1; go_wp2_with fail
   refine (inside_close wr b s k e p hs HI.out.rd G1.out hes (Or.inr H2.out) P1.out p2 P3.out).mono ?_
   rintro e1 w1 ⟨rfl, k1, r1⟩
   have K1 := hid k1; have R1 := hid r1; clear k1 r1; go_wp2_with fail
   go_ret; exact ⟨_, p, rfl, HI.out.done HK.out hbw K1.out, HI.out.kp.trans K1.out, R1.out, P1.out, p2⟩
end
end Go.Proofs.YtljaoopfomcaoaaGreatDoor
