import Derived.Test.YtljaoopfomcaoaaGreatDoorM01
set_option linter.all false
open Go.Lib (hid)
namespace Go.Proofs.YtljaoopfomcaoaaGreatDoor
section
open Go.RowKit
attribute [local go_sem] bt_eq
def ScanDoes (S : NumSem) (n : Nat) : Prop :=
 ∀ (s : ByteArray) (i a j : Nat) (v : JV) (x dp : Int) (w : World), s.size ≤ 1000000 → x = (i : Int) → Ws (bt s) i a → Tx S (bt s) n a j v → j ≤ s.size → NumStop s j →
  0 ≤ dp → dp + n ≤ 10000 →
  Calls Tryz.prog 92 #[.string s, .int .i64 x, .int .i64 dp] w fun e w' => e = .returned (.tuple #[.int .i64 j, .nilIface]) ∧ ∃ m, w' = w.drewN m
theorem skip_int (s : ByteArray) (x : Int) (i j : Nat) (w : World) (hx : x = (i : Int)) (hs : s.size ≤ 1000000) (hj : j ≤ s.size) (hw : Ws (bt s) i j) (he : j < s.size → ws (bt s j) = false) :
  Calls Tryz.prog 128 #[.string s, .int .i64 x] w fun e w' => e = .returned (.int .i64 j) ∧ w = w' := by
 rw [hx]; exact skip_to s i j w hs hj hw he
theorem word_null (s : ByteArray) (a j : Nat) (w : World) (hs : s.size ≤ 1000000) (h : At (bt s) a [110, 117, 108, 108]) (hj : j = a + 4) (hjs : j ≤ s.size) :
  Calls Tryz.prog 131 #[.string s, .int .i64 a, .string { data := #[110, 117, 108, 108] }] w fun e w' => e = .returned (.tuple #[.int .i64 j, .nilIface]) ∧ ∃ m, w' = w.drewN m := by
 subst hj; refine (scanWord_to s { data := #[110, 117, 108, 108] } a w hs hjs fun k hk => ?_).mono fun e w' h => h
 have := h k hk; rw [this]; rcases (show k = 0 ∨ k = 1 ∨ k = 2 ∨ k = 3 from by have : k < 4 := hk; omega) with rfl | rfl | rfl | rfl; all_goals rfl
theorem word_true (s : ByteArray) (a j : Nat) (w : World) (hs : s.size ≤ 1000000) (h : At (bt s) a [116, 114, 117, 101]) (hj : j = a + 4) (hjs : j ≤ s.size) :
  Calls Tryz.prog 131 #[.string s, .int .i64 a, .string { data := #[116, 114, 117, 101] }] w fun e w' => e = .returned (.tuple #[.int .i64 j, .nilIface]) ∧ ∃ m, w' = w.drewN m := by
 subst hj; refine (scanWord_to s { data := #[116, 114, 117, 101] } a w hs hjs fun k hk => ?_).mono fun e w' h => h
 have := h k hk; rw [this]; rcases (show k = 0 ∨ k = 1 ∨ k = 2 ∨ k = 3 from by have : k < 4 := hk; omega) with rfl | rfl | rfl | rfl; all_goals rfl
theorem word_false (s : ByteArray) (a j : Nat) (w : World) (hs : s.size ≤ 1000000) (h : At (bt s) a [102, 97, 108, 115, 101]) (hj : j = a + 5) (hjs : j ≤ s.size) :
  Calls Tryz.prog 131 #[.string s, .int .i64 a, .string { data := #[102, 97, 108, 115, 101] }] w fun e w' => e = .returned (.tuple #[.int .i64 j, .nilIface]) ∧ ∃ m, w' = w.drewN m := by
 subst hj; refine (scanWord_to s { data := #[102, 97, 108, 115, 101] } a w hs hjs fun k hk => ?_).mono fun e w' h => h
 have := h k hk; rw [this]; rcases (show k = 0 ∨ k = 1 ∨ k = 2 ∨ k = 3 ∨ k = 4 from by have : k < 5 := hk; omega) with rfl | rfl | rfl | rfl | rfl; all_goals rfl
set_option maxRecDepth 100000 in
set_option maxHeartbeats 2000000 in
theorem scan_scalar (S : NumSem) (n : Nat) (s : ByteArray) (i a j : Nat) (v : JV) (x dp : Int) (w : World) (hs : s.size ≤ 1000000) (hx : x = (i : Int)) (hw : Ws (bt s) i a)
  (hj : j ≤ s.size) (hst : NumStop s j) (hT : Tx S (bt s) (n + 1) a j v)
  (hk : v.kind ≠ 6 ∧ v.kind ≠ 7) :
  Calls Tryz.prog 92 #[.string s, .int .i64 x, .int .i64 dp] w fun e w' => e = .returned (.tuple #[.int .i64 j, .nilIface]) ∧ ∃ m, w' = w.drewN m := by
 obtain ⟨haj, hws, _, _⟩ := hT.start; have has : a < s.size := by omega
 have HW := hid hw; have HX := hid hx; have HE : Hid (ws (bt s a) = false) := hws; have q0 : ((a : Int) == (s.size : Int)) = false := by simp; omega
 clear hw hx hws; rcases hT with ⟨h, e, _⟩ | ⟨h, e, _⟩ | ⟨h, e, _⟩ | ⟨m, hm, h, e, _⟩ | ⟨rs, h, _⟩ | ⟨e, h1, h2, h3, h4, h5⟩ | ⟨e, h1, h2, h3, h4, h5⟩
 ·
  have g0 : bt s a = 110 := (At_cons.1 h).1; have HA := hid h; have HJ := hid e; clear h e; go_enter Tryz.func92, Tryz.ntmps92
  go_wp2_with fail
  refine (skip_int s x i a _ HX.out hs (by omega) HW.out (fun _ => HE.out)).mono ?_
  rintro e' w1 ⟨rfl, rfl⟩
  go_wp2_with fail
  refine (word_null s a j _ hs HA.out HJ.out hj).mono ?_
  rintro e' w1 ⟨rfl, m, rfl⟩
  go_wp2_with fail
  go_ret2
  exact ⟨rfl, m, rfl⟩
 ·
  have g0 : bt s a = 116 := (At_cons.1 h).1; have HA := hid h; have HJ := hid e; clear h e; go_enter Tryz.func92, Tryz.ntmps92
  go_wp2_with fail
  refine (skip_int s x i a _ HX.out hs (by omega) HW.out (fun _ => HE.out)).mono ?_
  rintro e' w1 ⟨rfl, rfl⟩
  go_wp2_with fail
  refine (word_true s a j _ hs HA.out HJ.out hj).mono ?_
  rintro e' w1 ⟨rfl, m, rfl⟩
  go_wp2_with fail
  go_ret2
  exact ⟨rfl, m, rfl⟩
 ·
  have g0 : bt s a = 102 := (At_cons.1 h).1; have HA := hid h; have HJ := hid e; clear h e; go_enter Tryz.func92, Tryz.ntmps92
  go_wp2_with fail
  refine (skip_int s x i a _ HX.out hs (by omega) HW.out (fun _ => HE.out)).mono ?_
  rintro e' w1 ⟨rfl, rfl⟩
  go_wp2_with fail
  refine (word_false s a j _ hs HA.out HJ.out hj).mono ?_
  rintro e' w1 ⟨rfl, m, rfl⟩
  go_wp2_with fail
  go_ret2
  exact ⟨rfl, m, rfl⟩
 ·
  obtain ⟨p, q, r, hp⟩ := Num.pos (m := m) hm h e hj hst; have hstart := (Num.start hm h).2; have HP := hid hp; have g1 := beq_not (k := 123) (c := bt s a) (by omega); have g2 := beq_not (k := 91) (c := bt s a) (by omega); have g3 := beq_not (k := 34) (c := bt s a) (by omega); have g4 := beq_not (k := 116) (c := bt s a) (by omega); have g5 := beq_not (k := 102) (c := bt s a) (by omega); have g6 := beq_not (k := 110) (c := bt s a) (by omega); clear h e hp hm hst hstart; go_enter Tryz.func92, Tryz.ntmps92
  go_wp2_with fail
  refine (skip_int s x i a _ HX.out hs (by omega) HW.out (fun _ => HE.out)).mono ?_
  rintro e' w1 ⟨rfl, rfl⟩
  go_wp2_with fail
  refine (scanNumber_to s a p q r j _ hs hj HP.out).mono ?_
  rintro e' w1 ⟨rfl, rfl⟩
  go_wp2_with fail
  go_ret2
  exact ⟨rfl, 0, rfl⟩
 ·
  obtain ⟨m, f, h1, h2, h3, h4, h5⟩ := h.steps; have H1 := hid h1; have H2 := hid h2; have H3 := hid h3; have H4 := hid h4; clear h h2 h3 h4 hst; go_enter Tryz.func92, Tryz.ntmps92
  go_wp2_with fail
  refine (skip_int s x i a _ HX.out hs (by omega) HW.out (fun _ => HE.out)).mono ?_
  rintro e' w1 ⟨rfl, rfl⟩
  go_wp2_with fail
  refine (scanString_to s a f j m _ hs (by have := H4.out; omega) H1.out H2.out H3.out H4.out).mono ?_
  rintro e' w1 ⟨rfl, rfl⟩
  go_wp2_with fail
  go_ret2
  exact ⟨rfl, 0, rfl⟩
 · exact absurd h5 hk.1
 · exact absurd h5.1 hk.2
end
section
open Go.RowKit
attribute [local go_sem] bt_eq
theorem Elems.head {g : Nat → Nat} {T : Nat → Nat → JV → Prop} : ∀ {vs : List JV} {i j : Nat}, Elems g T i j vs → ∃ a b v, Ws g i a ∧ T a b v ∧
  ((Ws g b j ∧ vs = [v]) ∨ ∃ c us, Ws g b c ∧ g c = 44 ∧ Elems g T (c + 1) j us ∧ vs = v :: us)
 | [], _, _, h => absurd h (by simp [Elems])
 | [v], i, j, ⟨a, b, h1, h2, h3⟩ => ⟨a, b, v, h1, h2, Or.inl ⟨h3, rfl⟩⟩
 | v :: u :: vs, i, j, ⟨a, b, c, h1, h2, h3, h4, h5⟩ => ⟨a, b, v, h1, h2, Or.inr ⟨c, u :: vs, h3, h4, h5, rfl⟩⟩
theorem Ws.tail {g : Nat → Nat} {i j : Nat} (h : Ws g i j) : Ws g j j := ⟨Nat.le_refl _, fun k h1 h2 => by omega⟩
theorem Elems.skip {g : Nat → Nat} {T : Nat → Nat → JV → Prop} : ∀ {vs : List JV} {i j : Nat}, Elems g T i j vs → ∃ a b v, Ws g i a ∧ T a b v ∧ Elems g T a j vs
 | [], _, _, h => absurd h (by simp [Elems])
 | [v], i, j, ⟨a, b, h1, h2, h3⟩ => ⟨a, b, v, h1, h2, a, b, h1.tail, h2, h3⟩
 | v :: u :: vs, i, j, ⟨a, b, c, h1, h2, h3, h4, h5⟩ => ⟨a, b, v, h1, h2, a, b, c, h1.tail, h2, h3, h4, h5⟩
theorem ws_stop {s : ByteArray} {b c : Nat} (h : Ws (bt s) b c) (hc : bt s c = 44 ∨ bt s c = 93 ∨ bt s c = 125) : NumStop s b := by
 right
 by_cases e : b = c
 · subst e; unfold dig; simp; omega
 · have := h.2 b (Nat.le_refl _) (by have := h.1; omega)
   simp [ws] at this; unfold dig; simp; omega
set_option maxRecDepth 100000 in
set_option maxHeartbeats 2000000 in
theorem scan_list (S : NumSem) (n : Nat) (ih : ScanDoes S n) (s : ByteArray) (i a e : Nat) (vs : List JV) (x dp : Int) (w : World) (hs : s.size ≤ 1000000) (hx : x = (i : Int)) (hw : Ws (bt s) i a)
  (hj : e < s.size) (h1 : bt s a = 91) (h2 : bt s e = 93) (h3 : (vs = [] ∧ Ws (bt s) (a + 1) e) ∨ Elems (bt s) (fun a b x => Tx S (bt s) n a b x) (a + 1) e vs)
  (hd0 : 0 ≤ dp) (hd : dp + n < 10000) :
  Calls Tryz.prog 92 #[.string s, .int .i64 x, .int .i64 dp] w fun e' w' => e' = .returned (.tuple #[.int .i64 ((e + 1 : Nat) : Int), .nilIface]) ∧ ∃ m, w' = w.drewN m := by
 have hT : ∀ a b w, Tx S (bt s) n a b w → a < b := fun a b w hw => (Tx.start hw).1
 have hae : a + 1 ≤ e := by
  rcases h3 with ⟨_, h⟩ | h
  · exact h.1
  · exact Nat.le_of_lt (h.le hT)
 have has : a < s.size := by omega
 have HW := hid hw; have HX := hid hx; have HE : Hid (ws (bt s a) = false) := by show _ = _; rw [h1]; rfl
 have H2 := hid h2; have q0 : ((a : Int) == (s.size : Int)) = false := by simp; omega
 have q1 : (dp == 10000) = false := by simp; omega
 have qT := hid hT; have IH := hid ih; clear hw hx h2 hT ih; rcases h3 with ⟨_, h3⟩ | h3
 ·
  have H3 := hid h3; clear h3; go_enter Tryz.func92, Tryz.ntmps92
  go_wp2_with fail
  refine (skip_int s x i a _ HX.out hs (by omega) HW.out (fun _ => HE.out)).mono ?_
  rintro e' w1 ⟨rfl, rfl⟩
  go_wp2_with fail
  refine (skip_int s _ (a + 1) e _ (by omega) hs (by omega) H3.out (fun _ => by rw [H2.out]; rfl)).mono ?_
  rintro e' w1 ⟨rfl, rfl⟩
  have g2 : bt s e = 93 := H2.out; go_wp2_with fail
  go_ret2
  exact ⟨rfl, 0, rfl⟩
 ·
  obtain ⟨b, c, u, k1, k2, k3⟩ := h3.skip; have k2' := k2.start; have hbe := k3.le qT.out; have H3 := hid h3; have K1 := hid k1; have K2 : Hid (ws (bt s b) = false) := k2'.2.1; have K3 := hid k3; have q3 : ((bt s b : Int) == 93) = false := beq_not (by have := k2'.2.2.1; omega); clear h3 k1 k2 k3 k2'; go_enter Tryz.func92, Tryz.ntmps92
  go_wp2_with fail
  refine (skip_int s x i a _ HX.out hs (by omega) HW.out (fun _ => HE.out)).mono ?_
  rintro e' w1 ⟨rfl, rfl⟩
  go_wp2_with fail
  refine (skip_int s _ (a + 1) b _ (by omega) hs (by omega) K1.out (fun _ => K2.out)).mono ?_
  rintro e' w1 ⟨rfl, rfl⟩
  go_wp2_with fail
  clear q3; go_loopw [1] (fun v wr => ∃ (m k : Nat) (us : List JV), wr = w.drewN m ∧ Elems (bt s) (fun a b x => Tx S (bt s) n a b x) k e us ∧ v = .int .i64 k) (fun v _ => s.size - (intOf v).toNat)
  case atStart => exact ⟨0, b, vs, rfl, K3.out, rfl⟩
  case round =>
   obtain ⟨m, k, us, rfl, hm, rfl⟩ := hrel; have hke := hm.le qT.out; obtain ⟨p, q, u', k1, k2, k3⟩ := hm.head; have hpq := k2.start.1; have hkp := k1.1; have L1 := hid k1; have L2 := hid k2; rcases k3 with ⟨k3, rfl⟩ | ⟨r, us', k3, k4, k5, rfl⟩
   ·
    have hqe := k3.1; have L3 := hid k3; clear k1 k2 k3 hm; go_wp2_with fail
    refine (IH.out s k p q u' _ _ _ hs rfl L1.out L2.out (by omega) (ws_stop L3.out (by have := H2.out; omega)) (by omega) (by omega)).mono ?_
    rintro e' w1 ⟨rfl, m2, rfl⟩
    go_wp2_with fail
    refine (skip_int s _ q e _ rfl hs (by omega) L3.out (fun _ => by rw [H2.out]; rfl)).mono ?_
    rintro e' w1 ⟨rfl, rfl⟩
    have g2 : bt s e = 93 := H2.out; go_wp2_with fail
    go_ret2
    exact ⟨rfl, _, rfl⟩
   ·
    have hqr := k3.1; have hre := k5.le qT.out; have L3 := hid k3; have L4 := hid k4; have L5 := hid k5; clear k1 k2 k3 k4 k5 hm; go_wp2_with fail
    refine (IH.out s k p q u' _ _ _ hs rfl L1.out L2.out (by omega) (ws_stop L3.out (by have := L4.out; omega)) (by omega) (by omega)).mono ?_
    rintro e' w1 ⟨rfl, m2, rfl⟩
    go_wp2_with fail
    refine (skip_int s _ q r _ rfl hs (by omega) L3.out (fun _ => by rw [L4.out]; rfl)).mono ?_
    rintro e' w1 ⟨rfl, rfl⟩
    have g2 : bt s r = 44 := L4.out; have q4 : ((r : Int) == (s.size : Int)) = false := by simp; omega
    go_wp2_with fail
    exact ⟨⟨_, r + 1, us', rfl, L5.out, by go_num⟩, by simp [intOf]; omega⟩
theorem Membs.head {g : Nat → Nat} {T : Nat → Nat → JV → Prop} {ks : List ByteArray} {vs : List JV} {i j : Nat} (h : Membs g T i j ks vs) :
  ∃ k ks' v vs' a b c d e rs, ks = k :: ks' ∧ vs = v :: vs' ∧ Ws g i a ∧ StrAt g a b rs ∧ bytesOf k = enc rs ∧ Ws g b c ∧ g c = 58 ∧ Ws g (c + 1) d ∧ T d e v ∧
  ((Ws g e j ∧ ks' = [] ∧ vs' = []) ∨ ∃ f, Ws g e f ∧ g f = 44 ∧ Membs g T (f + 1) j ks' vs') := by
 match ks, vs, h with
 | [], _, h => exact absurd h (by simp [Membs])
 | [k], [], h => exact absurd h (by simp [Membs])
 | [k], [v], ⟨a, b, c, d, e, rs, h1, h2, h3, h4, h5, h6, h7, h8⟩ =>
  exact ⟨k, [], v, [], a, b, c, d, e, rs, rfl, rfl, h1, h2, h3, h4, h5, h6, h7, Or.inl ⟨h8, rfl, rfl⟩⟩
 | [k], v :: u :: vs, h =>
  obtain ⟨a, b, c, d, e, f, rs, h1, h2, h3, h4, h5, h6, h7, h8, h9, h10⟩ := h; simp [Membs] at h10
 | k :: k' :: ks, [], h => exact absurd h (by simp [Membs])
 | k :: k' :: ks, v :: vs, h =>
  have h' : ∃ a b c d e f rs, Ws g i a ∧ StrAt g a b rs ∧ bytesOf k = enc rs ∧ Ws g b c ∧ g c = 58 ∧ Ws g (c + 1) d ∧ T d e v ∧ Ws g e f ∧
   g f = 44 ∧ Membs g T (f + 1) j (k' :: ks) vs := by cases vs <;> exact h
  obtain ⟨a, b, c, d, e, f, rs, h1, h2, h3, h4, h5, h6, h7, h8, h9, h10⟩ := h'; exact ⟨k, k' :: ks, v, vs, a, b, c, d, e, rs, rfl, rfl, h1, h2, h3, h4, h5, h6, h7, Or.inr ⟨f, h8, h9, h10⟩⟩
theorem Membs.start {g : Nat → Nat} {T : Nat → Nat → JV → Prop} {ks : List ByteArray} {vs : List JV} {i j a : Nat} (h : Membs g T i j ks vs) (hw : Ws g i a) (ha : ws (g a) = false) : Membs g T a j ks vs := by
 have fit : ∀ a', Ws g i a' → g a' = 34 → Ws g a a' := fun a' h1 h2 => by
  have : a ≤ a' := by
   rcases Nat.lt_or_ge a' a with c | c
   · have := hw.2 a' h1.1 c
     rw [h2] at this; cases this
   · exact c
  exact ⟨this, fun k k1 k2 => h1.2 k (by have := hw.1; omega) k2⟩
 match ks, vs, h with
 | [], _, h => exact absurd h (by simp [Membs])
 | [k], [], h => exact absurd h (by simp [Membs])
 | [k], [v], ⟨a, b, c, d, e, rs, h1, h2, h3⟩ => exact ⟨a, b, c, d, e, rs, fit a h1 h2.1, h2, h3⟩
 | [k], v :: u :: vs, ⟨a, b, c, d, e, f, rs, h1, h2, h3⟩ => exact ⟨a, b, c, d, e, f, rs, fit a h1 h2.1, h2, h3⟩
 | k :: k' :: ks, [], h => exact absurd h (by simp [Membs])
 | k :: k' :: ks, v :: vs, h =>
  cases vs with
  | nil => obtain ⟨a, b, c, d, e, f, rs, h1, h2, h3⟩ := h; exact ⟨a, b, c, d, e, f, rs, fit a h1 h2.1, h2, h3⟩
  | cons u us => obtain ⟨a, b, c, d, e, f, rs, h1, h2, h3⟩ := h; exact ⟨a, b, c, d, e, f, rs, fit a h1 h2.1, h2, h3⟩
theorem scanStr_to (s : ByteArray) (x : Int) (i j : Nat) (rs : List Nat) (w : World) (hx : x = (i : Int)) (hs : s.size ≤ 1000000) (hj : j ≤ s.size) (h : StrAt (bt s) i j rs) :
  Calls Tryz.prog 129 #[.string s, .int .i64 x] w fun e w' => e = .returned (.tuple #[.int .i64 j, .nilIface]) ∧ w = w' := by
 obtain ⟨m, f, h1, h2, h3, h4, h5⟩ := h.steps; rw [hx]; exact scanString_to s i f j m w hs (by omega) h1 h2 h3 h4
set_option maxRecDepth 100000 in
set_option maxHeartbeats 4000000 in
theorem scan_obj (S : NumSem) (n : Nat) (ih : ScanDoes S n) (s : ByteArray) (i a e : Nat) (ks : List ByteArray) (vs : List JV) (x dp : Int) (w : World) (hs : s.size ≤ 1000000) (hx : x = (i : Int)) (hw : Ws (bt s) i a)
  (hj : e < s.size) (h1 : bt s a = 123) (h2 : bt s e = 125) (h3 : (vs = [] ∧ ks = [] ∧ Ws (bt s) (a + 1) e) ∨ Membs (bt s) (fun a b x => Tx S (bt s) n a b x) (a + 1) e ks vs)
  (hd0 : 0 ≤ dp) (hd : dp + n < 10000) :
  Calls Tryz.prog 92 #[.string s, .int .i64 x, .int .i64 dp] w fun e' w' => e' = .returned (.tuple #[.int .i64 ((e + 1 : Nat) : Int), .nilIface]) ∧ ∃ m, w' = w.drewN m := by
 have hT : ∀ a b w, Tx S (bt s) n a b w → a < b := fun a b w hw => (Tx.start hw).1
 have hae : a + 1 ≤ e := by
  rcases h3 with ⟨_, _, h⟩ | h
  · exact h.1
  · exact Nat.le_of_lt (h.le hT)
 have has : a < s.size := by omega
 have HW := hid hw; have HX := hid hx; have HE : Hid (ws (bt s a) = false) := by show _ = _; rw [h1]; rfl
 have H2 := hid h2; have q0 : ((a : Int) == (s.size : Int)) = false := by simp; omega
 have q1 : (dp == 10000) = false := by simp; omega
 have qT := hid hT; have IH := hid ih; clear hw hx h2 hT ih; rcases h3 with ⟨_, _, h3⟩ | h3
 ·
  have H3 := hid h3; clear h3; go_enter Tryz.func92, Tryz.ntmps92
  go_wp2_with fail
  refine (skip_int s x i a _ HX.out hs (by omega) HW.out (fun _ => HE.out)).mono ?_
  rintro e' w1 ⟨rfl, rfl⟩
  go_wp2_with fail
  refine (skip_int s _ (a + 1) e _ (by omega) hs (by omega) H3.out (fun _ => by rw [H2.out]; rfl)).mono ?_
  rintro e' w1 ⟨rfl, rfl⟩
  have g2 : bt s e = 125 := H2.out; go_wp2_with fail
  go_ret2
  exact ⟨rfl, 0, rfl⟩
 ·
  obtain ⟨_, _, _, _, b, _, _, _, _, rs, _, _, k1, k2, _⟩ := h3.head; have kb : bt s b = 34 := k2.1; have k3 := h3.start k1 (by rw [kb]; rfl); have hbe := k3.le qT.out; have K1 := hid k1; have K3 := hid k3; have K2 := hid kb; have q3 : ((bt s b : Int) == 125) = false := beq_not (by omega); clear h3 k1 k2 k3 kb; go_enter Tryz.func92, Tryz.ntmps92
  go_wp2_with fail
  refine (skip_int s x i a _ HX.out hs (by omega) HW.out (fun _ => HE.out)).mono ?_
  rintro e' w1 ⟨rfl, rfl⟩
  go_wp2_with fail
  refine (skip_int s _ (a + 1) b _ (by omega) hs (by omega) K1.out (fun _ => by rw [K2.out]; rfl)).mono ?_
  rintro e' w1 ⟨rfl, rfl⟩
  go_wp2_with fail
  clear q3; go_loopw [1] (fun v wr => ∃ (m k : Nat) (us : List ByteArray) (xs : List JV), wr = w.drewN m ∧ Membs (bt s) (fun a b x => Tx S (bt s) n a b x) k e us xs ∧ v = .int .i64 k) (fun v _ => s.size - (intOf v).toNat)
  case atStart => exact ⟨0, b, ks, vs, rfl, K3.out, rfl⟩
  case round =>
   obtain ⟨m, k, us, xs, rfl, hm, rfl⟩ := hrel; have hke := hm.le qT.out; obtain ⟨ky, kys, v', vs', p, q, r, t, y, rs', rfl, rfl, k1, k2, _, k4, k5, k6, k7, k8⟩ := hm.head; have hpq : p < q := by obtain ⟨_, _, _, _, _, _, _⟩ := k2.steps; omega
   have hqr := k4.1; have hrt := k6.1; have hty := k7.start.1; have hkp := k1.1; have hye : y ≤ e := by
    rcases k8 with ⟨k8, _⟩ | ⟨f, k8, k9, k10⟩
    · exact k8.1
    · have := k8.1; have := k10.le qT.out; omega
   have L1 := hid k1; have L2 := hid k2; have L4 := hid k4; have L5 := hid k5; have L6 := hid k6; have L7 := hid k7; have hst : NumStop s y := by
    rcases k8 with ⟨k8, _⟩ | ⟨f, k8, k9, k10⟩
    · exact ws_stop k8 (by have := H2.out; omega)
    · exact ws_stop k8 (by omega)
   have L8 := hid k8; have LS := hid hst; clear k1 k2 k4 k5 k6 k7 k8 hm hst; go_wp2_with fail
   refine (skip_int s _ k p _ rfl hs (by omega) L1.out (fun _ => by rw [L2.out.1]; rfl)).mono ?_
   rintro e' w1 ⟨rfl, rfl⟩
   go_wp2_with fail
   refine (scanStr_to s _ p q rs' _ rfl hs (by omega) L2.out).mono ?_
   rintro e' w1 ⟨rfl, rfl⟩
   go_wp2_with fail
   refine (skip_int s _ q r _ rfl hs (by omega) L4.out (fun _ => by rw [L5.out]; rfl)).mono ?_
   rintro e' w1 ⟨rfl, rfl⟩
   have g5 : bt s r = 58 := L5.out; have q4 : ((r : Int) == (s.size : Int)) = false := by simp; omega
   go_wp2_with fail
   refine (IH.out s (r + 1) t y v' _ _ _ hs (by omega) L6.out L7.out (by omega) LS.out (by omega) (by omega)).mono ?_
   rintro e' w1 ⟨rfl, m2, rfl⟩
   clear g5 q4; rcases L8.out with ⟨k8, _, _⟩ | ⟨f, k8, k9, k10⟩
   ·
    have K8 := hid k8; clear k8; go_wp2_with fail
    refine (skip_int s _ y e _ rfl hs (by omega) K8.out (fun _ => by rw [H2.out]; rfl)).mono ?_
    rintro e' w1 ⟨rfl, rfl⟩
    have g2 : bt s e = 125 := H2.out; go_wp2_with fail
    go_ret2
    exact ⟨rfl, _, rfl⟩
   ·
    have hyf := k8.1; have hfe := k10.le qT.out; have K8 := hid k8; have K9 := hid k9; have K10 := hid k10; clear k8 k9 k10; go_wp2_with fail
    refine (skip_int s _ y f _ rfl hs (by omega) K8.out (fun _ => by rw [K9.out]; rfl)).mono ?_
    rintro e' w1 ⟨rfl, rfl⟩
    have g2 : bt s f = 44 := K9.out; have q4 : ((f : Int) == (s.size : Int)) = false := by simp; omega
    go_wp2_with fail
    exact ⟨⟨_, f + 1, kys, vs', rfl, K10.out, by go_num⟩, by simp [intOf]; omega⟩
theorem scan_does (S : NumSem) : ∀ n, ScanDoes S n
 | 0 => fun _ _ _ _ _ _ _ _ _ _ _ h => absurd h (by simp [Tx])
 | n + 1 => fun s i a j v x dp w hs hx hw hT hj hst hd0 hd => by
  have hdn : ((n + 1 : Nat) : Int) = (n : Int) + 1 := by omega
  rw [hdn] at hd; have ih := scan_does S n; by_cases hk : v.kind ≠ 6 ∧ v.kind ≠ 7
  · exact scan_scalar S n s i a j v x dp w hs hx hw hj hst hT hk
  ·
   have hT' := hT; rcases hT' with ⟨h, e, g⟩ | ⟨h, e, g, _⟩ | ⟨h, e, g, _⟩ | ⟨m, hm, h, e, _, g⟩ | ⟨rs, h, _, g⟩ | ⟨e, h1, h2, h3, h4, h5⟩ | ⟨e, h1, h2, h3, h4, h5, _⟩
   · exact absurd (by omega) hk
   · exact absurd (by omega) hk
   · exact absurd (by omega) hk
   · exact absurd (by omega) hk
   · exact absurd (by omega) hk
   · rw [h3]; exact scan_list S n ih s i a e v.l x dp w hs hx hw (by omega) h1 h2 h4 hd0 (by omega)
   · rw [h3]; exact scan_obj S n ih s i a e v.ks v.l x dp w hs hx hw (by omega) h1 h2 h4 hd0 (by omega)
end
end Go.Proofs.YtljaoopfomcaoaaGreatDoor
