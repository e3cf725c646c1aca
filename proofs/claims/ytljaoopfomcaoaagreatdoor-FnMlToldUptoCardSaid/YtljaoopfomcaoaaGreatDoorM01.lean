import Derived.Test.YtljaoopfomcaoaaGreatDoorProg
import Derived.WalkKit
import Derived.WalkSpells
import Derived.WalkLawsBesides
import Derived.Lib.Hide
import Derived.OneCell
import Derived.Deep.QuietTactic
import Derived.BigQuiet
import Derived.Outline
import Derived.Handy
import Derived.Deep.DeepCutAuto
import Derived.Deep.CutBlock
import Derived.Test.YtljaoopfomcaoaaGreatDoorM00
set_option linter.all false
open Go.Lib (hid)
namespace Go.Proofs.YtljaoopfomcaoaaGreatDoor
section
open Go.RowKit
structure Kp (S : List Nat) (w w' : World) : Prop where
 os : w'.os = w.os
 tape : w'.tape = w.tape
 output : w'.output = w.output
 size : w.heap.size ≤ w'.heap.size
 block : ∀ k, k < w.heap.size → k ∉ S → w'.heap[k]? = w.heap[k]?
theorem Kp.refl (S : List Nat) (w : World) : Kp S w w := ⟨rfl, rfl, rfl, Nat.le_refl _, fun _ _ _ => rfl⟩
theorem Kp.trans {S : List Nat} {a b c : World} (h : Kp S a b) (k : Kp S b c) : Kp S a c :=
 ⟨k.os.trans h.os, k.tape.trans h.tape, k.output.trans h.output, Nat.le_trans h.size k.size,
  fun i hi hs => (k.block i (Nat.lt_of_lt_of_le hi h.size) hs).trans (h.block i hi hs)⟩
theorem Kp.mono {S S' : List Nat} {w w' : World} (h : Kp S w w') (hs : ∀ k, k < w.heap.size → k ∈ S → k ∈ S') : Kp S' w w' :=
 ⟨h.os, h.tape, h.output, h.size, fun i hi hn => h.block i hi (fun c => hn (hs i hi c))⟩
theorem Kp.drew {S : List Nat} {a w : World} (h : Kp S a w) : Kp S a w.drew := ⟨h.os, h.tape, h.output, h.size, h.block⟩
theorem Kp.drewN {S : List Nat} {a w : World} (h : Kp S a w) (n : Nat) : Kp S a (w.drewN n) := ⟨h.os, h.tape, h.output, h.size, h.block⟩
theorem Kp.alloc {S : List Nat} {a w : World} (h : Kp S a w) (o : Obj) : Kp S a (w.alloc o) :=
 ⟨h.os, h.tape, h.output, Nat.le_trans h.size (by simp), fun k hk hs => by
  rw [Below.heap_alloc _ _ _ (Nat.lt_of_lt_of_le hk h.size)]; exact h.block k hk hs⟩
theorem Kp.setCell {S : List Nat} {a w : World} (h : Kp S a w) {p : Addr} (hp : p.block ∈ S ∨ a.heap.size ≤ p.block) (u : Value) : Kp S a (w.setCell p u) :=
 ⟨h.os, h.tape, h.output, by have := h.size; simpa [World.setCell] using this, fun k hk hs => by
  rw [Below.heap_setCell _ _ _ _ (by rintro rfl; rcases hp with hp | hp
                                     · exact hs hp
                                     · omega)]
  exact h.block k hk hs⟩
theorem Kp.below {S : List Nat} {a w w' : World} (h : Kp S a w) {B : Nat} (hb : Below B w w') (hB : a.heap.size ≤ B) : Kp S a w' :=
 ⟨hb.os.trans h.os, hb.tape.trans h.tape, hb.output.trans h.output, Nat.le_trans h.size hb.size,
  fun k hk hs => (hb.block k (by omega)).trans (h.block k hk hs)⟩
theorem Kp.of_below {w w' : World} {B : Nat} (hb : Below B w w') (hB : w.heap.size ≤ B) (S : List Nat) : Kp S w w' := (Kp.refl S w).below hb hB
theorem Kp.to_below {S : List Nat} {w w' : World} (h : Kp S w w') {B : Nat} (hB : B ≤ w.heap.size) (hs : ∀ k, k ∈ S → B ≤ k) : Below B w w' :=
 ⟨h.os, h.tape, h.output, h.size, fun k hk => h.block k (by omega) (fun c => by have := hs k c; omega)⟩
theorem Kp.cell {S : List Nat} {w w' : World} (h : Kp S w w') {p : Addr} (hp : p.block < w.heap.size) (hs : p.block ∉ S) : w'.cell? p = w.cell? p :=
 World.cell?_of_block (w := w) (h.block p.block hp hs)
theorem Kp.frozen {S : List Nat} {w w' : World} (h : Kp S w w') {p : Addr} (hp : p.block < w.heap.size) (hs : p.block ∉ S) : w'.frozen? p = w.frozen? p :=
 World.frozen?_of_block (w := w) (h.block p.block hp hs)
theorem bt_eq (s : ByteArray) (k : Nat) (h : k < s.size) : (s[k]'h).toNat = bt s k := by
 have h' : k < s.data.size := h; unfold bt; rw [List.getD_eq_getElem?_getD, Array.getElem?_toList, Array.getElem?_eq_getElem h']; rfl
theorem bt_lt (s : ByteArray) (k : Nat) : bt s k < 256 := by unfold bt; exact UInt8.toNat_lt _
end
section
open Go.RowKit
attribute [local go_sem] bt_eq
set_option maxHeartbeats 400000 in
theorem skip_to (s : ByteArray) (i j : Nat) (w : World) (hs : s.size ≤ 1000000) (hj : j ≤ s.size)
  (hw : Ws (bt s) i j) (he : j < s.size → ws (bt s j) = false) :
  Calls Tryz.prog 128 #[.string s, .int .i64 i] w fun e w' => e = .returned (.int .i64 j) ∧ w = w' := by
 have hij := hw.1; have HW := hid hw.2; have HE := hid he; clear hw he; go_enter Tryz.func128, Tryz.ntmps128
 go_wp2
 go_loop [1] (fun i1 => ∃ k : Nat, i ≤ k ∧ k ≤ j ∧ i1 = .int .i64 k) (fun i1 => s.size - (intOf i1).toNat)
 case atStart => exact ⟨i, Nat.le_refl _, hij, rfl⟩
 case round =>
  obtain ⟨k, hk1, hk2, rfl⟩ := hrel; by_cases hlt : k < j
  ·
   have hk := HW.out k hk1 hlt; have hks : k < s.size := by omega
   have HK := hid hk; clear hk; go_wp2
   all_goals first
    | (go_round
       case rel => exact ⟨k + 1, by omega, by omega, by go_num⟩
       case measure => simp [intOf]; omega)
    | (exfalso; have h := HK.out; simp [ws] at h; simp_all; omega)
  ·
   obtain rfl : k = j := by omega
   by_cases hks : k < s.size
   ·
    have h := HE.out hks; have h1 : ((bt s k : Int) == 32) = false := by simp [ws] at h; simp; omega
    have h2 : ((bt s k : Int) == 10) = false := by simp [ws] at h; simp; omega
    have h3 : ((bt s k : Int) == 13) = false := by simp [ws] at h; simp; omega
    have h4 : ((bt s k : Int) == 9) = false := by simp [ws] at h; simp; omega
    clear h; go_wp2
    go_ret; exact ⟨rfl, rfl⟩
   · go_wp2
     go_ret; exact ⟨rfl, rfl⟩
def digB (s : ByteArray) (i : Nat) : Bool := decide (i < s.size) && dig (bt s i)
set_option maxHeartbeats 400000 in
theorem digit_is (s : ByteArray) (i : Nat) (b : Bool) (w : World) (h : digB s i = b) :
  Calls Tryz.prog 170 #[.string s, .int .i64 i] w fun e w' => e = .returned (.bool b) ∧ w = w' := by
 unfold digB dig at h; by_cases hi : i < s.size
 ·
  by_cases h1 : 48 ≤ bt s i
  ·
   by_cases h2 : bt s i ≤ 57
   · obtain rfl : b = true := by rw [← h]; simp [hi, h1, h2]
     clear h; go_enter Tryz.func170, Tryz.ntmps170
     go_wp2
     go_ret; exact ⟨by first | rfl | (simp; omega), rfl⟩
   · obtain rfl : b = false := by rw [← h]; simp; omega
     clear h; go_enter Tryz.func170, Tryz.ntmps170
     go_wp2
     go_ret; exact ⟨by first | rfl | (simp; omega), rfl⟩
  ·
   obtain rfl : b = false := by rw [← h]; simp; omega
   clear h; go_enter Tryz.func170, Tryz.ntmps170
   go_wp2
   go_ret; exact ⟨by first | rfl | (simp; omega), rfl⟩
 ·
  obtain rfl : b = false := by rw [← h]; simp; omega
  clear h; go_enter Tryz.func170, Tryz.ntmps170
  go_wp2
  go_ret; exact ⟨by first | rfl | (simp; omega), rfl⟩
set_option maxHeartbeats 400000 in
theorem scanDigits_to (s : ByteArray) (i j : Nat) (w : World) (hs : s.size ≤ 1000000) (hij : i < j) (hj : j ≤ s.size)
  (hd : ∀ k, i ≤ k → k < j → dig (bt s k) = true) (he : digB s j = false) :
  Calls Tryz.prog 155 #[.string s, .int .i64 i] w fun e w' => e = .returned (.tuple #[.int .i64 j, .nilIface]) ∧ w = w' := by
 have D : ∀ k, i ≤ k → k < j → digB s k = true := fun k h1 h2 => by unfold digB; simp [hd k h1 h2]; omega
 have HD := hid D; have HE := hid he; clear hd he D; go_enter Tryz.func155, Tryz.ntmps155
 go_wp2_with fail
 refine (digit_is s i true _ (HD.out i (Nat.le_refl _) hij)).mono ?_
 rintro e w1 ⟨rfl, rfl⟩
 go_wp2_with fail
 go_loopw [1] (fun i1 wr => wr = w ∧ ∃ k : Nat, i ≤ k ∧ k ≤ j ∧ i1 = .int .i64 k) (fun i1 _ => s.size - (intOf i1).toNat)
 case atStart => exact ⟨rfl, i, Nat.le_refl _, by omega, rfl⟩
 case round =>
  obtain ⟨rfl, k, hk1, hk2, rfl⟩ := hrel; by_cases hlt : k < j
  ·
   go_wp2_with fail
   refine (digit_is s k true _ (HD.out k hk1 hlt)).mono ?_
   rintro e w1 ⟨rfl, rfl⟩
   go_wp2_with fail
   go_roundw
   case rel => exact ⟨trivial, k + 1, by omega, by omega, by go_num⟩
   case measure => simp [intOf]; omega
  ·
   obtain rfl : k = j := by omega
   go_wp2_with fail
   refine (digit_is s k false _ HE.out).mono ?_
   rintro e w1 ⟨rfl, rfl⟩
   go_wp2_with fail
   go_ret2
   exact ⟨rfl, rfl⟩
set_option maxHeartbeats 400000 in
theorem hex_is (s : ByteArray) (i v : Nat) (w : World) (hi : i < s.size) (h : hexv (bt s i) = some v) :
  Calls Tryz.prog 154 #[.string s, .int .i64 i] w fun e w' => e = .returned (.int .i32 v) ∧ w = w' := by
 have hb := bt_lt s i; unfold hexv at h; by_cases h1 : 48 ≤ bt s i ∧ bt s i ≤ 57
 ·
  rw [if_pos h1] at h; obtain rfl := Option.some.inj h; obtain ⟨h1, h2⟩ := h1; have hv : ((bt s i - 48 : Nat) : Int) = (bt s i : Int) - 48 := by omega
  rw [hv]; clear hv h; go_enter Tryz.func154, Tryz.ntmps154
  go_wp2
  go_ret; exact ⟨by first | rfl | (congr 1; congr 1; simp [IntKind.wrap]; omega), rfl⟩
 ·
  rw [if_neg h1] at h; by_cases h2 : 97 ≤ bt s i ∧ bt s i ≤ 102
  ·
   rw [if_pos h2] at h; obtain rfl := Option.some.inj h; obtain ⟨h3, h4⟩ := h2; have hv : ((bt s i - 87 : Nat) : Int) = (bt s i : Int) - 97 + 10 := by omega
   rw [hv]; have h5 : ¬ bt s i ≤ 57 := by omega
   clear hv h h1; go_enter Tryz.func154, Tryz.ntmps154
   go_wp2
   go_ret; exact ⟨by first | rfl | (congr 1; congr 1; simp [IntKind.wrap]; omega), rfl⟩
  ·
   rw [if_neg h2] at h; by_cases h3 : 65 ≤ bt s i ∧ bt s i ≤ 70
   ·
    rw [if_pos h3] at h; obtain rfl := Option.some.inj h; obtain ⟨h4, h5⟩ := h3; have hv : ((bt s i - 55 : Nat) : Int) = (bt s i : Int) - 65 + 10 := by omega
    rw [hv]; have h6 : ¬ bt s i ≤ 57 := by omega
    have h7 : ¬ 97 ≤ bt s i := by omega
    clear hv h h1 h2; go_enter Tryz.func154, Tryz.ntmps154
    go_wp2
    go_ret; exact ⟨by first | rfl | (congr 1; congr 1; simp [IntKind.wrap]; omega), rfl⟩
   · rw [if_neg h3] at h; cases h
set_option maxHeartbeats 400000 in
theorem scanWord_to (s word : ByteArray) (i : Nat) (w : World) (hs : s.size ≤ 1000000) (hj : i + word.size ≤ s.size)
  (hd : ∀ k, k < word.size → bt s (i + k) = bt word k) :
  Calls Tryz.prog 131 #[.string s, .int .i64 i, .string word] w fun e w' => e = .returned (.tuple #[.int .i64 ((i + word.size : Nat) : Int), .nilIface]) ∧ ∃ n, w' = w.drewN n := by
 have HD := hid hd; clear hd; go_enter Tryz.func131, Tryz.ntmps131
 go_wp2_with fail
 go_loopw [1, 8] (fun a k1 wr => ∃ n k : Nat, wr = w.drewN n ∧ k ≤ word.size ∧ k1 = .int .i64 k ∧ a = .int .i64 ((i + k : Nat) : Int)) (fun _ k1 _ => word.size - (intOf k1).toNat)
 case atStart => exact ⟨0, 0, rfl, Nat.zero_le _, rfl, rfl⟩
 case round =>
  obtain ⟨n, k, rfl, hk, rfl, rfl⟩ := hrel; by_cases hlt : k < word.size
  ·
   have e1 := HD.out k hlt; have hik : i + k < s.size := by omega
   have h1 : ((i : Int) + k == (s.size : Int)) = false := by
    simp; omega
   have e2 : bt s ((i : Int) + k).toNat = bt word k := by
    rw [show ((i : Int) + k).toNat = i + k from by omega]; exact e1
   go_wp2_with fail
   go_quiet (fail)
   go_wp2_with fail
   go_roundw
   case rel => exact ⟨n + nq, k + 1, rfl, by omega, by go_num, by first | rfl | (congr 1; omega)⟩
   case measure => simp [intOf]; omega
  · obtain rfl : k = word.size := by omega
    go_wp2_with fail
    go_ret2
    exact ⟨rfl, n, rfl⟩
end
section
open Go.RowKit
attribute [local go_sem] bt_eq
structure NumPos (s : ByteArray) (i a b c j : Nat) : Prop where
 sgn : (bt s i = 45 ∧ a = i + 1) ∨ (bt s i ≠ 45 ∧ a = i)
 whole : (bt s a = 48 ∧ b = a + 1) ∨ (bt s a ≠ 48 ∧ a < b ∧ ∀ k, a ≤ k → k < b → dig (bt s k) = true)
 wholeEnd : digB s b = false
 frac : (bt s b = 46 ∧ b + 1 < c ∧ (∀ k, b + 1 ≤ k → k < c → dig (bt s k) = true) ∧ digB s c = false) ∨ (¬ (b < s.size ∧ bt s b = 46) ∧ c = b)
 ex : (c + 2 < j ∧ (bt s c = 101 ∨ bt s c = 69) ∧ (bt s (c + 1) = 43 ∨ bt s (c + 1) = 45) ∧ (∀ k, c + 2 ≤ k → k < j → dig (bt s k) = true) ∧ digB s j = false) ∨
  (¬ (c < s.size ∧ (bt s c = 101 ∨ bt s c = 69)) ∧ j = c)
theorem int64_of {x : Int} {a : Nat} (h : x = (a : Int)) : Value.int .i64 x = .int .i64 a := by rw [h]
theorem beq_of {c : Nat} {k : Int} (h : (c : Int) = k) : ((c : Int) == k) = true := by rw [h]; simp
theorem beq_not {c : Nat} {k : Int} (h : (c : Int) ≠ k) : ((c : Int) == k) = false := by simp [h]
set_option maxRecDepth 100000 in
set_option maxHeartbeats 2000000 in
theorem scanNumber_to (s : ByteArray) (i a b c j : Nat) (w : World) (hs : s.size ≤ 1000000) (hj : j ≤ s.size) (H : NumPos s i a b c j) :
  Calls Tryz.prog 132 #[.string s, .int .i64 i] w fun e w' => e = .returned (.tuple #[.int .i64 j, .nilIface]) ∧ w = w' := by
 obtain ⟨h1, h2, h3, h4, h5⟩ := H; have hab : a < b := by omega
 have hbc : b ≤ c := by omega
 have hcj : c ≤ j := by omega
 have hia : i ≤ a := by omega
 have his : i < s.size := by omega
 have has : a < s.size := by omega
 have hbs : b ≤ s.size := by omega
 have hcs : c ≤ s.size := by omega
 have T1 := hid h1; have T2 := hid h2; have T3 := hid h3; have T4 := hid h4; have T5 := hid h5; clear h1 h2 h3 h4 h5; go_enter Tryz.func132, Tryz.ntmps132
 go_upto_if 16 with fail
 go_cut [1] (fun s1 wx => s1 = .int .i64 a ∧ w = wx)
 case first =>
  rcases T1.out with ⟨h1, h2⟩ | ⟨h1, h2⟩
  ·
   have q := beq_of (k := 45) (c := bt s i) (by omega); have X := hid h2; clear h1 h2; go_wp2_with fail
   go_meet; exact ⟨int64_of (by rw [X.out]; simp), rfl⟩
  ·
   have q := beq_not (k := 45) (c := bt s i) (by omega); have X := hid h2; clear h1 h2; go_wp2_with fail
   go_meet; exact ⟨int64_of (by rw [X.out]), rfl⟩
 case rest =>
  obtain ⟨rfl, rfl⟩ := hcut; go_upto_if 28 with fail
  go_cut [1, 6] (fun s1 s6 wx => s1 = .int .i64 b ∧ w = wx)
  case first =>
   rcases T2.out with ⟨h1, h2⟩ | ⟨h1, h2, h3⟩
   · have q := beq_of (k := 48) (c := bt s a) (by omega)
     have X := hid h2; clear h1 h2; go_wp2_with fail
     go_meet; exact ⟨int64_of (by rw [X.out]; simp), rfl⟩
   ·
    have q := beq_not (k := 48) (c := bt s a) (by omega); have X := hid h3; clear h1 h2 h3; go_wp2_with fail
    refine (scanDigits_to s a b _ hs hab hbs X.out T3.out).mono ?_
    rintro e w1 ⟨rfl, rfl⟩
    go_wp2_with fail
    go_meet; exact ⟨rfl, rfl⟩
  case rest =>
   obtain ⟨rfl, rfl⟩ := hcut; go_upto_if 50 with fail
   all_goals
    go_cut [1, 6] (fun s1 s6 wx => s1 = .int .i64 c ∧ w = wx)
    case first =>
     rcases T4.out with ⟨h1, h2, h3, h4⟩ | ⟨h1, h2⟩
     ·
      first
      | (exfalso; omega)
      | (have q := beq_of (k := 46) (c := bt s b) (by omega)
         have hbs2 : b < s.size := by omega
         have X := hid h3; have X4 := hid h4; clear h1 h3 h4; go_wp2_with fail
         refine (scanDigits_to s (b + 1) c _ hs h2 hcs X.out X4.out).mono ?_
         rintro e w1 ⟨rfl, rfl⟩
         go_wp2_with fail
         go_meet; exact ⟨rfl, rfl⟩)
     ·
      have X := hid h2; clear h2; first
       | (have hlt : b < s.size := by assumption
          have q := beq_not (k := 46) (c := bt s b) (by omega); clear h1; go_wp2_with fail
          go_meet; exact ⟨int64_of (by rw [X.out]), rfl⟩)
       | (clear h1
          go_wp2_with fail
          go_meet; exact ⟨int64_of (by rw [X.out]), rfl⟩)
    case rest =>
     obtain ⟨rfl, rfl⟩ := hcut; rcases T5.out with ⟨h0, h1, h2, h3, h4⟩ | ⟨h1, h2⟩
     ·
      first
      | (exfalso; omega)
      | (have hc1 : c < s.size := by omega
         have hc2 : c + 1 < s.size := by omega
         have X3 := hid h3; have X4 := hid h4; clear h3 h4; have E1 : (((bt s c : Int) == 101) = true) ∨ (((bt s c : Int) == 101) = false ∧ ((bt s c : Int) == 69) = true) := by
          rcases h1 with h1 | h1
          · left; exact beq_of (by omega)
          · right; exact ⟨beq_not (by omega), beq_of (by omega)⟩
         have E2 : (((bt s (c + 1) : Int) == 43) = true) ∨ (((bt s (c + 1) : Int) == 43) = false ∧ ((bt s (c + 1) : Int) == 45) = true) := by
          rcases h2 with h2 | h2
          · left; exact beq_of (by omega)
          · right; exact ⟨beq_not (by omega), beq_of (by omega)⟩
         clear h1 h2; rcases E1 with e1 | ⟨e1, e1b⟩ <;> rcases E2 with e2 | ⟨e2, e2b⟩; all_goals
          go_wp2_with fail
          refine (scanDigits_to s (c + 2) j _ hs h0 hj X3.out X4.out).mono ?_
          rintro e w1 ⟨rfl, rfl⟩
          go_wp2_with fail
          go_ret2
          exact ⟨rfl, rfl⟩)
     ·
      have X := hid h2; clear h2; by_cases hlt : c < s.size
      · have q1 := beq_not (k := 101) (c := bt s c) (by omega)
        have q2 := beq_not (k := 69) (c := bt s c) (by omega); clear h1; go_wp2_with fail
        go_ret2
        exact ⟨by rw [X.out]; rfl, rfl⟩
      · clear h1
        go_wp2_with fail
        go_ret2
        exact ⟨by rw [X.out]; rfl, rfl⟩
end
section
open Go.RowKit
attribute [local go_sem] bt_eq
def SStep (g : Nat → Nat) (i a : Nat) : Prop :=
 (32 ≤ g i ∧ g i ≠ 34 ∧ g i ≠ 92 ∧ a = i + 1) ∨
 (g i = 92 ∧ (g (i + 1) = 34 ∨ g (i + 1) = 92 ∨ g (i + 1) = 47 ∨ g (i + 1) = 110) ∧ a = i + 2) ∨
 (g i = 92 ∧ g (i + 1) = 117 ∧ (∀ k, k < 4 → ∃ v, hexv (g (i + 2 + k)) = some v) ∧ a = i + 6)
def SSteps (g : Nat → Nat) : Nat → Nat → Nat → Prop
 | 0, i, e => i = e
 | n + 1, i, e => ∃ a, SStep g i a ∧ SSteps g n a e
theorem SStep.lt {g : Nat → Nat} {i a : Nat} (h : SStep g i a) : i < a := by unfold SStep at h; omega
theorem SSteps.le {g : Nat → Nat} : ∀ {n i e}, SSteps g n i e → i ≤ e
 | 0, i, e, h => Nat.le_of_eq h
 | n + 1, i, e, ⟨a, h1, h2⟩ => by have := h1.lt; have := SSteps.le h2; omega
set_option maxRecDepth 100000 in
set_option maxHeartbeats 2000000 in
theorem scanString_to (s : ByteArray) (i e j n : Nat) (w : World) (hs : s.size ≤ 1000000) (hj : e < s.size) (h0 : bt s i = 34) (h1 : SSteps (bt s) n (i + 1) e) (h2 : bt s e = 34)
  (hje : j = e + 1) :
  Calls Tryz.prog 129 #[.string s, .int .i64 i] w fun e w' => e = .returned (.tuple #[.int .i64 j, .nilIface]) ∧ w = w' := by
 have hle := h1.le; have his : i < s.size := by omega
 have HS := hid h1; have H2 := hid h2; have HJ := hid hje; have q0 := beq_of (k := 34) (c := bt s i) (by omega); have q1 : ((bt s i : Int) != 34) = false := by simp; omega
 have q2 : ((i : Int) == (s.size : Int)) = false := by simp; omega
 clear h0 h1 h2 hje; go_enter Tryz.func129, Tryz.ntmps129
 go_wp2_with fail
 clear q0 q1 q2; go_loopw [1] (fun v wr => w = wr ∧ ∃ (m k : Nat), SSteps (bt s) m k e ∧ v = .int .i64 k) (fun v _ => s.size - (intOf v).toNat)
 case atStart => exact ⟨rfl, n, i + 1, HS.out, by go_num⟩
 case round =>
  obtain ⟨rfl, m, k, hm, rfl⟩ := hrel; have hke := hm.le; have hks : k < s.size := by omega
  cases m with
  | zero =>
   obtain rfl : k = e := hm; have q1 : ((bt s k : Int) != 34) = false := by have := H2.out; simp; omega
   have q2 : ((k : Int) == (s.size : Int)) = false := by simp; omega
   go_wp2_with fail
   go_ret2
   exact ⟨by rw [HJ.out]; simp, rfl⟩
  | succ m =>
   obtain ⟨a, hst, hm⟩ := hm; have hae := hm.le; have HM := hid hm; clear hm; rcases hst with ⟨g1, g2, g3, g4⟩ | ⟨g1, g2, g4⟩ | ⟨g1, g2, g3, g4⟩
   ·
    have q1 : ((bt s k : Int) != 34) = true := by simp; omega
    have q2 : ((bt s k : Int) != 92) = true := by simp; omega
    have q3 : ¬ ((bt s k : Int) < 32) := by omega
    have HA := hid g4; clear g1 g2 g3 g4; go_wp2_with fail
    exact ⟨⟨trivial, m, a, HM.out, by rw [HA.out]; go_num⟩, by simp [intOf]; omega⟩
   ·
    have hk1 : k + 1 < s.size := by omega
    have q1 : ((bt s k : Int) != 34) = true := by simp; omega
    have q2 : ((bt s k : Int) != 92) = false := by simp; omega
    have q3 : ¬ ((bt s k : Int) < 32) := by omega
    have q4 : ((k : Int) + 1 == (s.size : Int)) = false := by simp; omega
    have HA := hid g4; clear g1 g4; rcases g2 with g2 | g2 | g2 | g2; all_goals
     go_wp2_with fail
     exact ⟨⟨trivial, m, a, HM.out, by rw [HA.out]; go_num⟩, by simp [intOf]; omega⟩
   ·
    have hk1 : k + 5 < s.size := by omega
    have q1 : ((bt s k : Int) != 34) = true := by simp; omega
    have q2 : ((bt s k : Int) != 92) = false := by simp; omega
    have q3 : ¬ ((bt s k : Int) < 32) := by omega
    have q4 : ((k : Int) + 1 == (s.size : Int)) = false := by simp; omega
    have HA := hid g4; have H3 := hid g3; clear g1 g4 g3; go_wp2_with fail
    clear q1 q2 q3 q4 g2; go_loopw [1, 6] (fun v x wr => w = wr ∧ ∃ t : Nat, t ≤ 4 ∧ v = .int .i64 ((k + 1 + t : Nat) : Int) ∧ x = .int .i64 t) (fun _ x _ => 4 - (intOf x).toNat)
    case atStart => exact ⟨rfl, 0, by omega, by go_num, rfl⟩
    case round =>
     obtain ⟨rfl, t, ht, rfl, rfl⟩ := hrel; by_cases h4 : t < 4
     ·
      obtain ⟨v, hv⟩ := H3.out t h4; have HV := hid hv; clear hv; have e1 : ((k + 1 + t : Nat) : Int) + 1 = ((k + 2 + t : Nat) : Int) := by omega
      have E1 := hid e1; clear e1; go_wp2_with fail
      have hc := hex_is s (k + 2 + t) v w (by omega) HV.out; rw [← E1.out] at hc; have HC := hid hc; clear hc; refine (HC.out).mono ?_
      rintro e' w1 ⟨rfl, rfl⟩
      have hv0 : ¬ ((v : Int) < 0) := by omega
      go_wp2_with fail
      exact ⟨⟨trivial, t + 1, by omega, by go_num, by go_num⟩, by simp [intOf]; omega⟩
     · obtain rfl : t = 4 := by omega
       go_wp2_with fail
       exact ⟨⟨trivial, m, a, HM.out, by rw [HA.out]; go_num⟩, by simp [intOf]; omega⟩
end
section
theorem At_nil (g : Nat → Nat) (i : Nat) : At g i [] := fun k h => absurd h (Nat.not_lt_zero k)
theorem At_cons {g : Nat → Nat} {i x : Nat} {l : List Nat} : At g i (x :: l) ↔ g i = x ∧ At g (i + 1) l := by
 constructor
 ·
  intro h; refine ⟨by simpa using h 0 (by simp), fun k hk => ?_⟩; have := h (k + 1) (by simpa using hk); rw [show i + (k + 1) = i + 1 + k from by omega] at this; simpa using this
 ·
  rintro ⟨h1, h2⟩ k hk
  cases k with
  | zero => simpa using h1
  | succ k =>
   have := h2 k (by simpa using hk); rw [show i + 1 + k = i + (k + 1) from by omega] at this; simpa using this
theorem At_append {g : Nat → Nat} : ∀ {l1 l2 : List Nat} {i : Nat}, At g i (l1 ++ l2) ↔ At g i l1 ∧ At g (i + l1.length) l2
 | [], l2, i => by simp [At_nil]
 | x :: l1, l2, i => by
  rw [List.cons_append, At_cons, At_cons, At_append, List.length_cons, show i + (l1.length + 1) = i + 1 + l1.length from by omega, and_assoc]
theorem utf8_len (r : Nat) : 1 ≤ (utf8 r).length ∧ (utf8 r).length ≤ 4 := by
 unfold utf8; repeat' split
 all_goals simp
theorem utf8_ge {r : Nat} (h : 128 ≤ r) : ∀ x ∈ utf8 r, 128 ≤ x := by
 unfold utf8; rw [if_neg (by omega)]
 repeat' split
 all_goals (intro x hx; simp at hx; omega)
theorem utf8_small {r : Nat} (h : r < 128) : utf8 r = [r] := by unfold utf8; rw [if_pos h]
theorem SSteps.trans {g : Nat → Nat} : ∀ {n m i a e}, SSteps g n i a → SSteps g m a e → SSteps g (n + m) i e
 | 0, m, i, a, e, h1, h2 => by rw [show i = a from h1, Nat.zero_add]; exact h2
 | n + 1, m, i, a, e, ⟨b, h, h1⟩, h2 => by
  rw [show n + 1 + m = (n + m) + 1 from by omega]; exact ⟨b, h, h1.trans h2⟩
theorem SSteps.raw {g : Nat → Nat} : ∀ {l : List Nat} {i : Nat}, (∀ x ∈ l, 32 ≤ x ∧ x ≠ 34 ∧ x ≠ 92) → At g i l → SSteps g l.length i (i + l.length)
 | [], i, _, _ => rfl
 | x :: l, i, h, ha => by
  obtain ⟨h1, h2⟩ := At_cons.1 ha; obtain ⟨a, b, c⟩ := h x (by simp); refine ⟨i + 1, Or.inl ⟨by omega, by omega, by omega, rfl⟩, ?_⟩; have := SSteps.raw (fun y hy => h y (by simp [hy])) h2; rw [List.length_cons, show i + (l.length + 1) = i + 1 + l.length from by omega]; exact this
theorem Unit4.step {g : Nat → Nat} {i u : Nat} (h : Unit4 g i u) : SStep g i (i + 6) := by
 obtain ⟨h1, h2, a, b, c, d, ha, hb, hc, hd, _⟩ := h; refine Or.inr (Or.inr ⟨h1, h2, fun k hk => ?_, rfl⟩); rcases (show k = 0 ∨ k = 1 ∨ k = 2 ∨ k = 3 from by omega) with rfl | rfl | rfl | rfl
 · exact ⟨a, ha⟩
 · exact ⟨b, hb⟩
 · exact ⟨c, hc⟩
 · exact ⟨d, hd⟩
theorem Piece.steps {g : Nat → Nat} {i j r : Nat} (h : Piece g i j r) : ∃ n, SSteps g n i j := by
 rcases h with ⟨h1, h2, h3, h4, h5, h6⟩ | ⟨h1, h2, h3⟩ | ⟨h1, h2, h3⟩ | ⟨u, v, h1, h2, h3, _⟩
 ·
  refine ⟨(utf8 r).length, ?_⟩; rw [h6]; refine SSteps.raw (fun x hx => ?_) h5; by_cases hr : r < 128
  · rw [utf8_small hr] at hx
    simp at hx; omega
  · have := utf8_ge (by omega) x hx
    omega
 · refine ⟨1, j, Or.inr (Or.inl ⟨h1, ?_, h2⟩), rfl⟩
   rcases h3 with ⟨a, _⟩ | ⟨a, _⟩ | ⟨a, _⟩ | ⟨a, _⟩ <;> simp [a]
 · exact ⟨1, j, h2 ▸ h1.step, rfl⟩
 · exact ⟨2, i + 6, h1.step, j, by rw [h3]; exact h2.step, rfl⟩
theorem StrBody.steps {g : Nat → Nat} : ∀ {rs : List Nat} {i j : Nat}, StrBody g i j rs → ∃ n, SSteps g n i j
 | [], i, j, h => ⟨0, h⟩
 | r :: rs, i, j, ⟨a, h1, h2⟩ => by
  obtain ⟨n, hn⟩ := h1.steps; obtain ⟨m, hm⟩ := StrBody.steps h2; exact ⟨n + m, hn.trans hm⟩
theorem StrAt.steps {g : Nat → Nat} {i j : Nat} {rs : List Nat} (h : StrAt g i j rs) : ∃ n e, g i = 34 ∧ SSteps g n (i + 1) e ∧ g e = 34 ∧ j = e + 1 ∧ i + 1 ≤ e := by
 obtain ⟨h1, e, h2, h3, h4⟩ := h; obtain ⟨n, hn⟩ := h2.steps; exact ⟨n, e, h1, hn, h3, h4, hn.le⟩
theorem digs_at {g : Nat → Nat} {i : Nat} {l : List Nat} (h : At g i (digs l)) (hd : ∀ d ∈ l, d < 10) : ∀ k, i ≤ k → k < i + l.length → dig (g k) = true := by
 intro k h1 h2; have := h (k - i) (by simp [digs]; omega); rw [show i + (k - i) = k from by omega] at this; rw [this]; have hk : k - i < l.length := by omega
 have hm := hd _ (List.getElem_mem hk); simp only [digs, List.getD_eq_getElem?_getD, List.getElem?_map, List.getElem?_eq_getElem hk, Option.map_some, Option.getD_some, dig]; simp; omega
theorem digs_head {g : Nat → Nat} {i : Nat} {l : List Nat} (h : At g i (digs l)) (hl : l ≠ []) : g i = 48 + l.headD 0 := by
 cases l with
 | nil => exact absurd rfl hl
 | cons x l => have := (At_cons.1 h).1; simpa using this
theorem digs_len (l : List Nat) : (digs l).length = l.length := by simp [digs]
def NumStop (s : ByteArray) (j : Nat) : Prop := s.size ≤ j ∨ (dig (bt s j) = false ∧ bt s j ≠ 46 ∧ bt s j ≠ 101 ∧ bt s j ≠ 69)
theorem Num.pos {m : Num} (hm : m.Ok) {s : ByteArray} {i j : Nat} (h : At (bt s) i m.text) (hj : j = i + m.text.length) (hjs : j ≤ s.size) (hst : NumStop s j) :
  ∃ a b c, NumPos s i a b c j := by
 obtain ⟨hip, hfp, hne, hlead, hex⟩ := hm; have hstop : digB s j = false ∧ ¬ (j < s.size ∧ bt s j = 46) ∧ ¬ (j < s.size ∧ (bt s j = 101 ∨ bt s j = 69)) := by
  unfold digB; rcases hst with h | ⟨h1, h2, h3, h4⟩
  · refine ⟨?_, by omega, by omega⟩
    simp; omega
  · refine ⟨by simp [h1], by omega, by omega⟩
 unfold Num.text at h hj; rw [At_append, At_append, At_append] at h; obtain ⟨⟨⟨h1, h2⟩, h3⟩, h4⟩ := h; simp only [List.length_append, digs_len] at h2 h3 h4 hj; have hipl : 0 < m.ip.length := List.length_pos_iff.2 hne; obtain ⟨a, ha⟩ : ∃ a, a = i + (if m.neg then [45] else []).length := ⟨_, rfl⟩; obtain ⟨b, hb⟩ : ∃ b, b = a + m.ip.length := ⟨_, rfl⟩; obtain ⟨c, hc⟩ : ∃ c, c = b + (if m.fp = [] then [] else 46 :: digs m.fp).length := ⟨_, rfl⟩; rw [← ha] at h2; rw [show i + ((if m.neg then [45] else []).length + m.ip.length) = b from by omega] at h3; rw [show i + ((if m.neg then [45] else []).length + m.ip.length + (if m.fp = [] then [] else 46 :: digs m.fp).length) = c from by omega] at h4; have hh := digs_head h2 hne; have hd := digs_at h2 hip; have hhd : m.ip.headD 0 < 10 := by
  cases hq : m.ip with
  | nil => exact absurd hq hne
  | cons x l => have := hip x (by simp [hq]); simpa using this
 have hE : (c + 2 < j ∧ (bt s c = 101 ∨ bt s c = 69) ∧ (bt s (c + 1) = 43 ∨ bt s (c + 1) = 45) ∧ (∀ k, c + 2 ≤ k → k < j → dig (bt s k) = true) ∧ digB s j = false) ∨
   (¬ (c < s.size ∧ (bt s c = 101 ∨ bt s c = 69)) ∧ j = c) := by
  cases hx : m.ex with
  | none =>
   rw [hx] at hj h4
   right
   have : j = c := by simp at hj; omega
   rw [← this]; exact ⟨hstop.2.2, rfl⟩
  | some q =>
   obtain ⟨x, sg, ds⟩ := q; obtain ⟨e1, e2, e3, e4⟩ := hex x sg ds hx; rw [hx] at hj h4; simp only [At_cons] at h4; obtain ⟨f1, f2, f3⟩ := h4; have hdl : 0 < ds.length := List.length_pos_iff.2 e3; have hjc : j = c + 2 + ds.length := by simp [digs_len] at hj; omega
   left
   refine ⟨by omega, by omega, by omega, ?_, hstop.1⟩; rw [hjc]; exact digs_at f3 e4
 have hcj : c ≤ j := by omega
 have hdc : m.fp ≠ [] → digB s c = false := by
  intro _; rcases hE with ⟨g1, g2, _⟩ | ⟨_, g2⟩
  · unfold digB dig; simp; omega
  · rw [← g2]; exact hstop.1
 have hF : (bt s b = 46 ∧ b + 1 < c ∧ (∀ k, b + 1 ≤ k → k < c → dig (bt s k) = true) ∧ digB s c = false) ∨ (¬ (b < s.size ∧ bt s b = 46) ∧ c = b) := by
  by_cases hfe : m.fp = []
  ·
   right
   rw [if_pos hfe] at hc; have hcb : c = b := by simpa using hc
   refine ⟨?_, hcb⟩; rw [← hcb]; rcases hE with ⟨g1, g2, _⟩ | ⟨_, g2⟩
   · omega
   · rw [← g2]; exact hstop.2.1
  ·
   left
   rw [if_neg hfe] at hc h3; obtain ⟨f1, f2⟩ := At_cons.1 h3; have hfl : 0 < m.fp.length := List.length_pos_iff.2 hfe; have hcc : c = b + 1 + m.fp.length := by simp [digs_len] at hc; omega
   refine ⟨f1, by omega, ?_, hdc hfe⟩; rw [hcc]; exact digs_at f2 hfp
 have hbe : digB s b = false := by
  rcases hF with ⟨g1, _⟩ | ⟨g0, g1⟩
  · unfold digB dig; simp; omega
  · rcases hE with ⟨k1, k2, _⟩ | ⟨_, k2⟩
    · rw [← g1]; unfold digB dig; simp; omega
    · rw [← g1, ← k2]; exact hstop.1
 refine ⟨a, b, c, ?_, ?_, hbe, hF, hE⟩
 ·
  cases hn : m.neg with
  | true =>
   rw [hn] at h1 ha; simp only [if_true] at h1 ha
   left
   exact ⟨(At_cons.1 h1).1, by simpa using ha⟩
  | false =>
   rw [hn] at ha; have : a = i := by simpa using ha
   right
   refine ⟨?_, this⟩; rw [← this, hh]; omega
 ·
  by_cases h0 : m.ip.headD 0 = 0
  · left
    refine ⟨by rw [hh, h0], ?_⟩; rcases hlead with hl | hl
    · omega
    · exact absurd h0 hl
  · right
    exact ⟨by omega, by omega, by rw [hb]; exact hd⟩
theorem Num.start {m : Num} (hm : m.Ok) {g : Nat → Nat} {i : Nat} (h : At g i m.text) : 1 ≤ m.text.length ∧ (g i = 45 ∨ (48 ≤ g i ∧ g i ≤ 57)) := by
 obtain ⟨hip, hfp, hne, hlead, hex⟩ := hm; have hipl : 0 < m.ip.length := List.length_pos_iff.2 hne; unfold Num.text at h ⊢; rw [At_append, At_append, At_append] at h; obtain ⟨⟨⟨h1, h2⟩, _⟩, _⟩ := h; refine ⟨by simp [digs_len]; omega, ?_⟩
 cases hn : m.neg with
 | true => rw [hn] at h1; left; exact (At_cons.1 h1).1
 | false =>
  rw [hn] at h2; have hh := digs_head h2 hne; have hhd : m.ip.headD 0 < 10 := by
   cases hq : m.ip with
   | nil => exact absurd hq hne
   | cons x l => have := hip x (by simp [hq]); simpa using this
  right
  have e0 : i + (if false = true then [45] else ([] : List Nat)).length = i := by simp
  rw [e0] at hh; omega
theorem Elems.le {g : Nat → Nat} {T : Nat → Nat → JV → Prop} (hT : ∀ a b v, T a b v → a < b) : ∀ {vs : List JV} {i j : Nat}, Elems g T i j vs → i < j
 | [], _, _, h => absurd h (by simp [Elems])
 | [v], i, j, ⟨a, b, h1, h2, h3⟩ => by have := hT _ _ _ h2; have := h1.1; have := h3.1; omega
 | v :: u :: vs, i, j, ⟨a, b, c, h1, h2, h3, h4, h5⟩ => by have := hT _ _ _ h2; have := h1.1; have := h3.1; have := Elems.le hT h5; omega
theorem Membs.le {g : Nat → Nat} {T : Nat → Nat → JV → Prop} (hT : ∀ a b v, T a b v → a < b) : ∀ {ks : List ByteArray} {vs : List JV} {i j : Nat}, Membs g T i j ks vs → i < j
 | [], _, _, _, h => absurd h (by simp [Membs])
 | [k], [], _, _, h => absurd h (by simp [Membs])
 | [k], [v], i, j, ⟨a, b, c, d, e, rs, h1, h2, h3, h4, h5, h6, h7, h8⟩ => by
  have := hT _ _ _ h7; have := h1.1; have := h4.1; have := h6.1; have := h8.1; obtain ⟨_, _, _, _, _, _, _⟩ := h2.steps; omega
 | [k], v :: u :: vs, i, j, h => by
  obtain ⟨a, b, c, d, e, f, rs, h1, h2, h3, h4, h5, h6, h7, h8, h9, h10⟩ := h; simp [Membs] at h10
 | k :: k' :: ks, [], _, _, h => absurd h (by simp [Membs])
 | k :: k' :: ks, v :: vs, i, j, h => by
  have h' : ∃ a b c d e f rs, Ws g i a ∧ StrAt g a b rs ∧ bytesOf k = enc rs ∧ Ws g b c ∧ g c = 58 ∧ Ws g (c + 1) d ∧ T d e v ∧ Ws g e f ∧
   g f = 44 ∧ Membs g T (f + 1) j (k' :: ks) vs := by cases vs <;> exact h
  obtain ⟨a, b, c, d, e, f, rs, h1, h2, h3, h4, h5, h6, h7, h8, h9, h10⟩ := h'; have := hT _ _ _ h7; have := h1.1; have := h4.1; have := h6.1; have := h8.1; have := Membs.le hT h10; obtain ⟨_, _, _, _, _, _, _⟩ := h2.steps; omega
theorem Tx.start {S : NumSem} {g : Nat → Nat} : ∀ {n i j : Nat} {v : JV}, Tx S g n i j v → i < j ∧ ws (g i) = false ∧ g i ≠ 93 ∧ g i ≠ 125
 | 0, _, _, _, h => absurd h (by simp [Tx])
 | n + 1, i, j, v, h => by
  rcases h with ⟨h, e, _⟩ | ⟨h, e, _⟩ | ⟨h, e, _⟩ | ⟨m, hm, h, e, _⟩ | ⟨rs, h, _⟩ | ⟨e, h1, h2, h3, h4, _⟩ | ⟨e, h1, h2, h3, h4, _⟩
  · have := (At_cons.1 h).1; refine ⟨by omega, ?_, by omega, by omega⟩; rw [this]; rfl
  · have := (At_cons.1 h).1; refine ⟨by omega, ?_, by omega, by omega⟩; rw [this]; rfl
  · have := (At_cons.1 h).1; refine ⟨by omega, ?_, by omega, by omega⟩; rw [this]; rfl
  · obtain ⟨a, b⟩ := Num.start hm h
    refine ⟨by omega, ?_, by omega, by omega⟩; unfold ws; simp; omega
  · obtain ⟨m, f, h1, _, _, h4, h5⟩ := h.steps
    refine ⟨by omega, ?_, by omega, by omega⟩; rw [h1]; rfl
  · have hle : i + 1 ≤ e := by
     rcases h4 with ⟨_, h4⟩ | h4
     · exact h4.1
     · exact Nat.le_of_lt (Elems.le (fun a b w hw => (Tx.start hw).1) h4)
    refine ⟨by omega, ?_, by omega, by omega⟩; rw [h1]; rfl
  · have hle : i + 1 ≤ e := by
     rcases h4 with ⟨_, _, h4⟩ | h4
     · exact h4.1
     · exact Nat.le_of_lt (Membs.le (fun a b w hw => (Tx.start hw).1) h4)
    refine ⟨by omega, ?_, by omega, by omega⟩; rw [h1]; rfl
end
end Go.Proofs.YtljaoopfomcaoaaGreatDoor
