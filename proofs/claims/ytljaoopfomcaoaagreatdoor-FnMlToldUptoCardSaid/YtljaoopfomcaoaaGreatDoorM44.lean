import Derived.Test.YtljaoopfomcaoaaGreatDoorM28
import Derived.Test.YtljaoopfomcaoaaGreatDoorM38
set_option linter.all false
open Go.Lib (hid)
namespace Go.Proofs.YtljaoopfomcaoaaGreatDoor
section
open Go.RowKit
attribute [local go_sem] bt_eq
def LnAt (w : World) (b : Nat) (s : ByteArray) : Prop := w.heap[b]? = some (.cells #[.int .i64 3, .string s] 33 (0, 0))
theorem LnAt.c0 {w : World} {b : Nat} {s : ByteArray} (h : LnAt w b s) : w.cell? ⟨b, 0, none⟩ = some (.int .i64 3) := by simp [World.cell?, show w.heap[b]? = _ from h]
theorem LnAt.c1 {w : World} {b : Nat} {s : ByteArray} (h : LnAt w b s) : w.cell? ⟨b, 1, none⟩ = some (.string s) := by simp [World.cell?, show w.heap[b]? = _ from h]
theorem LnAt.lt {w : World} {b : Nat} {s : ByteArray} (h : LnAt w b s) : b < w.heap.size := lt_of_block h
theorem LnAt.keep {S : List Nat} {w w' : World} {b : Nat} {s : ByteArray} (h : LnAt w b s) (k : Kp S w w') (hb : b ∉ S) : LnAt w' b s := by
 unfold LnAt at *; rw [k.block b (lt_of_block h) hb]; exact h
theorem lnAt_fresh (w : World) (s : ByteArray) : LnAt (w.alloc (.cells #[.int .i64 3, .string s] 33)) w.heap.size s := by
 show (w.heap.push _)[w.heap.size]? = _
 simp
def LinePost (w : World) (s : ByteArray) (e : Ending) (w' : World) : Prop :=
 ∃ b : Bool, e = .returned (.bool b) ∧ Kp [] w w' ∧ (b = true → s.size ≤ 700 ∧ Brk (bt s) s.size)
theorem LinePost.no {w w' : World} {s : ByteArray} (hk : Kp [] w w') : LinePost w s (.returned (.bool false)) w' := ⟨false, rfl, hk, fun h => by cases h⟩
def BrkTo (g : Nat → Nat) (n i : Nat) : Prop := ∀ a k, a < i → a < k → k ≤ n → g a = 91 → (∀ b, a < b → b < k → g b ≠ 93) → (∀ b, a < b → b < k → plc (g b)) → (k = n ∨ g k = 93) → k - a ≤ 4
theorem BrkTo.brk {g : Nat → Nat} {n : Nat} (h : BrkTo g n n) : Brk g n := fun a k h1 h2 => h a k (by omega) h1 h2
theorem BrkTo.zero (g : Nat → Nat) (n : Nat) : BrkTo g n 0 := fun a k h => absurd h (Nat.not_lt_zero a)
theorem BrkTo.skip {g : Nat → Nat} {n i : Nat} (h : BrkTo g n i) (hc : g i ≠ 91) : BrkTo g n (i + 1) := fun a k h1 h2 h3 h4 h5 h6 h7 => by
 rcases Nat.lt_or_ge a i with ha | ha
 · exact h a k ha h2 h3 h4 h5 h6 h7
 · obtain rfl : a = i := by omega
   exact absurd h4 hc
structure KIn (g : Nat → Nat) (n i k : Nat) (p : Bool) : Prop where
 lt : i < k
 le : k ≤ n
 no : ∀ b, i < b → b < k → g b ≠ 93
 pl : p = true ↔ ∀ b, i < b → b < k → plc (g b)
theorem KIn.start {g : Nat → Nat} {n i : Nat} (h : i < n) : KIn g n i (i + 1) true := ⟨by omega, by omega, fun b h1 h2 => by omega, ⟨fun _ b h1 h2 => by omega, fun _ => rfl⟩⟩
theorem KIn.next {g : Nat → Nat} {n i k : Nat} {p q : Bool} (h : KIn g n i k p) (hk : k < n) (hc : g k ≠ 93) (hq : q = true ↔ (p = true ∧ plc (g k))) : KIn g n i (k + 1) q := by
 refine ⟨by have := h.lt; omega, by omega, fun b h1 h2 => ?_, ?_⟩
 · rcases Nat.lt_or_ge b k with hb | hb
   · exact h.no b h1 hb
   · obtain rfl : b = k := by omega
     exact hc
 ·
  rw [hq, h.pl]; constructor
  · rintro ⟨h1, h2⟩ b h3 h4
    rcases Nat.lt_or_ge b k with hb | hb
    · exact h1 b h3 hb
    · obtain rfl : b = k := by omega
      exact h2
  · intro h1
    exact ⟨fun b h3 h4 => h1 b h3 (by omega), h1 k h.lt (by omega)⟩
theorem BrkTo.next {g : Nat → Nat} {n i k : Nat} {p : Bool} (h : BrkTo g n i) (hI : KIn g n i k p) (he : k = n ∨ g k = 93) (hok : k - i ≤ 4 ∨ p = false) : BrkTo g n (i + 1) := fun a k' h1 h2 h3 h4 h5 h6 h7 => by
 rcases Nat.lt_or_ge a i with ha | ha
 · exact h a k' ha h2 h3 h4 h5 h6 h7
 ·
  obtain rfl : a = i := by omega
  have hkk : k' = k := by
   rcases Nat.lt_trichotomy k' k with hlt | rfl | hgt
   · rcases h7 with h7 | h7
     · have := hI.le; omega
     · exact absurd h7 (hI.no k' h2 hlt)
   · rfl
   · rcases he with he | he
     · omega
     · exact absurd he (h5 k hI.lt hgt)
  subst hkk; rcases hok with hok | hok
  · exact hok
  · have := hI.pl.2 h6
    rw [this] at hok; cases hok
set_option maxRecDepth 100000 in
set_option maxHeartbeats 2000000 in
theorem mlLine_is (w : World) (s : ByteArray) (hs : s.size ≤ 100000000) (hE : Env w) :
  Calls Tryz.prog 10 #[.agg #[.int .i64 3, .string s]] w (LinePost w s) := by
 have HE := hid hE; clear hE; have hl0 := lnAt_fresh w s; have hk0 : Kp [] w (w.alloc (.cells #[.int .i64 3, .string s] 33)) := (Kp.refl _ _).alloc _; have HK0 := hid hk0; have HL0 := hid hl0; clear hl0 hk0; by_cases h7 : s.size ≤ 700
 ·
  have k1 : decide ((s.size : Int) > 1000) = false := by rw [decide_eq_false_iff_not]; omega
  have k2 : decide ((s.size : Int) > 700) = false := by rw [decide_eq_false_iff_not]; omega
  have hcv := fun w0 (hk : Kp [] w w0) => valid_is s w0 (by omega) (HE.out.kp hk (by simp)).u8
  have HCv := hid hcv; clear hcv; go_enter Tryz.func10, Tryz.ntmps10
  go_upto_region 1 with fail
  generalize hW : World.alloc _ _ = w1 at *; clear hW; have c0 := HL0.out.c0; have c1 := HL0.out.c1; go_wp2_with fail
  refine (HCv.out _ HK0.out).mono ?_
  rintro e7 w2 ⟨b, rfl, hk2, _⟩
  have HL2 := hid (HL0.out.keep hk2 (by simp)); have HK2 := hid (HK0.out.trans hk2); clear hk2 c0 c1
  cases b with
  | false =>
   go_wp2_with fail
   go_ret; exact LinePost.no HK2.out
  | true =>
   have c0 := HL2.out.c0; have c1 := HL2.out.c1; go_wp2_with fail
   go_loopw [3, 4, 5, 6, 7, 42] (fun s3 _ _ _ _ s42 wx => ∃ (i dp : Nat), s3 = .int .i64 (dp : Int) ∧ s42 = .int .i64 (i : Int) ∧ dp ≤ i ∧ i ≤ s.size ∧ wx = w2 ∧ BrkTo (bt s) s.size i) (fun _ _ _ _ _ s42 _ => s.size - (intOf s42).toNat)
   case atStart => exact ⟨0, 0, rfl, rfl, Nat.le_refl _, Nat.zero_le _, rfl, BrkTo.zero _ _⟩
   case round =>
    obtain ⟨i, dp, rfl, rfl, hdp, hi, hw, hB⟩ := hrel; subst hw; have HB := hid hB; clear hB; by_cases hil : i < s.size
    ·
     have q1 : decide ((i : Int) < (s.size : Int)) = true := by rw [decide_eq_true_eq]; omega
     have hlt := bt_lt s i; have hdp63 : (dp : Int) + 1 ≤ 2000 := by omega
     have hi63 : (i : Int) + 1 ≤ 2000 := by omega
     by_cases h91 : bt s i = 91
     ·
      go_wp2_with fail
      go_loopw [5, 6, 7] (fun s5 s6 _ wx => ∃ (k : Nat) (p : Bool), s5 = .int .i64 (k : Int) ∧ s6 = .bool p ∧ wx = wr ∧ KIn (bt s) s.size i k p) (fun s5 _ _ _ => s.size - (intOf s5).toNat)
      case atStart => exact ⟨i + 1, true, by push_cast; rfl, rfl, rfl, KIn.start hil⟩
      case round =>
       obtain ⟨k, p, rfl, rfl, hw, hI⟩ := hrel; subst hw; have HI := hid hI; have hik := hI.lt; have hkn := hI.le; clear hI; by_cases hks : k < s.size
       ·
        have hltk := bt_lt s k; have q2 : decide ((k : Int) < (s.size : Int)) = true := by rw [decide_eq_true_eq]; omega
        have hk63 : (k : Int) + 1 ≤ 2000 := by omega
        by_cases h93 : bt s k = 93
        ·
         by_cases h4 : k - i ≤ 4
         · have q3 : decide ((k : Int) - (i : Int) > 4) = false := by rw [decide_eq_false_iff_not]; omega
           have HB2 := hid (HB.out.next HI.out (Or.inr h93) (Or.inl h4)); go_wp2_with fail
           go_roundw
           case measure => simp [intOf]; omega
           case rel => exact ⟨i + 1, dp + 1, by push_cast; rfl, by push_cast; rfl, by omega, by omega, trivial, HB2.out⟩
         · have q3 : decide ((k : Int) - (i : Int) > 4) = true := by rw [decide_eq_true_eq]; omega
           cases p with
           | true =>
            go_wp2_with fail
            go_ret; exact LinePost.no HK2.out
           | false =>
            have HB2 := hid (HB.out.next HI.out (Or.inr h93) (Or.inr rfl)); go_wp2_with fail
            go_roundw
            case measure => simp [intOf]; omega
            case rel => exact ⟨i + 1, dp + 1, by push_cast; rfl, by push_cast; rfl, by omega, by omega, trivial, HB2.out⟩
        ·
         have q3 : ((bt s k : Int) != 93) = true := by simp; omega
         cases p with
         | false =>
          go_wp2_with fail
          go_roundw
          case measure => simp [intOf]; omega
          case rel => exact ⟨k + 1, false, by push_cast; rfl, rfl, trivial, HI.out.next hks h93 (by simp)⟩
         | true =>
          by_cases hp : plc (bt s k)
          · have HN := hid (HI.out.next (q := true) hks h93 (by simp [hp]))
            clear HI; unfold plc at hp; go_wp2_with fail
            all_goals first
             | (exfalso; simp_all; omega)
             | (go_roundw
                case measure => simp [intOf]; omega
                case rel => exact ⟨k + 1, true, by push_cast; rfl, by first | rfl | (simp; omega), trivial, HN.out⟩)
          · have HN := hid (HI.out.next (q := false) hks h93 (by simp [hp]))
            clear HI; unfold plc at hp; go_wp2_with fail
            all_goals first
             | (exfalso; simp_all; omega)
             | (go_roundw
                case measure => simp [intOf]; omega
                case rel => exact ⟨k + 1, false, by push_cast; rfl, by first | rfl | (simp; omega), trivial, HN.out⟩)
       ·
        have q2 : decide ((k : Int) < (s.size : Int)) = false := by rw [decide_eq_false_iff_not]; omega
        have hkk : k = s.size := by omega
        by_cases h4 : k - i ≤ 4
        · have q3 : decide ((k : Int) - (i : Int) > 4) = false := by rw [decide_eq_false_iff_not]; omega
          have HB2 := hid (HB.out.next HI.out (Or.inl hkk) (Or.inl h4)); clear hkk; go_wp2_with fail
          go_roundw
          case measure => simp [intOf]; omega
          case rel => exact ⟨i + 1, dp + 1, by push_cast; rfl, by push_cast; rfl, by omega, by omega, trivial, HB2.out⟩
        ·
         have q3 : decide ((k : Int) - (i : Int) > 4) = true := by rw [decide_eq_true_eq]; omega
         cases p with
         | true =>
          clear hkk; go_wp2_with fail
          go_ret; exact LinePost.no HK2.out
         | false =>
          have HB2 := hid (HB.out.next HI.out (Or.inl hkk) (Or.inr rfl)); clear hkk; go_wp2_with fail
          go_roundw
          case measure => simp [intOf]; omega
          case rel => exact ⟨i + 1, dp + 1, by push_cast; rfl, by push_cast; rfl, by omega, by omega, trivial, HB2.out⟩
     ·
      have HB2 := hid (HB.out.skip h91); have q4 : ((bt s i : Int) == 91) = false := by simp; omega
      have q5 : ((bt s i : Int) != 91) = true := by simp; omega
      by_cases h123 : bt s i = 123
      · clear q4 q5 h91
        go_wp2_with fail
        go_roundw
        case measure => simp [intOf]; omega
        case rel => exact ⟨i + 1, dp + 1, by push_cast; rfl, by push_cast; rfl, by omega, by omega, trivial, HB2.out⟩
      · have q6 : ((bt s i : Int) == 123) = false := by simp; omega
        go_wp2_with fail
        go_roundw
        case measure => simp [intOf]; omega
        case rel => exact ⟨i + 1, dp, rfl, by push_cast; rfl, by omega, by omega, trivial, HB2.out⟩
    · obtain rfl : i = s.size := by omega
      have q1 : decide ((s.size : Int) < (s.size : Int)) = false := by simp
      go_wp2_with fail
      go_ret; exact ⟨_, rfl, HK2.out, fun _ => ⟨h7, HB.out.brk⟩⟩
 ·
  by_cases h10 : s.size ≤ 1000
  ·
   have k1 : decide ((s.size : Int) > 1000) = false := by rw [decide_eq_false_iff_not]; omega
   have k2 : decide ((s.size : Int) > 700) = true := by rw [decide_eq_true_eq]; omega
   go_enter Tryz.func10, Tryz.ntmps10
   go_wp2_with fail
   go_ret; exact LinePost.no HK0.out
  · have k1 : decide ((s.size : Int) > 1000) = true := by rw [decide_eq_true_eq]; omega
    go_enter Tryz.func10, Tryz.ntmps10
    go_wp2_with fail
    go_ret; exact LinePost.no HK0.out
end
end Go.Proofs.YtljaoopfomcaoaaGreatDoor
