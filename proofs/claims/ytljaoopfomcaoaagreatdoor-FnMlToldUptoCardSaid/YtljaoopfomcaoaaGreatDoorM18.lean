import Derived.Deep.RegionWith
import Derived.Test.YtljaoopfomcaoaaGreatDoorM14
import Derived.Test.YtljaoopfomcaoaaGreatDoorM17
set_option linter.all false
open Go.Lib (hid)
namespace Go.Proofs.YtljaoopfomcaoaaGreatDoor.Fl
theorem find_chk (A B N t : Nat) : ∀ fuel a b h0 k0 h1 k1 up, find A B N t fuel a b h0 k0 h1 k1 up = true →
  ∃ p0 q0 p1 q1, chk A B N t p0 q0 p1 q1 = true := by
 intro fuel
 induction fuel with
 | zero => intro a b h0 k0 h1 k1 up h; exact absurd h (by simp [find])
 | succ n ih =>
  intro a b h0 k0 h1 k1 up h; have h' : (if b == 0 || Nat.blt N (k0 + a / b * k1) then
   force ((N - k0) / k1) fun j =>
    if up then chk A B N t (h0 + j * h1) (k0 + j * k1) h1 k1 else chk A B N t h1 k1 (h0 + j * h1) (k0 + j * k1)
  else
   force (a / b) fun c => force (a % b) fun r => force (h0 + c * h1) fun h2 => force (k0 + c * k1) fun k2 =>
    find A B N t n b r h1 k1 h2 k2 (!up)) = true := h
  simp only [force_eq] at h'
  split at h'
  · split at h'
    · exact ⟨_, _, _, _, h'⟩
    · exact ⟨_, _, _, _, h'⟩
  · exact ih _ _ _ _ _ _ _ h'
theorem chk_miss {A B N t p0 q0 p1 q1 : Nat} (h : chk A B N t p0 q0 p1 q1 = true) (hB : 0 < B) {y : Nat} (hy1 : 1 ≤ y) (hy2 : y ≤ N) :
  (y * A) % B = 0 ∨ (t < (y * A) % B ∧ t < B - (y * A) % B) := by
 simp only [chk, Bool.and_eq_true, beq_iff_eq, Nat.blt_eq, Bool.or_eq_true] at h; obtain ⟨hdet, hq0, hq1, hN, h0, h1⟩ := h; have hda := Nat.div_add_mod (y * A) B; have hla := Nat.mod_lt (y * A) hB; have F : ∀ n : Int, ((y : Int) * A - n * B = 0 ∨ (t : Int) < (y : Int) * A - n * B ∨ (t : Int) < n * B - (y : Int) * A) := fun n =>
  farey (A : Int) B p0 q0 p1 q1 N t y n
   (by have : ((p1 * q0 : Nat) : Int) = ((p0 * q1 + 1 : Nat) : Int) := by rw [hdet]
       rw [Int.natCast_mul, Int.natCast_add, Int.natCast_mul] at this; omega)
   (by omega) (by omega) (by omega)
   (by rcases h0 with h0 | h0
       · left; have : ((q0 * A : Nat) : Int) = ((p0 * B : Nat) : Int) := by rw [h0]
         rw [Int.natCast_mul, Int.natCast_mul] at this; omega
       · right; have : ((t + p0 * B : Nat) : Int) < ((q0 * A : Nat) : Int) := by omega
         rw [Int.natCast_add, Int.natCast_mul, Int.natCast_mul] at this; omega)
   (by rcases h1 with h1 | h1
       · left; have : ((q1 * A : Nat) : Int) = ((p1 * B : Nat) : Int) := by rw [h1]
         rw [Int.natCast_mul, Int.natCast_mul] at this; omega
       · right; have : ((t + q1 * A : Nat) : Int) < ((p1 * B : Nat) : Int) := by omega
         rw [Int.natCast_add, Int.natCast_mul, Int.natCast_mul] at this; omega)
   (by omega) (by omega) (by omega)
 have e : (y : Int) * A = ((y * A : Nat) : Int) := by rw [Int.natCast_mul]
 have F0 := F ((y * A / B : Nat) : Int); have F1 := F ((y * A / B : Nat) + 1 : Int); rw [e] at F0 F1; rw [Int.add_mul, Int.one_mul] at F1; have e2 : ((y * A / B : Nat) : Int) * B = ((B * (y * A / B) : Nat) : Int) := by rw [Int.natCast_mul, Int.mul_comm]
 rw [e2] at F0 F1; omega
structure Fits (e : Int) (sk : Bool) : Prop where
 s0 : 0 ≤ sOf e sk
 s1 : sOf e sk < 64
 p0 : -348 ≤ pOf e sk
 p1 : pOf e sk ≤ 347
 wide : if sk then 4 * de (pOf e sk) (e + 2) ≤ 3 * (2 ^ 9 * nu (pOf e sk) (e + 2)) ∧ 3 * (2 ^ 9 * nu (pOf e sk) (e + 2)) < 40 * de (pOf e sk) (e + 2)
  else de (pOf e sk) (e + 2) ≤ 2 ^ 9 * nu (pOf e sk) (e + 2) ∧ 2 ^ 9 * nu (pOf e sk) (e + 2) < 10 * de (pOf e sk) (e + 2)
 miss : ∀ y, 1 ≤ y → y ≤ 2 ^ 55 → (y * (2 ^ 9 * nu (pOf e sk) (e + 2))) % de (pOf e sk) (e + 2) ≠ 0 →
  2 * de (pOf e sk) (e + 2) < (y * (2 ^ 9 * nu (pOf e sk) (e + 2))) % de (pOf e sk) (e + 2) * 2 ^ (64 + (sOf e sk).toNat) ∧
  2 * de (pOf e sk) (e + 2) < (de (pOf e sk) (e + 2) - (y * (2 ^ 9 * nu (pOf e sk) (e + 2))) % de (pOf e sk) (e + 2)) * 2 ^ (64 + (sOf e sk).toNat)
theorem fits_of_good {i : Nat} {sk : Bool} (h : good i sk = true) : Fits ((i : Int) - 1085) sk := by
 unfold good at h; simp only [forceI_eq, force_eq] at h; generalize hA : 2 ^ 9 * nu (pOf ((i : Int) - 1085) sk) ((i : Int) - 1085 + 2) = A at h; generalize hB : de (pOf ((i : Int) - 1085) sk) ((i : Int) - 1085 + 2) = B at h; simp only [Bool.and_eq_true, decide_eq_true_eq] at h; obtain ⟨⟨⟨⟨h1, h2⟩, h3⟩, h4⟩, h5, h6⟩ := h; obtain ⟨p0, q0, p1, q1, hc⟩ := find_chk _ _ _ _ _ _ _ _ _ _ _ _ h6; have hBpos : 0 < B := by rw [← hB]; exact de_pos _ _
 refine ⟨h1, h2, h3, h4, ?_, ?_⟩
 · rw [hA, hB]
   cases sk <;> simpa using h5
 ·
  intro y hy1 hy2 hy3; rw [hA, hB] at *; have hM : 0 < 2 ^ (64 + (sOf ((i : Int) - 1085) sk).toNat) := Nat.two_pow_pos _; rcases chk_miss hc hBpos hy1 hy2 with h | ⟨g1, g2⟩
  · exact absurd h hy3
  · exact ⟨(Nat.div_lt_iff_lt_mul hM).1 g1, (Nat.div_lt_iff_lt_mul hM).1 g2⟩
theorem fits (e : Int) (sk : Bool) (h1 : -1085 ≤ e) (h2 : e ≤ 960) : Fits e sk := by
 obtain ⟨i, hi⟩ : ∃ i : Nat, e = (i : Int) - 1085 := ⟨(e + 1085).toNat, by omega⟩; subst hi; have := run2046 i (by omega)
 cases sk
 · exact fits_of_good this.1
 · exact fits_of_good this.2
def rowGood (p : Int) (x : Nat × Nat) : Bool :=
 Nat.ble (2 ^ 63) x.1 && (Nat.blt x.1 (2 ^ 64) && (Nat.blt x.2 (2 ^ 64) &&
 (Nat.ble (nu p (127 - lg2 p)) ((x.1 * 2 ^ 64 - x.2) * de p (127 - lg2 p)) && Nat.ble ((x.1 * 2 ^ 64 - x.2) * de p (127 - lg2 p)) (nu p (127 - lg2 p) + de p (127 - lg2 p)))))
def rowsGood : List (Nat × Nat) → Int → Bool
 | [], _ => true
 | x :: r, p => rowGood p x && rowsGood r (p + 1)
theorem rowsGood_at : ∀ (l : List (Nat × Nat)) (p : Int), rowsGood l p = true → ∀ k (h : k < l.length), rowGood (p + k) l[k] = true := by
 intro l
 induction l with
 | nil => intro p _ k h; exact absurd h (Nat.not_lt_zero k)
 | cons x r ih =>
  intro p h k hk; simp only [rowsGood, Bool.and_eq_true] at h
  cases k with
  | zero => simpa using h.1
  | succ k =>
   have := ih (p + 1) h.2 k (by simpa using hk); have e : p + ((k + 1 : Nat) : Int) = p + 1 + (k : Int) := by omega
   rw [e]; simpa using this
set_option maxRecDepth 100000 in
theorem table_len : Go.Pinned.pow10Rows.length = 696 := by decide +kernel
set_option maxRecDepth 100000 in
theorem table_good : rowsGood Go.Pinned.pow10Rows (-348) = true := by decide +kernel
def row (p : Int) : Nat × Nat := Go.Pinned.pow10Rows.getD (p + 348).toNat (0, 0)
structure RowOk (p : Int) : Prop where
 hi0 : 2 ^ 63 ≤ (row p).1
 hi1 : (row p).1 < 2 ^ 64
 lo : (row p).2 < 2 ^ 64
 low : nu p (127 - lg2 p) ≤ ((row p).1 * 2 ^ 64 - (row p).2) * de p (127 - lg2 p)
 high : ((row p).1 * 2 ^ 64 - (row p).2) * de p (127 - lg2 p) ≤ nu p (127 - lg2 p) + de p (127 - lg2 p)
theorem row_ok (p : Int) (h1 : -348 ≤ p) (h2 : p ≤ 347) : RowOk p := by
 have hk : (p + 348).toNat < Go.Pinned.pow10Rows.length := by rw [table_len]; omega
 have := rowsGood_at _ _ table_good (p + 348).toNat hk; have e : (-348 : Int) + ((p + 348).toNat : Int) = p := by omega
 rw [e] at this; have er : Go.Pinned.pow10Rows[(p + 348).toNat] = row p := by
  unfold row; rw [List.getD_eq_getElem?_getD, List.getElem?_eq_getElem hk]; rfl
 rw [er] at this; simp only [rowGood, Bool.and_eq_true, Nat.ble_eq, Nat.blt_eq] at this; obtain ⟨a, b, c, d, e⟩ := this; exact ⟨a, b, c, d, e⟩
theorem nu_shift (p q : Int) (k : Nat) : nu p (q + k) * de p q = nu p q * 2 ^ k * de p (q + k) := by
 unfold nu de; have e : (q + k).toNat + (-q).toNat = q.toNat + k + (-(q + k)).toNat := by omega
 have h2 : (2 : Nat) ^ (q + k).toNat * 2 ^ (-q).toNat = 2 ^ q.toNat * 2 ^ k * 2 ^ (-(q + k)).toNat := by
  rw [← Nat.pow_add, ← Nat.pow_add, ← Nat.pow_add, e]
 generalize (2 : Nat) ^ (q + k).toNat = a at *; generalize (2 : Nat) ^ (-q).toNat = b at *; generalize (2 : Nat) ^ q.toNat = c at *; generalize (2 : Nat) ^ k = d at *; generalize (2 : Nat) ^ (-(q + k)).toNat = f at *; generalize (10 : Nat) ^ p.toNat = u; generalize (10 : Nat) ^ (-p).toNat = v; have e1 : u * a * (v * b) = u * v * (a * b) := by simp only [Nat.mul_assoc, Nat.mul_comm, Nat.mul_left_comm]
 have e2 : u * c * d * (v * f) = u * v * (c * d * f) := by simp only [Nat.mul_assoc, Nat.mul_comm, Nat.mul_left_comm]
 rw [e1, e2, h2]
theorem uscale_case (e : Int) (sk : Bool) (h1 : -1085 ≤ e) (h2 : e ≤ 960) (k y x : Nat) (hx : x = y * 2 ^ (9 + k)) (hx64 : x < 2 ^ 64)
  (hy1 : 1 ≤ y) (hy2 : y ≤ 2 ^ 55) :
  uscaleN x (row (pOf e sk)).1 (row (pOf e sk)).2 ((sOf e sk).toNat + k) = unr (y * (2 ^ 9 * nu (pOf e sk) (e + 2))) (de (pOf e sk) (e + 2)) := by
 have F := fits e sk h1 h2; have R := row_ok (pOf e sk) F.p0 F.p1; have hs0 := F.s0; have hmiss := F.miss y hy1 hy2; obtain ⟨s, hs⟩ : ∃ s : Nat, (sOf e sk).toNat = s := ⟨_, rfl⟩; have hs' : sOf e sk = s := by omega
 have hq : e + 2 + ((128 + s : Nat) : Int) = 127 - lg2 (pOf e sk) := by
  have : sOf e sk = -(e + lg2 (pOf e sk) + 3) := rfl; omega
 have hsh := nu_shift (pOf e sk) (e + 2) (128 + s); rw [hq] at hsh; rw [hs] at hmiss ⊢; have Rlow := R.low; have Rhigh := R.high; have hdp := de_pos (pOf e sk) (127 - lg2 (pOf e sk)); have hbp := de_pos (pOf e sk) (e + 2); have hx2 : 2 ≤ x := by
  rw [hx]; have : 2 ≤ 2 ^ (9 + k) := by rw [show 9 + k = (8 + k) + 1 from by omega, Nat.pow_succ]; have := Nat.two_pow_pos (8 + k); omega
  exact Nat.le_trans this (Nat.le_mul_of_pos_left _ hy1)
 refine uscaleN_exact _ _ _ _ _ _ hx64 R.lo R.hi0 hx2 hbp ?_ ?_ ?_; all_goals
  generalize (row (pOf e sk)).1 * 2 ^ 64 - (row (pOf e sk)).2 = P at *; generalize nu (pOf e sk) (e + 2) = n at *; generalize de (pOf e sk) (e + 2) = d at *; generalize nu (pOf e sk) (127 - lg2 (pOf e sk)) = n' at *; generalize de (pOf e sk) (127 - lg2 (pOf e sk)) = d' at *
 ·
  have g : n * 2 ^ (128 + s) ≤ P * d := by
   have : n * 2 ^ (128 + s) * d' ≤ P * d * d' := by
    rw [← hsh, Nat.mul_right_comm]; exact Nat.mul_le_mul_right _ Rlow
   exact Nat.le_of_mul_le_mul_right this hdp
  have e1 : y * (2 ^ 9 * n) * 2 ^ (128 + (s + k)) = x * (n * 2 ^ (128 + s)) := by
   rw [hx, show 128 + (s + k) = (128 + s) + k from by omega, Nat.pow_add 2 (128 + s) k, Nat.pow_add 2 9 k]; simp only [Nat.mul_assoc, Nat.mul_comm, Nat.mul_left_comm]
  rw [e1, Nat.mul_assoc]; exact Nat.mul_le_mul_left _ g
 ·
  have g : P * d ≤ n * 2 ^ (128 + s) + d := by
   have : P * d * d' ≤ (n * 2 ^ (128 + s) + d) * d' := by
    rw [Nat.add_mul, ← hsh, Nat.mul_right_comm]; have := Nat.mul_le_mul_right d Rhigh; rw [Nat.add_mul, Nat.mul_comm d' d] at this; exact this
   exact Nat.le_of_mul_le_mul_right this hdp
  have e1 : y * (2 ^ 9 * n) * 2 ^ (128 + (s + k)) = x * (n * 2 ^ (128 + s)) := by
   rw [hx, show 128 + (s + k) = (128 + s) + k from by omega, Nat.pow_add 2 (128 + s) k, Nat.pow_add 2 9 k]; simp only [Nat.mul_assoc, Nat.mul_comm, Nat.mul_left_comm]
  rw [e1, Nat.mul_assoc]; have g2 := Nat.mul_le_mul_left x g; rw [Nat.mul_add] at g2; have g3 : x * d ≤ 2 ^ 64 * d := Nat.mul_le_mul_right _ (by omega); omega
 · intro hr
   obtain ⟨a, b⟩ := hmiss hr; have hle : 2 ^ (64 + s) ≤ 2 ^ (64 + (s + k)) := Nat.pow_le_pow_right (by decide) (by omega); exact ⟨Nat.lt_of_lt_of_le a (Nat.mul_le_mul_left _ hle), Nat.lt_of_lt_of_le b (Nat.mul_le_mul_left _ hle)⟩
end Go.Proofs.YtljaoopfomcaoaaGreatDoor.Fl
namespace Go.Proofs.YtljaoopfomcaoaaGreatDoor.Fl
theorem or_one (q : Nat) : q ||| 1 = 2 * (q / 2) + 1 := by
 have h : (q ||| 1) = (q / 2) * 2 + 1 := by
  apply Nat.eq_of_testBit_eq; intro i
  cases i with
  | zero => simp [Nat.testBit_zero]
  | succ i =>
   rw [Nat.testBit_or, Nat.testBit_succ, Nat.testBit_succ, Nat.testBit_succ]; have e1 : (q / 2 * 2 + 1) / 2 = q / 2 := by omega
   rw [e1]; simp
 omega
theorem unr_le2 (a b K : Nat) (hb : 0 < b) : unr a b ≤ 2 * K ↔ a ≤ 2 * K * b := by
 have hda := Nat.div_add_mod a b; have hla := Nat.mod_lt a hb; unfold unr; generalize a / b = q at *; generalize a % b = r at *; rw [← hda]
 split
 · rename_i h0
   rw [h0, Nat.add_zero, Nat.mul_comm b q]; exact ⟨fun h => Nat.mul_le_mul_right _ h, fun h => Nat.le_of_mul_le_mul_right h hb⟩
 ·
  rename_i h0
  rw [or_one]; constructor
  · intro h
    have : b * (q + 1) ≤ b * (2 * K) := Nat.mul_le_mul_left _ (by omega); rw [Nat.mul_add] at this; rw [Nat.mul_comm (2 * K)]; omega
  · intro h
    have : b * q < b * (2 * K) := by rw [Nat.mul_comm b (2 * K)]; omega
    have := Nat.lt_of_mul_lt_mul_left this; omega
theorem unr_lt2 (a b K : Nat) (hb : 0 < b) : unr a b < 2 * K ↔ a < 2 * K * b := by
 have hda := Nat.div_add_mod a b; have hla := Nat.mod_lt a hb; unfold unr; generalize a / b = q at *; generalize a % b = r at *; rw [← hda]
 split
 · rename_i h0
   rw [h0, Nat.add_zero, Nat.mul_comm b q]; exact ⟨fun h => Nat.mul_lt_mul_of_pos_right h hb, fun h => Nat.lt_of_mul_lt_mul_right h⟩
 ·
  rename_i h0
  rw [or_one]; constructor
  · intro h
    have : b * (q + 1) ≤ b * (2 * K) := Nat.mul_le_mul_left _ (by omega); rw [Nat.mul_add] at this; rw [Nat.mul_comm (2 * K)]; omega
  · intro h
    have : b * q < b * (2 * K) := by rw [Nat.mul_comm b (2 * K)]; omega
    have := Nat.lt_of_mul_lt_mul_left this; omega
def pick (umin umax umid odd : Nat) (p : Int) : Nat × Int :=
 if (umin + odd + 3) / 4 ≤ (umax - odd) / 4 / 10 * 10 then ((umax - odd) / 4 / 10, -(p - 1))
 else if (umin + odd + 3) / 4 < (umax - odd) / 4 then ((umid + 1 + umid / 4 % 2) / 4, -p)
 else ((umin + odd + 3) / 4, -p)
def Within (amin amax b odd D : Nat) : Prop := if odd = 0 then amin ≤ 4 * D * b ∧ 4 * D * b ≤ amax else amin < 4 * D * b ∧ 4 * D * b < amax
theorem within_iff (amin amax b odd D : Nat) (hb : 0 < b) (hodd : odd ≤ 1) (hu : 1 ≤ unr amax b) :
  Within amin amax b odd D ↔ (unr amin b + odd + 3) / 4 ≤ D ∧ D ≤ (unr amax b - odd) / 4 := by
 have a1 := unr_le2 amin b (2 * D) hb; have a2 := unr_lt2 amin b (2 * D) hb; have a3 := unr_le2 amax b (2 * D) hb; have a4 := unr_lt2 amax b (2 * D) hb; rw [show 2 * (2 * D) = 4 * D from by omega] at a1 a2 a3 a4; unfold Within; generalize unr amin b = u at *; generalize unr amax b = v at *; generalize 4 * D * b = z at *
 split
 · omega
 · obtain rfl : odd = 1 := by omega
   omega
theorem pick_ok (amin amid amax b odd : Nat) (p : Int) (hb : 0 < b) (hodd : odd ≤ 1) (hu : 1 ≤ unr amax b) (hl : 1 ≤ unr amin b)
  (hex : ∃ D, Within amin amax b odd D) (hmid : 2 * amid = amin + amax ∨ (odd = 0 ∧ 3 * amid = 2 * amin + amax)) :
  ∃ d D p', pick (unr amin b) (unr amax b) (unr amid b) odd p = (d, p') ∧ ((p' = -p ∧ D = d) ∨ (p' = -p + 1 ∧ D = 10 * d)) ∧ Within amin amax b odd D ∧ 1 ≤ d := by
 have W := fun D => within_iff amin amax b odd D hb hodd hu
 unfold pick; by_cases h1 : (unr amin b + odd + 3) / 4 ≤ (unr amax b - odd) / 4 / 10 * 10
 · rw [if_pos h1]
   refine ⟨_, (unr amax b - odd) / 4 / 10 * 10, _, rfl, Or.inr ⟨by omega, by omega⟩, (W _).2 ⟨h1, by omega⟩, ?_⟩; omega
 ·
  rw [if_neg h1]; by_cases h2 : (unr amin b + odd + 3) / 4 < (unr amax b - odd) / 4
  ·
   rw [if_pos h2]; have hd : (unr amin b + odd + 3) / 4 ≤ (unr amid b + 1 + unr amid b / 4 % 2) / 4 ∧ (unr amid b + 1 + unr amid b / 4 % 2) / 4 ≤ (unr amax b - odd) / 4 := by
    obtain ⟨lo, hlo⟩ : ∃ lo, lo = (unr amin b + odd + 3) / 4 := ⟨_, rfl⟩; obtain ⟨hi, hhi⟩ : ∃ hi, hi = (unr amax b - odd) / 4 := ⟨_, rfl⟩; rw [← hlo, ← hhi] at h2 ⊢; have hlo1 : 1 ≤ lo := by omega
    have c1 : 4 * (lo - 1) * b ≤ amin ∧ (odd = 0 → 4 * (lo - 1) * b < amin) := by
     have a1 := unr_le2 amin b (2 * (lo - 1)) hb; have a2 := unr_lt2 amin b (2 * (lo - 1)) hb; rw [show 2 * (2 * (lo - 1)) = 4 * (lo - 1) from by omega] at a1 a2; generalize 4 * (lo - 1) * b = z at *; omega
    have c2 : amin ≤ 4 * lo * b := by
     have a1 := unr_le2 amin b (2 * lo) hb; rw [show 2 * (2 * lo) = 4 * lo from by omega] at a1; generalize 4 * lo * b = z at *; omega
    have c3 : 4 * hi * b ≤ amax := by
     have a1 := unr_lt2 amax b (2 * hi) hb; rw [show 2 * (2 * hi) = 4 * hi from by omega] at a1; generalize 4 * hi * b = z at *; omega
    have c4 : amax ≤ 4 * (hi + 1) * b ∧ (odd = 0 → amax < 4 * (hi + 1) * b) := by
     have a1 := unr_le2 amax b (2 * (hi + 1)) hb; have a2 := unr_lt2 amax b (2 * (hi + 1)) hb; rw [show 2 * (2 * (hi + 1)) = 4 * (hi + 1) from by omega] at a1 a2; generalize 4 * (hi + 1) * b = z at *; omega
    have m1 : 4 * lo * b = 4 * (lo - 1) * b + 4 * b := by rw [← Nat.add_mul, show 4 * (lo - 1) + 4 = 4 * lo from by omega]
    have m2 : 4 * (hi + 1) * b = 4 * hi * b + 4 * b := by rw [← Nat.add_mul, show 4 * hi + 4 = 4 * (hi + 1) from by omega]
    have m3 : 4 * lo * b + 4 * b ≤ 4 * hi * b := by rw [← Nat.add_mul]; exact Nat.mul_le_mul_right _ (by omega)
    have m4 : 2 * (2 * lo - 1) * b + 2 * b = 4 * lo * b := by rw [← Nat.add_mul, show 2 * (2 * lo - 1) + 2 = 4 * lo from by omega]
    have k1 := unr_lt2 amid b (2 * lo) hb; have k2 := unr_le2 amid b (2 * hi) hb; have k3 := unr_le2 amid b (2 * lo - 1) hb; rw [show 2 * (2 * lo) = 4 * lo from by omega] at k1; rw [show 2 * (2 * hi) = 4 * hi from by omega] at k2; generalize unr amid b = u at *; generalize hz1 : 4 * lo * b = z1 at *; generalize hz2 : 4 * hi * b = z2 at *; generalize 4 * (lo - 1) * b = z3 at *; generalize 4 * (hi + 1) * b = z4 at *; generalize 2 * (2 * lo - 1) * b = z5 at *; rcases hmid with hm | ⟨ho, hm⟩
    · have g1 : z1 ≤ amid := by omega
      have g2 : amid ≤ z2 := by omega
      have g3 : 4 * lo ≤ u := by omega
      have g4 : u ≤ 4 * hi := by omega
      omega
    · have g1 : z5 < amid := by omega
      have g2 : amid ≤ z2 := by omega
      have g3 : 2 * (2 * lo - 1) < u := by omega
      have g4 : u ≤ 4 * hi := by omega
      omega
   exact ⟨_, _, _, rfl, Or.inl ⟨rfl, rfl⟩, (W _).2 hd, by omega⟩
  · rw [if_neg h2]
    obtain ⟨D, hD⟩ := hex; have := (W D).1 hD; exact ⟨_, _, _, rfl, Or.inl ⟨rfl, rfl⟩, (W _).2 ⟨Nat.le_refl _, by omega⟩, by omega⟩
def gap (mant : Nat) (E : Int) : Nat := if mant = 2 ^ 52 ∧ -1074 < E then 1 else 2
def InIv (mant : Nat) (E : Int) (d : Nat) (P : Int) : Prop :=
 if mant % 2 = 0 then
  (4 * mant - gap mant E) * nu (-P) (E - 2) ≤ d * de (-P) (E - 2) ∧ d * de (-P) (E - 2) ≤ (4 * mant + 2) * nu (-P) (E - 2)
 else (4 * mant - gap mant E) * nu (-P) (E - 2) < d * de (-P) (E - 2) ∧ d * de (-P) (E - 2) < (4 * mant + 2) * nu (-P) (E - 2)
theorem ten_shift (p q : Int) : nu p q * de (p - 1) q = 10 * (nu (p - 1) q * de p q) := by
 unfold nu de; have h : (10 : Nat) ^ p.toNat * 10 ^ (-(p - 1)).toNat = 10 * (10 ^ (p - 1).toNat * 10 ^ (-p).toNat) := by
  rw [← Nat.pow_add, ← Nat.pow_add, ← Nat.pow_succ']
  congr 1
  omega
 generalize (10 : Nat) ^ p.toNat = a at *; generalize (10 : Nat) ^ (-(p - 1)).toNat = b at *; generalize (10 : Nat) ^ (p - 1).toNat = c at *; generalize (10 : Nat) ^ (-p).toNat = d at *; generalize (2 : Nat) ^ q.toNat = u; generalize (2 : Nat) ^ (-q).toNat = v; have e1 : a * u * (b * v) = a * b * (u * v) := by simp only [Nat.mul_assoc, Nat.mul_comm, Nat.mul_left_comm]
 have e2 : 10 * (c * u * (d * v)) = 10 * (c * d) * (u * v) := by simp only [Nat.mul_assoc, Nat.mul_comm, Nat.mul_left_comm]
 rw [e1, e2, h]
theorem cross_le {y z n d n' d' c c' : Nat} (h : n' * d * c = n * d' * c') (hd : 0 < d) (hd' : 0 < d') (hc : 0 < c) (hc' : 0 < c') :
  (y * n' * c ≤ z * d' * c' ↔ y * n ≤ z * d) ∧ (z * d' * c' ≤ y * n' * c ↔ z * d ≤ y * n) := by
 have e1 : y * n' * c * d = y * n * (d' * c') := by
  have : y * n' * c * d = y * (n' * d * c) := by simp only [Nat.mul_assoc, Nat.mul_comm, Nat.mul_left_comm]
  rw [this, h]; simp only [Nat.mul_assoc, Nat.mul_comm, Nat.mul_left_comm]
 have e2 : z * d' * c' * d = z * d * (d' * c') := by simp only [Nat.mul_assoc, Nat.mul_comm, Nat.mul_left_comm]
 have hp : 0 < d' * c' := Nat.mul_pos hd' hc'; constructor
 · rw [← Nat.mul_le_mul_right_iff hd, e1, e2, Nat.mul_le_mul_right_iff hp]
 · rw [← Nat.mul_le_mul_right_iff hd, e1, e2, Nat.mul_le_mul_right_iff hp]
theorem short_ok (mant : Nat) (E : Int) (h1 : 1 ≤ mant) (h2 : mant < 2 ^ 53) (hE1 : -1074 ≤ E) (hE2 : E ≤ 971) :
  let sk := decide (mant = 2 ^ 52 ∧ -1074 < E)
  let p := pOf (E - 11) sk
  let A := 2 ^ 9 * nu p (E - 11 + 2)
  let B := de p (E - 11 + 2)
  ∃ d p', pick (unr ((4 * mant - gap mant E) * A) B) (unr ((4 * mant + 2) * A) B) (unr (4 * mant * A) B) (mant % 2) p = (d, p') ∧
   InIv mant E d p' ∧ 1 ≤ d ∧ d < 10 ^ 17 ∧ -348 ≤ p' ∧ p' ≤ 349 := by
 intro sk p A B; have F := fits (E - 11) sk (by omega) (by omega); have hB : 0 < B := de_pos _ _; have hw := F.wide; have hAB : B ≤ A ∧ 3 * A < 40 * B ∧ (sk = false → A < 10 * B) ∧ (sk = true → 4 * B ≤ 3 * A) := by
  show B ≤ A ∧ 3 * A < 40 * B ∧ (sk = false → A < 10 * B) ∧ (sk = true → 4 * B ≤ 3 * A)
  by_cases hs : sk = true
  ·
   rw [hs] at hw; simp only [if_true] at hw; have hA' : 2 ^ 9 * nu (pOf (E - 11) true) (E - 11 + 2) = A := by show _ = 2 ^ 9 * nu (pOf (E - 11) sk) (E - 11 + 2); rw [hs]
   have hB' : de (pOf (E - 11) true) (E - 11 + 2) = B := by show _ = de (pOf (E - 11) sk) (E - 11 + 2); rw [hs]
   rw [hA', hB'] at hw; exact ⟨by omega, hw.2, (fun h => by rw [hs] at h; cases h), fun _ => hw.1⟩
  ·
   have hs : sk = false := by simpa using hs
   rw [hs] at hw; have hA' : 2 ^ 9 * nu (pOf (E - 11) false) (E - 11 + 2) = A := by show _ = 2 ^ 9 * nu (pOf (E - 11) sk) (E - 11 + 2); rw [hs]
   have hB' : de (pOf (E - 11) false) (E - 11 + 2) = B := by show _ = de (pOf (E - 11) sk) (E - 11 + 2); rw [hs]
   have hw' : B ≤ A ∧ A < 10 * B := by rw [← hA', ← hB']; exact hw
   exact ⟨hw'.1, by omega, fun _ => hw'.2, (fun h => by rw [hs] at h; cases h)⟩
 have hsk : sk = true ↔ (mant = 2 ^ 52 ∧ -1074 < E) := by show decide _ = true ↔ _; exact decide_eq_true_iff
 have hg : gap mant E = if sk then 1 else 2 := by
  unfold gap; by_cases h : mant = 2 ^ 52 ∧ -1074 < E
  · rw [if_pos h, if_pos (hsk.2 h)]
  · rw [if_neg h, if_neg (fun c => h (hsk.1 c))]
 have hdefA : A = 2 ^ 9 * nu p (E - 11 + 2) := rfl; have hdefB : B = de p (E - 11 + 2) := rfl; have hp0 : -348 ≤ p := F.p0; have hp1 : p ≤ 347 := F.p1; clear_value A B
 clear hw; obtain ⟨hAB1, hAB2, hAB3, hAB4⟩ := hAB; have hum : ∀ y, 1 ≤ y → 1 ≤ unr (y * A) B := fun y hy => by
  rcases Nat.eq_zero_or_pos (unr (y * A) B) with h | h
  · have := (unr_le2 (y * A) B 0 hB).1 (by omega)
    have h3 : A ≤ y * A := Nat.le_mul_of_pos_left _ hy; omega
  · exact h
 have hgap : gap mant E = 1 ∨ gap mant E = 2 := by rw [hg]; cases sk <;> simp
 have hex : ∃ D, Within ((4 * mant - gap mant E) * A) ((4 * mant + 2) * A) B (mant % 2) D := by
  by_cases hodd : mant % 2 = 0
  ·
   refine ⟨(4 * mant + 2) * A / (4 * B), ?_⟩; unfold Within; rw [if_pos hodd]; have hda := Nat.div_add_mod ((4 * mant + 2) * A) (4 * B); have hla := Nat.mod_lt ((4 * mant + 2) * A) (show 0 < 4 * B by omega); have e1 : 4 * ((4 * mant + 2) * A / (4 * B)) * B = 4 * B * ((4 * mant + 2) * A / (4 * B)) := by simp only [Nat.mul_assoc, Nat.mul_comm, Nat.mul_left_comm]
   rw [e1]; have e2 : (4 * mant + 2) * A = (4 * mant - gap mant E) * A + (2 + gap mant E) * A := by rw [← Nat.add_mul]; congr 1; omega
   have e3 : 4 * B ≤ (2 + gap mant E) * A := by
    rw [hg]
    cases hs : sk
    · simp; omega
    · have := hAB4 hs; simp; omega
   omega
  ·
   have hs : sk = false := by
    cases hs : sk
    · rfl
    · have := (hsk.1 hs).1; omega
   have hg2 : gap mant E = 2 := by rw [hg, hs]; rfl
   rw [hg2]; by_cases hAeq : A = B
   · refine ⟨mant, ?_⟩
     unfold Within; rw [if_neg hodd, hAeq]; exact ⟨Nat.mul_lt_mul_of_pos_right (by omega) hB, Nat.mul_lt_mul_of_pos_right (by omega) hB⟩
   ·
    refine ⟨((4 * mant + 2) * A - 1) / (4 * B), ?_⟩; unfold Within; rw [if_neg hodd]; have hda := Nat.div_add_mod ((4 * mant + 2) * A - 1) (4 * B); have hla := Nat.mod_lt ((4 * mant + 2) * A - 1) (show 0 < 4 * B by omega); have e1 : 4 * (((4 * mant + 2) * A - 1) / (4 * B)) * B = 4 * B * (((4 * mant + 2) * A - 1) / (4 * B)) := by simp only [Nat.mul_assoc, Nat.mul_comm, Nat.mul_left_comm]
    rw [e1]; have e2 : (4 * mant + 2) * A = (4 * mant - 2) * A + 4 * A := by rw [← Nat.add_mul]; congr 1; omega
    have e4 : A ≤ (4 * mant + 2) * A := Nat.le_mul_of_pos_left _ (by omega); omega
 have hmid : 2 * (4 * mant * A) = (4 * mant - gap mant E) * A + (4 * mant + 2) * A ∨ (mant % 2 = 0 ∧ 3 * (4 * mant * A) = 2 * ((4 * mant - gap mant E) * A) + (4 * mant + 2) * A) := by
  rw [hg]
  cases hs : sk
  · left
    rw [← Nat.add_mul, ← Nat.mul_assoc]; congr 1; simp; omega
  · right
    have hm := (hsk.1 hs).1; refine ⟨by omega, ?_⟩; rw [if_pos rfl, show 3 * (4 * mant * A) = 12 * mant * A from by rw [← Nat.mul_assoc, ← Nat.mul_assoc], show 2 * ((4 * mant - 1) * A) = 2 * (4 * mant - 1) * A from by rw [Nat.mul_assoc], ← Nat.add_mul, show 2 * (4 * mant - 1) + (4 * mant + 2) = 12 * mant from by omega]
 obtain ⟨d, D, p', hpick, hrel, hin, hd1⟩ := pick_ok ((4 * mant - gap mant E) * A) (4 * mant * A) ((4 * mant + 2) * A) B (mant % 2) p hB (by omega) (hum _ (by omega)) (hum _ (by omega)) hex hmid; refine ⟨d, p', hpick, ?_, hd1, ?_, by omega, by omega⟩
 ·
  have key : ∀ y, (y * A ≤ 4 * D * B ↔ y * nu (-p') (E - 2) ≤ d * de (-p') (E - 2)) ∧ (4 * D * B ≤ y * A ↔ d * de (-p') (E - 2) ≤ y * nu (-p') (E - 2)) := by
   intro y; have hsh := nu_shift p (E - 11 + 2) 7; rw [show E - 11 + 2 + ((7 : Nat) : Int) = E - 2 from by omega] at hsh; have q0 := de_pos p (E - 11 + 2); have q1 := de_pos p (E - 2); have c1 := cross_le (y := y) (z := D) (n := nu p (E - 2)) (d := de p (E - 2)) (n' := nu p (E - 11 + 2)) (d' := de p (E - 11 + 2)) (c := 2 ^ 7) (c' := 1)
    (by rw [Nat.mul_one, hsh, Nat.mul_right_comm]) q1 q0 (by decide) (by decide)
   rw [Nat.mul_one] at c1; have c0 : (y * A ≤ 4 * D * B ↔ y * nu p (E - 11 + 2) * 2 ^ 7 ≤ D * de p (E - 11 + 2)) ∧ (4 * D * B ≤ y * A ↔ D * de p (E - 11 + 2) ≤ y * nu p (E - 11 + 2) * 2 ^ 7) := by
    rw [hdefA, hdefB]; have e1 : y * (2 ^ 9 * nu p (E - 11 + 2)) = 4 * (y * nu p (E - 11 + 2) * 2 ^ 7) := by
     rw [show (2 : Nat) ^ 9 = 4 * 2 ^ 7 from by decide]; simp only [Nat.mul_assoc, Nat.mul_comm, Nat.mul_left_comm]
    rw [e1, Nat.mul_assoc 4]; constructor <;> omega
   rcases hrel with ⟨rfl, rfl⟩ | ⟨rfl, rfl⟩
   · rw [Int.neg_neg]
     exact ⟨c0.1.trans c1.1, c0.2.trans c1.2⟩
   ·
    have ht := ten_shift p (E - 2); have q2 := de_pos (p - 1) (E - 2); have c2 := cross_le (y := y) (z := d) (n := nu (p - 1) (E - 2)) (d := de (p - 1) (E - 2)) (n' := nu p (E - 2)) (d' := de p (E - 2)) (c := 1) (c' := 10)
     (by rw [Nat.mul_one, ht]; simp only [Nat.mul_assoc, Nat.mul_comm, Nat.mul_left_comm]) q2 q1 (by decide) (by decide)
    rw [Nat.mul_one] at c2; have e3 : 10 * d * de p (E - 2) = d * de p (E - 2) * 10 := by simp only [Nat.mul_assoc, Nat.mul_comm, Nat.mul_left_comm]
    rw [e3] at c1; rw [show -(-p + 1) = p - 1 from by omega]; exact ⟨c0.1.trans (c1.1.trans c2.1), c0.2.trans (c1.2.trans c2.2)⟩
  have k1 := key (4 * mant - gap mant E); have k2 := key (4 * mant + 2); unfold InIv; unfold Within at hin
  split
  · rename_i h0
    rw [if_pos h0] at hin; exact ⟨k1.1.1 hin.1, k2.2.1 hin.2⟩
  · rename_i h0
    rw [if_neg h0] at hin; refine ⟨Nat.lt_of_not_le fun c => ?_, Nat.lt_of_not_le fun c => ?_⟩
    · have := k1.2.2 c; omega
    · have := k2.1.2 c; omega
 ·
  have hdD : d ≤ D := by omega
  have h4 : 4 * D * B ≤ (4 * mant + 2) * A := by
   unfold Within at hin
   split at hin
   · exact hin.2
   · omega
  by_cases hs : sk = true
  ·
   have hm := (hsk.1 hs).1; have h5 : 3 * ((4 * mant + 2) * A) ≤ (4 * mant + 2) * (40 * B) := by
    rw [Nat.mul_left_comm]; exact Nat.mul_le_mul_left _ (by omega)
   have h6 : 3 * (4 * D * B) ≤ (4 * mant + 2) * (40 * B) := by omega
   have h7 : 12 * D * B ≤ (4 * mant + 2) * 40 * B := by
    rw [Nat.mul_assoc (4 * mant + 2), show 12 * D = 3 * (4 * D) from by omega, Nat.mul_assoc 3]; exact h6
   have := Nat.le_of_mul_le_mul_right h7 hB; omega
  ·
   have hA10 := hAB3 (by simpa using hs); have h5 : (4 * mant + 2) * A ≤ (4 * mant + 2) * (10 * B) := Nat.mul_le_mul_left _ (by omega); have h7 : 4 * D * B ≤ (4 * mant + 2) * 10 * B := by
    rw [Nat.mul_assoc (4 * mant + 2)]; omega
   have := Nat.le_of_mul_le_mul_right h7 hB; omega
end Go.Proofs.YtljaoopfomcaoaaGreatDoor.Fl
namespace Go.Proofs.YtljaoopfomcaoaaGreatDoor
section
open Go.RowKit
theorem log10_is (x : Int) (w : World) (h1 : -2000 ≤ x) (h2 : x ≤ 2000) : Calls Tryz.prog 80 #[.int .i64 x] w fun e w' => e = .returned (.int .i64 (Fl.lg10 x)) ∧ w' = w := by
 go_enter Tryz.func80, Tryz.ntmps80
 go_wp2
 go_ret; exact ⟨rfl, rfl⟩
theorem log2_is (x : Int) (w : World) (h1 : -2000 ≤ x) (h2 : x ≤ 2000) : Calls Tryz.prog 110 #[.int .i64 x] w fun e w' => e = .returned (.int .i64 (Fl.lg2 x)) ∧ w' = w := by
 go_enter Tryz.func110, Tryz.ntmps110
 go_wp2
 go_ret; exact ⟨rfl, rfl⟩
theorem skewed_is (x : Int) (w : World) (h1 : -2000 ≤ x) (h2 : x ≤ 2000) : Calls Tryz.prog 108 #[.int .i64 x] w fun e w' => e = .returned (.int .i64 (Fl.skw x)) ∧ w' = w := by
 go_enter Tryz.func108, Tryz.ntmps108
 go_wp2
 go_ret; exact ⟨rfl, rfl⟩
theorem floor_is (u : Nat) (w : World) (h : u < 18446744073709551616) : Calls Tryz.prog 114 #[.int .u64 u] w fun e w' => e = .returned (.int .u64 ((u / 4 : Nat) : Int)) ∧ w' = w := by
 go_enter Tryz.func114, Tryz.ntmps114
 go_wp2
 go_ret; exact ⟨rfl, rfl⟩
theorem ceil_is (u : Nat) (w : World) (h : u + 3 < 18446744073709551616) : Calls Tryz.prog 113 #[.int .u64 u] w fun e w' => e = .returned (.int .u64 (((u + 3) / 4 : Nat) : Int)) ∧ w' = w := by
 go_enter Tryz.func113, Tryz.ntmps113
 go_wp2
 go_ret; exact ⟨rfl, rfl⟩
theorem bool2_is (b : Bool) (w : World) : Calls Tryz.prog 145 #[.bool b] w fun e w' => e = .returned (.int .u64 (if b then 1 else 0)) ∧ w' = w := by
 cases b with
 | true =>
  go_enter Tryz.func145, Tryz.ntmps145
  go_wp2
  go_ret; exact ⟨rfl, rfl⟩
 | false =>
  go_enter Tryz.func145, Tryz.ntmps145
  go_wp2
  go_ret; exact ⟨rfl, rfl⟩
theorem bool2_n (p : Prop) [Decidable p] (k : Nat) (hk : k = if p then 1 else 0) (w : World) : Calls Tryz.prog 145 #[.bool (decide p)] w fun e w' => e = .returned (.int .u64 (k : Int)) ∧ w' = w := by
 refine (bool2_is (decide p) w).mono ?_
 rintro e w' ⟨rfl, rfl⟩
 refine ⟨?_, rfl⟩; rw [hk]; by_cases h : p
 · rw [decide_eq_true h, if_pos h]; rfl
 · rw [decide_eq_false h, if_neg h]; rfl
theorem nudge_up (u k : Nat) (w : World) (h : u + k < 18446744073709551616) (hk : k ≤ 1) : Calls Tryz.prog 112 #[.int .u64 u, .int .i64 k] w fun e w' => e = .returned (.int .u64 ((u + k : Nat) : Int)) ∧ w' = w := by
 go_enter Tryz.func112, Tryz.ntmps112
 go_wp2
 go_ret; exact ⟨rfl, rfl⟩
theorem nudge_down (u k : Nat) (x : Int) (hx : x = -(k : Int)) (w : World) (h : u < 18446744073709551616) (hk : k ≤ 1) (hku : k ≤ u) : Calls Tryz.prog 112 #[.int .u64 u, .int .i64 x] w fun e w' => e = .returned (.int .u64 ((u - k : Nat) : Int)) ∧ w' = w := by
 subst hx; have hw : IntKind.u64.wrap ((u : Int) + IntKind.u64.wrap (-(k : Int))) = ((u - k : Nat) : Int) := by
  show ((u : Int) + (-(k : Int)) % 18446744073709551616) % 18446744073709551616 = _
  omega
 go_enter Tryz.func112, Tryz.ntmps112
 go_wp2
 go_ret; exact ⟨rfl, rfl⟩
theorem round_is (u : Nat) (w : World) (h : u + 3 < 18446744073709551616) : Calls Tryz.prog 115 #[.int .u64 u] w fun e w' => e = .returned (.int .u64 (((u + 1 + u / 4 % 2) / 4 : Nat) : Int)) ∧ w' = w := by
 have hb : bits .and .u64 ((u : Int) / 4) 1 = ((u / 4 % 2 : Nat) : Int) := by
  have h9 := bits_and_u64_nat (u / 4) 1 (by omega) (by omega); rw [Nat.and_one_is_mod] at h9; exact h9
 go_enter Tryz.func115, Tryz.ntmps115
 go_wp2
 go_ret; refine ⟨?_, rfl⟩
 congr 1
def PreAt (w : World) (b : Nat) (hi lo : Nat) (s : Int) : Prop := w.heap[b]? = some (.cells #[.int .u64 hi, .int .u64 lo, .int .i64 s] 183 (0, 0))
theorem PreAt.c0 {w : World} {b hi lo : Nat} {s : Int} (h : PreAt w b hi lo s) : w.cell? ⟨b, 0, none⟩ = some (.int .u64 hi) := by unfold PreAt at h; simp [World.cell?, h]
theorem PreAt.c1 {w : World} {b hi lo : Nat} {s : Int} (h : PreAt w b hi lo s) : w.cell? ⟨b, 1, none⟩ = some (.int .u64 lo) := by unfold PreAt at h; simp [World.cell?, h]
theorem PreAt.c2 {w : World} {b hi lo : Nat} {s : Int} (h : PreAt w b hi lo s) : w.cell? ⟨b, 2, none⟩ = some (.int .i64 s) := by unfold PreAt at h; simp [World.cell?, h]
theorem PreAt.fr {w : World} {b hi lo : Nat} {s : Int} (h : PreAt w b hi lo s) (o : Nat) : w.frozen? ⟨b, o, none⟩ = false := by unfold PreAt at h; simp [World.frozen?, h]
structure PowTab (w : World) : Prop where
 hi : ∀ k, k < 696 → w.cell? ⟨4, 2 * k, none⟩ = some (.int .u64 ((Go.Pinned.pow10Rows.getD k (0, 0)).1 : Int))
 lo : ∀ k, k < 696 → w.cell? ⟨4, 2 * k + 1, none⟩ = some (.int .u64 ((Go.Pinned.pow10Rows.getD k (0, 0)).2 : Int))
theorem PowTab.heap {w w' : World} (h : PowTab w) (e : w'.heap[4]? = w.heap[4]?) : PowTab w' :=
 ⟨fun k hk => (cell_of_heap (p := ⟨4, 2 * k, none⟩) e).trans (h.hi k hk), fun k hk => (cell_of_heap (p := ⟨4, 2 * k + 1, none⟩) e).trans (h.lo k hk)⟩
set_option maxRecDepth 100000 in
set_option maxHeartbeats 1000000 in
theorem prescale_is (w : World) (b k : Nat) (e p lp : Int) (hp : p = (k : Int) - 348) (hk : k < 696) (hT : PowTab w) (hb : PreAt w b 0 0 0) (hb4 : b ≠ 4) (he1 : -2000 ≤ e) (he2 : e ≤ 2000) (hl1 : -2000 ≤ lp) (hl2 : lp ≤ 2000) :
  Calls Tryz.prog 109 #[.pointer (some ⟨b, 0, none⟩), .int .i64 e, .int .i64 p, .int .i64 lp] w fun r w' => r = .returned (.tuple #[]) ∧
   PreAt w' b (Fl.row p).1 (Fl.row p).2 (-(e + lp + 3)) ∧ Kp [b] w w' := by
 have hrow : Fl.row p = Go.Pinned.pow10Rows.getD k (0, 0) := by unfold Fl.row; rw [hp, show ((k : Int) - 348 + 348).toNat = k from by omega]
 obtain ⟨hi, hhi⟩ : ∃ hi, hi = (Go.Pinned.pow10Rows.getD k (0, 0)).1 := ⟨_, rfl⟩; obtain ⟨lo, hlo⟩ : ∃ lo, lo = (Go.Pinned.pow10Rows.getD k (0, 0)).2 := ⟨_, rfl⟩; have t0 := hT.hi k hk; have t1 := hT.lo k hk; rw [hrow, ← hhi, ← hlo]; rw [← hhi] at t0; rw [← hlo] at t1; rw [Nat.mul_comm 2 k] at t0 t1; have HB := hid hb; have c0 := hb.c0; have c1 := hb.c1; have c2 := hb.c2; have f0 := hb.fr 0; have f1 := hb.fr 1; have f2 := hb.fr 2; have hsub : p - -348 = (k : Int) := by omega
 have hpk : (k : Int) - 348 - -348 = (k : Int) := by omega
 subst hp; clear hrow hhi hlo hb hT hsub; go_enter Tryz.func109, Tryz.ntmps109
 go_wp2_with fail
 first | (refine bodyPost_ret (results_none rfl _ _ _) rfl ?_) | (refine bodyPost_end (results_none rfl _ _ _) rfl ?_)
 refine ⟨rfl, ?_, ?_⟩
 · exact blk_setCell (blk_setCell (blk_setCell HB.out _) _) _
 · exact (((Kp.refl _ _).setCell (by simp) _).setCell (by simp) _).setCell (by simp) _
theorem uscale_lo {x hi lo s : Nat} (h : x * hi / 18446744073709551616 % 2 ^ s ≠ 0) : Fl.uscaleN x hi lo s = (x * hi / 18446744073709551616 / 2 ^ s) ||| 1 := by
 unfold Fl.uscaleN; simp only; rw [if_pos h]
theorem uscale_hi {x hi lo s : Nat} (h : x * hi / 18446744073709551616 % 2 ^ s = 0) : Fl.uscaleN x hi lo s =
  ((if x * hi % 18446744073709551616 < x * lo / 18446744073709551616 then x * hi / 18446744073709551616 - 1 else x * hi / 18446744073709551616) / 2 ^ s) |||
   (if 1 < (x * hi % 18446744073709551616 + 18446744073709551616 - x * lo / 18446744073709551616) % 18446744073709551616 then 1 else 0) := by
 unfold Fl.uscaleN; simp only; rw [if_neg (by intro c; exact c h)]
set_option maxRecDepth 100000 in
set_option maxHeartbeats 1000000 in
theorem uscale_is (w : World) (b x hi lo s : Nat) (y : Int) (hy : y = (s : Int)) (hx : x < 18446744073709551616) (hhi : hi < 18446744073709551616) (hlo : lo < 18446744073709551616) (hs : s < 64) (hb : PreAt w b hi lo y) (hbig : 18446744073709551616 ≤ x * hi) :
  Calls Tryz.prog 111 #[.int .u64 x, .pointer (some ⟨b, 0, none⟩)] w fun r w' => r = .returned (.int .u64 (Fl.uscaleN x hi lo s : Int)) ∧ w'.heap = w.heap ∧ Kp [] w w' := by
 subst hy; have c0 := hb.c0; have c1 := hb.c1; have c2 := hb.c2; have hand : bits .and .i64 (s : Int) 63 = (s : Int) := by
  have h9 : ∀ z : Fin 64, bits .and .i64 ((z.val : Nat) : Int) 63 = ((z.val : Nat) : Int) := by decide +kernel
  exact h9 ⟨s, hs⟩
 obtain ⟨h, hh⟩ : ∃ h, h = x * hi / 18446744073709551616 := ⟨_, rfl⟩; obtain ⟨m, hmm⟩ : ∃ m, m = x * hi % 18446744073709551616 := ⟨_, rfl⟩; have hprod : x * hi < 18446744073709551616 * 18446744073709551616 := by
  rcases Nat.eq_zero_or_pos hi with h0 | h0
  · rw [h0]; omega
  · exact Nat.lt_of_lt_of_le (Nat.mul_lt_mul_of_pos_right hx h0) (Nat.mul_le_mul_left _ (by omega))
 have hhl : h < 18446744073709551616 := by rw [hh]; exact Nat.div_lt_of_lt_mul hprod
 have hml : m < 18446744073709551616 := by rw [hmm]; exact Nat.mod_lt _ (by omega)
 have HHh := hid hh; have HMm := hid hmm; have h2p : 0 < 2 ^ s := pow2_pos s; have hdv : h / 2 ^ s * 2 ^ s ≤ h := Nat.div_mul_le_self h (2 ^ s); have hw1 : IntKind.u64.wrap ((h : Int) / 2 ^ s * 2 ^ s) = (h : Int) / 2 ^ s * 2 ^ s := by
  have e : (h : Int) / 2 ^ s * 2 ^ s = ((h / 2 ^ s * 2 ^ s : Nat) : Int) := by push_cast; rfl
  rw [e]
  show _ % 18446744073709551616 = _
  omega
 have hh1 : 1 ≤ h := by rw [hh]; exact (Nat.le_div_iff_mul_le (by omega)).2 (by omega)
 obtain ⟨q, hq⟩ : ∃ q, q = h / 2 ^ s := ⟨_, rfl⟩; have hqi : (h : Int) / 2 ^ s = (q : Int) := by rw [hq]; push_cast; rfl
 have HQ := hid hq; have HQi := hid hqi; clear hqi; have hql : q ≤ h := by rw [hq]; exact Nat.div_le_self _ _
 clear hprod hh hmm hbig; go_enter Tryz.func111, Tryz.ntmps111
 go_wp2_with fail
 refine (Tryz.bits_Mul64 x hi hx hhi w).mono ?_
 rintro e1 w1 ⟨rfl, hw1⟩
 have hw1 := hw1.symm; subst hw1; rw [← HHh.out, ← HMm.out]; go_upto_if 30 with fail
 rw [HQi.out]; clear hw1 hdv; by_cases hz : h % 2 ^ s = 0
 ·
  have hdm := Nat.div_add_mod h (2 ^ s); have e30 : ((q : Int) * 2 ^ s != (h : Int)) = false := by
   have e : q * 2 ^ s = h := by rw [hq, Nat.mul_comm]; omega
   have e' : (q : Int) * 2 ^ s = (h : Int) := by rw [← e]; push_cast; rfl
   rw [e']; simp
  have HZ := hid hz; clear hdm hz hq; rw [e30]; clear e30; go_wp2_with fail
  refine (Tryz.bits_Mul64 x lo hx hlo w).mono ?_
  rintro e2 w2 ⟨rfl, hw2⟩
  have hw2 := hw2.symm; subst hw2; obtain ⟨m2, hm2⟩ : ∃ m2, m2 = x * lo / 18446744073709551616 := ⟨_, rfl⟩; obtain ⟨m3, hm3⟩ : ∃ m3, m3 = x * lo % 18446744073709551616 := ⟨_, rfl⟩; have hm2l : m2 < 18446744073709551616 := by
   rw [hm2]; refine Nat.div_lt_of_lt_mul ?_; rcases Nat.eq_zero_or_pos lo with h0 | h0
   · rw [h0]; omega
   · exact Nat.lt_of_lt_of_le (Nat.mul_lt_mul_of_pos_right hx h0) (Nat.mul_le_mul_left _ (by omega))
  rw [← hm2, ← hm3]; have HM2 := hid hm2; clear hm2 hm3; go_wp2_with fail
  obtain ⟨k, hk⟩ : ∃ k : Nat, k = if m < m2 then 1 else 0 := ⟨_, rfl⟩; have hk1 : k ≤ 1 := by rw [hk]; split <;> omega
  have HKk := hid hk; refine (bool2_n (m < m2) k hk w).mono ?_
  rintro e3 w3 ⟨rfl, hw3⟩
  have hw3 := hw3.symm; subst hw3; obtain ⟨d, hd⟩ : ∃ d, d = (m + 18446744073709551616 - m2) % 18446744073709551616 := ⟨_, rfl⟩; have hwd : IntKind.u64.wrap ((m : Int) - (m2 : Int)) = (d : Int) := by
   show _ % 18446744073709551616 = _
   omega
  have HDd := hid hd; clear hk hd; go_wp2_with fail
  obtain ⟨k2, hk2⟩ : ∃ k2 : Nat, k2 = if (1 : Int) < (d : Int) then 1 else 0 := ⟨_, rfl⟩; have hb2 := bool2_n ((1 : Int) < (d : Int)) k2 hk2; have HK2 : Hid (k2 = if 1 < d then 1 else 0) := by
   show _ = _
   rw [hk2]; by_cases h9 : 1 < d
   · rw [if_pos (by omega), if_pos h9]
   · rw [if_neg (by omega), if_neg h9]
  clear hk2; have HB2' := hid hb2; clear hb2; go_quiet ((go_at_call 145; refine Calls.quiet_of_same (HB2'.out _)))
  go_wp2_with fail
  go_ret; refine ⟨?_, rfl, (Kp.refl _ _).drewN _⟩
  show Ending.returned (Value.int .u64 (bits .or .u64 (((h : Int) - (k : Int)) / 2 ^ s) (k2 : Int))) = _
  have e1 : ((h : Int) - (k : Int)) / 2 ^ s = (((h - k) / 2 ^ s : Nat) : Int) := by
   rw [show (h : Int) - (k : Int) = ((h - k : Nat) : Int) from by omega]; push_cast; rfl
  have hk2 : k2 ≤ 1 := by rw [HK2.out]; split <;> omega
  have e2 : (h - k) / 2 ^ s ≤ h - k := Nat.div_le_self _ _; rw [e1, bits_or_u64_nat _ _ (by omega) (by omega), uscale_hi (by rw [← HHh.out]; exact HZ.out), ← HHh.out, ← HMm.out, ← HM2.out, ← HDd.out, ← HK2.out]; have e3 : (if m < m2 then h - 1 else h) = h - k := by
   rw [HKk.out]
   split <;> rfl
  rw [e3]
 ·
  have e30 : ((q : Int) * 2 ^ s != (h : Int)) = true := by
   have hdm := Nat.div_add_mod h (2 ^ s); rw [bne_iff_ne]; intro e; have e' : q * 2 ^ s = h := by exact_mod_cast e
   rw [hq, Nat.mul_comm] at e'; omega
  have HZ := hid hz; clear hz hq; rw [e30]; clear e30; go_wp2_with fail
  go_ret; refine ⟨?_, rfl, Kp.refl _ _⟩
  show Ending.returned (Value.int .u64 (bits .or .u64 ((h : Int) / 2 ^ s) 1)) = _
  have e9 := bits_or_u64_nat q 1 (by omega) (by omega); rw [HQi.out, uscale_lo (by rw [← HHh.out]; exact HZ.out), ← HHh.out, ← HQ.out]
  congr 2
end
end Go.Proofs.YtljaoopfomcaoaaGreatDoor
