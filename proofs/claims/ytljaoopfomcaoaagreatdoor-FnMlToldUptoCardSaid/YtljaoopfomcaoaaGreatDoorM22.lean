import Derived.Laws.Cover2
import Derived.Test.YtljaoopfomcaoaaGreatDoorM19
import Derived.Test.YtljaoopfomcaoaaGreatDoorM21
import Derived.Test.YtljaoopfomcaoaaGreatDoorN01
set_option linter.all false
namespace Go.Proofs.YtljaoopfomcaoaaGreatDoor
section
open Go.RowKit Go.Proofs.YtljaoopfomcaoaaGreatDoor.Fl
theorem rne_in {A B n : Nat} (hB : 0 < B) (h1 : (2 * n - 1) * B ≤ 2 * A) (h2 : 2 * A ≤ (2 * n + 1) * B) (ho : n % 2 = 1 → (2 * n - 1) * B < 2 * A ∧ 2 * A < (2 * n + 1) * B) (hn : 1 ≤ n) : rne A B = n := by
 have hda := Nat.div_add_mod A B; have hml := Nat.mod_lt A hB; obtain ⟨q, hq⟩ : ∃ q, q = A / B := ⟨_, rfl⟩; obtain ⟨t, ht⟩ : ∃ t, t = A % B := ⟨_, rfl⟩; unfold rne; rw [← hq, ← ht] at hda; rw [← ht] at hml; rw [← hq, ← ht]; have hqn : q = n ∨ q = n - 1 := by
  rcases Nat.lt_trichotomy q n with h | h | h
  ·
   right
   by_cases h' : q = n - 1
   · exact h'
   · exfalso
     have hle : q + 2 ≤ n := by omega
     obtain ⟨m, rfl⟩ := Nat.exists_eq_add_of_le hle; have e1 : (2 * (q + 2 + m) - 1) * B = 2 * (B * q) + 3 * B + 2 * (m * B) := by
      rw [show 2 * (q + 2 + m) - 1 = 2 * q + 3 + 2 * m from by omega, Nat.add_mul, Nat.add_mul, Nat.mul_assoc 2 q B, Nat.mul_comm q B, Nat.mul_assoc 2 m B]
     omega
  · exact Or.inl h
  · exfalso
    obtain ⟨m, rfl⟩ := Nat.exists_eq_add_of_le (show n + 1 ≤ q from h); have e1 : (2 * n + 1) * B = 2 * (n * B) + B := by rw [Nat.add_mul, Nat.mul_assoc, Nat.one_mul]
    have e2 : B * (n + 1 + m) = n * B + B + m * B := by rw [Nat.mul_add, Nat.mul_add, Nat.mul_one, Nat.mul_comm B n, Nat.mul_comm B m]
    omega
 have e2 : (2 * n + 1) * B = 2 * (n * B) + B := by rw [Nat.add_mul, Nat.mul_assoc, Nat.one_mul]
 have e3 : (2 * n - 1) * B + B = 2 * (n * B) := by
  obtain ⟨k, rfl⟩ := Nat.exists_eq_add_of_le hn; rw [show 2 * (1 + k) - 1 = 2 * k + 1 from by omega, Nat.add_mul, Nat.one_mul, Nat.mul_assoc, Nat.add_mul, Nat.one_mul]; omega
 rcases hqn with h | h
 ·
  subst h; have e4 : B * q = q * B := Nat.mul_comm _ _; by_cases c1 : 2 * t < B
  · rw [if_pos c1]
  ·
   have c2 : ¬ B < 2 * t := by omega
   rw [if_neg c1, if_neg c2]; rcases Nat.mod_two_eq_zero_or_one q with hp | hp
   · omega
   · have := ho hp
     omega
 ·
  have hn' : n = q + 1 := by omega
  subst hn'; have e4 : (q + 1) * B = B * q + B := by rw [Nat.add_mul, Nat.one_mul, Nat.mul_comm]
  by_cases c1 : 2 * t < B
  · omega
  ·
   rw [if_neg c1]; by_cases c2 : B < 2 * t
   · rw [if_pos c2]
   · rw [if_neg c2]
     rcases Nat.mod_two_eq_zero_or_one q with hp | hp
     · have := ho (by omega)
       omega
     · omega
theorem quarters {mant d N M a b : Nat} {E P : Int} {K : Nat} (hP : (a : Int) - b = P) (hN : N * 10 ^ b = d * 10 ^ a * M) (x y : Nat) (hxy : (x : Int) - y = -E) :
  (K * nu (-P) (E - 2) ≤ d * de (-P) (E - 2) → K * (M * 2 ^ y) ≤ 4 * (N * 2 ^ x)) ∧ (d * de (-P) (E - 2) ≤ K * nu (-P) (E - 2) → 4 * (N * 2 ^ x) ≤ K * (M * 2 ^ y)) ∧
  (K * nu (-P) (E - 2) < d * de (-P) (E - 2) → K * (M * 2 ^ y) < 4 * (N * 2 ^ x) ∨ M = 0) ∧ (d * de (-P) (E - 2) < K * nu (-P) (E - 2) → 4 * (N * 2 ^ x) < K * (M * 2 ^ y) ∨ M = 0) := by
 obtain ⟨s, hs⟩ : ∃ s, s = (E - 2).toNat := ⟨_, rfl⟩; obtain ⟨t, ht⟩ : ∃ t, t = (-(E - 2)).toNat := ⟨_, rfl⟩; have hst : (s : Int) - t = E - 2 := by omega
 obtain ⟨a', ha'⟩ : ∃ a', a' = (- -P).toNat := ⟨_, rfl⟩; obtain ⟨b', hb'⟩ : ∃ b', b' = (-P).toNat := ⟨_, rfl⟩; have hab : (a' : Int) - b' = P := by omega
 have hnu : nu (-P) (E - 2) = 10 ^ b' * 2 ^ s := by unfold nu; rw [← hb', ← hs]
 have hde : de (-P) (E - 2) = 10 ^ a' * 2 ^ t := by unfold de; rw [← ha', ← ht]
 rw [hnu, hde]; have hN' : N * 10 ^ b' = d * 10 ^ a' * M := by
  have h1 : a + b' = a' + b := by omega
  have h2 : N * 10 ^ b' * 10 ^ b = d * 10 ^ a' * M * 10 ^ b := by
   calc N * 10 ^ b' * 10 ^ b = N * 10 ^ b * 10 ^ b' := by simp only [Nat.mul_assoc, Nat.mul_comm, Nat.mul_left_comm]
    _ = d * 10 ^ a * M * 10 ^ b' := by rw [hN]
    _ = d * M * (10 ^ a * 10 ^ b') := by simp only [Nat.mul_assoc, Nat.mul_comm, Nat.mul_left_comm]
    _ = d * M * (10 ^ a' * 10 ^ b) := by rw [← Nat.pow_add, h1, Nat.pow_add]
    _ = d * 10 ^ a' * M * 10 ^ b := by simp only [Nat.mul_assoc, Nat.mul_comm, Nat.mul_left_comm]
  exact Nat.eq_of_mul_eq_mul_right (pow10_pos b) h2
 have hpb : 0 < 10 ^ b' := pow10_pos b'; have A1 : K * (10 ^ b' * 2 ^ s) * M = (K * M) * 2 ^ s * 10 ^ b' := by simp only [Nat.mul_assoc, Nat.mul_comm, Nat.mul_left_comm]
 have A2 : d * (10 ^ a' * 2 ^ t) * M = N * 2 ^ t * 10 ^ b' := by
  calc d * (10 ^ a' * 2 ^ t) * M = d * 10 ^ a' * M * 2 ^ t := by simp only [Nat.mul_assoc, Nat.mul_comm, Nat.mul_left_comm]
   _ = N * 10 ^ b' * 2 ^ t := by rw [hN']
   _ = N * 2 ^ t * 10 ^ b' := by simp only [Nat.mul_assoc, Nat.mul_comm, Nat.mul_left_comm]
 have B1 : N * 2 ^ (x + 2) = 4 * (N * 2 ^ x) := by rw [Nat.pow_add, ← Nat.mul_assoc, Nat.mul_comm]
 have B2 : (K * M) * 2 ^ y = K * (M * 2 ^ y) := Nat.mul_assoc _ _ _; refine ⟨fun h => ?_, fun h => ?_, fun h => ?_, fun h => ?_⟩
 ·
  have h1 := Nat.mul_le_mul_right M h; rw [A1, A2] at h1; have h2 := le_pow (x := t) (y := s) (x' := x + 2) (y' := y) (by push_cast; omega) (Nat.le_of_mul_le_mul_right h1 hpb); rw [B1, B2] at h2; exact h2
 ·
  have h1 := Nat.mul_le_mul_right M h; rw [A1, A2] at h1; have h2 := le_pow (x := s) (y := t) (x' := y) (y' := x + 2) (by push_cast; omega) (Nat.le_of_mul_le_mul_right h1 hpb); rw [B1, B2] at h2; exact h2
 ·
  by_cases hM : M = 0
  · exact Or.inr hM
  · have h1 := Nat.mul_lt_mul_of_pos_right h (Nat.pos_of_ne_zero hM)
    rw [A1, A2] at h1; have h2 := lt_pow (x := s) (y := t) (x' := y) (y' := x + 2) (by push_cast; omega) (Nat.lt_of_mul_lt_mul_right h1); rw [B1, B2] at h2; exact Or.inl h2
 ·
  by_cases hM : M = 0
  · exact Or.inr hM
  · have h1 := Nat.mul_lt_mul_of_pos_right h (Nat.pos_of_ne_zero hM)
    rw [A1, A2] at h1; have h2 := lt_pow (x := t) (y := s) (x' := x + 2) (y' := y) (by push_cast; omega) (Nat.lt_of_mul_lt_mul_right h1); rw [B1, B2] at h2; exact Or.inl h2
theorem exp_xy (E : Int) : ∃ x y : Nat, (x : Int) - y = -E := ⟨(-E).toNat, E.toNat, by omega⟩
theorem flt_of_iv {mant d N M a b : Nat} {E P : Int} (h1 : 1 ≤ mant) (h2 : mant < 2 ^ 53) (hE1 : -1074 ≤ E) (hE2 : E ≤ 971) (hn : 2 ^ 52 ≤ mant ∨ E = -1074) (hI : InIv mant E d P)
  (hP : (a : Int) - b = P) (hN : N * 10 ^ b = d * 10 ^ a * M) (hM : 0 < M) :
  ∃ (F : Int) (r : Nat), FltIs N M F r ∧ r + (F + 1022).toNat * 2 ^ 52 = mant + (E + 1074).toNat * 2 ^ 52 := by
 obtain ⟨x, y, hxy⟩ := exp_xy E; have Q := fun K => quarters (mant := mant) (K := K) hP hN x y hxy
 have hg : gap mant E ≤ 2 := by unfold gap; split <;> omega
 obtain ⟨A, hA⟩ : ∃ A, A = N * 2 ^ x := ⟨_, rfl⟩; obtain ⟨B, hB⟩ : ∃ B, B = M * 2 ^ y := ⟨_, rfl⟩; have hBp : 0 < B := by rw [hB]; exact Nat.mul_pos hM (pow2_pos y)
 rw [← hA, ← hB] at Q; have hlow : (4 * mant - gap mant E) * B ≤ 4 * A := by
  unfold InIv at hI; by_cases hp : mant % 2 = 0
  · rw [if_pos hp] at hI
    exact (Q _).1 hI.1
  · rw [if_neg hp] at hI
    rcases (Q _).2.2.1 hI.1 with h | h <;> omega
 have hhigh : 4 * A ≤ (4 * mant + 2) * B := by
  unfold InIv at hI; by_cases hp : mant % 2 = 0
  · rw [if_pos hp] at hI
    exact (Q _).2.1 hI.2
  · rw [if_neg hp] at hI
    rcases (Q _).2.2.2 hI.2 with h | h <;> omega
 have hodd : mant % 2 = 1 → (4 * mant - gap mant E) * B < 4 * A ∧ 4 * A < (4 * mant + 2) * B := by
  intro hp; unfold InIv at hI; rw [if_neg (by omega)] at hI; constructor
  · rcases (Q _).2.2.1 hI.1 with h | h <;> omega
  · rcases (Q _).2.2.2 hI.2 with h | h <;> omega
 have hmul : ∀ k, k * B + (2 * B) = (k + 2) * B := fun k => by rw [Nat.add_mul]
 have hup4 : (4 * mant + 2) * B = 2 * ((2 * mant + 1) * B) := by rw [← Nat.mul_assoc]; congr 1; omega
 have hlo2 : (4 * mant - 2) * B = 2 * ((2 * mant - 1) * B) := by rw [← Nat.mul_assoc]; congr 1; omega
 have hlo2' : (4 * mant - 2) * B ≤ 4 * A := Nat.le_trans (Nat.mul_le_mul_right B (by omega)) hlow; have hmB : mant * B ≤ (2 ^ 53 - 1) * B := Nat.mul_le_mul_right B (by omega); have hsz : A < B * 2 ^ 53 := by
  have e1 : (4 * mant + 2) * B = 4 * (mant * B) + 2 * B := by rw [Nat.add_mul, Nat.mul_assoc]
  have e2 : (2 ^ 53 - 1) * B + B = B * 2 ^ 53 := by omega
  omega
 have hge1 : B ≤ 2 * A := by
  have e1 : 2 * B ≤ (4 * mant - 2) * B := Nat.mul_le_mul_right B (by omega); omega
 have hlo : M ≤ N * 10 ^ 330 := by
  have h3 : M * 2 ^ y ≤ N * 2 ^ (x + 1) := by rw [Nat.pow_succ, ← Nat.mul_assoc, ← hA, ← hB]; omega
  have h4 : M * 2 ^ 0 ≤ N * 2 ^ (1 - E).toNat ∨ 1 - E < 0 := by
   by_cases hh : 1 - E < 0
   · exact Or.inr hh
   · exact Or.inl (le_pow (x := x + 1) (y := y) (x' := (1 - E).toNat) (y' := 0) (by push_cast; omega) h3)
  have h5 : (2 : Nat) ^ 1075 ≤ 10 ^ 330 := by decide +kernel
  rcases h4 with h4 | h4
  · rw [Nat.pow_zero, Nat.mul_one] at h4
    refine Nat.le_trans h4 (Nat.mul_le_mul_left _ (Nat.le_trans (Nat.pow_le_pow_right (by omega) ?_) h5)); omega
  · have h6 := le_pow (x := x + 1) (y := y) (x' := 0) (y' := (E - 1).toNat) (by push_cast; omega) h3
    rw [Nat.pow_zero, Nat.mul_one] at h6; have h7 : M * 1 ≤ M * 2 ^ (E - 1).toNat := Nat.mul_le_mul_left _ (pow2_pos _); have h8 : N * 1 ≤ N * 10 ^ 330 := Nat.mul_le_mul_left _ (pow10_pos 330); omega
 have hhi : N < M * 10 ^ 310 := by
  have h3 : N * 2 ^ x < M * 2 ^ (y + 53) := by rw [Nat.pow_add, ← Nat.mul_assoc, ← hA, ← hB]; exact hsz
  have h5 : (2 : Nat) ^ 1024 ≤ 10 ^ 310 := by decide +kernel
  by_cases hh : 0 ≤ E + 53
  · have h4 := lt_pow (x := x) (y := y + 53) (x' := 0) (y' := (E + 53).toNat) (by push_cast; omega) h3
    rw [Nat.pow_zero, Nat.mul_one] at h4; exact Nat.lt_of_lt_of_le h4 (Nat.mul_le_mul_left _ (Nat.le_trans (Nat.pow_le_pow_right (by omega) (by omega)) h5))
  · have h4 := lt_pow (x := x) (y := y + 53) (x' := (-(E + 53)).toNat) (y' := 0) (by push_cast; omega) h3
    rw [Nat.pow_zero, Nat.mul_one] at h4; have h7 : N * 1 ≤ N * 2 ^ (-(E + 53)).toNat := Nat.mul_le_mul_left _ (pow2_pos _); have h8 : M * 1 ≤ M * 10 ^ 310 := Nat.mul_le_mul_left _ (pow10_pos 310); omega
 by_cases hc : A < B * 2 ^ 52 ∧ E ≠ -1074
 ·
  obtain ⟨hc1, hc2⟩ := hc; have hm52 : mant = 2 ^ 52 := by
   by_cases h : mant = 2 ^ 52
   · exact h
   · exfalso
     have h3 : 2 ^ 52 + 1 ≤ mant := by omega
     have h4 : (4 * (2 ^ 52 + 1) - 2) * B ≤ (4 * mant - 2) * B := Nat.mul_le_mul_right B (by omega); have e1 : (4 * (2 ^ 52 + 1) - 2) * B = 4 * (B * 2 ^ 52) + 2 * B := by omega
     omega
  have hgp : gap mant E = 1 := by unfold gap; rw [if_pos ⟨hm52, by omega⟩]
  rw [hgp, hm52] at hlow; refine ⟨E + 51, 2 ^ 53, ⟨hlo, hhi, by omega, by omega, ⟨x + 1, y, by push_cast; omega, ?_, ?_, Or.inr ?_, ?_⟩, Or.inl (by omega)⟩, ?_⟩
  ·
   symm
   have e0 : N * 2 ^ (x + 1) = 2 * A := by rw [Nat.pow_succ, ← Nat.mul_assoc, ← hA, Nat.mul_comm]
   rw [e0, ← hB]; have e1 : (4 * 2 ^ 52 - 1) * B = (2 * 2 ^ 53 - 1) * B := by congr 1
   have e2 : (2 * 2 ^ 53 + 1) * B = 4 * (B * 2 ^ 52) + B := by omega
   refine rne_in hBp ?_ ?_ (fun h => by omega) (by omega)
   · omega
   · omega
  · rw [Nat.pow_succ, ← Nat.mul_assoc, ← hA, Nat.pow_add, ← Nat.mul_assoc, ← hB]; omega
  ·
   have z1 : N * 2 ^ (x + 1) = A * 2 := by rw [Nat.pow_succ, ← Nat.mul_assoc, ← hA]
   have z2 : M * 2 ^ (y + 52) = B * 2 ^ 52 := by rw [Nat.pow_add, ← Nat.mul_assoc, ← hB]
   rw [z1, z2]; have e1 : (4 * 2 ^ 52 - 1) * B + B = 4 * (B * 2 ^ 52) := by omega
   have e2 : B * 1 ≤ B * 2 ^ 52 := Nat.mul_le_mul_left _ (by omega); omega
  · have z1 : N * 2 ^ (x + 1 + 1) = A * 2 * 2 := by rw [Nat.pow_succ, Nat.pow_succ, ← Nat.mul_assoc, ← Nat.mul_assoc, ← hA]
    rw [z1, ← hB]; omega
  · rw [hm52]
    obtain ⟨z, hz⟩ : ∃ z : Nat, E = (z : Int) - 1073 := ⟨(E + 1073).toNat, by omega⟩; rw [show (E + 51 + 1022).toNat = z from by omega, show (E + 1074).toNat = z + 1 from by omega]; omega
 ·
  refine ⟨E + 52, mant, ⟨hlo, hhi, by omega, by omega, ⟨x, y, by omega, ?_, ?_, ?_, ?_⟩, Or.inr h2⟩, ?_⟩
  ·
   symm
   rw [← hA, ← hB]; refine rne_in hBp (by omega) (by omega) (fun h => ?_) h1; have h9 := hodd h; have hgp : gap mant E = 2 := by
    unfold gap; rw [if_neg (fun c => by have := c.1; omega)]
   rw [hgp] at h9; omega
  · rw [Nat.pow_add, ← Nat.mul_assoc, ← hA, ← hB]; exact hsz
  ·
   by_cases hE : E = -1074
   · left; omega
   · right
     rw [Nat.pow_add, ← Nat.mul_assoc, ← hA, ← hB]; by_cases h : A < B * 2 ^ 52
     · exact absurd ⟨h, hE⟩ hc
     · omega
  · rw [Nat.pow_succ, ← Nat.mul_assoc, ← hA, ← hB]; omega
  · rw [show (E + 52 + 1022).toNat = (E + 1074).toNat from by omega]
end
section
open Go.RowKit
theorem cut_rne (neg : Bool) (n drop : Nat) (h : drop ≤ n.log2 + 2) : Ieee.Toward.even.cut neg n drop = rne n (2 ^ drop) := by
 unfold Ieee.Toward.cut rne; rw [Nat.min_eq_left h, Nat.shiftLeft_eq, Nat.one_mul]; simp only; by_cases h1 : 2 * (n % 2 ^ drop) < 2 ^ drop
 · rw [if_pos h1, decide_eq_false (by omega), beq_eq_false_iff_ne.2 (by omega)]
   rfl
 ·
  rw [if_neg h1]; by_cases h2 : 2 ^ drop < 2 * (n % 2 ^ drop)
  · rw [if_pos h2, decide_eq_true h2]; rfl
  · rw [if_neg h2, decide_eq_false h2, beq_iff_eq.2 (by omega)]
    rcases Nat.mod_two_eq_zero_or_one (n / 2 ^ drop) with hp | hp
    · rw [hp]; rfl
    · rw [hp]; rfl
theorem int_flt (n : Int) (h0 : n ≠ 0) (h : n.natAbs ≤ 2 ^ 63) :
  ∃ (F : Int) (r : Nat), FltIs n.natAbs 1 F r ∧ floatOfInt .f64 n = (r + (F + 1022).toNat * 2 ^ 52) + (if n < 0 then 9223372036854775808 else 0) := by
 obtain ⟨g, hg⟩ : ∃ g, g = n.natAbs := ⟨_, rfl⟩; have hg0 : g ≠ 0 := by omega
 obtain ⟨L, hL⟩ : ∃ L, L = g.log2 := ⟨_, rfl⟩; have hL1 : 2 ^ L ≤ g := by rw [hL]; exact Nat.log2_self_le hg0
 have hL2 : g < 2 ^ (L + 1) := by rw [hL]; exact Nat.lt_log2_self
 have hL3 : L ≤ 63 := by
  rw [← hg] at h; have h5 : 2 ^ L ≤ 2 ^ 63 := Nat.le_trans hL1 h; exact (Nat.pow_le_pow_iff_right (by omega : 1 < 2)).1 h5
 have hF : FltIs g 1 L (rne (g * 2 ^ (52 - L)) (1 * 2 ^ (L - 52))) := by
  have hhi : g < 1 * 10 ^ 310 := by
   have : (2 : Nat) ^ 63 < 10 ^ 310 := by decide +kernel
   omega
  refine ⟨?_, hhi, by omega, by omega, ⟨52 - L, L - 52, by omega, rfl, ?_, Or.inr ?_, ?_⟩, Or.inl (by omega)⟩
  · have : g * 1 ≤ g * 10 ^ 330 := Nat.mul_le_mul_left _ (pow10_pos 330)
    omega
  · exact lt_pow (x := 0) (y := L + 1) (by push_cast; omega) (by rw [Nat.pow_zero, Nat.mul_one, Nat.one_mul]; exact hL2)
  · exact le_pow (x := 0) (y := L) (by push_cast; omega) (by rw [Nat.pow_zero, Nat.mul_one, Nat.one_mul]; exact hL1)
  · have h5 : (2 : Nat) ^ (L - 52) ≤ 2 ^ L := Nat.pow_le_pow_right (by omega) (by omega)
    have h6 : g * 1 ≤ g * 2 ^ (52 - L + 1) := Nat.mul_le_mul_left _ (pow2_pos _); omega
 refine ⟨L, _, by rw [← hg]; exact hF, ?_⟩; have hr := hF.le (by omega); have hlp : Ieee.double.leastPlace = -1074 := by decide
 have hbin : Ieee.double.binade = 4503599627370496 := by decide
 have hinf : Ieee.double.infRung = 9218868437227405312 := by decide
 have hsw : Ieee.double.signWeight = 9223372036854775808 := by decide
 show Ieee.double.nearest (decide (n < 0)) n.natAbs 0 = _
 rw [← hg]; unfold Ieee.Format.nearest; rw [if_neg hg0]; simp only [hlp, hbin, hinf, ← hL]; have hfb : ((Ieee.double.fractionBits : Nat) : Int) = 52 := rfl; rw [hfb]; have hmax : max ((0 : Int) + (L : Int) - 52) (-1074) = (L : Int) - 52 := by omega
 rw [hmax]; have e1 : ((0 : Int) - ((L : Int) - 52)).toNat = 52 - L := by omega
 have e2 : ((L : Int) - 52 - 0).toNat = L - 52 := by omega
 have e3 : ((L : Int) - 52 - -1074).toNat = L + 1022 := by omega
 rw [e1, e2, e3, Nat.shiftLeft_eq]; have hcut : Ieee.Toward.even.cut (decide (n < 0)) (g * 2 ^ (52 - L)) (L - 52) = rne (g * 2 ^ (52 - L)) (2 ^ (L - 52)) := by
  refine cut_rne _ _ _ ?_; by_cases hh : L ≤ 52
  · omega
  · rw [show 52 - L = 0 from by omega, Nat.pow_zero, Nat.mul_one, ← hL]; omega
 rw [hcut]; rw [Nat.one_mul] at hr ⊢; obtain ⟨r, hre⟩ : ∃ r, r = rne (g * 2 ^ (52 - L)) (2 ^ (L - 52)) := ⟨_, rfl⟩; rw [← hre] at hr ⊢; rw [show ((L : Int) + 1022).toNat = L + 1022 from by omega]; have hmin : min ((L + 1022) * 4503599627370496 + r) 9218868437227405312 = (L + 1022) * 4503599627370496 + r := Nat.min_eq_left (by omega); rw [hmin]; unfold Ieee.Format.word; rw [hsw]; by_cases hn : n < 0
 · rw [if_pos (by simpa using hn), if_pos hn]; omega
 · rw [if_neg (by simpa using hn), if_neg hn]; omega
theorem int_zero : floatOfInt .f64 0 = 0 := by decide
end
section
open Go.RowKit
structure FlAt (f : Nat) (neg : Bool) (mant : Nat) (E : Int) : Prop where
 bits : f = mant + (E + 1074).toNat * 2 ^ 52 + (if neg then 9223372036854775808 else 0)
 lt : mant < 2 ^ 53
 e1 : -1074 ≤ E
 e2 : E ≤ 971
 nm : 2 ^ 52 ≤ mant ∨ E = -1074
structure Shown (mant : Nat) (E : Int) (ds : List Nat) (dp : Int) : Prop where
 small : ∀ x ∈ ds, x < 10
 ne : ds ≠ []
 head : dg ds 0 ≠ 0
 len : ds.length ≤ 20
 d1 : -390 ≤ dp
 d2 : dp ≤ 390
 iv : ∃ (z : Nat) (P : Int), Fl.InIv mant E (num ds * 10 ^ z) P ∧ dp = ds.length + z + P
theorem Shown.pos {mant : Nat} {E : Int} {ds : List Nat} {dp : Int} (h : Shown mant E ds dp) : 0 < num ds := by
 have hd : Dig ds := ⟨h.small, by
  have := h.head
  cases hs : ds with
  | nil => simp
  | cons a r => rw [hs] at this; simpa [dg] using this⟩
 have := num_ge hd h.ne; have := pow10_pos (ds.length - 1); omega
theorem shown_ok {mant f : Nat} {E dp : Int} {neg : Bool} {ds : List Nat} (hf : FlAt f neg mant E) (h : Shown mant E ds dp) (hm : 1 ≤ mant) (m : Num) (z : Nat) (hall : num m.all = num ds * 10 ^ z)
  (hx : m.exp - m.fp.length = dp - ds.length - z) (hl : m.all.length ≤ 500) (he1 : -400 ≤ m.exp) (he2 : m.exp ≤ 400) (h3 : ∀ c sg xs, m.ex = some (c, sg, xs) → xs.length ≤ 3) (hn : m.neg = neg) : numSem m f := by
 refine ⟨hl, he1, he2, h3, mant + (E + 1074).toNat * 2 ^ 52, ?_, by rw [hn]; exact hf.bits⟩; have hp := h.pos; refine Or.inr ⟨?_, ?_⟩
 · rw [hall]
   exact Nat.pos_iff_ne_zero.1 (Nat.mul_pos hp (pow10_pos z))
 ·
  obtain ⟨z', P, hI, hdp⟩ := h.iv; obtain ⟨p, hp'⟩ : ∃ p, p = (m.exp - m.fp.length).toNat := ⟨_, rfl⟩; obtain ⟨q, hq'⟩ : ∃ q, q = (-(m.exp - m.fp.length)).toNat := ⟨_, rfl⟩; have hpq : (p : Int) - q = m.exp - m.fp.length := by omega
  obtain ⟨F, r, hF, hr⟩ := flt_of_iv (N := num m.all * 10 ^ p) (M := 10 ^ q) (a := P.toNat) (b := (-P).toNat) hm hf.lt hf.e1 hf.e2 hf.nm hI (by omega) (by
   rw [hall]; have e : z + p + (-P).toNat = z' + P.toNat + q := by omega
   calc num ds * 10 ^ z * 10 ^ p * 10 ^ (-P).toNat = num ds * 10 ^ (z + p + (-P).toNat) := by rw [Nat.pow_add, Nat.pow_add]; simp only [Nat.mul_assoc]
    _ = num ds * 10 ^ (z' + P.toNat + q) := by rw [e]
    _ = num ds * 10 ^ z' * 10 ^ P.toNat * 10 ^ q := by rw [Nat.pow_add, Nat.pow_add]; simp only [Nat.mul_assoc]) (pow10_pos q)
  exact ⟨p, q, F, r, hpq, hF, hr.symm⟩
theorem expDigs_num (x : Nat) (h : x < 1000) : num (expDigs x) = x ∧ (expDigs x).length ≤ 3 ∧ (∀ d ∈ expDigs x, d < 10) ∧ expDigs x ≠ [] := by
 unfold expDigs
 split
 · refine ⟨?_, by simp, ?_, by simp⟩
   · simp [num]
   · intro d hd; simp at hd; omega
 ·
  split
  · refine ⟨?_, by simp, ?_, by simp⟩
    · simp only [num, List.foldl_cons, List.foldl_nil]; omega
    · intro d hd; simp at hd; omega
  · refine ⟨?_, by simp, ?_, by simp⟩
    · simp only [num, List.foldl_cons, List.foldl_nil]; omega
    · intro d hd; simp at hd; omega
theorem head_drop {ds : List Nat} (h : ds ≠ []) : dg ds 0 :: ds.drop 1 = ds := by
 cases ds with
 | nil => exact absurd rfl h
 | cons a r => rfl
theorem e_form {mant f : Nat} {E dp : Int} {neg : Bool} {ds : List Nat} (fm : Nat) (hfm : fm = 101 ∨ fm = 69) (hf : FlAt f neg mant E) (h : Shown mant E ds dp) (hm : 1 ≤ mant) :
  ∃ m : Num, m.Ok ∧ numSem m f ∧ m.text = (if neg then [45] else []) ++ [48 + dg ds 0] ++ (if 1 < ds.length then 46 :: (ds.drop 1).map (48 + ·) else []) ++ [fm, if dp - 1 < 0 then 45 else 43] ++ (expDigs (dp - 1).natAbs).map (48 + ·) := by
 have h1 := h.d1; have h2 := h.d2; obtain ⟨x1, x2, x3, x4⟩ := expDigs_num (dp - 1).natAbs (by omega); have hlen : 0 < ds.length := List.length_pos_iff.2 h.ne; have hd0 := dg_lt h.small 0; obtain ⟨sg, hsg⟩ : ∃ sg, sg = if dp - 1 < 0 then 45 else 43 := ⟨_, rfl⟩; have hsg2 : sg = 43 ∨ sg = 45 := by rw [hsg]; split <;> simp
 refine ⟨⟨neg, [dg ds 0], ds.drop 1, some (fm, sg, expDigs (dp - 1).natAbs)⟩, ⟨?_, ?_, by simp, by simp, ?_⟩, ?_, ?_⟩
 · intro d hd; simp at hd; omega
 · intro d hd; exact h.small d (List.mem_of_mem_drop hd)
 · intro c s xs e
   simp only [Option.some.injEq, Prod.mk.injEq] at e; obtain ⟨rfl, rfl, rfl⟩ := e; exact ⟨hfm, hsg2, x4, x3⟩
 ·
  have hexp : Num.exp ⟨neg, [dg ds 0], ds.drop 1, some (fm, sg, expDigs (dp - 1).natAbs)⟩ = dp - 1 := by
   unfold Num.exp; simp only [x1]; rw [hsg]; by_cases hh : dp - 1 < 0
   · rw [if_pos hh, if_pos rfl]
     have hx9 : (((dp - 1).natAbs : Nat) : Int) = -(dp - 1) := by omega
     rw [hx9]; omega
   · rw [if_neg hh, if_neg (by decide)]
     have hx9 : (((dp - 1).natAbs : Nat) : Int) = dp - 1 := by omega
     rw [hx9]
  refine shown_ok hf h hm _ 0 ?_ ?_ ?_ (by rw [hexp]; omega) (by rw [hexp]; omega) ?_ rfl
  · unfold Num.all
    simp only [List.cons_append, List.nil_append, head_drop h.ne, Nat.pow_zero, Nat.mul_one]
  · rw [hexp]
    simp only [List.length_drop]; omega
  · unfold Num.all
    simp only [List.cons_append, List.nil_append, head_drop h.ne]; have := h.len; omega
  · intro c s xs e
    simp only [Option.some.injEq, Prod.mk.injEq] at e; obtain ⟨_, _, rfl⟩ := e; exact x2
 ·
  unfold Num.text; have e1 : (ds.drop 1 = []) ↔ ¬ 1 < ds.length := by
   rw [List.drop_eq_nil_iff]; omega
  simp only [digs, List.map_cons, List.map_nil, hsg]; by_cases h1l : 1 < ds.length
  · rw [if_neg (fun c => (e1.1 c) h1l), if_pos h1l]
    simp
  · rw [if_pos (e1.2 h1l), if_neg h1l]
    simp
theorem num_zeros_left (n : Nat) (l : List Nat) : num (List.replicate n 0 ++ l) = num l := by
 induction n with
 | zero => simp
 | succ n ih => rw [List.replicate_succ, List.cons_append, num_cons0, ih]
theorem f_form {mant f : Nat} {E dp : Int} {neg : Bool} {ds : List Nat} (hf : FlAt f neg mant E) (h : Shown mant E ds dp) (hm : 1 ≤ mant) (hd1 : -3 ≤ dp) (hd2 : dp ≤ 6) :
  ∃ m : Num, m.Ok ∧ numSem m f ∧ m.text = (if neg then [45] else []) ++ (if 0 < dp then (ds.take dp.toNat).map (48 + ·) ++ List.replicate (dp.toNat - ds.length) 48 else [48]) ++
   (if dp < ds.length then 46 :: (List.replicate (-dp).toNat 48 ++ (ds.drop dp.toNat).map (48 + ·)) else []) := by
 have hlen : 0 < ds.length := List.length_pos_iff.2 h.ne; have hl20 := h.len; obtain ⟨o, ho⟩ : ∃ o, o = dp.toNat := ⟨_, rfl⟩; obtain ⟨z, hz⟩ : ∃ z, z = (-dp).toNat := ⟨_, rfl⟩; rw [← ho, ← hz]; obtain ⟨ip, hip⟩ : ∃ ip : List Nat, ip = if 0 < dp then ds.take o ++ List.replicate (o - ds.length) 0 else [0] := ⟨_, rfl⟩; obtain ⟨fp, hfp⟩ : ∃ fp : List Nat, fp = if dp < ds.length then List.replicate z 0 ++ ds.drop o else [] := ⟨_, rfl⟩; have hsip : ∀ d ∈ ip, d < 10 := by
  intro d hd; rw [hip] at hd
  split at hd
  · rw [List.mem_append] at hd
    rcases hd with hd | hd
    · exact h.small d (List.mem_of_mem_take hd)
    · have := List.eq_of_mem_replicate hd; omega
  · simp at hd; omega
 have hsfp : ∀ d ∈ fp, d < 10 := by
  intro d hd; rw [hfp] at hd
  split at hd
  · rw [List.mem_append] at hd
    rcases hd with hd | hd
    · have := List.eq_of_mem_replicate hd; omega
    · exact h.small d (List.mem_of_mem_drop hd)
  · simp at hd
 have hfpn : fp = [] ↔ ¬ dp < ds.length := by
  rw [hfp]; constructor
  ·
   intro e c; rw [if_pos c] at e; have := congrArg List.length e; rw [List.length_append, List.length_replicate, List.length_drop] at this; simp at this; omega
  · intro c; rw [if_neg c]
 have hall : num (ip ++ fp) = num ds * 10 ^ (o - ds.length) ∧ (ip ++ fp).length ≤ 100 ∧ (fp.length : Int) = (if dp < ds.length then ds.length - dp else 0) := by
  by_cases c1 : 0 < dp
  ·
   rw [if_pos c1] at hip; by_cases c2 : dp < ds.length
   · rw [if_pos c2] at hfp
     have hz0 : z = 0 := by omega
     have e1 : o - ds.length = 0 := by omega
     rw [hip, hfp, hz0, e1, List.replicate_zero, List.append_nil, List.nil_append, List.take_append_drop, Nat.pow_zero, Nat.mul_one]; refine ⟨rfl, by omega, ?_⟩; rw [if_pos c2, List.length_drop]; omega
   · rw [if_neg c2] at hfp
     rw [hip, hfp, List.append_nil, List.take_of_length_le (by omega), num_zeros]; refine ⟨rfl, ?_, by rw [if_neg c2]; rfl⟩; rw [List.length_append, List.length_replicate]; omega
  ·
   rw [if_neg c1] at hip; have c2 : dp < ds.length := by omega
   rw [if_pos c2] at hfp; have ho0 : o = 0 := by omega
   rw [hip, hfp, ho0, List.drop_zero, List.cons_append, List.nil_append, num_cons0, num_zeros_left, Nat.zero_sub, Nat.pow_zero, Nat.mul_one]; refine ⟨rfl, ?_, ?_⟩
   · rw [List.length_cons, List.length_append, List.length_replicate]; omega
   · rw [if_pos c2, List.length_append, List.length_replicate]; omega
 refine ⟨⟨neg, ip, fp, none⟩, ⟨hsip, hsfp, ?_, ?_, by simp⟩, ?_, ?_⟩
 ·
  show ip ≠ []
  intro e; have := congrArg List.length e; rw [hip] at this
  split at this
  · rw [List.length_append, List.length_take, List.length_replicate, List.length_nil] at this
    omega
  · simp at this
 ·
  show ip.length = 1 ∨ ip.headD 0 ≠ 0
  by_cases c1 : 0 < dp
  ·
   right
   rw [hip, if_pos c1]; have hh := h.head
   cases hs : ds with
   | nil => exact absurd hs h.ne
   | cons a r =>
    obtain ⟨o', rfl⟩ : ∃ o', o = o' + 1 := ⟨o - 1, by omega⟩; rw [hs] at hh; simpa [dg] using hh
  · left; rw [hip, if_neg c1]; rfl
 ·
  refine shown_ok hf h hm _ (o - ds.length) hall.1 ?_ (Nat.le_trans hall.2.1 (by omega)) (by show (-400 : Int) ≤ 0; omega) (by show (0 : Int) ≤ 400; omega) (by simp) rfl
  show (0 : Int) - (fp.length : Int) = _
  have h33 := hall.2.2; have hd0 : 0 < ds.length := hlen; by_cases c2 : dp < ds.length
  · rw [if_pos c2] at h33
    have e0 : o - ds.length = 0 := by omega
    rw [h33, e0]; omega
  · rw [if_neg c2] at h33
    rw [h33]; omega
 ·
  unfold Num.text; simp only [List.append_nil]; have t1 : digs ip = (if 0 < dp then (ds.take o).map (48 + ·) ++ List.replicate (o - ds.length) 48 else [48]) := by
   rw [hip]
   split
   · unfold digs; rw [List.map_append, List.map_replicate]
   · rfl
  have t2 : (if fp = [] then [] else 46 :: digs fp) = (if dp < ds.length then 46 :: (List.replicate z 48 ++ (ds.drop o).map (48 + ·)) else []) := by
   by_cases c2 : dp < ds.length
   · rw [if_neg (fun e => (hfpn.1 e) c2), if_pos c2, hfp, if_pos c2]
     unfold digs; rw [List.map_append, List.map_replicate]
   · rw [if_pos (hfpn.2 c2), if_neg c2]
  rw [t1, t2]
theorem z_form {f : Nat} {neg : Bool} (hf : f = if neg then 9223372036854775808 else 0) (fm : Nat) (hfm : fm = 101 ∨ fm = 69) :
  (∃ m : Num, m.Ok ∧ numSem m f ∧ m.text = (if neg then [45] else []) ++ [48]) ∧ (∃ m : Num, m.Ok ∧ numSem m f ∧ m.text = (if neg then [45] else []) ++ [48, fm, 43, 48, 48]) := by
 constructor
 · refine ⟨⟨neg, [0], [], none⟩, ⟨by simp, by simp, by simp, by simp, by simp⟩, ⟨by simp [Num.all], by simp [Num.exp], by simp [Num.exp], by simp, 0, Or.inl ⟨rfl, rfl⟩, by rw [hf, Nat.zero_add]⟩, by simp [Num.text, digs]⟩
 ·
  refine ⟨⟨neg, [0], [], some (fm, 43, [0, 0])⟩, ⟨by simp, by simp, by simp, by simp, ?_⟩, ⟨by simp [Num.all], by simp [Num.exp, num], by simp [Num.exp, num], ?_, 0, Or.inl ⟨rfl, rfl⟩, by rw [hf, Nat.zero_add]⟩, by simp [Num.text, digs]⟩
  · intro c sg xs e
    simp only [Option.some.injEq, Prod.mk.injEq] at e; obtain ⟨rfl, rfl, rfl⟩ := e; exact ⟨hfm, Or.inl rfl, by simp, by simp⟩
  · intro c sg xs e
    simp only [Option.some.injEq, Prod.mk.injEq] at e; obtain ⟨_, _, rfl⟩ := e; simp
theorem i_form (n : Int) (h : n.natAbs ≤ 2 ^ 63) (ds : List Nat) (hs : ∀ x ∈ ds, x < 10) (hn : num ds = n.natAbs) (hl : ds.length ≤ 20) (hne : ds ≠ []) (hh : ds.length = 1 ∨ ds.headD 0 ≠ 0) :
  ∃ m : Num, m.Ok ∧ numSem m (floatOfInt .f64 n) ∧ m.text = (if n < 0 then [45] else []) ++ ds.map (48 + ·) := by
 refine ⟨⟨decide (n < 0), ds, [], none⟩, ⟨hs, by simp, hne, hh, by simp⟩, ⟨by simp [Num.all]; omega, by simp [Num.exp], by simp [Num.exp], by simp, ?_⟩, by simp [Num.text, digs]⟩; by_cases h0 : n = 0
 · refine ⟨0, Or.inl ⟨?_, rfl⟩, ?_⟩
   · simp only [Num.all, List.append_nil]; rw [hn, h0]; rfl
   · rw [h0, int_zero]; rfl
 ·
  obtain ⟨F, r, hF, hv⟩ := int_flt n h0 h; refine ⟨r + (F + 1022).toNat * 2 ^ 52, Or.inr ⟨?_, 0, 0, F, r, by simp [Num.exp], ?_, rfl⟩, ?_⟩
  · simp only [Num.all, List.append_nil]; rw [hn]; omega
  · simp only [Num.all, List.append_nil, Nat.pow_zero, Nat.mul_one]; rw [hn]; exact hF
  · rw [hv]; simp
end
end Go.Proofs.YtljaoopfomcaoaaGreatDoor
