import GoSem.PinnedTables
set_option linter.all false
namespace Go.Proofs.YtljaoopfomcaoaaGreatDoor.Fl
def unr (a d : Nat) : Nat := if a % d = 0 then a / d else (a / d) ||| 1
def uscaleN (x hi lo s : Nat) : Nat :=
 let h := x * hi / 2 ^ 64
 let m := x * hi % 2 ^ 64
 if h % 2 ^ s ≠ 0 then (h / 2 ^ s) ||| 1
 else
  let m2 := x * lo / 2 ^ 64
  let h' := if m < m2 then h - 1 else h
  (h' / 2 ^ s) ||| (if 1 < (m + 2 ^ 64 - m2) % 2 ^ 64 then 1 else 0)
theorem m2_lt (x lo : Nat) (hx : x < 2 ^ 64) (hlo : lo < 2 ^ 64) : x * lo / 2 ^ 64 + 2 ≤ 2 ^ 64 := by
 have h1 : x * lo ≤ (2 ^ 64 - 1) * (2 ^ 64 - 1) := Nat.mul_le_mul (by omega) (by omega); have h2 : x * lo / 2 ^ 64 ≤ (2 ^ 64 - 1) * (2 ^ 64 - 1) / 2 ^ 64 := Nat.div_le_div_right h1; have h3 : (2 ^ 64 - 1) * (2 ^ 64 - 1) / 2 ^ 64 = 2 ^ 64 - 2 := by decide +kernel
 omega
theorem uscaleN_T (x hi lo s : Nat) (hx : x < 2 ^ 64) (hlo : lo < 2 ^ 64) (hhi : 2 ^ 63 ≤ hi) (hx0 : 2 ≤ x) :
  uscaleN x hi lo s = ((x * hi - x * lo / 2 ^ 64) / 2 ^ (64 + s)) ||| (if 1 < (x * hi - x * lo / 2 ^ 64) % 2 ^ (64 + s) then 1 else 0) := by
 have hm2 := m2_lt x lo hx hlo; have hm2x : x * lo / 2 ^ 64 ≤ x := by
  rw [Nat.div_le_iff_le_mul_add_pred (by decide)]; have : x * lo ≤ x * 2 ^ 64 := Nat.mul_le_mul_left _ (by omega); omega
 have hbig : x * 2 ^ 63 ≤ x * hi := Nat.mul_le_mul_left _ hhi; generalize hm2e : x * lo / 2 ^ 64 = m2 at *; generalize hpe : x * hi = pr at *; unfold uscaleN; simp only [hm2e, hpe]; have hdm := Nat.div_add_mod pr (2 ^ 64); have hml := Nat.mod_lt pr (show 0 < 2 ^ 64 by decide); generalize hh : pr / 2 ^ 64 = h at *; generalize hm : pr % 2 ^ 64 = m at *; have hS : 0 < 2 ^ s := Nat.two_pow_pos s; have hdh := Nat.div_add_mod h (2 ^ s); have hlh := Nat.mod_lt h hS; have hpow : 2 ^ (64 + s) = 2 ^ 64 * 2 ^ s := Nat.pow_add 2 64 s; generalize hq : h / 2 ^ s = q at *; generalize hr : h % 2 ^ s = r at *; generalize hSe : 2 ^ s = S at *; rw [hpow]; by_cases hr0 : r ≠ 0
 ·
  rw [if_pos hr0]; have e1 : pr - m2 = 2 ^ 64 * S * q + (2 ^ 64 * r + m - m2) := by
   rw [← hdm, ← hdh, Nat.mul_add, Nat.mul_assoc]; have : 2 ^ 64 ≤ 2 ^ 64 * r := Nat.le_mul_of_pos_right _ (by omega); omega
  have hlt : 2 ^ 64 * r + m - m2 < 2 ^ 64 * S := by
   have : 2 ^ 64 * (r + 1) ≤ 2 ^ 64 * S := Nat.mul_le_mul_left _ (by omega); omega
  rw [e1, Nat.mul_add_div (Nat.mul_pos (by decide) hS), Nat.mul_add_mod, Nat.div_eq_of_lt hlt, Nat.mod_eq_of_lt hlt, if_pos]
  · simp
  · have : 2 ^ 64 ≤ 2 ^ 64 * r := Nat.le_mul_of_pos_right _ (by omega)
    omega
 ·
  rw [if_neg hr0]; have hr0 : r = 0 := by omega
  subst hr0; by_cases hlt : m < m2
  ·
   simp only [if_pos hlt]; have hq0 : 0 < q := by
    rcases Nat.eq_zero_or_pos q with e | e
    · subst e; simp at hdh; subst hdh; omega
    · exact e
   have e2 : (h - 1) / S = q - 1 := by
    rw [← hdh]; have : S * q + 0 - 1 = S * (q - 1) + (S - 1) := by
     have : S * q = S * (q - 1) + S := by rw [← Nat.mul_succ]; congr 1; omega
     omega
    rw [this, Nat.mul_add_div hS, Nat.div_eq_of_lt (by omega)]; simp
   have e1 : pr - m2 = 2 ^ 64 * S * (q - 1) + (2 ^ 64 * (S - 1) + (m + 2 ^ 64 - m2)) := by
    have a1 : 2 ^ 64 * S * q = 2 ^ 64 * S * (q - 1) + 2 ^ 64 * S := by rw [← Nat.mul_succ]; congr 1; omega
    have a2 : 2 ^ 64 * S = 2 ^ 64 * (S - 1) + 2 ^ 64 := by rw [← Nat.mul_succ]; congr 1; omega
    have a3 : pr = 2 ^ 64 * S * q + m := by rw [← hdm, ← hdh]; rw [Nat.mul_assoc]; simp
    omega
   have hll : 2 ^ 64 * (S - 1) + (m + 2 ^ 64 - m2) < 2 ^ 64 * S := by
    have a2 : 2 ^ 64 * S = 2 ^ 64 * (S - 1) + 2 ^ 64 := by rw [← Nat.mul_succ]; congr 1; omega
    omega
   rw [e2, e1, Nat.mul_add_div (Nat.mul_pos (by decide) hS), Nat.mul_add_mod, Nat.div_eq_of_lt hll, Nat.mod_eq_of_lt hll]; have e3 : (m + 2 ^ 64 - m2) % 2 ^ 64 = m + 2 ^ 64 - m2 := Nat.mod_eq_of_lt (by omega); rw [e3, if_pos (by omega), if_pos (by omega)]; simp
  ·
   simp only [if_neg hlt]; have e1 : pr - m2 = 2 ^ 64 * S * q + (m - m2) := by
    have a3 : pr = 2 ^ 64 * S * q + m := by rw [← hdm, ← hdh]; rw [Nat.mul_assoc]; simp
    omega
   have hll : m - m2 < 2 ^ 64 * S := by
    have : 2 ^ 64 ≤ 2 ^ 64 * S := Nat.le_mul_of_pos_right _ hS; omega
   rw [hq, e1, Nat.mul_add_div (Nat.mul_pos (by decide) hS), Nat.mul_add_mod, Nat.div_eq_of_lt hll, Nat.mod_eq_of_lt hll]; have e3 : (m + 2 ^ 64 - m2) % 2 ^ 64 = m - m2 := by
    have : m + 2 ^ 64 - m2 = 2 ^ 64 + (m - m2) := by omega
    rw [this, Nat.add_mod_left, Nat.mod_eq_of_lt (by omega)]
   rw [e3]; simp
theorem uscaleN_exact (x hi lo s a b : Nat) (hx : x < 2 ^ 64) (hlo : lo < 2 ^ 64) (hhi : 2 ^ 63 ≤ hi) (hx0 : 2 ≤ x) (hb : 0 < b)
  (h1 : a * 2 ^ (128 + s) ≤ x * (hi * 2 ^ 64 - lo) * b) (h2 : x * (hi * 2 ^ 64 - lo) * b ≤ a * 2 ^ (128 + s) + 2 ^ 64 * b)
  (h3 : a % b ≠ 0 → 2 * b < (a % b) * 2 ^ (64 + s) ∧ 2 * b < (b - a % b) * 2 ^ (64 + s)) :
  uscaleN x hi lo s = unr a b := by
 rw [uscaleN_T x hi lo s hx hlo hhi hx0]; have hm2x : x * lo / 2 ^ 64 ≤ x := by
  rw [Nat.div_le_iff_le_mul_add_pred (by decide)]; have : x * lo ≤ x * 2 ^ 64 := Nat.mul_le_mul_left _ (by omega); omega
 have hbig : x * 2 ^ 63 ≤ x * hi := Nat.mul_le_mul_left _ hhi; obtain ⟨T, hT⟩ : ∃ T, T = x * hi - x * lo / 2 ^ 64 := ⟨_, rfl⟩; rw [← hT]; have hdl := Nat.div_add_mod (x * lo) (2 ^ 64); have hll := Nat.mod_lt (x * lo) (show 0 < 2 ^ 64 by decide); have hP : x * (hi * 2 ^ 64 - lo) = x * hi * 2 ^ 64 - x * lo := by rw [Nat.mul_sub, Nat.mul_assoc]
 have hT1 : x * (hi * 2 ^ 64 - lo) ≤ T * 2 ^ 64 := by rw [hP]; omega
 have hT2 : T * 2 ^ 64 < x * (hi * 2 ^ 64 - lo) + 2 ^ 64 := by rw [hP]; omega
 obtain ⟨X, hX⟩ : ∃ X, X = x * (hi * 2 ^ 64 - lo) := ⟨_, rfl⟩; rw [← hX] at h1 h2 hT1 hT2; have hpow : 2 ^ (128 + s) = 2 ^ 64 * 2 ^ (64 + s) := by rw [← Nat.pow_add]; congr 1; omega
 obtain ⟨M, hM⟩ : ∃ M, M = 2 ^ (64 + s) := ⟨_, rfl⟩; rw [hpow, ← hM] at h1 h2; rw [← hM] at h3 ⊢; have hM2 : 2 ≤ M := by rw [hM, show 64 + s = (63 + s) + 1 from by omega, Nat.pow_succ]; have := Nat.two_pow_pos (63 + s); omega
 have hbT1 : a * M ≤ T * b := by
  have : a * (2 ^ 64 * M) ≤ T * 2 ^ 64 * b := Nat.le_trans h1 (Nat.mul_le_mul_right _ hT1); have e : a * (2 ^ 64 * M) = 2 ^ 64 * (a * M) := by rw [Nat.mul_left_comm]
  have e' : T * 2 ^ 64 * b = 2 ^ 64 * (T * b) := by rw [Nat.mul_comm T, Nat.mul_assoc]
  rw [e, e'] at this; exact Nat.le_of_mul_le_mul_left this (by decide)
 have hbT2 : T * b < a * M + 2 * b := by
  have : T * 2 ^ 64 * b < (X + 2 ^ 64) * b := Nat.mul_lt_mul_of_pos_right hT2 hb; rw [Nat.add_mul] at this; have e : a * (2 ^ 64 * M) = 2 ^ 64 * (a * M) := by rw [Nat.mul_left_comm]
  have e' : T * 2 ^ 64 * b = 2 ^ 64 * (T * b) := by rw [Nat.mul_comm T, Nat.mul_assoc]
  rw [e] at h2; rw [e'] at this; omega
 have hda := Nat.div_add_mod a b; have hla := Nat.mod_lt a hb; generalize hq : a / b = q at *; generalize hr : a % b = r at *; have haM : a * M = b * (q * M) + r * M := by rw [← hda, Nat.add_mul, Nat.mul_assoc]
 unfold unr; rw [hq, hr]; by_cases hr0 : r = 0
 ·
  rw [if_pos hr0]; subst hr0; simp only [Nat.zero_mul, Nat.add_zero] at haM; rw [haM] at hbT1 hbT2; have c1 : q * M ≤ T := by
   rw [Nat.mul_comm T] at hbT1; exact Nat.le_of_mul_le_mul_left hbT1 hb
  have c2 : T < q * M + 2 := by
   have : b * T < b * (q * M + 2) := by rw [Nat.mul_add, Nat.mul_comm b T]; omega
   exact Nat.lt_of_mul_lt_mul_left this
  obtain ⟨t, ht⟩ : ∃ t, T = M * q + t := ⟨T - M * q, by rw [Nat.mul_comm] at c1; omega⟩; have ht2 : t < 2 := by rw [Nat.mul_comm] at c2; omega
  rw [ht, Nat.mul_add_div (by omega), Nat.mul_add_mod, Nat.mod_eq_of_lt (by omega : t < M), Nat.div_eq_of_lt (by omega : t < M)]; by_cases ht1 : 1 < t
  · omega
  · rw [if_neg ht1]; simp
 ·
  rw [if_neg hr0]; obtain ⟨g1, g2⟩ := h3 hr0; have c1 : q * M + 2 < T := by
   have : b * (q * M + 2) < b * T := by rw [Nat.mul_add, Nat.mul_comm b T]; omega
   exact Nat.lt_of_mul_lt_mul_left this
  have c2 : T < (q + 1) * M := by
   have e : (b - r) * M = b * M - r * M := Nat.sub_mul _ _ _; have : b * T < b * ((q + 1) * M) := by
    rw [Nat.add_mul, Nat.mul_add, Nat.one_mul, Nat.mul_comm b T]; omega
   exact Nat.lt_of_mul_lt_mul_left this
  obtain ⟨t, ht⟩ : ∃ t, T = M * q + t := ⟨T - M * q, by rw [Nat.mul_comm] at c1; omega⟩; have ht1 : t < M := by rw [Nat.add_mul, Nat.one_mul, Nat.mul_comm q] at c2; omega
  have ht2 : 1 < t := by rw [Nat.mul_comm q] at c1; omega
  rw [ht, Nat.mul_add_div (by omega), Nat.mul_add_mod, Nat.mod_eq_of_lt ht1, Nat.div_eq_of_lt ht1, if_pos ht2]; simp
theorem comb (D0 D1 t u v : Int) (h0 : D0 = 0 ∨ t < D0) (h1 : D1 = 0 ∨ t < D1) (ht : 0 ≤ t) (hu : 0 ≤ u) (hv : 0 ≤ v) :
  u * D0 + v * D1 = 0 ∨ t < u * D0 + v * D1 := by
 have hm : ∀ u v : Int, 1 ≤ u → 0 ≤ v → v ≤ u * v := fun u v hu hv => by
  have := Int.mul_le_mul_of_nonneg_right hu hv; omega
 have e0 : u * D0 = 0 ∨ t < u * D0 := by
  rcases h0 with h0 | h0
  · left; rw [h0]; simp
  · by_cases hz : u = 0
    · left; rw [hz]; simp
    · right; have := hm u D0 (by omega) (by omega); omega
 have e1 : v * D1 = 0 ∨ t < v * D1 := by
  rcases h1 with h1 | h1
  · left; rw [h1]; simp
  · by_cases hz : v = 0
    · left; rw [hz]; simp
    · right; have := hm v D1 (by omega) (by omega); omega
 omega
theorem farey (A B p0 q0 p1 q1 N t y n : Int) (hdet : p1 * q0 - p0 * q1 = 1) (hq0 : 0 < q0) (hq1 : 0 < q1) (hN : N < q0 + q1)
  (h0 : q0 * A - p0 * B = 0 ∨ t < q0 * A - p0 * B) (h1 : p1 * B - q1 * A = 0 ∨ t < p1 * B - q1 * A) (ht : 0 ≤ t) (hy1 : 1 ≤ y) (hy2 : y ≤ N) :
  y * A - n * B = 0 ∨ t < y * A - n * B ∨ t < n * B - y * A := by
 obtain ⟨a, ha⟩ : ∃ a, a = y * p1 - n * q1 := ⟨_, rfl⟩; obtain ⟨b, hb⟩ : ∃ b, b = n * q0 - y * p0 := ⟨_, rfl⟩; obtain ⟨D0, hD0⟩ : ∃ D, D = q0 * A - p0 * B := ⟨_, rfl⟩; obtain ⟨D1, hD1⟩ : ∃ D, D = p1 * B - q1 * A := ⟨_, rfl⟩; have hyab : y = a * q0 + b * q1 := by
  rw [ha, hb]; have : (y * p1 - n * q1) * q0 + (n * q0 - y * p0) * q1 = y * (p1 * q0 - p0 * q1) := by
   simp only [Int.sub_mul, Int.mul_sub, Int.mul_assoc, Int.mul_comm, Int.mul_left_comm]; omega
  rw [this, hdet]; simp
 have hΔ : y * A - n * B = a * D0 - b * D1 := by
  rw [ha, hb, hD0, hD1]; have : (y * p1 - n * q1) * (q0 * A - p0 * B) - (n * q0 - y * p0) * (p1 * B - q1 * A) = (y * A - n * B) * (p1 * q0 - p0 * q1) := by
   simp only [Int.sub_mul, Int.mul_sub, Int.mul_assoc, Int.mul_comm, Int.mul_left_comm]; omega
  rw [this, hdet]; simp
 rw [← hD0] at h0; rw [← hD1] at h1; have hm : ∀ u v : Int, 1 ≤ u → 0 ≤ v → v ≤ u * v := fun u v hu hv => by
  have := Int.mul_le_mul_of_nonneg_right hu hv; omega
 by_cases ha1 : 1 ≤ a
 ·
  by_cases hb1 : 1 ≤ b
  · have k1 := hm a q0 ha1 (by omega)
    have k2 := hm b q1 hb1 (by omega); omega
  · have := comb D0 D1 t a (-b) h0 h1 ht (by omega) (by omega)
    rw [Int.neg_mul] at this; rw [hΔ]; omega
 ·
  by_cases hb1 : 1 ≤ b
  · have := comb D0 D1 t (-a) b h0 h1 ht (by omega) (by omega)
    rw [Int.neg_mul] at this; have : n * B - y * A = -(y * A - n * B) := by omega
    rw [this, hΔ]; omega
  · have k1 : 0 ≤ (-a) * q0 := Int.mul_nonneg (by omega) (by omega)
    have k2 : 0 ≤ (-b) * q1 := Int.mul_nonneg (by omega) (by omega); rw [Int.neg_mul] at k1 k2; omega
end Go.Proofs.YtljaoopfomcaoaaGreatDoor.Fl
namespace Go.Proofs.YtljaoopfomcaoaaGreatDoor.Fl
def lg10 (x : Int) : Int := x * 78913 / 262144
def lg2 (x : Int) : Int := x * 108853 / 32768
def skw (x : Int) : Int := (x * 631305 - 261663) / 2097152
def nu (p q : Int) : Nat := 10 ^ p.toNat * 2 ^ q.toNat
def de (p q : Int) : Nat := 10 ^ (-p).toNat * 2 ^ (-q).toNat
theorem de_pos (p q : Int) : 0 < de p q := Nat.mul_pos (Nat.pow_pos (by decide)) (Nat.pow_pos (by decide))
def pOf (e : Int) (sk : Bool) : Int := if sk then -(skw (e + 11)) else -(lg10 (e + 11))
def sOf (e : Int) (sk : Bool) : Int := -(e + lg2 (pOf e sk) + 3)
noncomputable def force {α : Type} (x : Nat) (f : Nat → α) : α := Nat.rec (f 0) (fun n _ => f (n + 1)) x
theorem force_eq {α : Type} (x : Nat) (f : Nat → α) : force x f = f x := by cases x <;> rfl
def chk (A B N t p0 q0 p1 q1 : Nat) : Bool :=
 p1 * q0 == p0 * q1 + 1 && (Nat.blt 0 q0 && (Nat.blt 0 q1 && (Nat.blt N (q0 + q1) &&
 ((q0 * A == p0 * B || Nat.blt (t + p0 * B) (q0 * A)) && (q1 * A == p1 * B || Nat.blt (t + q1 * A) (p1 * B))))))
noncomputable def find (A B N t fuel : Nat) : Nat → Nat → Nat → Nat → Nat → Nat → Bool → Bool :=
 Nat.rec (motive := fun _ => Nat → Nat → Nat → Nat → Nat → Nat → Bool → Bool) (fun _ _ _ _ _ _ _ => false) (fun _ ih a b h0 k0 h1 k1 up =>
  if b == 0 || Nat.blt N (k0 + a / b * k1) then
   force ((N - k0) / k1) fun j =>
    if up then chk A B N t (h0 + j * h1) (k0 + j * k1) h1 k1 else chk A B N t h1 k1 (h0 + j * h1) (k0 + j * k1)
  else
   force (a / b) fun c => force (a % b) fun r => force (h0 + c * h1) fun h2 => force (k0 + c * k1) fun k2 =>
    ih b r h1 k1 h2 k2 (!up)) fuel
noncomputable def forceI {α : Type} (x : Int) (f : Int → α) : α := Int.rec (fun n => force n fun m => f (Int.ofNat m)) (fun n => force n fun m => f (Int.negSucc m)) x
theorem forceI_eq {α : Type} (x : Int) (f : Int → α) : forceI x f = f x := by cases x with
 | ofNat n => exact force_eq n fun m => f (Int.ofNat m)
 | negSucc n => exact force_eq n fun m => f (Int.negSucc m)
noncomputable def good (i : Nat) (sk : Bool) : Bool :=
 forceI ((i : Int) - 1085) fun e => forceI (pOf e sk) fun p => forceI (-(e + lg2 p + 3)) fun s =>
 decide (0 ≤ s) && decide (s < 64) && decide (-348 ≤ p) && decide (p ≤ 347) &&
 (force (2 ^ 9 * nu p (e + 2)) fun A => force (de p (e + 2)) fun B =>
  (if sk then Nat.ble (4 * B) (3 * A) && Nat.blt (3 * A) (40 * B) else Nat.ble B A && Nat.blt A (10 * B)) &&
  (force (2 * B / 2 ^ (64 + s.toNat)) fun t => find A B (2 ^ 55) t 200 A B 0 1 1 0 true))
noncomputable def goods (n : Nat) : Nat → Bool :=
 Nat.rec (motive := fun _ => Nat → Bool) (fun _ => true) (fun _ ih i => good i false && (good i true && force (i + 1) ih)) n
def Run (a : Nat) : Prop := ∀ j, j < a → good j false = true ∧ good j true = true
theorem goods_run (n : Nat) : ∀ i, goods n i = true → ∀ j, i ≤ j → j < i + n → good j false = true ∧ good j true = true := by
 induction n with
 | zero => intro i _ j h1 h2; omega
 | succ n ih =>
  intro i h j h1 h2; have h' : (good i false && (good i true && force (i + 1) (goods n))) = true := h; rw [force_eq, Bool.and_eq_true, Bool.and_eq_true] at h'; obtain ⟨g1, g2, g3⟩ := h'; by_cases e : j = i
  · subst e; exact ⟨g1, g2⟩
  · exact ih (i + 1) g3 j (by omega) (by omega)
theorem Run.step {a n : Nat} (h : Run a) (g : goods n a = true) : Run (a + n) := by
 intro j hj; by_cases e : j < a
 · exact h j e
 · exact goods_run n a g j (by omega) hj
theorem run0 : Run 0 := fun j hj => absurd hj (Nat.not_lt_zero j)
theorem run6 : Run 6 := Run.step (n := 6) run0 (by decide +kernel)
theorem run12 : Run 12 := Run.step (n := 6) run6 (by decide +kernel)
theorem run18 : Run 18 := Run.step (n := 6) run12 (by decide +kernel)
theorem run24 : Run 24 := Run.step (n := 6) run18 (by decide +kernel)
theorem run30 : Run 30 := Run.step (n := 6) run24 (by decide +kernel)
theorem run36 : Run 36 := Run.step (n := 6) run30 (by decide +kernel)
theorem run42 : Run 42 := Run.step (n := 6) run36 (by decide +kernel)
theorem run48 : Run 48 := Run.step (n := 6) run42 (by decide +kernel)
theorem run54 : Run 54 := Run.step (n := 6) run48 (by decide +kernel)
theorem run60 : Run 60 := Run.step (n := 6) run54 (by decide +kernel)
theorem run66 : Run 66 := Run.step (n := 6) run60 (by decide +kernel)
theorem run72 : Run 72 := Run.step (n := 6) run66 (by decide +kernel)
theorem run78 : Run 78 := Run.step (n := 6) run72 (by decide +kernel)
theorem run84 : Run 84 := Run.step (n := 6) run78 (by decide +kernel)
theorem run90 : Run 90 := Run.step (n := 6) run84 (by decide +kernel)
theorem run96 : Run 96 := Run.step (n := 6) run90 (by decide +kernel)
theorem run102 : Run 102 := Run.step (n := 6) run96 (by decide +kernel)
theorem run108 : Run 108 := Run.step (n := 6) run102 (by decide +kernel)
theorem run114 : Run 114 := Run.step (n := 6) run108 (by decide +kernel)
theorem run120 : Run 120 := Run.step (n := 6) run114 (by decide +kernel)
theorem run126 : Run 126 := Run.step (n := 6) run120 (by decide +kernel)
theorem run132 : Run 132 := Run.step (n := 6) run126 (by decide +kernel)
theorem run138 : Run 138 := Run.step (n := 6) run132 (by decide +kernel)
theorem run144 : Run 144 := Run.step (n := 6) run138 (by decide +kernel)
theorem run150 : Run 150 := Run.step (n := 6) run144 (by decide +kernel)
theorem run156 : Run 156 := Run.step (n := 6) run150 (by decide +kernel)
theorem run162 : Run 162 := Run.step (n := 6) run156 (by decide +kernel)
theorem run168 : Run 168 := Run.step (n := 6) run162 (by decide +kernel)
theorem run174 : Run 174 := Run.step (n := 6) run168 (by decide +kernel)
theorem run180 : Run 180 := Run.step (n := 6) run174 (by decide +kernel)
theorem run186 : Run 186 := Run.step (n := 6) run180 (by decide +kernel)
theorem run192 : Run 192 := Run.step (n := 6) run186 (by decide +kernel)
theorem run198 : Run 198 := Run.step (n := 6) run192 (by decide +kernel)
theorem run204 : Run 204 := Run.step (n := 6) run198 (by decide +kernel)
theorem run210 : Run 210 := Run.step (n := 6) run204 (by decide +kernel)
theorem run216 : Run 216 := Run.step (n := 6) run210 (by decide +kernel)
theorem run222 : Run 222 := Run.step (n := 6) run216 (by decide +kernel)
theorem run228 : Run 228 := Run.step (n := 6) run222 (by decide +kernel)
theorem run234 : Run 234 := Run.step (n := 6) run228 (by decide +kernel)
theorem run240 : Run 240 := Run.step (n := 6) run234 (by decide +kernel)
theorem run246 : Run 246 := Run.step (n := 6) run240 (by decide +kernel)
theorem run252 : Run 252 := Run.step (n := 6) run246 (by decide +kernel)
theorem run258 : Run 258 := Run.step (n := 6) run252 (by decide +kernel)
theorem run264 : Run 264 := Run.step (n := 6) run258 (by decide +kernel)
theorem run270 : Run 270 := Run.step (n := 6) run264 (by decide +kernel)
theorem run276 : Run 276 := Run.step (n := 6) run270 (by decide +kernel)
theorem run282 : Run 282 := Run.step (n := 6) run276 (by decide +kernel)
theorem run288 : Run 288 := Run.step (n := 6) run282 (by decide +kernel)
theorem run294 : Run 294 := Run.step (n := 6) run288 (by decide +kernel)
theorem run300 : Run 300 := Run.step (n := 6) run294 (by decide +kernel)
theorem run306 : Run 306 := Run.step (n := 6) run300 (by decide +kernel)
theorem run312 : Run 312 := Run.step (n := 6) run306 (by decide +kernel)
theorem run318 : Run 318 := Run.step (n := 6) run312 (by decide +kernel)
theorem run324 : Run 324 := Run.step (n := 6) run318 (by decide +kernel)
theorem run330 : Run 330 := Run.step (n := 6) run324 (by decide +kernel)
theorem run336 : Run 336 := Run.step (n := 6) run330 (by decide +kernel)
theorem run342 : Run 342 := Run.step (n := 6) run336 (by decide +kernel)
theorem run348 : Run 348 := Run.step (n := 6) run342 (by decide +kernel)
theorem run354 : Run 354 := Run.step (n := 6) run348 (by decide +kernel)
theorem run360 : Run 360 := Run.step (n := 6) run354 (by decide +kernel)
theorem run366 : Run 366 := Run.step (n := 6) run360 (by decide +kernel)
theorem run372 : Run 372 := Run.step (n := 6) run366 (by decide +kernel)
theorem run378 : Run 378 := Run.step (n := 6) run372 (by decide +kernel)
theorem run384 : Run 384 := Run.step (n := 6) run378 (by decide +kernel)
theorem run390 : Run 390 := Run.step (n := 6) run384 (by decide +kernel)
theorem run396 : Run 396 := Run.step (n := 6) run390 (by decide +kernel)
theorem run402 : Run 402 := Run.step (n := 6) run396 (by decide +kernel)
theorem run408 : Run 408 := Run.step (n := 6) run402 (by decide +kernel)
theorem run414 : Run 414 := Run.step (n := 6) run408 (by decide +kernel)
theorem run420 : Run 420 := Run.step (n := 6) run414 (by decide +kernel)
theorem run426 : Run 426 := Run.step (n := 6) run420 (by decide +kernel)
theorem run432 : Run 432 := Run.step (n := 6) run426 (by decide +kernel)
theorem run438 : Run 438 := Run.step (n := 6) run432 (by decide +kernel)
theorem run444 : Run 444 := Run.step (n := 6) run438 (by decide +kernel)
theorem run450 : Run 450 := Run.step (n := 6) run444 (by decide +kernel)
theorem run456 : Run 456 := Run.step (n := 6) run450 (by decide +kernel)
theorem run462 : Run 462 := Run.step (n := 6) run456 (by decide +kernel)
theorem run468 : Run 468 := Run.step (n := 6) run462 (by decide +kernel)
theorem run474 : Run 474 := Run.step (n := 6) run468 (by decide +kernel)
theorem run480 : Run 480 := Run.step (n := 6) run474 (by decide +kernel)
theorem run486 : Run 486 := Run.step (n := 6) run480 (by decide +kernel)
theorem run492 : Run 492 := Run.step (n := 6) run486 (by decide +kernel)
theorem run498 : Run 498 := Run.step (n := 6) run492 (by decide +kernel)
theorem run504 : Run 504 := Run.step (n := 6) run498 (by decide +kernel)
theorem run510 : Run 510 := Run.step (n := 6) run504 (by decide +kernel)
theorem run516 : Run 516 := Run.step (n := 6) run510 (by decide +kernel)
theorem run522 : Run 522 := Run.step (n := 6) run516 (by decide +kernel)
theorem run528 : Run 528 := Run.step (n := 6) run522 (by decide +kernel)
theorem run534 : Run 534 := Run.step (n := 6) run528 (by decide +kernel)
theorem run540 : Run 540 := Run.step (n := 6) run534 (by decide +kernel)
theorem run546 : Run 546 := Run.step (n := 6) run540 (by decide +kernel)
theorem run552 : Run 552 := Run.step (n := 6) run546 (by decide +kernel)
theorem run558 : Run 558 := Run.step (n := 6) run552 (by decide +kernel)
theorem run564 : Run 564 := Run.step (n := 6) run558 (by decide +kernel)
theorem run570 : Run 570 := Run.step (n := 6) run564 (by decide +kernel)
theorem run576 : Run 576 := Run.step (n := 6) run570 (by decide +kernel)
theorem run582 : Run 582 := Run.step (n := 6) run576 (by decide +kernel)
theorem run588 : Run 588 := Run.step (n := 6) run582 (by decide +kernel)
theorem run594 : Run 594 := Run.step (n := 6) run588 (by decide +kernel)
theorem run600 : Run 600 := Run.step (n := 6) run594 (by decide +kernel)
theorem run606 : Run 606 := Run.step (n := 6) run600 (by decide +kernel)
theorem run612 : Run 612 := Run.step (n := 6) run606 (by decide +kernel)
theorem run618 : Run 618 := Run.step (n := 6) run612 (by decide +kernel)
theorem run624 : Run 624 := Run.step (n := 6) run618 (by decide +kernel)
theorem run630 : Run 630 := Run.step (n := 6) run624 (by decide +kernel)
theorem run636 : Run 636 := Run.step (n := 6) run630 (by decide +kernel)
theorem run642 : Run 642 := Run.step (n := 6) run636 (by decide +kernel)
theorem run648 : Run 648 := Run.step (n := 6) run642 (by decide +kernel)
theorem run654 : Run 654 := Run.step (n := 6) run648 (by decide +kernel)
theorem run660 : Run 660 := Run.step (n := 6) run654 (by decide +kernel)
theorem run666 : Run 666 := Run.step (n := 6) run660 (by decide +kernel)
theorem run672 : Run 672 := Run.step (n := 6) run666 (by decide +kernel)
theorem run678 : Run 678 := Run.step (n := 6) run672 (by decide +kernel)
theorem run684 : Run 684 := Run.step (n := 6) run678 (by decide +kernel)
theorem run690 : Run 690 := Run.step (n := 6) run684 (by decide +kernel)
theorem run696 : Run 696 := Run.step (n := 6) run690 (by decide +kernel)
theorem run702 : Run 702 := Run.step (n := 6) run696 (by decide +kernel)
theorem run708 : Run 708 := Run.step (n := 6) run702 (by decide +kernel)
theorem run714 : Run 714 := Run.step (n := 6) run708 (by decide +kernel)
theorem run720 : Run 720 := Run.step (n := 6) run714 (by decide +kernel)
theorem run726 : Run 726 := Run.step (n := 6) run720 (by decide +kernel)
theorem run732 : Run 732 := Run.step (n := 6) run726 (by decide +kernel)
theorem run738 : Run 738 := Run.step (n := 6) run732 (by decide +kernel)
theorem run744 : Run 744 := Run.step (n := 6) run738 (by decide +kernel)
theorem run750 : Run 750 := Run.step (n := 6) run744 (by decide +kernel)
theorem run756 : Run 756 := Run.step (n := 6) run750 (by decide +kernel)
theorem run762 : Run 762 := Run.step (n := 6) run756 (by decide +kernel)
theorem run768 : Run 768 := Run.step (n := 6) run762 (by decide +kernel)
theorem run774 : Run 774 := Run.step (n := 6) run768 (by decide +kernel)
theorem run780 : Run 780 := Run.step (n := 6) run774 (by decide +kernel)
theorem run786 : Run 786 := Run.step (n := 6) run780 (by decide +kernel)
theorem run792 : Run 792 := Run.step (n := 6) run786 (by decide +kernel)
theorem run798 : Run 798 := Run.step (n := 6) run792 (by decide +kernel)
theorem run804 : Run 804 := Run.step (n := 6) run798 (by decide +kernel)
theorem run810 : Run 810 := Run.step (n := 6) run804 (by decide +kernel)
theorem run816 : Run 816 := Run.step (n := 6) run810 (by decide +kernel)
theorem run822 : Run 822 := Run.step (n := 6) run816 (by decide +kernel)
theorem run828 : Run 828 := Run.step (n := 6) run822 (by decide +kernel)
theorem run834 : Run 834 := Run.step (n := 6) run828 (by decide +kernel)
theorem run840 : Run 840 := Run.step (n := 6) run834 (by decide +kernel)
theorem run846 : Run 846 := Run.step (n := 6) run840 (by decide +kernel)
theorem run852 : Run 852 := Run.step (n := 6) run846 (by decide +kernel)
theorem run858 : Run 858 := Run.step (n := 6) run852 (by decide +kernel)
theorem run864 : Run 864 := Run.step (n := 6) run858 (by decide +kernel)
theorem run870 : Run 870 := Run.step (n := 6) run864 (by decide +kernel)
theorem run876 : Run 876 := Run.step (n := 6) run870 (by decide +kernel)
theorem run882 : Run 882 := Run.step (n := 6) run876 (by decide +kernel)
theorem run888 : Run 888 := Run.step (n := 6) run882 (by decide +kernel)
theorem run894 : Run 894 := Run.step (n := 6) run888 (by decide +kernel)
theorem run900 : Run 900 := Run.step (n := 6) run894 (by decide +kernel)
theorem run906 : Run 906 := Run.step (n := 6) run900 (by decide +kernel)
theorem run912 : Run 912 := Run.step (n := 6) run906 (by decide +kernel)
theorem run918 : Run 918 := Run.step (n := 6) run912 (by decide +kernel)
theorem run924 : Run 924 := Run.step (n := 6) run918 (by decide +kernel)
theorem run930 : Run 930 := Run.step (n := 6) run924 (by decide +kernel)
theorem run936 : Run 936 := Run.step (n := 6) run930 (by decide +kernel)
theorem run942 : Run 942 := Run.step (n := 6) run936 (by decide +kernel)
theorem run948 : Run 948 := Run.step (n := 6) run942 (by decide +kernel)
theorem run954 : Run 954 := Run.step (n := 6) run948 (by decide +kernel)
theorem run960 : Run 960 := Run.step (n := 6) run954 (by decide +kernel)
theorem run966 : Run 966 := Run.step (n := 6) run960 (by decide +kernel)
theorem run972 : Run 972 := Run.step (n := 6) run966 (by decide +kernel)
theorem run978 : Run 978 := Run.step (n := 6) run972 (by decide +kernel)
theorem run984 : Run 984 := Run.step (n := 6) run978 (by decide +kernel)
theorem run990 : Run 990 := Run.step (n := 6) run984 (by decide +kernel)
theorem run996 : Run 996 := Run.step (n := 6) run990 (by decide +kernel)
theorem run1002 : Run 1002 := Run.step (n := 6) run996 (by decide +kernel)
theorem run1008 : Run 1008 := Run.step (n := 6) run1002 (by decide +kernel)
theorem run1014 : Run 1014 := Run.step (n := 6) run1008 (by decide +kernel)
theorem run1020 : Run 1020 := Run.step (n := 6) run1014 (by decide +kernel)
theorem run1026 : Run 1026 := Run.step (n := 6) run1020 (by decide +kernel)
theorem run1032 : Run 1032 := Run.step (n := 6) run1026 (by decide +kernel)
theorem run1038 : Run 1038 := Run.step (n := 6) run1032 (by decide +kernel)
theorem run1044 : Run 1044 := Run.step (n := 6) run1038 (by decide +kernel)
theorem run1050 : Run 1050 := Run.step (n := 6) run1044 (by decide +kernel)
theorem run1056 : Run 1056 := Run.step (n := 6) run1050 (by decide +kernel)
theorem run1062 : Run 1062 := Run.step (n := 6) run1056 (by decide +kernel)
theorem run1068 : Run 1068 := Run.step (n := 6) run1062 (by decide +kernel)
theorem run1074 : Run 1074 := Run.step (n := 6) run1068 (by decide +kernel)
theorem run1080 : Run 1080 := Run.step (n := 6) run1074 (by decide +kernel)
theorem run1086 : Run 1086 := Run.step (n := 6) run1080 (by decide +kernel)
theorem run1092 : Run 1092 := Run.step (n := 6) run1086 (by decide +kernel)
theorem run1098 : Run 1098 := Run.step (n := 6) run1092 (by decide +kernel)
theorem run1104 : Run 1104 := Run.step (n := 6) run1098 (by decide +kernel)
theorem run1110 : Run 1110 := Run.step (n := 6) run1104 (by decide +kernel)
theorem run1116 : Run 1116 := Run.step (n := 6) run1110 (by decide +kernel)
theorem run1122 : Run 1122 := Run.step (n := 6) run1116 (by decide +kernel)
theorem run1128 : Run 1128 := Run.step (n := 6) run1122 (by decide +kernel)
theorem run1134 : Run 1134 := Run.step (n := 6) run1128 (by decide +kernel)
theorem run1140 : Run 1140 := Run.step (n := 6) run1134 (by decide +kernel)
theorem run1146 : Run 1146 := Run.step (n := 6) run1140 (by decide +kernel)
theorem run1152 : Run 1152 := Run.step (n := 6) run1146 (by decide +kernel)
theorem run1158 : Run 1158 := Run.step (n := 6) run1152 (by decide +kernel)
theorem run1164 : Run 1164 := Run.step (n := 6) run1158 (by decide +kernel)
theorem run1170 : Run 1170 := Run.step (n := 6) run1164 (by decide +kernel)
theorem run1176 : Run 1176 := Run.step (n := 6) run1170 (by decide +kernel)
theorem run1182 : Run 1182 := Run.step (n := 6) run1176 (by decide +kernel)
theorem run1188 : Run 1188 := Run.step (n := 6) run1182 (by decide +kernel)
theorem run1194 : Run 1194 := Run.step (n := 6) run1188 (by decide +kernel)
theorem run1200 : Run 1200 := Run.step (n := 6) run1194 (by decide +kernel)
theorem run1206 : Run 1206 := Run.step (n := 6) run1200 (by decide +kernel)
theorem run1212 : Run 1212 := Run.step (n := 6) run1206 (by decide +kernel)
theorem run1218 : Run 1218 := Run.step (n := 6) run1212 (by decide +kernel)
theorem run1224 : Run 1224 := Run.step (n := 6) run1218 (by decide +kernel)
theorem run1230 : Run 1230 := Run.step (n := 6) run1224 (by decide +kernel)
theorem run1236 : Run 1236 := Run.step (n := 6) run1230 (by decide +kernel)
theorem run1242 : Run 1242 := Run.step (n := 6) run1236 (by decide +kernel)
theorem run1248 : Run 1248 := Run.step (n := 6) run1242 (by decide +kernel)
theorem run1254 : Run 1254 := Run.step (n := 6) run1248 (by decide +kernel)
theorem run1260 : Run 1260 := Run.step (n := 6) run1254 (by decide +kernel)
theorem run1266 : Run 1266 := Run.step (n := 6) run1260 (by decide +kernel)
theorem run1272 : Run 1272 := Run.step (n := 6) run1266 (by decide +kernel)
theorem run1278 : Run 1278 := Run.step (n := 6) run1272 (by decide +kernel)
theorem run1284 : Run 1284 := Run.step (n := 6) run1278 (by decide +kernel)
theorem run1290 : Run 1290 := Run.step (n := 6) run1284 (by decide +kernel)
theorem run1296 : Run 1296 := Run.step (n := 6) run1290 (by decide +kernel)
theorem run1302 : Run 1302 := Run.step (n := 6) run1296 (by decide +kernel)
theorem run1308 : Run 1308 := Run.step (n := 6) run1302 (by decide +kernel)
theorem run1314 : Run 1314 := Run.step (n := 6) run1308 (by decide +kernel)
theorem run1320 : Run 1320 := Run.step (n := 6) run1314 (by decide +kernel)
theorem run1326 : Run 1326 := Run.step (n := 6) run1320 (by decide +kernel)
theorem run1332 : Run 1332 := Run.step (n := 6) run1326 (by decide +kernel)
theorem run1338 : Run 1338 := Run.step (n := 6) run1332 (by decide +kernel)
theorem run1344 : Run 1344 := Run.step (n := 6) run1338 (by decide +kernel)
theorem run1350 : Run 1350 := Run.step (n := 6) run1344 (by decide +kernel)
theorem run1356 : Run 1356 := Run.step (n := 6) run1350 (by decide +kernel)
theorem run1362 : Run 1362 := Run.step (n := 6) run1356 (by decide +kernel)
theorem run1368 : Run 1368 := Run.step (n := 6) run1362 (by decide +kernel)
theorem run1374 : Run 1374 := Run.step (n := 6) run1368 (by decide +kernel)
theorem run1380 : Run 1380 := Run.step (n := 6) run1374 (by decide +kernel)
theorem run1386 : Run 1386 := Run.step (n := 6) run1380 (by decide +kernel)
theorem run1392 : Run 1392 := Run.step (n := 6) run1386 (by decide +kernel)
theorem run1398 : Run 1398 := Run.step (n := 6) run1392 (by decide +kernel)
theorem run1404 : Run 1404 := Run.step (n := 6) run1398 (by decide +kernel)
theorem run1410 : Run 1410 := Run.step (n := 6) run1404 (by decide +kernel)
theorem run1416 : Run 1416 := Run.step (n := 6) run1410 (by decide +kernel)
theorem run1422 : Run 1422 := Run.step (n := 6) run1416 (by decide +kernel)
theorem run1428 : Run 1428 := Run.step (n := 6) run1422 (by decide +kernel)
theorem run1434 : Run 1434 := Run.step (n := 6) run1428 (by decide +kernel)
theorem run1440 : Run 1440 := Run.step (n := 6) run1434 (by decide +kernel)
theorem run1446 : Run 1446 := Run.step (n := 6) run1440 (by decide +kernel)
theorem run1452 : Run 1452 := Run.step (n := 6) run1446 (by decide +kernel)
theorem run1458 : Run 1458 := Run.step (n := 6) run1452 (by decide +kernel)
theorem run1464 : Run 1464 := Run.step (n := 6) run1458 (by decide +kernel)
theorem run1470 : Run 1470 := Run.step (n := 6) run1464 (by decide +kernel)
theorem run1476 : Run 1476 := Run.step (n := 6) run1470 (by decide +kernel)
theorem run1482 : Run 1482 := Run.step (n := 6) run1476 (by decide +kernel)
theorem run1488 : Run 1488 := Run.step (n := 6) run1482 (by decide +kernel)
theorem run1494 : Run 1494 := Run.step (n := 6) run1488 (by decide +kernel)
theorem run1500 : Run 1500 := Run.step (n := 6) run1494 (by decide +kernel)
theorem run1506 : Run 1506 := Run.step (n := 6) run1500 (by decide +kernel)
theorem run1512 : Run 1512 := Run.step (n := 6) run1506 (by decide +kernel)
theorem run1518 : Run 1518 := Run.step (n := 6) run1512 (by decide +kernel)
theorem run1524 : Run 1524 := Run.step (n := 6) run1518 (by decide +kernel)
theorem run1530 : Run 1530 := Run.step (n := 6) run1524 (by decide +kernel)
theorem run1536 : Run 1536 := Run.step (n := 6) run1530 (by decide +kernel)
theorem run1542 : Run 1542 := Run.step (n := 6) run1536 (by decide +kernel)
theorem run1548 : Run 1548 := Run.step (n := 6) run1542 (by decide +kernel)
theorem run1554 : Run 1554 := Run.step (n := 6) run1548 (by decide +kernel)
theorem run1560 : Run 1560 := Run.step (n := 6) run1554 (by decide +kernel)
theorem run1566 : Run 1566 := Run.step (n := 6) run1560 (by decide +kernel)
theorem run1572 : Run 1572 := Run.step (n := 6) run1566 (by decide +kernel)
theorem run1578 : Run 1578 := Run.step (n := 6) run1572 (by decide +kernel)
theorem run1584 : Run 1584 := Run.step (n := 6) run1578 (by decide +kernel)
theorem run1590 : Run 1590 := Run.step (n := 6) run1584 (by decide +kernel)
theorem run1596 : Run 1596 := Run.step (n := 6) run1590 (by decide +kernel)
theorem run1602 : Run 1602 := Run.step (n := 6) run1596 (by decide +kernel)
theorem run1608 : Run 1608 := Run.step (n := 6) run1602 (by decide +kernel)
theorem run1614 : Run 1614 := Run.step (n := 6) run1608 (by decide +kernel)
theorem run1620 : Run 1620 := Run.step (n := 6) run1614 (by decide +kernel)
theorem run1626 : Run 1626 := Run.step (n := 6) run1620 (by decide +kernel)
theorem run1632 : Run 1632 := Run.step (n := 6) run1626 (by decide +kernel)
theorem run1638 : Run 1638 := Run.step (n := 6) run1632 (by decide +kernel)
theorem run1644 : Run 1644 := Run.step (n := 6) run1638 (by decide +kernel)
theorem run1650 : Run 1650 := Run.step (n := 6) run1644 (by decide +kernel)
theorem run1656 : Run 1656 := Run.step (n := 6) run1650 (by decide +kernel)
theorem run1662 : Run 1662 := Run.step (n := 6) run1656 (by decide +kernel)
theorem run1668 : Run 1668 := Run.step (n := 6) run1662 (by decide +kernel)
theorem run1674 : Run 1674 := Run.step (n := 6) run1668 (by decide +kernel)
theorem run1680 : Run 1680 := Run.step (n := 6) run1674 (by decide +kernel)
theorem run1686 : Run 1686 := Run.step (n := 6) run1680 (by decide +kernel)
theorem run1692 : Run 1692 := Run.step (n := 6) run1686 (by decide +kernel)
theorem run1698 : Run 1698 := Run.step (n := 6) run1692 (by decide +kernel)
theorem run1704 : Run 1704 := Run.step (n := 6) run1698 (by decide +kernel)
theorem run1710 : Run 1710 := Run.step (n := 6) run1704 (by decide +kernel)
theorem run1716 : Run 1716 := Run.step (n := 6) run1710 (by decide +kernel)
theorem run1722 : Run 1722 := Run.step (n := 6) run1716 (by decide +kernel)
theorem run1728 : Run 1728 := Run.step (n := 6) run1722 (by decide +kernel)
theorem run1734 : Run 1734 := Run.step (n := 6) run1728 (by decide +kernel)
theorem run1740 : Run 1740 := Run.step (n := 6) run1734 (by decide +kernel)
theorem run1746 : Run 1746 := Run.step (n := 6) run1740 (by decide +kernel)
theorem run1752 : Run 1752 := Run.step (n := 6) run1746 (by decide +kernel)
theorem run1758 : Run 1758 := Run.step (n := 6) run1752 (by decide +kernel)
theorem run1764 : Run 1764 := Run.step (n := 6) run1758 (by decide +kernel)
theorem run1770 : Run 1770 := Run.step (n := 6) run1764 (by decide +kernel)
theorem run1776 : Run 1776 := Run.step (n := 6) run1770 (by decide +kernel)
theorem run1782 : Run 1782 := Run.step (n := 6) run1776 (by decide +kernel)
theorem run1788 : Run 1788 := Run.step (n := 6) run1782 (by decide +kernel)
theorem run1794 : Run 1794 := Run.step (n := 6) run1788 (by decide +kernel)
theorem run1800 : Run 1800 := Run.step (n := 6) run1794 (by decide +kernel)
theorem run1806 : Run 1806 := Run.step (n := 6) run1800 (by decide +kernel)
theorem run1812 : Run 1812 := Run.step (n := 6) run1806 (by decide +kernel)
theorem run1818 : Run 1818 := Run.step (n := 6) run1812 (by decide +kernel)
theorem run1824 : Run 1824 := Run.step (n := 6) run1818 (by decide +kernel)
theorem run1830 : Run 1830 := Run.step (n := 6) run1824 (by decide +kernel)
theorem run1836 : Run 1836 := Run.step (n := 6) run1830 (by decide +kernel)
theorem run1842 : Run 1842 := Run.step (n := 6) run1836 (by decide +kernel)
theorem run1848 : Run 1848 := Run.step (n := 6) run1842 (by decide +kernel)
theorem run1854 : Run 1854 := Run.step (n := 6) run1848 (by decide +kernel)
theorem run1860 : Run 1860 := Run.step (n := 6) run1854 (by decide +kernel)
theorem run1866 : Run 1866 := Run.step (n := 6) run1860 (by decide +kernel)
theorem run1872 : Run 1872 := Run.step (n := 6) run1866 (by decide +kernel)
theorem run1878 : Run 1878 := Run.step (n := 6) run1872 (by decide +kernel)
theorem run1884 : Run 1884 := Run.step (n := 6) run1878 (by decide +kernel)
theorem run1890 : Run 1890 := Run.step (n := 6) run1884 (by decide +kernel)
theorem run1896 : Run 1896 := Run.step (n := 6) run1890 (by decide +kernel)
theorem run1902 : Run 1902 := Run.step (n := 6) run1896 (by decide +kernel)
theorem run1908 : Run 1908 := Run.step (n := 6) run1902 (by decide +kernel)
theorem run1914 : Run 1914 := Run.step (n := 6) run1908 (by decide +kernel)
theorem run1920 : Run 1920 := Run.step (n := 6) run1914 (by decide +kernel)
theorem run1926 : Run 1926 := Run.step (n := 6) run1920 (by decide +kernel)
theorem run1932 : Run 1932 := Run.step (n := 6) run1926 (by decide +kernel)
theorem run1938 : Run 1938 := Run.step (n := 6) run1932 (by decide +kernel)
theorem run1944 : Run 1944 := Run.step (n := 6) run1938 (by decide +kernel)
theorem run1950 : Run 1950 := Run.step (n := 6) run1944 (by decide +kernel)
theorem run1956 : Run 1956 := Run.step (n := 6) run1950 (by decide +kernel)
theorem run1962 : Run 1962 := Run.step (n := 6) run1956 (by decide +kernel)
theorem run1968 : Run 1968 := Run.step (n := 6) run1962 (by decide +kernel)
theorem run1974 : Run 1974 := Run.step (n := 6) run1968 (by decide +kernel)
theorem run1980 : Run 1980 := Run.step (n := 6) run1974 (by decide +kernel)
theorem run1986 : Run 1986 := Run.step (n := 6) run1980 (by decide +kernel)
theorem run1992 : Run 1992 := Run.step (n := 6) run1986 (by decide +kernel)
theorem run1998 : Run 1998 := Run.step (n := 6) run1992 (by decide +kernel)
theorem run2004 : Run 2004 := Run.step (n := 6) run1998 (by decide +kernel)
theorem run2010 : Run 2010 := Run.step (n := 6) run2004 (by decide +kernel)
theorem run2016 : Run 2016 := Run.step (n := 6) run2010 (by decide +kernel)
theorem run2022 : Run 2022 := Run.step (n := 6) run2016 (by decide +kernel)
theorem run2028 : Run 2028 := Run.step (n := 6) run2022 (by decide +kernel)
theorem run2034 : Run 2034 := Run.step (n := 6) run2028 (by decide +kernel)
theorem run2040 : Run 2040 := Run.step (n := 6) run2034 (by decide +kernel)
theorem run2046 : Run 2046 := Run.step (n := 6) run2040 (by decide +kernel)
end Go.Proofs.YtljaoopfomcaoaaGreatDoor.Fl
