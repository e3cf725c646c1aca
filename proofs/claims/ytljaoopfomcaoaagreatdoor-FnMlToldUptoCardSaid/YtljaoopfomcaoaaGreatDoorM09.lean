import Derived.Test.YtljaoopfomcaoaaGreatDoorM00
set_option linter.all false
namespace Go.Proofs.YtljaoopfomcaoaaGreatDoor
section
theorem num_snoc (l : List Nat) (d : Nat) : num (l ++ [d]) = 10 * num l + d := by simp [num]
theorem num_nil : num [] = 0 := rfl
theorem num_foldl (l : List Nat) : ∀ a, l.foldl (fun a d => 10 * a + d) a = a * 10 ^ l.length + num l := by
 induction l with
 | nil => intro a; simp [num]
 | cons d l ih =>
  intro a; have h1 := ih (10 * a + d); have h2 : num (d :: l) = d * 10 ^ l.length + num l := by
   show l.foldl _ (10 * 0 + d) = _
   rw [ih (10 * 0 + d)]; simp
  rw [List.foldl_cons, h1, h2, List.length_cons, Nat.pow_succ]; rw [Nat.add_mul]; have : 10 * a * 10 ^ l.length = a * (10 ^ l.length * 10) := by rw [Nat.mul_comm 10 a, Nat.mul_assoc, Nat.mul_comm 10]
  omega
theorem num_cons (d : Nat) (l : List Nat) : num (d :: l) = d * 10 ^ l.length + num l := by
 show l.foldl _ (10 * 0 + d) = _
 rw [num_foldl]; simp
theorem num_append (l m : List Nat) : num (l ++ m) = num l * 10 ^ m.length + num m := by
 unfold num; rw [List.foldl_append]; exact num_foldl m _
theorem num_lt {l : List Nat} (h : ∀ d ∈ l, d < 10) : num l < 10 ^ l.length := by
 induction l with
 | nil => simp [num]
 | cons d l ih =>
  rw [num_cons, List.length_cons, Nat.pow_succ]; have h1 := ih fun x hx => h x (by simp [hx])
  have h2 := h d (by simp); have : d * 10 ^ l.length ≤ 9 * 10 ^ l.length := Nat.mul_le_mul_right _ (by omega); omega
theorem num_zeros (l : List Nat) : ∀ m, num (l ++ List.replicate m 0) = num l * 10 ^ m := by
 intro m; rw [num_append, List.length_replicate]; have : num (List.replicate m 0) = 0 := by
  induction m with
  | zero => rfl
  | succ m ih => rw [List.replicate_succ, num_cons, ih]; simp
 omega
def dg (ds : List Nat) (i : Nat) : Nat := ds.getD i 0
def pre (ds : List Nat) : Nat → Nat
 | 0 => 0
 | i + 1 => 10 * pre ds i + dg ds i
theorem pre_take (ds : List Nat) : ∀ i, i ≤ ds.length → pre ds i = num (ds.take i)
 | 0, _ => by simp [pre, num]
 | i + 1, h => by
  have hlt : i < ds.length := by omega
  rw [pre, pre_take ds i (by omega), List.take_add_one, List.getElem?_eq_getElem hlt]; simp only [Option.toList]; rw [num_snoc]; simp [dg, List.getD_eq_getElem?_getD, List.getElem?_eq_getElem hlt]
theorem pre_len (ds : List Nat) : pre ds ds.length = num ds := by rw [pre_take ds _ (Nat.le_refl _), List.take_length]
theorem pre_past (ds : List Nat) : ∀ m, pre ds (ds.length + m) = num ds * 10 ^ m
 | 0 => by rw [Nat.add_zero, pre_len]; simp
 | m + 1 => by
  rw [← Nat.add_assoc, pre, pre_past ds m]; have : dg ds (ds.length + m) = 0 := by simp [dg]
  rw [this, Nat.pow_succ, Nat.mul_comm 10, Nat.mul_assoc]; simp
structure Dig (ds : List Nat) : Prop where
 small : ∀ d ∈ ds, d < 10
 head : ds.headD 1 ≠ 0
def Is (ds : List Nat) (dp : Int) (N M : Nat) : Prop :=
 ∃ c c' : Nat, (c : Int) - c' = dp - ds.length ∧ num ds * 10 ^ c * M = N * 10 ^ c'
theorem pow10_pos (n : Nat) : 0 < 10 ^ n := Nat.pow_pos (by omega)
theorem Is.any {ds : List Nat} {dp : Int} {N M : Nat} (h : Is ds dp N M) {c c' : Nat} (hc : (c : Int) - c' = dp - ds.length) : num ds * 10 ^ c * M = N * 10 ^ c' := by
 obtain ⟨a, a', ha, he⟩ := h; rcases Nat.le_total a c with hle | hle
 ·
  obtain ⟨t, rfl⟩ := Nat.exists_eq_add_of_le hle; have : c' = a' + t := by omega
  subst this; rw [Nat.pow_add, Nat.pow_add, ← Nat.mul_assoc (num ds), ← Nat.mul_assoc N, ← he]; rw [Nat.mul_assoc, Nat.mul_comm (10 ^ t) M, ← Nat.mul_assoc]
 ·
  obtain ⟨t, rfl⟩ := Nat.exists_eq_add_of_le hle; have : a' = c' + t := by omega
  subst this; rw [Nat.pow_add, Nat.pow_add, ← Nat.mul_assoc (num ds), ← Nat.mul_assoc N] at he; have hp := pow10_pos t; apply Nat.eq_of_mul_eq_mul_right hp; rw [← he]; rw [Nat.mul_assoc, Nat.mul_comm M, ← Nat.mul_assoc]
theorem Is.trim {ds ds' : List Nat} {dp : Int} {N M m : Nat} (h : Is ds dp N M) (e : ds = ds' ++ List.replicate m 0) : Is ds' dp N M := by
 subst e; obtain ⟨c, c', hc, he⟩ := h; rw [num_zeros] at he; refine ⟨c + m, c', ?_, ?_⟩
 · simp at hc; omega
 · rw [Nat.pow_add, Nat.mul_comm (10 ^ c), ← Nat.mul_assoc]; exact he
structure HInv (ds : List Nat) (k i1 i : Nat) (out : List Nat) (n : Nat) : Prop where
 eq : pre ds i = num out * (2 ^ k * 10) + n
 lt : n < 10 * 2 ^ k
 len : out.length + i1 = i
 small : ∀ d ∈ out, d < 10
 head : out.headD 1 ≠ 0
 first : out = [] → 2 ^ k ≤ n
 two : ∀ t, t ≤ k → ds.length + t ≤ i → 2 ^ t ∣ n
 zero : ds.length + k + 1 ≤ i → n = 0
theorem HInv.step {ds : List Nat} {k i1 i : Nat} {out : List Nat} {n : Nat} (h : HInv ds k i1 i out n) (hd : ∀ d ∈ ds, d < 10) :
  HInv ds k i1 (i + 1) (out ++ [n / 2 ^ k]) (n % 2 ^ k * 10 + dg ds i) := by
 have hp : 0 < 2 ^ k := Nat.pow_pos (by omega); have hdg : dg ds i < 10 := by
  unfold dg; rw [List.getD_eq_getElem?_getD]; by_cases hi : i < ds.length
  · rw [List.getElem?_eq_getElem hi]; exact hd _ (List.getElem_mem hi)
  · rw [List.getElem?_eq_none (by omega)]; simp
 have hm : n % 2 ^ k < 2 ^ k := Nat.mod_lt _ hp; have hq : n / 2 ^ k < 10 := Nat.div_lt_of_lt_mul (by have := h.lt; rw [Nat.mul_comm]; exact this); have hdm := Nat.div_add_mod n (2 ^ k); refine ⟨?_, by omega, by simp; have := h.len; omega, ?_, ?_, by simp, ?_, ?_⟩
 ·
  rw [pre, h.eq, num_snoc]; have e1 : (10 * num out + n / 2 ^ k) * (2 ^ k * 10) = 10 * (num out * (2 ^ k * 10)) + 10 * (2 ^ k * (n / 2 ^ k)) := by
   rw [Nat.add_mul]
   congr 1
   · rw [Nat.mul_assoc]
   · rw [Nat.mul_comm (n / 2 ^ k), Nat.mul_comm (2 ^ k) 10, Nat.mul_assoc]
  rw [e1]; omega
 · intro d hd'
   rcases List.mem_append.1 hd' with h1 | h1
   · exact h.small d h1
   · simp at h1; omega
 ·
  cases hout : out with
  | nil =>
   have := h.first hout
   have : 0 < n / 2 ^ k := Nat.div_pos this hp; simp; omega
  | cons a l => have := h.head; rw [hout] at this; simpa using this
 ·
  intro t ht hl; by_cases h0 : t = 0
  · subst h0; simp
  ·
   have h1 := h.two (t - 1) (by omega) (by omega); have hz : dg ds i = 0 := by unfold dg; rw [List.getD_eq_getElem?_getD, List.getElem?_eq_none (by omega)]; rfl
   rw [hz, Nat.add_zero]; have h2 : 2 ^ (t - 1) ∣ n % 2 ^ k := (Nat.dvd_mod_iff (Nat.pow_dvd_pow 2 (by omega))).2 h1; obtain ⟨m, hm'⟩ := h2; rw [hm']; refine ⟨5 * m, ?_⟩; have : 2 ^ t = 2 ^ (t - 1) * 2 := by rw [← Nat.pow_succ]; congr 1; omega
   rw [this]; have e : 2 ^ (t - 1) * 2 * (5 * m) = 2 ^ (t - 1) * m * 10 := by
    rw [Nat.mul_assoc, Nat.mul_assoc]
    congr 1
    omega
   omega
 · intro hl
   have h1 := h.two k (Nat.le_refl _) (by omega); have hz : dg ds i = 0 := by unfold dg; rw [List.getD_eq_getElem?_getD, List.getElem?_eq_none (by omega)]; rfl
   rw [hz, Nat.mod_eq_zero_of_dvd h1]
theorem HInv.done {ds : List Nat} {k i1 i : Nat} {out : List Nat} {dp : Int} {N M : Nat} (h : HInv ds k i1 i out 0) (hi : ds.length ≤ i) (his : Is ds dp N M) :
  Is out (dp - (i1 : Int) + 1) N (M * 2 ^ k) := by
 obtain ⟨m, rfl⟩ := Nat.exists_eq_add_of_le hi; have e := h.eq; rw [pre_past, Nat.add_zero] at e; obtain ⟨c, c', hc, he⟩ := his; refine ⟨c + 1, c' + m, ?_, ?_⟩
 · have := h.len; omega
 ·
  have h1 : num out * 10 ^ (c + 1) * (M * 2 ^ k) = num out * (2 ^ k * 10) * (10 ^ c * M) := by
   rw [Nat.pow_succ]; simp only [Nat.mul_assoc, Nat.mul_comm, Nat.mul_left_comm]
  rw [h1, ← e, Nat.pow_add]; have h2 : num ds * 10 ^ m * (10 ^ c * M) = num ds * 10 ^ c * M * 10 ^ m := by
   simp only [Nat.mul_assoc, Nat.mul_comm, Nat.mul_left_comm]
  rw [h2, he, Nat.mul_assoc]
theorem HInv.start {ds : List Nat} {k i : Nat} (hk : 1 ≤ k) (h0 : 0 < num ds) (h1 : 2 ^ k ≤ pre ds i) (h2 : pre ds i < 10 * 2 ^ k) : HInv ds k i i [] (pre ds i) := by
 refine ⟨by simp [num], h2, by simp, by simp, by simp, fun _ => h1, fun t h3 h4 => ?_, fun h => ?_⟩
 · obtain ⟨m, rfl⟩ := Nat.exists_eq_add_of_le h4
   rw [Nat.add_assoc, pre_past, Nat.pow_add, ← Nat.mul_assoc]; refine Nat.dvd_mul_right_of_dvd (Nat.dvd_mul_left_of_dvd ?_ _) _; exact ⟨5 ^ t, by rw [← Nat.mul_pow]⟩
 ·
  exfalso
  obtain ⟨m, rfl⟩ := Nat.exists_eq_add_of_le h; have e : ds.length + k + 1 + m = ds.length + (k + 1 + m) := by omega
  rw [e, pre_past] at h2; have h3 : 10 ^ (k + 1) ≤ 10 ^ (k + 1 + m) := Nat.pow_le_pow_right (by omega) (by omega); have h4 : 1 * 10 ^ (k + 1 + m) ≤ num ds * 10 ^ (k + 1 + m) := Nat.mul_le_mul_right _ h0; have h5 : 2 ^ k < 10 ^ k := Nat.pow_lt_pow_left (by omega) (by omega); have h6 : 10 ^ (k + 1) = 10 ^ k * 10 := Nat.pow_succ _ _; omega
end
end Go.Proofs.YtljaoopfomcaoaaGreatDoor
