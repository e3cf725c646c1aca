import Derived.Test.YtljaoopfomcaoaaGreatDoorM08
import Derived.Test.YtljaoopfomcaoaaGreatDoorM09
set_option linter.all false
namespace Go.Proofs.YtljaoopfomcaoaaGreatDoor
section
open Go.RowKit
def Kt (w w' : World) : Prop := ∀ (b : Nat) (o : Obj), w.heap[b]? = some o → (∀ c f, o ≠ Obj.cells c 5 f) → w'.heap[b]? = some o
theorem Kt.refl (w : World) : Kt w w := fun _ _ h _ => h
theorem Kt.trans {a b c : World} (h : Kt a b) (k : Kt b c) : Kt a c := fun x o hx ho => k x o (h x o hx ho) ho
theorem Kt.hp {w w' : World} (h : w'.heap = w.heap) : Kt w w' := fun b o hb _ => by rw [h]; exact hb
theorem Kt.alloc (w : World) (o : Obj) : Kt w (w.alloc o) := fun b x hb _ => by rw [Below.heap_alloc _ _ _ (lt_of_block hb)]; exact hb
theorem own_not {w : World} {B : Nat} {v : Value} {n : Nat} {xs : List Value} (h : w.ownsRow B 5 1 v n xs) {b : Nat} {o : Obj} (hb : w.heap[b]? = some o) (ho : ∀ c f, o ≠ Obj.cells c 5 f) : v.ownBlock ≠ some b := by
 rcases h.2 with ⟨rfl, _⟩ | ⟨g, cap, cur, rfl, _, hh, _⟩
 · simp [Value.ownBlock]
 ·
  intro e; simp [Value.ownBlock] at e; subst e; rw [hb] at hh
  injection hh with hh
  exact ho _ _ hh
theorem Kt.grown {w w' : World} {B : Nat} {v : Value} {n : Nat} {xs : List Value} (h : w.ownsRow B 5 1 v n xs) (hg : w.grownBy w' v.ownBlock) : Kt w w' := fun b o hb ho => by
 rw [hg.block b (lt_of_block hb) (Ne.symm (own_not h hb ho))]; exact hb
structure Out (w0 : World) (S : List Nat) (w : World) (v : Value) (l : List Nat) : Prop where
 own : w.ownsRow w0.heap.size 5 1 v l.length (cellsOf l)
 kp : Kp S w0 w
theorem Out.alloc {w0 w : World} {S : List Nat} {v : Value} {l : List Nat} (h : Out w0 S w v l) (o : Obj) : Out w0 S (w.alloc o) v l := ⟨h.own.alloc o, h.kp.alloc o⟩
theorem Out.hp {w0 w w' : World} {S : List Nat} {v : Value} {l : List Nat} (h : Out w0 S w v l) (e : w'.heap = w.heap) (k : Kp [] w w') : Out w0 S w' v l := ⟨own_hp h.own e, h.kp.trans (Kp.mono k (fun _ _ h => by simp at h))⟩
theorem Out.drewN {w0 w : World} {S : List Nat} {v : Value} {l : List Nat} (h : Out w0 S w v l) (n : Nat) : Out w0 S (w.drewN n) v l := ⟨own_hp h.own rfl, h.kp.drewN n⟩
theorem wp_out_row {w : World} {ops : Array Oper} {rest : List Oper} {o : Oper} {a : Act} {Q : Exit → Act → World → Prop} (hgd : o.guard = none) (s x : Operand)
  (ho : o.op = .call { callee := .builtin .append, args := #[s, x], argTypes := #[27, 27] }) (w0 : World) (S : List Nat) (v : Value) (l : List Nat) (hs : a.eval s = v)
  (hO : Out w0 S w v l) (ad : Addr) (m c : Nat) (ys : List Nat) (hm : m = ys.length) (hx : a.eval x = .slice (some ad) m c) (hc : ∀ (j y : Nat), ys[j]? = some y → w.cell? (ad.add j) = some (.int .u8 (y : Int)))
  (hl : l.length ≤ 1000000000) (hy : ys.length ≤ 1000000000)
  (h : ∀ v' w', Out w0 S w' v' (l ++ ys) → Kt w w' → Kp S w0 w' → wpList Tryz.prog ops Q rest (a.put o.dst v') w') : wpList Tryz.prog ops Q (o :: rest) a w := by
 subst hm; obtain ⟨i0, hi, hz0, hz1, hz2⟩ := info_parts info5; have hown := hO.own; have hk := hO.kp; have hrow : ∀ k, v.ownBlock = some k → w0.heap.size ≤ k := fun k hk' => (hown.lt k hk').1
 refine wpList_append_own w hgd s x 27 ho w0.heap.size 5 i0 (.int .u8 0) 1 1 Tryz.underlying27 hi hz0 hz1 hz2 rfl (by decide) v l.length (cellsOf l) hs hown ad ys.length c (cellsOf ys) hx (by rw [cellsOf_len]; omega) ?_ ?_ ?_ ?_ hk.size ?_
 ·
  intro j u hj; unfold cellsOf at hj; rw [List.getElem?_map] at hj
  cases hyj : ys[j]? with
  | none => rw [hyj] at hj; simp at hj
  | some y =>
   rw [hyj] at hj; simp at hj; subst hj; exact hc j y hyj
 ·
  intro u hu; unfold cellsOf at hu; rw [List.mem_map] at hu; obtain ⟨y, _, rfl⟩ := hu; rfl
 · unfold maxLen; omega
 · omega
 · intro v' w' h1 h2 _
   refine h v' w' ⟨?_, hk.grown h2 hrow⟩ (Kt.grown hown h2) (hk.grown h2 hrow); rw [List.length_append, cellsOf_append]; exact h1
theorem wp_out_byte {w : World} {ops : Array Oper} {rest : List Oper} {o : Oper} {a : Act} {Q : Exit → Act → World → Prop} (hgd : o.guard = none) (s x : Operand)
  (ho : o.op = .call { callee := .builtin .append, args := #[s, x], argTypes := #[27, 27] }) (w0 : World) (S : List Nat) (v : Value) (l : List Nat) (hs : a.eval s = v)
  (hO : Out w0 S w v l) (ad : Addr) (c y : Nat) (hx : a.eval x = .slice (some ad) 1 c) (hc : w.cell? ad = some (.int .u8 (y : Int))) (hl : l.length ≤ 1000000000)
  (h : ∀ v' w', Out w0 S w' v' (l ++ [y]) → Kt w w' → Kp S w0 w' → wpList Tryz.prog ops Q rest (a.put o.dst v') w') : wpList Tryz.prog ops Q (o :: rest) a w :=
 wp_out_row hgd s x ho w0 S v l hs hO ad 1 c [y] rfl hx (fun j u hj => by
  cases j with
  | zero => simp at hj; subst hj; simpa [Addr.add] using hc
  | succ j => simp at hj) hl (by simp) h
theorem wp_out_int {w : World} {ops : Array Oper} {rest : List Oper} {o : Oper} {a : Act} {Q : Exit → Act → World → Prop} (hgd : o.guard = none) (s x : Operand)
  (ho : o.op = .call { callee := .builtin .append, args := #[s, x], argTypes := #[27, 27] }) (w0 : World) (S : List Nat) (v : Value) (l : List Nat) (hs : a.eval s = v)
  (hO : Out w0 S w v l) (ad : Addr) (c : Nat) (y : Int) (hx : a.eval x = .slice (some ad) 1 c) (hc : w.cell? ad = some (.int .u8 y)) (hy : 0 ≤ y) (hl : l.length ≤ 1000000000)
  (h : ∀ v' w', Out w0 S w' v' (l ++ [y.toNat]) → Kt w w' → Kp S w0 w' → wpList Tryz.prog ops Q rest (a.put o.dst v') w') : wpList Tryz.prog ops Q (o :: rest) a w :=
 wp_out_byte hgd s x ho w0 S v l hs hO ad c y.toNat hx (by rw [hc, Int.toNat_of_nonneg hy]) hl h
theorem cells_new (w : World) (xs : Array Value) (t : TypeId) (f : Nat × Nat) (j : Nat) : (w.alloc (.cells xs t f)).cell? ⟨w.heap.size, j, none⟩ = xs[j]? := by
 simp only [World.cell?]
 show (match (w.heap.push (Obj.cells xs t f))[w.heap.size]? with | some (.cells c _ _) => if (none : Option Nat).isSome then none else c[j]? | _ => none) = _
 rw [Array.getElem?_push_size]; rfl
theorem wp_out_two {w : World} {ops : Array Oper} {rest : List Oper} {o : Oper} {a : Act} {Q : Exit → Act → World → Prop} (hgd : o.guard = none) (s x : Operand)
  (ho : o.op = .call { callee := .builtin .append, args := #[s, x], argTypes := #[27, 27] }) (w0 : World) (S : List Nat) (v : Value) (l : List Nat) (hs : a.eval s = v)
  (b c : Nat) (y z : Int) (hO : Out w0 S w v l) (hx : a.eval x = .slice (some ⟨b, 0, none⟩) 2 c) (hc : w.cell? ⟨b, 0, none⟩ = some (.int .u8 y)) (hc2 : w.cell? ⟨b, 1, none⟩ = some (.int .u8 z)) (hy : 0 ≤ y) (hz : 0 ≤ z) (hl : l.length ≤ 1000000000)
  (h : ∀ v' w', Out w0 S w' v' (l ++ [y.toNat, z.toNat]) → Kt w w' → Kp S w0 w' → wpList Tryz.prog ops Q rest (a.put o.dst v') w') : wpList Tryz.prog ops Q (o :: rest) a w :=
 wp_out_row hgd s x ho w0 S v l hs hO ⟨b, 0, none⟩ 2 c [y.toNat, z.toNat] rfl hx (fun j u hj => by
  have e : (⟨b, 0, none⟩ : Addr).add j = ⟨b, j, none⟩ := by unfold Addr.add; split <;> simp_all
  rw [e]
  match j with
  | 0 => simp at hj; subst hj; rw [hc, Int.toNat_of_nonneg hy]
  | 1 => simp at hj; subst hj; rw [hc2, Int.toNat_of_nonneg hz]
  | j + 2 => simp at hj) hl (by simp) h
theorem wp_out_three {w : World} {ops : Array Oper} {rest : List Oper} {o : Oper} {a : Act} {Q : Exit → Act → World → Prop} (hgd : o.guard = none) (s x : Operand)
  (ho : o.op = .call { callee := .builtin .append, args := #[s, x], argTypes := #[27, 27] }) (w0 : World) (S : List Nat) (v : Value) (l : List Nat) (hs : a.eval s = v)
  (b c : Nat) (y z q : Int) (hO : Out w0 S w v l) (hx : a.eval x = .slice (some ⟨b, 0, none⟩) 3 c) (hc : w.cell? ⟨b, 0, none⟩ = some (.int .u8 y)) (hc2 : w.cell? ⟨b, 1, none⟩ = some (.int .u8 z)) (hc3 : w.cell? ⟨b, 2, none⟩ = some (.int .u8 q)) (hy : 0 ≤ y) (hz : 0 ≤ z) (hq : 0 ≤ q) (hl : l.length ≤ 1000000000)
  (h : ∀ v' w', Out w0 S w' v' (l ++ [y.toNat, z.toNat, q.toNat]) → Kt w w' → Kp S w0 w' → wpList Tryz.prog ops Q rest (a.put o.dst v') w') : wpList Tryz.prog ops Q (o :: rest) a w :=
 wp_out_row hgd s x ho w0 S v l hs hO ⟨b, 0, none⟩ 3 c [y.toNat, z.toNat, q.toNat] rfl hx (fun j u hj => by
  have e : (⟨b, 0, none⟩ : Addr).add j = ⟨b, j, none⟩ := by unfold Addr.add; split <;> simp_all
  rw [e]
  match j with
  | 0 => simp at hj; subst hj; rw [hc, Int.toNat_of_nonneg hy]
  | 1 => simp at hj; subst hj; rw [hc2, Int.toNat_of_nonneg hz]
  | 2 => simp at hj; subst hj; rw [hc3, Int.toNat_of_nonneg hq]
  | j + 3 => simp at hj) hl (by simp) h
def DigBlk (w : World) (b T : Nat) (ds : List Nat) : Prop := ∃ (c : Array Value) (f : Nat × Nat), w.heap[b]? = some (.cells c T f) ∧ ∀ i, i < ds.length → c[i]? = some (.int .u8 ((48 + dg ds i : Nat) : Int))
theorem DigBlk.kt {w w' : World} {b T : Nat} {ds : List Nat} (h : DigBlk w b T ds) (hT : T ≠ 5) (k : Kt w w') : DigBlk w' b T ds := by
 obtain ⟨c, f, h1, h2⟩ := h; exact ⟨c, f, k b _ h1 (fun c' f' e => by injection e with _ e _; exact hT e), h2⟩
theorem DigBlk.cell {w : World} {b T : Nat} {ds : List Nat} (h : DigBlk w b T ds) (i : Nat) (hi : i < ds.length) : w.cell? ⟨b, i, none⟩ = some (.int .u8 ((48 + dg ds i : Nat) : Int)) := by
 obtain ⟨c, f, h1, h2⟩ := h; simp [World.cell?, h1, h2 i hi]
def tens : Nat → Nat → List Nat
 | 0, _ => []
 | n + 1, d => tens n (d / 10) ++ [d % 10]
theorem tens_len : ∀ n d, (tens n d).length = n
 | 0, _ => rfl
 | n + 1, d => by rw [tens, List.length_append, tens_len n]; rfl
theorem tens_small : ∀ n d, ∀ x ∈ tens n d, x < 10
 | 0, _, x, h => by simp [tens] at h
 | n + 1, d, x, h => by
  rw [tens, List.mem_append] at h; rcases h with h | h
  · exact tens_small n _ x h
  · simp at h; omega
theorem num_tens : ∀ n d, d < 10 ^ n → num (tens n d) = d
 | 0, d, h => by simp at h; subst h; rfl
 | n + 1, d, h => by
  rw [tens, num_snoc, num_tens n (d / 10) (by rw [Nat.pow_succ] at h; omega)]; omega
theorem tens_get : ∀ n d i, i < n → dg (tens n d) i = d / 10 ^ (n - 1 - i) % 10
 | 0, _, _, h => by omega
 | n + 1, d, i, h => by
  unfold dg; rw [tens, List.getD_eq_getElem?_getD]; by_cases hi : i < n
  · rw [List.getElem?_append_left (by rw [tens_len]; exact hi), ← List.getD_eq_getElem?_getD]
    have := tens_get n (d / 10) i hi; unfold dg at this; rw [this, Nat.div_div_eq_div_mul, show 10 * 10 ^ (n - 1 - i) = 10 ^ (n + 1 - 1 - i) from by rw [← Nat.pow_succ']; congr 1; omega]
  · have hin : i = n := by omega
    subst hin; rw [List.getElem?_append_right (by rw [tens_len]; omega), tens_len, Nat.sub_self]; simp
end
end Go.Proofs.YtljaoopfomcaoaaGreatDoor
