import Derived.Deep.DeepMust
import Derived.Laws.AppendOwn
import Derived.Laws.Rows
import Derived.Laws.Tables
import Derived.Laws.IdiomRangeMap
import Derived.Test.YtljaoopfomcaoaaGreatDoorM02
set_option linter.all false
namespace Go.Proofs.YtljaoopfomcaoaaGreatDoor
section
open Go.RowKit
theorem Kp.grown {S : List Nat} {a w w' : World} {row : Option Nat} (h : Kp S a w) (hg : w.grownBy w' row) (hr : ∀ k, row = some k → a.heap.size ≤ k) : Kp S a w' :=
 ⟨hg.os.trans h.os, hg.tape.trans h.tape, hg.output.trans h.output, Nat.le_trans h.size hg.size,
  fun k hk hs => (hg.block k (Nat.lt_of_lt_of_le hk h.size) (fun e => by have := hr k e.symm; omega)).trans (h.block k hk hs)⟩
theorem own_heap {w w' : World} {B : Nat} {e : TypeId} {k : Nat} {v : Value} {n : Nat} {xs : List Value} (h : w.ownsRow B e k v n xs)
  (hb : ∀ g, B ≤ g → g < w.heap.size → w'.heap[g]? = w.heap[g]?) : w'.ownsRow B e k v n xs := by
 obtain ⟨h1, h2⟩ := h; refine ⟨h1, ?_⟩; rcases h2 with h2 | ⟨g, cap, cur, hv, hg, hh, r⟩
 · exact Or.inl h2
 · exact Or.inr ⟨g, cap, cur, hv, hg, by rw [hb g hg (lt_of_block hh)]; exact hh, r⟩
theorem own_kp {S : List Nat} {w w' : World} {B : Nat} {e : TypeId} {k : Nat} {v : Value} {n : Nat} {xs : List Value} (h : w.ownsRow B e k v n xs)
  (hk : Kp S w w') (hs : ∀ x, x ∈ S → x < B) : w'.ownsRow B e k v n xs :=
 own_heap h fun g h1 h2 => hk.block g h2 (fun c => by have := hs g c; omega)
theorem own_hp {w w' : World} {B : Nat} {e : TypeId} {k : Nat} {v : Value} {n : Nat} {xs : List Value} (h : w.ownsRow B e k v n xs) (he : w'.heap = w.heap) : w'.ownsRow B e k v n xs :=
 own_heap h fun g _ _ => by rw [he]
theorem run_append_loc {w : World} (base : Nat) (t ty e : TypeId) (i : TypeInfo) (z : Value) (size bytes : Nat) (ht : Tryz.prog.underlying t = some (.slice e)) (hi : Tryz.prog.info? e = some i) (hz : i.zero = some z)
  (hsize : i.size = size) (hby : i.bytes = bytes) (hzs : z.cells.size = size) (hsz : 0 < size) (v : Value) (n : Nat) (xs : List Value) (hown : w.ownsRow base e size v n xs)
  (a : Addr) (m c : Nat) (hm : 0 < m) (news : List Value) (hl : news.length = m * size) (hnews : ∀ j u, news[j]? = some u → w.cell? (a.add j) = some u) (h1 : ∀ u ∈ news, u.oneCell' = true)
  (h63 : n + m ≤ maxLen) (hbytes : (n + m) * bytes ≤ 140737488355328) (hbase : base ≤ w.heap.size) :
  ∃ v' w', (Builtin.append_ #[t, t] ty #[v, .slice (some a) m c]).run Tryz.prog w = .ok v' w' ∧ w'.ownsRow base e size v' (n + m) (xs ++ news) ∧ w.grownBy w' v.ownBlock ∧
   (v'.ownBlock = v.ownBlock ∨ v'.ownBlock = some w.heap.size) := by
 obtain ⟨v', w', hr, ho, hg, _⟩ := run_append_own (P := Tryz.prog) w base t ty e i z size bytes ht hi hz hsize hby hzs hsz v n xs hown a m c news hl hnews h1 h63 hbytes hbase; refine ⟨v', w', hr, ho, hg, ?_⟩; subst hsize; subst hby
 have h63' : n + m ≤ 9223372036854775807 := by unfold maxLen at h63; omega
 obtain ⟨hlen, h2⟩ := hown; rcases h2 with ⟨rfl, rfl⟩ | ⟨g, cap, cur, rfl, hbg, hh, hnc, hcm, hcs, htake⟩
 ·
  have q := run_append_nil (P := Tryz.prog) w t ty e i z ht hi hz a m c news hl hnews hm (by omega) (by rw [Nat.zero_add] at hbytes; omega); rw [q] at hr
  injection hr with hv _
  right
  rw [← hv]; rfl
 ·
  by_cases hroom : n + m ≤ cap
  · have q := run_append_room (P := Tryz.prog) w t ty e i ht hi g n cap cur hh a m c news hl hnews h1 hroom (by rw [hl, hcs, ← Nat.add_mul]; exact Nat.mul_le_mul_right _ hroom)
    rw [q] at hr
    injection hr with hv _
    left
    rw [← hv]; rfl
  ·
   have hcells : ∀ j u, xs[j]? = some u → w.cell? ((⟨g, 0, none⟩ : Addr).add j) = some u :=
    World.ownsRow.cells (w := w) (base := base) (e := e) (size := i.size) (v := .slice (some ⟨g, 0, none⟩) n cap) (n := n) (xs := xs) ⟨hlen, Or.inr ⟨g, cap, cur, rfl, hbg, hh, hnc, hcm, hcs, htake⟩⟩ (g := g) rfl
   have q := run_append_grow (P := Tryz.prog) w t ty e i z ht hi hz ⟨g, 0, none⟩ n cap xs hlen hcells a m c news hl hnews (by omega) (by omega) (growslice_fits (by omega) hbytes); rw [q] at hr
   injection hr with hv _
   right
   rw [← hv]; rfl
theorem wp_append_at {w : World} {ops : Array Oper} {rest : List Oper} {o : Oper} {a : Act} {Q : Exit → Act → World → Prop} (hgd : o.guard = none) (s x : Operand) (t : TypeId)
  (ho : o.op = .call { callee := .builtin .append, args := #[s, x], argTypes := #[t, t] })
  (w0 : World) (S : List Nat) (e : TypeId) (i : TypeInfo) (z : Value) (size bytes : Nat) (ht : Tryz.prog.underlying t = some (.slice e)) (hi : Tryz.prog.info? e = some i) (hz : i.zero = some z)
  (hsize : i.size = size) (hby : i.bytes = bytes) (hzs : z.cells.size = size) (hsz : 0 < size)
  (v : Value) (n : Nat) (xs : List Value) (hs : a.eval s = v) (hown : w.ownsRow w0.heap.size e size v n xs)
  (ad : Addr) (m c : Nat) (hm : 0 < m) (news : List Value) (hx : a.eval x = .slice (some ad) m c) (hl : news.length = m * size) (hnews : ∀ j u, news[j]? = some u → w.cell? (ad.add j) = some u)
  (h1 : ∀ u ∈ news, u.oneCell' = true) (h63 : n + m ≤ maxLen) (hbytes : (n + m) * bytes ≤ 140737488355328) (hk : Kp S w0 w)
  (h : ∀ v' w', w'.ownsRow w0.heap.size e size v' (n + m) (xs ++ news) → Kp S w0 w' → w.grownBy w' v.ownBlock → (v'.ownBlock = v.ownBlock ∨ v'.ownBlock = some w.heap.size) →
   wpList Tryz.prog ops Q rest (a.put o.dst v') w') : wpList Tryz.prog ops Q (o :: rest) a w := by
 refine wpList_plain hgd fun K hK => ?_
 obtain ⟨v', w', hr, h2, h3, h4⟩ := run_append_loc (w := w) w0.heap.size t o.type e i z size bytes ht hi hz hsize hby hzs hsz v n xs hown ad m c hm news hl hnews h1 h63 hbytes hk.size; have hrow : ∀ k, v.ownBlock = some k → w0.heap.size ≤ k := fun k hk' => (hown.lt k hk').1
 unfold Oper.wp execOp; simp only [ho, resolve, invoke, builtin, Sem.run_bind, Sem.run_pure, Result.andThen_ok, List.map_toArray, List.map_cons, List.map_nil, hs, hx, hr]; exact hK _ _ (h v' w' h2 (hk.grown h3 hrow) h3 h4)
theorem blk_setCell {w : World} {b o : Nat} {c : Array Value} {t : TypeId} {fr : Nat × Nat} (h : w.heap[b]? = some (.cells c t fr)) (v : Value) :
  (w.setCell ⟨b, o, none⟩ v).heap[b]? = some (.cells (c.setIfInBounds o v) t fr) := by
 have hlt := lt_of_block h; have h' : w.heap[b] = .cells c t fr := by simpa [Array.getElem?_eq_getElem hlt] using h
 show (w.heap.modify b _)[b]? = _
 rw [Array.getElem?_eq_getElem (by simpa using hlt), Array.getElem_modify_self, h']; rfl
theorem Kp.over {S T : List Nat} {a w w' : World} (h : Kp S a w) (k : Kp T w w') (hs : ∀ x ∈ T, a.heap.size ≤ x) : Kp S a w' :=
 ⟨k.os.trans h.os, k.tape.trans h.tape, k.output.trans h.output, Nat.le_trans h.size k.size,
  fun i hi hn => (k.block i (Nat.lt_of_lt_of_le hi h.size) (fun c => by have := hs i c; omega)).trans (h.block i hi hn)⟩
theorem kp_setRow (w : World) (b : Nat) (xs : Array Value) : Kp [b] w (w.setRow b xs) :=
 ⟨rfl, rfl, rfl, by rw [setRow_size]; exact Nat.le_refl _, fun k _ hs => by rw [setRow_other _ _ _ _ (by simpa using hs)]⟩
def CntAt (w : World) (b : Nat) (k : Int) : Prop := w.heap[b]? = some (.cells #[.int .i64 k] 3 (0, 0))
theorem CntAt.c0 {w : World} {b : Nat} {k : Int} (h : CntAt w b k) : w.cell? ⟨b, 0, none⟩ = some (.int .i64 k) := by simp [World.cell?, show w.heap[b]? = _ from h]
theorem CntAt.fr {w : World} {b : Nat} {k : Int} (h : CntAt w b k) : w.frozen? ⟨b, 0, none⟩ = false := by simp [World.frozen?, show w.heap[b]? = _ from h]
theorem CntAt.lt {w : World} {b : Nat} {k : Int} (h : CntAt w b k) : b < w.heap.size := lt_of_block h
theorem CntAt.kp {w w' : World} {b : Nat} {k : Int} {S : List Nat} (h : CntAt w b k) (q : Kp S w w') (hb : b ∉ S) : CntAt w' b k := by unfold CntAt at *; rw [q.block b (lt_of_block h) hb]; exact h
theorem CntAt.set {w : World} {b : Nat} {k : Int} (h : CntAt w b k) (z : Int) : CntAt (w.setCell ⟨b, 0, none⟩ (.int .i64 z)) b z := blk_setCell h _
def BxAt (w : World) (b : Nat) (v : JV) (kp : Option Addr) (kc : Nat) (lp : Option Addr) (lc : Nat) : Prop :=
 w.heap[b]? = some (.cells #[.int .i64 v.kind, .bool v.b, .int .i64 v.i, .float .f64 v.f, .string v.t, .slice kp v.ks.length kc, .slice lp v.l.length lc] 26 (0, 0))
section
variable {w w' : World} {b : Nat} {v : JV} {kp : Option Addr} {kc : Nat} {lp : Option Addr} {lc : Nat}
theorem BxAt.c0 (h : BxAt w b v kp kc lp lc) : w.cell? ⟨b, 0, none⟩ = some (.int .i64 v.kind) := by simp [World.cell?, show w.heap[b]? = _ from h]
theorem BxAt.c1 (h : BxAt w b v kp kc lp lc) : w.cell? ⟨b, 1, none⟩ = some (.bool v.b) := by simp [World.cell?, show w.heap[b]? = _ from h]
theorem BxAt.c2 (h : BxAt w b v kp kc lp lc) : w.cell? ⟨b, 2, none⟩ = some (.int .i64 v.i) := by simp [World.cell?, show w.heap[b]? = _ from h]
theorem BxAt.c3 (h : BxAt w b v kp kc lp lc) : w.cell? ⟨b, 3, none⟩ = some (.float .f64 v.f) := by simp [World.cell?, show w.heap[b]? = _ from h]
theorem BxAt.c4 (h : BxAt w b v kp kc lp lc) : w.cell? ⟨b, 4, none⟩ = some (.string v.t) := by simp [World.cell?, show w.heap[b]? = _ from h]
theorem BxAt.c5 (h : BxAt w b v kp kc lp lc) : w.cell? ⟨b, 5, none⟩ = some (.slice kp v.ks.length kc) := by simp [World.cell?, show w.heap[b]? = _ from h]
theorem BxAt.c6 (h : BxAt w b v kp kc lp lc) : w.cell? ⟨b, 6, none⟩ = some (.slice lp v.l.length lc) := by simp [World.cell?, show w.heap[b]? = _ from h]
theorem BxAt.lt (h : BxAt w b v kp kc lp lc) : b < w.heap.size := lt_of_block h
theorem BxAt.keep {S : List Nat} (h : BxAt w b v kp kc lp lc) (k : Kp S w w') (hb : b ∉ S) : BxAt w' b v kp kc lp lc := by
 unfold BxAt at *; rw [k.block b (lt_of_block h) hb]; exact h
end
theorem bxAt_fresh (w : World) (v : JV) (kp : Option Addr) (kc : Nat) (lp : Option Addr) (lc : Nat) :
  BxAt (w.alloc (.cells #[.int .i64 v.kind, .bool v.b, .int .i64 v.i, .float .f64 v.f, .string v.t, .slice kp v.ks.length kc, .slice lp v.l.length lc] 26)) w.heap.size v kp kc lp lc := by
 show (w.heap.push _)[w.heap.size]? = _
 simp
structure AnyIn (w w1 : World) (nb bx : Nat) (k : Int) (v : JV) (kp : Option Addr) (kc : Nat) (lp : Option Addr) (lc : Nat) : Prop where
 cnt : CntAt w1 nb k
 box : BxAt w1 bx v kp kc lp lc
 kp' : Kp [nb] w w1
 bx' : w.heap.size ≤ bx
 nbw : nb < w.heap.size
theorem any_box (w : World) (xs : Array Value) (t : TypeId) (nb : Nat) (k : Int) (h : CntAt w nb k) : CntAt (w.alloc (.cells xs t)) nb k := h.kp (S := []) ((Kp.refl _ _).alloc _) (by simp)
theorem any_in (w : World) (nb : Nat) (k : Int) (v : JV) (kp : Option Addr) (kc : Nat) (lp : Option Addr) (lc : Nat) (h : CntAt w nb k) :
  AnyIn w ((w.setCell ⟨nb, 0, none⟩ (.int .i64 (k + 1))).alloc (.cells #[.int .i64 v.kind, .bool v.b, .int .i64 v.i, .float .f64 v.f, .string v.t, .slice kp v.ks.length kc, .slice lp v.l.length lc] 26)) nb w.heap.size (k + 1) v kp kc lp lc := by
 have hlt := h.lt; have hs : (w.setCell ⟨nb, 0, none⟩ (.int .i64 (k + 1))).heap.size = w.heap.size := by simp [World.setCell]
 refine ⟨any_box _ _ _ _ _ (h.set _), ?_, ((Kp.refl [nb] w).setCell (by simp) _).alloc _, Nat.le_refl _, hlt⟩; have := bxAt_fresh (w.setCell ⟨nb, 0, none⟩ (.int .i64 (k + 1))) v kp kc lp lc; rw [hs] at this; exact this
theorem copy_kp' (w : World) (xs zs : Array Value) : Kp [] w ((w.alloc (.cells zs 26)).setRow w.heap.size xs) := by
 have h1 : Kp [] w (w.alloc (.cells zs 26)) := (Kp.refl _ _).alloc _; exact ⟨h1.os, h1.tape, h1.output, by rw [setRow_size]; exact h1.size, fun k hk hs => by rw [setRow_other _ _ _ _ (by omega)]; exact h1.block k hk hs⟩
theorem lexB_irrefl : ∀ a, lexB a a = false
 | [] => rfl
 | a :: r => by simp [lexB, lexB_irrefl r]
theorem lexB_asymm : ∀ a b, lexB a b = true → lexB b a = false
 | [], [], h => by simp [lexB] at h
 | _ :: _, [], h => by simp [lexB] at h
 | [], _ :: _, _ => rfl
 | a :: r, b :: s, h => by
  simp only [lexB, Bool.or_eq_true, decide_eq_true_eq, Bool.and_eq_true, beq_iff_eq] at h; simp only [lexB, Bool.or_eq_false_iff, decide_eq_false_iff_not, Bool.and_eq_false_imp, beq_iff_eq]; rcases h with h | ⟨rfl, h⟩
  · refine ⟨fun c => ?_, fun c => ?_⟩
    · exact absurd (UInt8.lt_trans h c) (UInt8.lt_irrefl _)
    · rw [c] at h; exact absurd h (UInt8.lt_irrefl _)
  · exact ⟨UInt8.lt_irrefl _, fun _ => lexB_asymm r s h⟩
def kb (a b : ByteArray) : Bool := lexB a.data.toList b.data.toList
theorem lexB_trans : ∀ a b c, lexB a b = true → lexB b c = true → lexB a c = true
 | [], [], _, h, _ => by simp [lexB] at h
 | [], _ :: _, [], _, h => by simp [lexB] at h
 | [], _ :: _, _ :: _, _, _ => rfl
 | _ :: _, [], _, h, _ => by simp [lexB] at h
 | _ :: _, _ :: _, [], _, h => by simp [lexB] at h
 | a :: r, b :: s, c :: t, h, k => by
  simp only [lexB, Bool.or_eq_true, decide_eq_true_eq, Bool.and_eq_true, beq_iff_eq] at h k ⊢; rcases h with h | ⟨rfl, h⟩
  · rcases k with k | ⟨rfl, k⟩
    · exact Or.inl (UInt8.lt_trans h k)
    · exact Or.inl h
  · rcases k with k | ⟨rfl, k⟩
    · exact Or.inl k
    · exact Or.inr ⟨rfl, lexB_trans r s t h k⟩
theorem lexB_total : ∀ a b, lexB a b = false → lexB b a = false → a = b
 | [], [], _, _ => rfl
 | [], _ :: _, h, _ => by simp [lexB] at h
 | _ :: _, [], _, h => by simp [lexB] at h
 | a :: r, b :: s, h, k => by
  simp only [lexB, Bool.or_eq_false_iff, decide_eq_false_iff_not, Bool.and_eq_false_imp, beq_iff_eq] at h k; have hab : a = b := by
   rcases UInt8.lt_or_lt_of_ne (a := a) (b := b) with h1; by_cases e : a = b
   · exact e
   · rcases h1 e with h2 | h2
     · exact absurd h2 h.1
     · exact absurd h2 k.1
  subst hab; rw [lexB_total r s (h.2 rfl) (k.2 rfl)]
theorem kb_irrefl (a : ByteArray) : kb a a = false := lexB_irrefl _
theorem kb_trans {a b c : ByteArray} (h : kb a b = true) (k : kb b c = true) : kb a c = true := lexB_trans _ _ _ h k
theorem kb_asymm {a b : ByteArray} (h : kb a b = true) : kb b a = false := lexB_asymm _ _ h
theorem kb_total {a b : ByteArray} (h : kb a b = false) (k : kb b a = false) : a = b := by
 have := lexB_total _ _ h k; obtain ⟨⟨a⟩⟩ := a; obtain ⟨⟨b⟩⟩ := b; simp at this; rw [this]
theorem bytesLess_lexB : ∀ a b, Op.bytesLess a b = lexB a b
 | [], [] => rfl
 | [], _ :: _ => rfl
 | _ :: _, [] => rfl
 | a :: r, b :: s => by rw [Op.bytesLess, lexB, bytesLess_lexB r s]
theorem less_kb (a b : ByteArray) : Op.bytesLess a.toList b.toList = kb a b := by
 rw [ByteArray.toList_eq, ByteArray.toList_eq, bytesLess_lexB]; rfl
end
end Go.Proofs.YtljaoopfomcaoaaGreatDoor
