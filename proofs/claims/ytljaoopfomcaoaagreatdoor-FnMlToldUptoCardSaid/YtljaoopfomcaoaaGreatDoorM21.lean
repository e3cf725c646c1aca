import Derived.Test.YtljaoopfomcaoaaGreatDoorM17
set_option linter.all false
open Go.Lib (hid)
namespace Go.Proofs.YtljaoopfomcaoaaGreatDoor
section
def strip : List Nat → List Nat
 | [] => []
 | d :: r => if d = 0 then strip r else d :: r
theorem strip_snoc (l : List Nat) (d : Nat) : strip (l ++ [d]) = if strip l = [] ∧ d = 0 then [] else strip l ++ [d] := by
 induction l with
 | nil => simp [strip]
 | cons a r ih =>
  by_cases h : a = 0
  · simp [strip, h]; exact ih
  · simp [strip, h]
theorem num_cons0 (l : List Nat) : num (0 :: l) = num l := by rw [num_cons]; simp
theorem num_strip : ∀ l : List Nat, num (strip l) = num l
 | [] => rfl
 | d :: r => by
  by_cases h : d = 0
  · subst h
    simp only [strip, if_true]; rw [num_strip r, num_cons0]
  · simp [strip, h]
theorem strip_mem : ∀ {l : List Nat} {x : Nat}, x ∈ strip l → x ∈ l
 | [], x, h => by simp [strip] at h
 | d :: r, x, h => by
  by_cases h0 : d = 0
  · simp only [strip, h0, if_true] at h
    exact List.mem_cons_of_mem _ (strip_mem h)
  · simp only [strip, h0, if_false] at h
    exact h
theorem strip_len : ∀ l : List Nat, (strip l).length ≤ l.length
 | [] => by simp [strip]
 | d :: r => by
  have := strip_len r; by_cases h : d = 0
  · simp [strip, h]; omega
  · simp [strip, h]
theorem strip_head : ∀ l : List Nat, strip l ≠ [] → dg (strip l) 0 ≠ 0
 | [], h => by simp [strip] at h
 | d :: r, h => by
  by_cases h0 : d = 0
  · simp only [strip, h0, if_true] at h ⊢
    exact strip_head r h
  · simp only [strip, h0, if_false]
    simpa [dg] using h0
theorem strip_nil {l : List Nat} : strip l = [] ↔ num l = 0 := by
 constructor
 · intro h
   rw [← num_strip, h]; rfl
 ·
  intro h; by_cases hs : strip l = []
  · exact hs
  ·
   exfalso
   have h1 := strip_head l hs; have h2 : num (strip l) = 0 := by rw [num_strip]; exact h
   cases hl : strip l with
   | nil => exact hs hl
   | cons a r =>
    rw [hl] at h1 h2; rw [num_cons] at h2; simp [dg] at h1; have : 0 < a * 10 ^ r.length := Nat.mul_pos (by omega) (Nat.pow_pos (by omega)); omega
def Num.all (m : Num) : List Nat := m.ip ++ m.fp
structure NumAt (s : ByteArray) (m : Num) : Prop where
 ip : ∀ k, k < m.ip.length → bt s k = 48 + dg m.all k
 pt : 0 < m.fp.length → bt s m.ip.length = 46
 fp : ∀ k, k < m.fp.length → bt s (m.ip.length + 1 + k) = 48 + dg m.all (m.ip.length + k)
 small : ∀ d ∈ m.all, d < 10
 pos : 0 < m.ip.length
def Num.stop (m : Num) : Nat := m.ip.length + (if m.fp.length = 0 then 0 else m.fp.length + 1)
def dpOf (m : Num) (n : Nat) (b : Bool) : Int := ((strip (m.all.take n)).length : Int) - (if b then (n : Int) - m.ip.length else 0)
theorem all_len (m : Num) : m.all.length = m.ip.length + m.fp.length := by simp [Num.all]
theorem take_step {l : List Nat} {n : Nat} (h : n < l.length) : l.take (n + 1) = l.take n ++ [dg l n] := by
 rw [List.take_succ_eq_append_getElem h]; unfold dg; rw [List.getD_eq_getElem?_getD, List.getElem?_eq_getElem h]; rfl
theorem strip_zero {m : Num} {n : Nat} (h : n < m.all.length) (h0 : strip (m.all.take n) = []) (hd : dg m.all n = 0) : strip (m.all.take (n + 1)) = [] := by
 rw [take_step h, strip_snoc, if_pos ⟨h0, hd⟩]
theorem strip_next {m : Num} {n : Nat} (h : n < m.all.length) (h0 : strip (m.all.take n) ≠ [] ∨ dg m.all n ≠ 0) : strip (m.all.take (n + 1)) = strip (m.all.take n) ++ [dg m.all n] := by
 rw [take_step h, strip_snoc, if_neg (by rintro ⟨h1, h2⟩; rcases h0 with h0 | h0 <;> contradiction)]
theorem dp_zero_f {m : Num} {n : Nat} (h : n < m.all.length) (h0 : strip (m.all.take n) = []) (hd : dg m.all n = 0) : dpOf m (n + 1) false = dpOf m n false := by
 unfold dpOf; rw [strip_zero h h0 hd, h0]; simp
theorem dp_zero_t {m : Num} {n : Nat} (h : n < m.all.length) (h0 : strip (m.all.take n) = []) (hd : dg m.all n = 0) : dpOf m (n + 1) true = dpOf m n true - 1 := by
 unfold dpOf; rw [strip_zero h h0 hd, h0]; simp; omega
theorem dp_next_f {m : Num} {n : Nat} (h : n < m.all.length) (h0 : strip (m.all.take n) ≠ [] ∨ dg m.all n ≠ 0) : dpOf m (n + 1) false = dpOf m n false + 1 := by
 unfold dpOf; rw [strip_next h h0]; simp
theorem dp_next_t {m : Num} {n : Nat} (h : n < m.all.length) (h0 : strip (m.all.take n) ≠ [] ∨ dg m.all n ≠ 0) : dpOf m (n + 1) true = dpOf m n true := by
 unfold dpOf; rw [strip_next h h0]; simp; omega
theorem dp_dot {m : Num} : dpOf m m.ip.length true = dpOf m m.ip.length false := by unfold dpOf; simp
theorem dp_bound {m : Num} {n : Nat} (b : Bool) (h : n ≤ m.all.length) (hl : m.all.length ≤ 1000) : -2000 ≤ dpOf m n b ∧ dpOf m n b ≤ 2000 := by
 have h1 := strip_len (m.all.take n); have h2 := all_len m; rw [List.length_take] at h1; unfold dpOf
 cases b <;> simp <;> omega
theorem read_Is {m : Num} {x : Int} (hx : x = dpOf m m.all.length (decide (0 < m.fp.length)) + m.exp) {p q : Nat} (h : (p : Int) - q = m.exp - m.fp.length) :
  Is (strip m.all) x (num m.all * 10 ^ p) (10 ^ q) := by
 refine ⟨p, q, ?_, by rw [num_strip]⟩; rw [hx]; unfold dpOf; rw [List.take_length, all_len]; by_cases h0 : 0 < m.fp.length
 · rw [decide_eq_true h0]; simp; omega
 · rw [decide_eq_false h0]; simp; omega
end
section
open Go.RowKit
attribute [local go_sem] bt_eq
theorem lower_is (c : Nat) (hc : c < 256) (w : World) : Calls Tryz.prog 172 #[.int .u8 c] w fun e w' => e = .returned (.int .u8 ((c ||| 32 : Nat) : Int)) ∧ w' = w := by
 have h1 : c ||| 32 < 256 := Nat.or_lt_two_pow (n := 8) hc (by omega)
 have h : bits .or .u8 (c : Int) 32 = ((c ||| 32 : Nat) : Int) := by
  have e : (32 : Int) = ((32 : Nat) : Int) := rfl; rw [e]; have : ∀ x : Fin 256, bits .or .u8 ((x.val : Nat) : Int) ((32 : Nat) : Int) = ((x.val ||| 32 : Nat) : Int) := by decide +kernel
  exact this ⟨c, hc⟩
 go_enter Tryz.func172, Tryz.ntmps172
 go_wp2
 go_ret; exact ⟨rfl, rfl⟩
def Bare (w : World) (a : Nat) (dp : Int) : Prop := w.heap[a]? = some (.cells #[.slice none 0 0, .int .i64 dp] 256 (0, 0))
theorem Bare.c0 {w : World} {a : Nat} {dp : Int} (h : Bare w a dp) : w.cell? ⟨a, 0, none⟩ = some (.slice none 0 0) := by unfold Bare at h; simp [World.cell?, h]
theorem Bare.c1 {w : World} {a : Nat} {dp : Int} (h : Bare w a dp) : w.cell? ⟨a, 1, none⟩ = some (.int .i64 dp) := by unfold Bare at h; simp [World.cell?, h]
theorem Bare.fr {w : World} {a : Nat} {dp : Int} (h : Bare w a dp) (o : Nat) : w.frozen? ⟨a, o, none⟩ = false := by unfold Bare at h; simp [World.frozen?, h]
theorem Bare.set1 {w : World} {a : Nat} {dp : Int} (h : Bare w a dp) (y : Int) : Bare (w.setCell ⟨a, 1, none⟩ (.int .i64 y)) a y := blk_setCell h _
structure RdI (w1 : World) (a : Nat) (m : Num) (n : Nat) (b : Bool) (wr : World) : Prop where
 dec : (strip (m.all.take n) = [] ∧ Bare wr a (dpOf m n b)) ∨ (strip (m.all.take n) ≠ [] ∧ ∃ g cap, DecAt wr w1.heap.size a g cap (strip (m.all.take n)) (dpOf m n b))
 kp : Kp [a] w1 wr
def Blk (w : World) (a : Nat) (sl : Value) (dp : Int) : Prop := w.heap[a]? = some (.cells #[sl, .int .i64 dp] 256 (0, 0))
theorem Blk.c0 {w : World} {a : Nat} {sl : Value} {dp : Int} (h : Blk w a sl dp) : w.cell? ⟨a, 0, none⟩ = some sl := by unfold Blk at h; simp [World.cell?, h]
theorem Blk.c1 {w : World} {a : Nat} {sl : Value} {dp : Int} (h : Blk w a sl dp) : w.cell? ⟨a, 1, none⟩ = some (.int .i64 dp) := by unfold Blk at h; simp [World.cell?, h]
theorem Blk.fr {w : World} {a : Nat} {sl : Value} {dp : Int} (h : Blk w a sl dp) (o : Nat) : w.frozen? ⟨a, o, none⟩ = false := by unfold Blk at h; simp [World.frozen?, h]
theorem put_dec {w : World} {B a g cap : Nat} {sl : Value} {dp : Int} {ds : List Nat} (hb : w.heap[a]? = some (.cells #[sl, .int .i64 dp] 256 (0, 0)))
  (ho : w.ownsRow B 5 1 (.slice (some ⟨g, 0, none⟩) ds.length cap) ds.length (cellsOf ds)) (ha : a < B) (hg : B ≤ g) :
  DecAt (w.setCell ⟨a, 0, none⟩ (.slice (some ⟨g, 0, none⟩) ds.length cap)) B a g cap ds dp :=
 ⟨blk_setCell hb _, ownsRow_setCell_other ho (a := ⟨a, 0, none⟩) (fun e => by have := Option.some.inj e; simp at this; omega) _⟩
theorem DecAt.lower {w : World} {B B' b g cap : Nat} {ds : List Nat} {dp : Int} (h : DecAt w B b g cap ds dp) (hB : B' ≤ B) : DecAt w B' b g cap ds dp := ⟨h.blk, own_base h.own hB⟩
set_option maxRecDepth 100000 in
set_option maxHeartbeats 1000000 in
theorem trim_bare (w : World) (a : Nat) (dp : Int) (h : Bare w a dp) :
  Calls Tryz.prog 173 #[.pointer (some ⟨a, 0, none⟩)] w fun e w' => e = .returned (.pointer (some ⟨a, 0, none⟩)) ∧ Bare w' a 0 ∧ Kp [a] w w' := by
 have H := hid h; have c0 := h.c0; have c1 := h.c1; have f0 := h.fr 0; have f1 := h.fr 1; clear h; go_enter Tryz.func173, Tryz.ntmps173
 go_wp2_with fail
 go_loopw [] (fun wr => wr.heap = w.heap ∧ Kp [] w wr) (fun wr => 0)
 case atStart => exact ⟨rfl, Kp.refl _ _⟩
 case round =>
  obtain ⟨hh, hK⟩ := hrel; have HK := hid hK; have HW := hid hh; have HB : Hid (Bare wr a dp) := by show wr.heap[a]? = _; rw [hh]; exact H.out
  clear hK hh c0 c1 f0 f1; have c0 := HB.out.c0; have c1 := HB.out.c1; have f0 := HB.out.fr 0; have f1 := HB.out.fr 1; go_wp2_with fail
  go_quiet (fail)
  go_wp2_with fail
  go_ret; refine ⟨rfl, ?_, ?_⟩
  · exact (show Bare (wr.drewN nq) a dp from HB.out).set1 0
  · exact ((Kp.mono HK.out (S' := [a]) (fun _ _ h => by simp at h)).drewN nq).setCell (by simp) _
def ExAt (s : ByteArray) (m : Num) : Prop :=
 (m.ex = none ∧ s.size = m.stop) ∨ ∃ c sg ds, m.ex = some (c, sg, ds) ∧ s.size = m.stop + 2 + ds.length ∧ (c = 101 ∨ c = 69) ∧ (sg = 43 ∨ sg = 45) ∧ bt s m.stop = c ∧ bt s (m.stop + 1) = sg ∧
  (∀ k, k < ds.length → bt s (m.stop + 2 + k) = 48 + dg ds k) ∧ (∀ d ∈ ds, d < 10) ∧ 0 < ds.length ∧ ds.length ≤ 3
theorem ExAt.size {s : ByteArray} {m : Num} (h : ExAt s m) : m.stop ≤ s.size := by
 rcases h with ⟨_, h⟩ | ⟨_, _, _, _, h, _⟩ <;> omega
theorem ExAt.at {s : ByteArray} {m : Num} (h : ExAt s m) (hl : m.stop < s.size) : bt s m.stop = 101 ∨ bt s m.stop = 69 := by
 rcases h with ⟨_, h⟩ | ⟨c, _, _, _, h, hc, _, h2, _⟩
 · omega
 · rw [h2]; exact hc
theorem RdI.zero {w1 wr : World} {a n : Nat} {m : Num} (hI : RdI w1 a m n false wr) (h : n < m.all.length) (h0 : strip (m.all.take n) = []) (hd : dg m.all n = 0) : RdI w1 a m (n + 1) false wr := by
 refine ⟨Or.inl ⟨strip_zero h h0 hd, ?_⟩, hI.kp⟩; rw [dp_zero_f h h0 hd]; rcases hI.dec with h1 | h1
 · exact h1.2
 · exact absurd h0 h1.1
theorem RdI.zerot {w1 wr : World} {a n : Nat} {m : Num} (hI : RdI w1 a m n true wr) (h : n < m.all.length) (h0 : strip (m.all.take n) = []) (hd : dg m.all n = 0) :
  RdI w1 a m (n + 1) true (wr.setCell ⟨a, 1, none⟩ (.int .i64 (dpOf m n true - 1))) := by
 refine ⟨Or.inl ⟨strip_zero h h0 hd, ?_⟩, hI.kp.setCell (by simp) _⟩; rw [dp_zero_t h h0 hd]; rcases hI.dec with h1 | h1
 · exact h1.2.set1 _
 · exact absurd h0 h1.1
theorem RdI.nextf {w1 w2 : World} {a n g cap : Nat} {m : Num} {sl : Value} {st : List Nat} {d : Nat} (h : n < m.all.length) (hst : st = strip (m.all.take n)) (hd : d = dg m.all n) (h0 : st ≠ [] ∨ d ≠ 0)
  (hb : Blk w2 a sl (dpOf m n false)) (ho : w2.ownsRow w1.heap.size 5 1 (.slice (some ⟨g, 0, none⟩) (st ++ [d]).length cap) (st ++ [d]).length (cellsOf (st ++ [d])))
  (ha : a < w1.heap.size) (hg : w1.heap.size ≤ g) (hk : Kp [a] w1 w2) :
  RdI w1 a m (n + 1) false ((w2.setCell ⟨a, 0, none⟩ (.slice (some ⟨g, 0, none⟩) (st ++ [d]).length cap)).setCell ⟨a, 1, none⟩ (.int .i64 (dpOf m n false + 1))) := by
 subst hst hd; refine ⟨Or.inr ⟨by rw [strip_next h h0]; simp, g, cap, ?_⟩, (hk.setCell (by simp) _).setCell (by simp) _⟩; rw [dp_next_f h h0, strip_next h h0]; exact (put_dec hb ho ha hg).set1 _
theorem RdI.nextt {w1 w2 : World} {a n g cap : Nat} {m : Num} {sl : Value} {st : List Nat} {d : Nat} (h : n < m.all.length) (hst : st = strip (m.all.take n)) (hd : d = dg m.all n) (h0 : st ≠ [] ∨ d ≠ 0)
  (hb : Blk w2 a sl (dpOf m n true)) (ho : w2.ownsRow w1.heap.size 5 1 (.slice (some ⟨g, 0, none⟩) (st ++ [d]).length cap) (st ++ [d]).length (cellsOf (st ++ [d])))
  (ha : a < w1.heap.size) (hg : w1.heap.size ≤ g) (hk : Kp [a] w1 w2) :
  RdI w1 a m (n + 1) true (w2.setCell ⟨a, 0, none⟩ (.slice (some ⟨g, 0, none⟩) (st ++ [d]).length cap)) := by
 subst hst hd; refine ⟨Or.inr ⟨by rw [strip_next h h0]; simp, g, cap, ?_⟩, hk.setCell (by simp) _⟩; rw [dp_next_t h h0, strip_next h h0]; exact put_dec hb ho ha hg
theorem RdI.dot {w1 wr : World} {a : Nat} {m : Num} (hI : RdI w1 a m m.ip.length false wr) : RdI w1 a m m.ip.length true wr := by
 refine ⟨?_, hI.kp⟩; rw [dp_dot]; exact hI.dec
theorem rd_start {w : World} {a : Nat} {m : Num} (h : Bare w a 0) : RdI w a m 0 false w := by
 refine ⟨Or.inl ⟨by rw [List.take_zero]; rfl, ?_⟩, Kp.refl _ _⟩; have e : dpOf m 0 false = 0 := by unfold dpOf; rw [List.take_zero]; rfl
 rw [e]; exact h
theorem hst_of (m : Num) : m.stop = m.ip.length + (if m.fp.length = 0 then 0 else m.fp.length + 1) := rfl
theorem hst_le (m : Num) : m.ip.length ≤ m.stop := by rw [hst_of]; omega
theorem dp_tight (m : Num) : -(m.fp.length : Int) ≤ dpOf m m.all.length (decide (0 < m.fp.length)) ∧ dpOf m m.all.length (decide (0 < m.fp.length)) ≤ m.all.length ∧ m.fp.length ≤ m.all.length := by
 have h1 := strip_len m.all; have h2 := all_len m; unfold dpOf; rw [List.take_length]; by_cases h0 : 0 < m.fp.length
 · rw [decide_eq_true h0]; simp; omega
 · rw [decide_eq_false h0]; simp; omega
theorem strip_dig {l : List Nat} (h : ∀ d ∈ l, d < 10) : Dig (strip l) := by
 refine ⟨fun d hd => h d (strip_mem hd), ?_⟩
 cases hs : strip l with
 | nil => simp
 | cons a r =>
  have := strip_head l (by rw [hs]; simp); rw [hs] at this; simpa [dg] using this
structure Lp (m : Num) (i n : Nat) (b : Bool) : Prop where
 hi : i = n + (if b then 1 else 0)
 hn : n ≤ m.ip.length + (if b then m.fp.length else 0)
 ge : b = true → m.ip.length ≤ n
 fp : b = true → 0 < m.fp.length
theorem Lp.nextf {m : Num} {i : Nat} (hd : i < m.ip.length) : Lp m (i + 1) (i + 1) false := ⟨by simp, by simp; omega, by simp, by simp⟩
theorem Lp.nextt {m : Num} {n : Nat} (h : Lp m (n + 1) n true) (hd : n < m.ip.length + m.fp.length) : Lp m (n + 1 + 1) (n + 1) true :=
 ⟨by simp, by simp; omega, fun _ => Nat.le_succ_of_le (h.ge rfl), h.fp⟩
theorem Lp.dot {m : Num} (hf : 0 < m.fp.length) : Lp m (m.ip.length + 1) m.ip.length true := ⟨by simp, by simp, fun _ => Nat.le_refl _, fun _ => hf⟩
set_option maxRecDepth 100000 in
set_option maxHeartbeats 8000000 in
theorem read_is (w : World) (s : ByteArray) (m : Num) (hA : NumAt s m) (hX : ExAt s m) (hhex : 2 ≤ s.size → bt s 0 = 48 → bt s 1 ||| 32 ≠ 120) (hl : m.all.length ≤ 500) (hs : s.size ≤ 1000) (hex1 : -400 ≤ m.exp) (hex2 : m.exp ≤ 400) :
  Calls Tryz.prog 162 #[.string s] w fun e w' => e = .returned (.tuple #[.pointer (some ⟨w.heap.size, 0, none⟩), .bool true]) ∧ Kp [] w w' ∧
   ((num m.all = 0 ∧ Bare w' w.heap.size 0) ∨ (num m.all ≠ 0 ∧ ∀ p q : Nat, (p : Int) - q = m.exp - m.fp.length → Dst w' w.heap.size w.heap.size 1000 (num m.all * 10 ^ p) (10 ^ q))) := by
 have HA := hid hA; have HX := hid hX; have HH := hid hhex; have hpos := hA.pos; have hsz := hX.size; clear hA hX hhex; have hst0 : 0 < m.stop := by unfold Num.stop; omega
 go_enter Tryz.func162, Tryz.ntmps162
 go_upto_region 2 with fail
 generalize hW : w.alloc (.cells #[.slice none 0 0, .int .i64 0] 256) = w1; have HB0 : Hid (Bare w1 w.heap.size 0) := by show w1.heap[w.heap.size]? = _; rw [← hW]; exact heap_alloc_new _ _
 have HK0 : Hid (Kp [] w w1) := by rw [← hW]; exact (Kp.refl _ _).alloc _
 have hs1 : w1.heap.size = w.heap.size + 1 := by rw [← hW]; simp
 clear hW; go_cut [5] (fun s5 wx => s5 = .bool false ∧ wx = w1)
 case first =>
  by_cases h2 : 2 ≤ s.size
  ·
   have g1 : decide ((s.size : Int) ≥ 2) = true := by rw [decide_eq_true_eq]; omega
   by_cases hz : bt s 0 = 48
   ·
    have g2 : ((bt s 0 : Int) == 48) = true := by rw [beq_iff_eq]; omega
    have HN := hid (HH.out h2 hz); have hb1 := bt_lt s 1; go_wp2_with fail
    refine (lower_is _ hb1 _).mono ?_
    rintro e1 w2 ⟨rfl, rfl⟩
    have g3 : (((bt s 1 ||| 32 : Nat) : Int) == 120) = false := by rw [beq_eq_false_iff_ne]; intro h; exact HN.out (by exact_mod_cast h)
    go_wp2_with fail
    go_meet; exact ⟨rfl, rfl⟩
   · have g2 : ((bt s 0 : Int) == 48) = false := by rw [beq_eq_false_iff_ne]; omega
     go_wp2_with fail
     go_meet; exact ⟨rfl, rfl⟩
  · have g1 : decide ((s.size : Int) ≥ 2) = false := by rw [decide_eq_false_iff_not]; omega
    go_wp2_with fail
    go_meet; exact ⟨rfl, rfl⟩
 case rest =>
 obtain ⟨rfl, hwx⟩ := hcut; have hwx2 := hwx.symm; subst hwx2; have HR0 : Hid (RdI w1 w.heap.size m 0 false w1) := rd_start HB0.out; go_upto_block 0 with fail
 have hw0 : w.heap.size < w1.heap.size := by omega
 clear hs1; go_cut [8, 9, 10, 11] (fun s8 s9 s10 s11 wx => s8 = .bool true ∧ s10 = .int .i64 0 ∧ s11 = .int .i64 (m.stop : Int) ∧ RdI w1 w.heap.size m m.all.length (decide (0 < m.fp.length)) wx)
 case first =>
  go_wp2_with fail
  go_loopw [8, 9, 10, 11] (fun v8 v9 v10 v11 wr => ∃ (i n : Nat) (b : Bool), v8 = .bool (decide (0 < n)) ∧ v9 = .bool b ∧ v10 = .int .i64 0 ∧ v11 = .int .i64 (i : Int) ∧ Lp m i n b ∧ RdI w1 w.heap.size m n b wr) (fun v8 v9 v10 v11 wr => s.size - (intOf v11).toNat)
  case atStart => exact ⟨0, 0, false, rfl, rfl, rfl, rfl, ⟨rfl, by omega, by simp, by simp⟩, HR0.out⟩
  case round =>
   obtain ⟨i, n, b, rfl, rfl, rfl, rfl, hL, hI⟩ := hrel; have HL := hid hL; have HI := hid hI; clear hL hI; have hst1 := hst_le m; have hal := all_len m
   cases b with
   | false =>
    obtain rfl : i = n := by have := HL.out.hi; simpa using this
    have hnl : i ≤ m.ip.length := by have := HL.out.hn; simpa using this
    by_cases hd : i < m.ip.length
    ·
     have hbyte : bt s i = 48 + dg m.all i := HA.out.ip i hd; have hdl : dg m.all i < 10 := dg_lt HA.out.small _; have hlt : i < s.size := by omega
     have hnal : i < m.all.length := by omega
     obtain ⟨d, hde⟩ : ∃ d, d = dg m.all i := ⟨_, rfl⟩; rw [← hde] at hbyte hdl; have HDe := hid hde; have k1 : ((bt s i : Int) == 95) = false := by rw [beq_eq_false_iff_ne]; omega
     have k2 : ((bt s i : Int) == 46) = false := by rw [beq_eq_false_iff_ne]; omega
     have k3 : decide ((48 : Int) ≤ (bt s i : Int)) = true := by rw [decide_eq_true_eq]; omega
     have k4 : decide ((bt s i : Int) ≤ 57) = true := by rw [decide_eq_true_eq]; omega
     have hsub : (bt s i : Int) - 48 = (d : Int) := by omega
     have k5 : ((d : Int) == 16) = false := by rw [beq_eq_false_iff_ne]; omega
     have hdp := dp_bound (m := m) (n := i) false (by omega) (by omega); clear hde hbyte; by_cases hs0 : strip (m.all.take i) = []
     ·
      have HS0 := hid hs0; have HBa : Hid (Bare wr w.heap.size (dpOf m i false)) := by
       rcases HI.out.dec with h | h
       · exact h.2
       · exact absurd hs0 h.1
      have hbw := lt_of_block HBa.out; have c0 := HBa.out.c0; have c1 := HBa.out.c1; have f0 := HBa.out.fr 0; have f1 := HBa.out.fr 1; clear hs0; by_cases hz : d = 0
      · as_aux_lemma =>
        have HZ := hid hz; have k6 : ((d : Int) != 0) = false := by rw [hz]; rfl
        clear hz; go_wp2_with fail
        refine ⟨⟨i + 1, i + 1, false, by simp, rfl, rfl, by congr 1, Lp.nextf hd, HI.out.zero hnal HS0.out (by rw [← HDe.out]; exact HZ.out)⟩, ?_⟩
        show s.size - ((i : Int) + 1).toNat < s.size - ((i : Int)).toNat
        omega
      · as_aux_lemma =>
        have HZ := hid hz; have k6 : ((d : Int) != 0) = true := by rw [bne_iff_ne]; omega
        have HKW := hid HI.out.kp; clear hz; go_wp2_with (at_builtin; go_must (refine wp_append_byte rfl _ _ rfl w1 [w.heap.size] _ [] rfl ⟨rfl, Or.inl ⟨rfl, rfl⟩⟩ ⟨wr.heap.size, 0, none⟩ _ d rfl (cell_new _ _ _ _) (HKW.out.alloc _) (by decide) ?_); intro v2 w2 ho2 hk2 hs2; obtain ⟨g2, cap2, rfl, hg1, hg2⟩ := own_slice ho2 (by simp); have HBb : Hid (Blk w2 w.heap.size (.slice none 0 0) (dpOf m i false)) := (hs2 _ hw0).trans ((Below.heap_alloc _ _ _ hbw).trans HBa.out); clear c0 c1 f0 f1; have c0 := HBb.out.c0; have c1 := HBb.out.c1; have f0 := HBb.out.fr 0; have f1 := HBb.out.fr 1; have HO3 := hid ho2; have HK3 := hid hk2; clear ho2 hk2 hs2)
        refine ⟨⟨i + 1, i + 1, false, by simp, rfl, rfl, by congr 1, Lp.nextf hd, RdI.nextf (st := []) hnal HS0.out.symm HDe.out (Or.inr HZ.out) HBb.out HO3.out hw0 hg1 HK3.out⟩, ?_⟩
        show s.size - ((i : Int) + 1).toNat < s.size - ((i : Int)).toNat
        omega
     ·
      as_aux_lemma =>
      obtain ⟨g, cap, hD⟩ : ∃ g cap, DecAt wr w1.heap.size w.heap.size g cap (strip (m.all.take i)) (dpOf m i false) := by
       rcases HI.out.dec with h | h
       · exact absurd h.1 hs0
       · exact h.2
      obtain ⟨st, hst⟩ : ∃ st, st = strip (m.all.take i) := ⟨_, rfl⟩; have hstl : st.length ≤ 1000000000 := by
       have h9 := strip_len (m.all.take i); rw [List.length_take] at h9; rw [hst]; omega
      rw [← hst] at hD hs0; have HD := hid hD; have HS := hid hst; have HS0 := hid hs0; have hlen : 0 < st.length := List.length_pos_iff.2 hs0; have k7 : decide ((st.length : Int) > 0) = true := by rw [decide_eq_true_eq]; omega
      have hbw := hD.lt; have hcp := hD.cap; have c0 := hD.c0; have c1 := hD.c1; have f0 := hD.fr 0; have f1 := hD.fr 1; have HKW := hid HI.out.kp; clear hs0 hst hD; go_wp2_with (at_builtin; go_must (refine wp_append_byte rfl _ _ rfl w1 [w.heap.size] _ st rfl (HD.out.own.alloc _) ⟨wr.heap.size, 0, none⟩ _ d rfl (cell_new _ _ _ _) (HKW.out.alloc _) hstl ?_); intro v2 w2 ho2 hk2 hs2; obtain ⟨g2, cap2, rfl, hg1, hg2⟩ := own_slice ho2 (by simp); have HBb : Hid (Blk w2 w.heap.size (.slice (some ⟨g, 0, none⟩) st.length cap) (dpOf m i false)) := (hs2 _ hw0).trans ((Below.heap_alloc _ _ _ hbw).trans HD.out.blk); clear c0 c1 f0 f1; have c0 := HBb.out.c0; have c1 := HBb.out.c1; have f0 := HBb.out.fr 0; have f1 := HBb.out.fr 1; have HO3 := hid ho2; have HK3 := hid hk2; clear ho2 hk2 hs2)
      refine ⟨⟨i + 1, i + 1, false, by simp, rfl, rfl, by congr 1, Lp.nextf hd, ?_⟩, ?_⟩
      · have h9 := RdI.nextf (st := st) hnal HS.out HDe.out (Or.inl HS0.out) HBb.out HO3.out hw0 hg1 HK3.out
        rw [List.length_append] at h9; exact h9
      · show s.size - ((i : Int) + 1).toNat < s.size - ((i : Int)).toNat
        omega
    ·
     as_aux_lemma =>
     obtain rfl : i = m.ip.length := by omega
     by_cases hf : 0 < m.fp.length
     ·
      have hst2 : m.stop = m.ip.length + (m.fp.length + 1) := by rw [hst_of, if_neg (by omega)]
      have hlt : m.ip.length < s.size := by omega
      have hbyte := HA.out.pt hf; have k1 : ((bt s m.ip.length : Int) == 95) = false := by rw [beq_eq_false_iff_ne]; omega
      have k2 : ((bt s m.ip.length : Int) == 46) = true := by rw [beq_iff_eq]; omega
      clear hbyte; go_wp2_with fail
      refine ⟨⟨m.ip.length + 1, m.ip.length, true, rfl, rfl, rfl, by congr 1, Lp.dot hf, HI.out.dot⟩, ?_⟩
      show s.size - ((m.ip.length : Int) + 1).toNat < s.size - ((m.ip.length : Int)).toNat
      omega
     ·
      have hst2 : m.stop = m.ip.length := by rw [hst_of, if_pos (by omega)]; rfl
      have e1 : m.all.length = m.ip.length := by omega
      have e2 : decide (0 < m.fp.length) = false := decide_eq_false hf; have e3 : decide (0 < m.ip.length) = true := decide_eq_true hpos; have E : Hid (m.all.length = m.ip.length ∧ decide (0 < m.fp.length) = false ∧ decide (0 < m.ip.length) = true ∧ m.stop = m.ip.length) := ⟨e1, e2, e3, hst2⟩; clear e1 e2 e3; by_cases hend : m.ip.length < s.size
      ·
       have hex := HX.out.at (by omega); rw [hst2] at hex; have k1 : ((bt s m.ip.length : Int) == 95) = false := by rw [beq_eq_false_iff_ne]; omega
       have k2 : ((bt s m.ip.length : Int) == 46) = false := by rw [beq_eq_false_iff_ne]; omega
       have k3 : decide ((48 : Int) ≤ (bt s m.ip.length : Int)) = true := by rw [decide_eq_true_eq]; omega
       have k4 : decide ((bt s m.ip.length : Int) ≤ 57) = false := by rw [decide_eq_false_iff_not]; omega
       clear hex hst2; go_wp2_with fail
       go_meet; exact ⟨by rw [E.out.2.2.1], rfl, by rw [E.out.2.2.2], by rw [E.out.1, E.out.2.1]; exact HI.out⟩
      · clear hst2
        go_wp2_with fail
        go_meet; exact ⟨by rw [E.out.2.2.1], rfl, by rw [E.out.2.2.2], by rw [E.out.1, E.out.2.1]; exact HI.out⟩
   | true =>
    obtain rfl : i = n + 1 := by have := HL.out.hi; simpa using this
    have hnl : n ≤ m.ip.length + m.fp.length := by have := HL.out.hn; simpa using this
    have hgel : m.ip.length ≤ n := HL.out.ge rfl; have hfp : 0 < m.fp.length := HL.out.fp rfl; have hst2 : m.stop = m.ip.length + (m.fp.length + 1) := by rw [hst_of, if_neg (by omega)]
    by_cases hd : n < m.ip.length + m.fp.length
    ·
     have hbyte : bt s (n + 1) = 48 + dg m.all n := (by have := HA.out.fp (n - m.ip.length) (by omega); rwa [show m.ip.length + 1 + (n - m.ip.length) = n + 1 from by omega, show m.ip.length + (n - m.ip.length) = n from by omega] at this); have hdl : dg m.all n < 10 := dg_lt HA.out.small _; have hlt : (n + 1) < s.size := by omega
     have hnal : n < m.all.length := by omega
     obtain ⟨d, hde⟩ : ∃ d, d = dg m.all n := ⟨_, rfl⟩; rw [← hde] at hbyte hdl; have HDe := hid hde; have k1 : ((bt s (n + 1) : Int) == 95) = false := by rw [beq_eq_false_iff_ne]; omega
     have k2 : ((bt s (n + 1) : Int) == 46) = false := by rw [beq_eq_false_iff_ne]; omega
     have k3 : decide ((48 : Int) ≤ (bt s (n + 1) : Int)) = true := by rw [decide_eq_true_eq]; omega
     have k4 : decide ((bt s (n + 1) : Int) ≤ 57) = true := by rw [decide_eq_true_eq]; omega
     have hsub : (bt s (n + 1) : Int) - 48 = (d : Int) := by omega
     have k5 : ((d : Int) == 16) = false := by rw [beq_eq_false_iff_ne]; omega
     have hdp := dp_bound (m := m) (n := n) true (by omega) (by omega); clear hde hbyte; by_cases hs0 : strip (m.all.take n) = []
     ·
      have HS0 := hid hs0; have HBa : Hid (Bare wr w.heap.size (dpOf m n true)) := by
       rcases HI.out.dec with h | h
       · exact h.2
       · exact absurd hs0 h.1
      have hbw := lt_of_block HBa.out; have c0 := HBa.out.c0; have c1 := HBa.out.c1; have f0 := HBa.out.fr 0; have f1 := HBa.out.fr 1; clear hs0; by_cases hz : d = 0
      · as_aux_lemma =>
        have HZ := hid hz; have k6 : ((d : Int) != 0) = false := by rw [hz]; rfl
        clear hz; go_wp2_with fail
        refine ⟨⟨n + 1 + 1, n + 1, true, by simp, rfl, rfl, by congr 1, HL.out.nextt hd, HI.out.zerot hnal HS0.out (by rw [← HDe.out]; exact HZ.out)⟩, ?_⟩
        show s.size - (((n : Int) + 1) + 1).toNat < s.size - (((n + 1 : Nat) : Int)).toNat
        omega
      · as_aux_lemma =>
        have HZ := hid hz; have k6 : ((d : Int) != 0) = true := by rw [bne_iff_ne]; omega
        have HKW := hid HI.out.kp; clear hz; go_wp2_with (at_builtin; go_must (refine wp_append_byte rfl _ _ rfl w1 [w.heap.size] _ [] rfl ⟨rfl, Or.inl ⟨rfl, rfl⟩⟩ ⟨wr.heap.size, 0, none⟩ _ d rfl (cell_new _ _ _ _) (HKW.out.alloc _) (by decide) ?_); intro v2 w2 ho2 hk2 hs2; obtain ⟨g2, cap2, rfl, hg1, hg2⟩ := own_slice ho2 (by simp); have HBb : Hid (Blk w2 w.heap.size (.slice none 0 0) (dpOf m n true)) := (hs2 _ hw0).trans ((Below.heap_alloc _ _ _ hbw).trans HBa.out); clear c0 c1 f0 f1; have c0 := HBb.out.c0; have c1 := HBb.out.c1; have f0 := HBb.out.fr 0; have f1 := HBb.out.fr 1; have HO3 := hid ho2; have HK3 := hid hk2; clear ho2 hk2 hs2)
        refine ⟨⟨n + 1 + 1, n + 1, true, by simp, rfl, rfl, by congr 1, HL.out.nextt hd, RdI.nextt (st := []) hnal HS0.out.symm HDe.out (Or.inr HZ.out) HBb.out HO3.out hw0 hg1 HK3.out⟩, ?_⟩
        show s.size - (((n : Int) + 1) + 1).toNat < s.size - (((n + 1 : Nat) : Int)).toNat
        omega
     ·
      as_aux_lemma =>
      obtain ⟨g, cap, hD⟩ : ∃ g cap, DecAt wr w1.heap.size w.heap.size g cap (strip (m.all.take n)) (dpOf m n true) := by
       rcases HI.out.dec with h | h
       · exact absurd h.1 hs0
       · exact h.2
      obtain ⟨st, hst⟩ : ∃ st, st = strip (m.all.take n) := ⟨_, rfl⟩; have hstl : st.length ≤ 1000000000 := by
       have h9 := strip_len (m.all.take n); rw [List.length_take] at h9; rw [hst]; omega
      rw [← hst] at hD hs0; have HD := hid hD; have HS := hid hst; have HS0 := hid hs0; have hlen : 0 < st.length := List.length_pos_iff.2 hs0; have k7 : decide ((st.length : Int) > 0) = true := by rw [decide_eq_true_eq]; omega
      have hbw := hD.lt; have hcp := hD.cap; have c0 := hD.c0; have c1 := hD.c1; have f0 := hD.fr 0; have f1 := hD.fr 1; have HKW := hid HI.out.kp; clear hs0 hst hD; go_wp2_with (at_builtin; go_must (refine wp_append_byte rfl _ _ rfl w1 [w.heap.size] _ st rfl (HD.out.own.alloc _) ⟨wr.heap.size, 0, none⟩ _ d rfl (cell_new _ _ _ _) (HKW.out.alloc _) hstl ?_); intro v2 w2 ho2 hk2 hs2; obtain ⟨g2, cap2, rfl, hg1, hg2⟩ := own_slice ho2 (by simp); have HBb : Hid (Blk w2 w.heap.size (.slice (some ⟨g, 0, none⟩) st.length cap) (dpOf m n true)) := (hs2 _ hw0).trans ((Below.heap_alloc _ _ _ hbw).trans HD.out.blk); clear c0 c1 f0 f1; have c0 := HBb.out.c0; have c1 := HBb.out.c1; have f0 := HBb.out.fr 0; have f1 := HBb.out.fr 1; have HO3 := hid ho2; have HK3 := hid hk2; clear ho2 hk2 hs2)
      refine ⟨⟨n + 1 + 1, n + 1, true, by simp, rfl, rfl, by congr 1, HL.out.nextt hd, ?_⟩, ?_⟩
      · have h9 := RdI.nextt (st := st) hnal HS.out HDe.out (Or.inl HS0.out) HBb.out HO3.out hw0 hg1 HK3.out
        rw [List.length_append] at h9; exact h9
      · show s.size - (((n : Int) + 1) + 1).toNat < s.size - (((n + 1 : Nat) : Int)).toNat
        omega
    ·
     as_aux_lemma =>
     have e1 : m.all.length = n := by omega
     have e2 : decide (0 < m.fp.length) = true := decide_eq_true hfp; have e3 : decide (0 < n) = true := decide_eq_true (by omega); have hst3 : m.stop = n + 1 := by omega
     have E : Hid (m.all.length = n ∧ decide (0 < m.fp.length) = true ∧ decide (0 < n) = true ∧ m.stop = n + 1) := ⟨e1, e2, e3, hst3⟩; by_cases hend : n + 1 < s.size
     ·
      have hex := HX.out.at (by omega); rw [hst3] at hex; have k1 : ((bt s (n + 1) : Int) == 95) = false := by rw [beq_eq_false_iff_ne]; omega
      have k2 : ((bt s (n + 1) : Int) == 46) = false := by rw [beq_eq_false_iff_ne]; omega
      have k3 : decide ((48 : Int) ≤ (bt s (n + 1) : Int)) = true := by rw [decide_eq_true_eq]; omega
      have k4 : decide ((bt s (n + 1) : Int) ≤ 57) = false := by rw [decide_eq_false_iff_not]; omega
      clear hex hst2 hst3 e1 e2 e3; go_wp2_with fail
      go_meet; exact ⟨by rw [E.out.2.2.1], rfl, by rw [E.out.2.2.2], by rw [E.out.1, E.out.2.1]; exact HI.out⟩
     · clear hst2 hst3 e1 e2 e3
       go_wp2_with fail
       go_meet; exact ⟨by rw [E.out.2.2.1], rfl, by rw [E.out.2.2.2], by rw [E.out.1, E.out.2.1]; exact HI.out⟩
 case rest =>
 obtain ⟨rfl, rfl, rfl, hI⟩ := hcut; have HKI := hid hI.kp; have hdec := hI.dec; rw [List.take_length] at hdec; obtain ⟨D, hDd⟩ : ∃ D, D = dpOf m m.all.length (decide (0 < m.fp.length)) := ⟨_, rfl⟩; have hDb := dp_tight m; rw [← hDd] at hDb hdec; have hD1 : -500 ≤ D := by omega
 have hD2 : D ≤ 500 := by omega
 have HDd := hid hDd; have hkw : Kp [w.heap.size] w wc := (Kp.mono HK0.out (fun _ _ h => by simp at h)).trans hI.kp; have HKW := hid hkw; have hst1 := hst_le m; clear hI hDd hDb hkw; rcases hdec with ⟨h0, hB⟩ | ⟨h0, g, cap, hD⟩
 ·
  have H0 := hid h0; have HB := hid hB; have hbw := lt_of_block hB; have c0 := hB.c0; have c1 := hB.c1; have f0 := hB.fr 0; have f1 := hB.fr 1; clear h0 hB; rcases HX.out with ⟨hn, hsz2⟩ | ⟨c, sg, ds, hn, hsz2, hc, hsg, hb1, hb2, hb3, hds, hdl, hdl3⟩
  ·
   as_aux_lemma =>
   have HE : Hid (m.exp = 0) := by show _ = _; unfold Num.exp; rw [hn]
   have hsz3 : s.size ≤ m.stop := by omega
   have HSz := hid hsz2; clear hn hsz2; go_wp2_with fail
   refine (trim_bare _ w.heap.size _ (HB.out.set1 _)).mono ?_
   rintro e5 w5 ⟨rfl, hB5, hK5⟩
   go_wp2_with fail
   go_ret2
   exact ⟨rfl, Kp.mono ((HKW.out.setCell (by simp) _).trans hK5) (fun k hk h => by simp at h; omega), Or.inl ⟨strip_nil.1 H0.out, hB5⟩⟩
  ·
   have HN := hid hn; have HB3 := hid hb3; have HDs := hid hds; have hl1 : m.stop + 2 + ds.length ≤ s.size := by omega
   have hl2 : s.size ≤ m.stop + 2 + ds.length := by omega
   have klow : (((bt s m.stop ||| 32 : Nat) : Int) == 101) = true := by
    rw [hb1]; rcases hc with rfl | rfl <;> rfl
   have hb0 := bt_lt s m.stop; have hd0 := hb3 0 hdl; have hd0l := dg_lt hds 0; rw [Nat.add_zero] at hd0; have k45 : ((bt s (m.stop + 1) : Int) == 45) = decide (sg = 45) := by rw [hb2]; rcases hsg with rfl | rfl <;> rfl
   have k43 : ((bt s (m.stop + 1) : Int) == 43) = decide (sg = 43) := by rw [hb2]; rcases hsg with rfl | rfl <;> rfl
   have k6 : decide ((bt s (m.stop + 2) : Int) < 48) = false := by rw [decide_eq_false_iff_not]; omega
   have k7 : decide ((bt s (m.stop + 2) : Int) > 57) = false := by rw [decide_eq_false_iff_not]; omega
   have HSz := hid hsz2; clear hn hb3 hds hsz2 hb1 hb2 hc hd0 hd0l; rcases hsg with rfl | rfl
   ·
    as_aux_lemma =>
    have k45' : ((bt s (m.stop + 1) : Int) == 45) = false := k45; have k43' : ((bt s (m.stop + 1) : Int) == 43) = true := k43; have HE : Hid (m.exp = (num ds : Int)) := by show _ = _; unfold Num.exp; rw [HN.out]; rfl
    have hE1 : (num ds : Int) ≤ 400 := by have := HE.out; omega
    clear k45 k43; go_wp2_with fail
    refine (lower_is _ hb0 _).mono ?_
    rintro e4 w4 ⟨rfl, rfl⟩
    go_wp2_with fail
    go_loop [11, 15] (fun v11 v15 => ∃ k : Nat, k ≤ ds.length ∧ v11 = .int .i64 ((m.stop + 2 + k : Nat) : Int) ∧ v15 = .int .i64 (num (ds.take k) : Int)) (fun v11 _ => s.size - (intOf v11).toNat)
    case atStart => exact ⟨0, by omega, by congr 1, rfl⟩
    case round =>
     obtain ⟨k, hk, rfl, rfl⟩ := hrel; by_cases hkl : k < ds.length
     ·
      as_aux_lemma =>
      have hbk := HB3.out k hkl; have hdk := dg_lt HDs.out k; have hnk : num (ds.take k) < 1000 := by
       have h9 := num_lt (l := ds.take k) (fun x hx => HDs.out x (List.mem_of_mem_take hx)); rw [List.length_take] at h9; have h8 : 10 ^ min k ds.length ≤ 10 ^ 3 := Nat.pow_le_pow_right (by omega) (by omega); omega
      have hstep : num (ds.take (k + 1)) = 10 * num (ds.take k) + dg ds k := by rw [take_step hkl, num_snoc]
      have HST := hid hstep; obtain ⟨E, hEe⟩ : ∃ E, E = num (ds.take k) := ⟨_, rfl⟩; rw [← hEe] at hnk ⊢; have HEe := hid hEe; have k8 : decide ((48 : Int) ≤ (bt s (m.stop + 2 + k) : Int)) = true := by rw [decide_eq_true_eq]; omega
      have k9 : decide ((bt s (m.stop + 2 + k) : Int) ≤ 57) = true := by rw [decide_eq_true_eq]; omega
      have k10 : ((bt s (m.stop + 2 + k) : Int) != 95) = true := by rw [bne_iff_ne]; omega
      have k11 : decide ((E : Int) < 10000) = true := by rw [decide_eq_true_eq]; omega
      have hsub : (bt s (m.stop + 2 + k) : Int) - 48 = (dg ds k : Int) := by omega
      have hlt : m.stop + 2 + k < s.size := by omega
      clear hbk hEe hstep; go_wp2_with fail
      refine ⟨⟨k + 1, by omega, by congr 1, ?_⟩, ?_⟩
      · have := HST.out
        rw [← HEe.out] at this; rw [this]
        congr 1
        omega
      · show s.size - (((m.stop + 2 + k : Nat) : Int) + 1).toNat < s.size - (((m.stop + 2 + k : Nat) : Int)).toNat
        omega
     ·
      as_aux_lemma =>
      obtain rfl : k = ds.length := by omega
      rw [List.take_length]; obtain ⟨E, hEe⟩ : ∃ E, E = num ds := ⟨_, rfl⟩; rw [← hEe] at hE1 ⊢; have HEe := hid hEe; clear hEe; have hE0 : (0 : Int) ≤ (E : Int) := by omega
      go_wp2_with fail
      refine (trim_bare _ w.heap.size _ (HB.out.set1 _)).mono ?_
      rintro e5 w5 ⟨rfl, hB5, hK5⟩
      go_wp2_with fail
      go_ret2
      exact ⟨rfl, Kp.mono ((HKW.out.setCell (by simp) _).trans hK5) (fun k hk h => by simp at h; omega), Or.inl ⟨strip_nil.1 H0.out, hB5⟩⟩
   ·
    as_aux_lemma =>
    have k45' : ((bt s (m.stop + 1) : Int) == 45) = true := k45; have k43' : ((bt s (m.stop + 1) : Int) == 43) = false := k43; have HE : Hid (m.exp = -(num ds : Int)) := by show _ = _; unfold Num.exp; rw [HN.out]; rfl
    have hE1 : (num ds : Int) ≤ 400 := by have := HE.out; omega
    clear k45 k43; go_wp2_with fail
    refine (lower_is _ hb0 _).mono ?_
    rintro e4 w4 ⟨rfl, rfl⟩
    go_wp2_with fail
    go_loop [11, 15] (fun v11 v15 => ∃ k : Nat, k ≤ ds.length ∧ v11 = .int .i64 ((m.stop + 2 + k : Nat) : Int) ∧ v15 = .int .i64 (num (ds.take k) : Int)) (fun v11 _ => s.size - (intOf v11).toNat)
    case atStart => exact ⟨0, by omega, by congr 1, rfl⟩
    case round =>
     obtain ⟨k, hk, rfl, rfl⟩ := hrel; by_cases hkl : k < ds.length
     ·
      as_aux_lemma =>
      have hbk := HB3.out k hkl; have hdk := dg_lt HDs.out k; have hnk : num (ds.take k) < 1000 := by
       have h9 := num_lt (l := ds.take k) (fun x hx => HDs.out x (List.mem_of_mem_take hx)); rw [List.length_take] at h9; have h8 : 10 ^ min k ds.length ≤ 10 ^ 3 := Nat.pow_le_pow_right (by omega) (by omega); omega
      have hstep : num (ds.take (k + 1)) = 10 * num (ds.take k) + dg ds k := by rw [take_step hkl, num_snoc]
      have HST := hid hstep; obtain ⟨E, hEe⟩ : ∃ E, E = num (ds.take k) := ⟨_, rfl⟩; rw [← hEe] at hnk ⊢; have HEe := hid hEe; have k8 : decide ((48 : Int) ≤ (bt s (m.stop + 2 + k) : Int)) = true := by rw [decide_eq_true_eq]; omega
      have k9 : decide ((bt s (m.stop + 2 + k) : Int) ≤ 57) = true := by rw [decide_eq_true_eq]; omega
      have k10 : ((bt s (m.stop + 2 + k) : Int) != 95) = true := by rw [bne_iff_ne]; omega
      have k11 : decide ((E : Int) < 10000) = true := by rw [decide_eq_true_eq]; omega
      have hsub : (bt s (m.stop + 2 + k) : Int) - 48 = (dg ds k : Int) := by omega
      have hlt : m.stop + 2 + k < s.size := by omega
      clear hbk hEe hstep; go_wp2_with fail
      refine ⟨⟨k + 1, by omega, by congr 1, ?_⟩, ?_⟩
      · have := HST.out
        rw [← HEe.out] at this; rw [this]
        congr 1
        omega
      · show s.size - (((m.stop + 2 + k : Nat) : Int) + 1).toNat < s.size - (((m.stop + 2 + k : Nat) : Int)).toNat
        omega
     ·
      as_aux_lemma =>
      obtain rfl : k = ds.length := by omega
      rw [List.take_length]; obtain ⟨E, hEe⟩ : ∃ E, E = num ds := ⟨_, rfl⟩; rw [← hEe] at hE1 ⊢; have HEe := hid hEe; clear hEe; have hE0 : (0 : Int) ≤ (E : Int) := by omega
      go_wp2_with fail
      refine (trim_bare _ w.heap.size _ (HB.out.set1 _)).mono ?_
      rintro e5 w5 ⟨rfl, hB5, hK5⟩
      go_wp2_with fail
      go_ret2
      exact ⟨rfl, Kp.mono ((HKW.out.setCell (by simp) _).trans hK5) (fun k hk h => by simp at h; omega), Or.inl ⟨strip_nil.1 H0.out, hB5⟩⟩
 ·
  have H0 := hid h0; have HD := hid hD; have hbw := hD.lt; have hcp := hD.cap; have c0 := hD.c0; have c1 := hD.c1; have f0 := hD.fr 0; have f1 := hD.fr 1; clear h0 hD; rcases HX.out with ⟨hn, hsz2⟩ | ⟨c, sg, ds, hn, hsz2, hc, hsg, hb1, hb2, hb3, hds, hdl, hdl3⟩
  ·
   as_aux_lemma =>
   have HE : Hid (m.exp = 0) := by show _ = _; unfold Num.exp; rw [hn]
   have hsz3 : s.size ≤ m.stop := by omega
   have HSz := hid hsz2; clear hn hsz2; go_wp2_with fail
   refine (trim_is _ w.heap.size w.heap.size g cap _ _ ((HD.out.lower (by omega)).set1 _) (strip_dig HA.out.small) H0.out (Nat.le_refl _)).mono ?_
   rintro e5 w5 ⟨rfl, ds', z, hz, hD5, hd5, hn5, he5, hk5⟩
   go_wp2_with fail
   go_ret2
   refine ⟨rfl, Kp.mono ((HKW.out.setCell (by simp) _).trans hk5) (fun k hk h => by simp at h; omega), Or.inr ⟨fun h => H0.out (strip_nil.2 h), fun p q hpq => ⟨g, cap, ds', _, hD5, hd5, hn5, he5, Is.trim (read_Is (by rw [← HDd.out, HE.out, Int.add_zero]) hpq) hz, ?_, ?_, ?_⟩⟩⟩
   · have h9 := congrArg List.length hz
     have h8 := strip_len m.all; simp at h9; omega
   · omega
   · omega
  ·
   have HN := hid hn; have HB3 := hid hb3; have HDs := hid hds; have hl1 : m.stop + 2 + ds.length ≤ s.size := by omega
   have hl2 : s.size ≤ m.stop + 2 + ds.length := by omega
   have klow : (((bt s m.stop ||| 32 : Nat) : Int) == 101) = true := by
    rw [hb1]; rcases hc with rfl | rfl <;> rfl
   have hb0 := bt_lt s m.stop; have hd0 := hb3 0 hdl; have hd0l := dg_lt hds 0; rw [Nat.add_zero] at hd0; have k45 : ((bt s (m.stop + 1) : Int) == 45) = decide (sg = 45) := by rw [hb2]; rcases hsg with rfl | rfl <;> rfl
   have k43 : ((bt s (m.stop + 1) : Int) == 43) = decide (sg = 43) := by rw [hb2]; rcases hsg with rfl | rfl <;> rfl
   have k6 : decide ((bt s (m.stop + 2) : Int) < 48) = false := by rw [decide_eq_false_iff_not]; omega
   have k7 : decide ((bt s (m.stop + 2) : Int) > 57) = false := by rw [decide_eq_false_iff_not]; omega
   have HSz := hid hsz2; clear hn hb3 hds hsz2 hb1 hb2 hc hd0 hd0l; rcases hsg with rfl | rfl
   ·
    as_aux_lemma =>
    have k45' : ((bt s (m.stop + 1) : Int) == 45) = false := k45; have k43' : ((bt s (m.stop + 1) : Int) == 43) = true := k43; have HE : Hid (m.exp = (num ds : Int)) := by show _ = _; unfold Num.exp; rw [HN.out]; rfl
    have hE1 : (num ds : Int) ≤ 400 := by have := HE.out; omega
    clear k45 k43; go_wp2_with fail
    refine (lower_is _ hb0 _).mono ?_
    rintro e4 w4 ⟨rfl, rfl⟩
    go_wp2_with fail
    go_loop [11, 15] (fun v11 v15 => ∃ k : Nat, k ≤ ds.length ∧ v11 = .int .i64 ((m.stop + 2 + k : Nat) : Int) ∧ v15 = .int .i64 (num (ds.take k) : Int)) (fun v11 _ => s.size - (intOf v11).toNat)
    case atStart => exact ⟨0, by omega, by congr 1, rfl⟩
    case round =>
     obtain ⟨k, hk, rfl, rfl⟩ := hrel; by_cases hkl : k < ds.length
     ·
      as_aux_lemma =>
      have hbk := HB3.out k hkl; have hdk := dg_lt HDs.out k; have hnk : num (ds.take k) < 1000 := by
       have h9 := num_lt (l := ds.take k) (fun x hx => HDs.out x (List.mem_of_mem_take hx)); rw [List.length_take] at h9; have h8 : 10 ^ min k ds.length ≤ 10 ^ 3 := Nat.pow_le_pow_right (by omega) (by omega); omega
      have hstep : num (ds.take (k + 1)) = 10 * num (ds.take k) + dg ds k := by rw [take_step hkl, num_snoc]
      have HST := hid hstep; obtain ⟨E, hEe⟩ : ∃ E, E = num (ds.take k) := ⟨_, rfl⟩; rw [← hEe] at hnk ⊢; have HEe := hid hEe; have k8 : decide ((48 : Int) ≤ (bt s (m.stop + 2 + k) : Int)) = true := by rw [decide_eq_true_eq]; omega
      have k9 : decide ((bt s (m.stop + 2 + k) : Int) ≤ 57) = true := by rw [decide_eq_true_eq]; omega
      have k10 : ((bt s (m.stop + 2 + k) : Int) != 95) = true := by rw [bne_iff_ne]; omega
      have k11 : decide ((E : Int) < 10000) = true := by rw [decide_eq_true_eq]; omega
      have hsub : (bt s (m.stop + 2 + k) : Int) - 48 = (dg ds k : Int) := by omega
      have hlt : m.stop + 2 + k < s.size := by omega
      clear hbk hEe hstep; go_wp2_with fail
      refine ⟨⟨k + 1, by omega, by congr 1, ?_⟩, ?_⟩
      · have := HST.out
        rw [← HEe.out] at this; rw [this]
        congr 1
        omega
      · show s.size - (((m.stop + 2 + k : Nat) : Int) + 1).toNat < s.size - (((m.stop + 2 + k : Nat) : Int)).toNat
        omega
     ·
      as_aux_lemma =>
      obtain rfl : k = ds.length := by omega
      rw [List.take_length]; obtain ⟨E, hEe⟩ : ∃ E, E = num ds := ⟨_, rfl⟩; rw [← hEe] at hE1 ⊢; have HEe := hid hEe; clear hEe; have hE0 : (0 : Int) ≤ (E : Int) := by omega
      go_wp2_with fail
      refine (trim_is _ w.heap.size w.heap.size g cap _ _ ((HD.out.lower (by omega)).set1 _) (strip_dig HA.out.small) H0.out (Nat.le_refl _)).mono ?_
      rintro e5 w5 ⟨rfl, ds', z, hz, hD5, hd5, hn5, he5, hk5⟩
      go_wp2_with fail
      go_ret2
      refine ⟨rfl, Kp.mono ((HKW.out.setCell (by simp) _).trans hk5) (fun k hk h => by simp at h; omega), Or.inr ⟨fun h => H0.out (strip_nil.2 h), fun p q hpq => ⟨g, cap, ds', _, hD5, hd5, hn5, he5, Is.trim (read_Is (by rw [← HDd.out, HE.out, ← HEe.out]) hpq) hz, ?_, ?_, ?_⟩⟩⟩
      · have h9 := congrArg List.length hz
        have h8 := strip_len m.all; simp at h9; omega
      · omega
      · omega
   ·
    as_aux_lemma =>
    have k45' : ((bt s (m.stop + 1) : Int) == 45) = true := k45; have k43' : ((bt s (m.stop + 1) : Int) == 43) = false := k43; have HE : Hid (m.exp = -(num ds : Int)) := by show _ = _; unfold Num.exp; rw [HN.out]; rfl
    have hE1 : (num ds : Int) ≤ 400 := by have := HE.out; omega
    clear k45 k43; go_wp2_with fail
    refine (lower_is _ hb0 _).mono ?_
    rintro e4 w4 ⟨rfl, rfl⟩
    go_wp2_with fail
    go_loop [11, 15] (fun v11 v15 => ∃ k : Nat, k ≤ ds.length ∧ v11 = .int .i64 ((m.stop + 2 + k : Nat) : Int) ∧ v15 = .int .i64 (num (ds.take k) : Int)) (fun v11 _ => s.size - (intOf v11).toNat)
    case atStart => exact ⟨0, by omega, by congr 1, rfl⟩
    case round =>
     obtain ⟨k, hk, rfl, rfl⟩ := hrel; by_cases hkl : k < ds.length
     ·
      as_aux_lemma =>
      have hbk := HB3.out k hkl; have hdk := dg_lt HDs.out k; have hnk : num (ds.take k) < 1000 := by
       have h9 := num_lt (l := ds.take k) (fun x hx => HDs.out x (List.mem_of_mem_take hx)); rw [List.length_take] at h9; have h8 : 10 ^ min k ds.length ≤ 10 ^ 3 := Nat.pow_le_pow_right (by omega) (by omega); omega
      have hstep : num (ds.take (k + 1)) = 10 * num (ds.take k) + dg ds k := by rw [take_step hkl, num_snoc]
      have HST := hid hstep; obtain ⟨E, hEe⟩ : ∃ E, E = num (ds.take k) := ⟨_, rfl⟩; rw [← hEe] at hnk ⊢; have HEe := hid hEe; have k8 : decide ((48 : Int) ≤ (bt s (m.stop + 2 + k) : Int)) = true := by rw [decide_eq_true_eq]; omega
      have k9 : decide ((bt s (m.stop + 2 + k) : Int) ≤ 57) = true := by rw [decide_eq_true_eq]; omega
      have k10 : ((bt s (m.stop + 2 + k) : Int) != 95) = true := by rw [bne_iff_ne]; omega
      have k11 : decide ((E : Int) < 10000) = true := by rw [decide_eq_true_eq]; omega
      have hsub : (bt s (m.stop + 2 + k) : Int) - 48 = (dg ds k : Int) := by omega
      have hlt : m.stop + 2 + k < s.size := by omega
      clear hbk hEe hstep; go_wp2_with fail
      refine ⟨⟨k + 1, by omega, by congr 1, ?_⟩, ?_⟩
      · have := HST.out
        rw [← HEe.out] at this; rw [this]
        congr 1
        omega
      · show s.size - (((m.stop + 2 + k : Nat) : Int) + 1).toNat < s.size - (((m.stop + 2 + k : Nat) : Int)).toNat
        omega
     ·
      as_aux_lemma =>
      obtain rfl : k = ds.length := by omega
      rw [List.take_length]; obtain ⟨E, hEe⟩ : ∃ E, E = num ds := ⟨_, rfl⟩; rw [← hEe] at hE1 ⊢; have HEe := hid hEe; clear hEe; have hE0 : (0 : Int) ≤ (E : Int) := by omega
      go_wp2_with fail
      refine (trim_is _ w.heap.size w.heap.size g cap _ _ ((HD.out.lower (by omega)).set1 _) (strip_dig HA.out.small) H0.out (Nat.le_refl _)).mono ?_
      rintro e5 w5 ⟨rfl, ds', z, hz, hD5, hd5, hn5, he5, hk5⟩
      go_wp2_with fail
      go_ret2
      refine ⟨rfl, Kp.mono ((HKW.out.setCell (by simp) _).trans hk5) (fun k hk h => by simp at h; omega), Or.inr ⟨fun h => H0.out (strip_nil.2 h), fun p q hpq => ⟨g, cap, ds', _, hD5, hd5, hn5, he5, Is.trim (read_Is (by rw [← HDd.out, HE.out, ← HEe.out]) hpq) hz, ?_, ?_, ?_⟩⟩⟩
      · have h9 := congrArg List.length hz
        have h8 := strip_len m.all; simp at h9; omega
      · omega
      · omega
end
section
open Go.RowKit
structure FltIs (N M : Nat) (E : Int) (r : Nat) : Prop where
 lo : M ≤ N * 10 ^ 330
 hi : N < M * 10 ^ 310
 e1 : -1022 ≤ E
 e2 : E ≤ 1023
 rn : ∃ x y : Nat, (x : Int) - y = 52 - E ∧ r = rne (N * 2 ^ x) (M * 2 ^ y) ∧ N * 2 ^ x < M * 2 ^ (y + 53) ∧ (E = -1022 ∨ M * 2 ^ (y + 52) ≤ N * 2 ^ x) ∧ M * 2 ^ y ≤ N * 2 ^ (x + 1)
 ov : E < 1023 ∨ r < 2 ^ 53
theorem FltIs.le {N M r : Nat} {E : Int} (h : FltIs N M E r) (hM : 0 < M) : r ≤ 9007199254740992 := by
 obtain ⟨x, y, _, hr, hu, _, _⟩ := h.rn; have h9 := rne_le (N := N * 2 ^ x) (M := M * 2 ^ y) (T := 2 ^ 53) (Nat.mul_pos hM (pow2_pos _)) (by rw [Nat.mul_assoc, ← Nat.pow_add]; exact hu); rw [← hr] at h9; omega
theorem FltIs.small {N M r : Nat} {E : Int} (h : FltIs N M E r) (hM : 0 < M) : r + (E + 1022).toNat * 2 ^ 52 < 9223372036854775808 := by
 have h1 := h.le hM; have h2 := h.e2; have h3 := h.ov; obtain ⟨z, hz⟩ : ∃ z : Nat, z = (E + 1022).toNat := ⟨_, rfl⟩; rw [← hz]; rcases h3 with h3 | h3
 · have : z ≤ 2044 := by omega
   omega
 · have : z ≤ 2045 := by omega
   omega
def NumOk (m : Num) (u : Nat) : Prop :=
 (num m.all = 0 ∧ u = 0) ∨ (num m.all ≠ 0 ∧ ∃ (p q : Nat) (E : Int) (r : Nat), (p : Int) - q = m.exp - m.fp.length ∧ FltIs (num m.all * 10 ^ p) (10 ^ q) E r ∧ u = r + (E + 1022).toNat * 2 ^ 52)
def numSem : NumSem := fun m f => m.all.length ≤ 500 ∧ -400 ≤ m.exp ∧ m.exp ≤ 400 ∧ (∀ c sg ds, m.ex = some (c, sg, ds) → ds.length ≤ 3) ∧
 ∃ u, NumOk m u ∧ f = u + (if m.neg then 9223372036854775808 else 0)
theorem NumOk.small {m : Num} {u : Nat} (h : NumOk m u) : u < 9223372036854775808 := by
 rcases h with ⟨_, rfl⟩ | ⟨_, p, q, E, r, _, h, rfl⟩
 · omega
 · exact h.small (pow10_pos q)
def Num.body (m : Num) : List Nat := digs m.ip ++ (if m.fp = [] then [] else 46 :: digs m.fp) ++ (match m.ex with | none => [] | some (c, sg, ds) => c :: sg :: digs ds)
theorem text_body (m : Num) : m.text = (if m.neg then [45] else []) ++ m.body := by
 obtain ⟨neg, ip, fp, ex⟩ := m
 cases ex <;> simp [Num.text, Num.body, List.append_assoc]
theorem digs_val {g : Nat → Nat} {i : Nat} {l : List Nat} (h : At g i (digs l)) : ∀ k, k < l.length → g (i + k) = 48 + dg l k := by
 intro k hk; rw [h k (by simp [digs]; omega)]; simp only [digs, List.getD_eq_getElem?_getD, List.getElem?_map, List.getElem?_eq_getElem hk, Option.map_some, Option.getD_some, dg]
theorem dg_left {a b : List Nat} {k : Nat} (h : k < a.length) : dg (a ++ b) k = dg a k := by
 unfold dg; rw [List.getD_eq_getElem?_getD, List.getD_eq_getElem?_getD, List.getElem?_append_left h]
theorem dg_right {a b : List Nat} {k : Nat} : dg (a ++ b) (a.length + k) = dg b k := by
 unfold dg; rw [List.getD_eq_getElem?_getD, List.getD_eq_getElem?_getD, List.getElem?_append_right (by omega)]
 congr 2
 omega
theorem body_at {s : ByteArray} {m : Num} (hm : m.Ok) (h : At (bt s) 0 m.body) (hs : s.size = m.body.length) (h3 : ∀ c sg ds, m.ex = some (c, sg, ds) → ds.length ≤ 3) : NumAt s m ∧ ExAt s m := by
 obtain ⟨hip, hfp, hne, hlead, hex⟩ := hm; unfold Num.body at h hs; rw [At_append, At_append] at h; obtain ⟨⟨h1, h2⟩, h4⟩ := h; have v1 := digs_val h1; simp only [List.length_append, digs_len, Nat.zero_add] at h2 h4 hs v1; have hlen : m.ip.length + (if m.fp = [] then [] else 46 :: digs m.fp).length = m.stop := by
  rw [hst_of]; by_cases hf : m.fp = []
  · rw [if_pos hf, hf]; simp
  · have : 0 < m.fp.length := List.length_pos_iff.2 hf
    rw [if_neg hf, if_neg (by omega)]; simp [digs]
 rw [hlen] at h4 hs; refine ⟨⟨fun k hk => ?_, fun hf => ?_, fun k hk => ?_, ?_, List.length_pos_iff.2 hne⟩, ?_⟩
 · rw [v1 k hk, Num.all, dg_left hk]
 · have hf' : m.fp ≠ [] := List.length_pos_iff.1 hf
   rw [if_neg hf', At_cons] at h2; exact h2.1
 · have hf' : m.fp ≠ [] := by rintro e; rw [e] at hk; simp at hk
   rw [if_neg hf', At_cons] at h2; rw [digs_val h2.2 k hk, Num.all, dg_right]
 ·
  intro d hd; rw [Num.all, List.mem_append] at hd; rcases hd with hd | hd
  · exact hip d hd
  · exact hfp d hd
 ·
  cases hx : m.ex with
  | none =>
   rw [hx] at hs; exact Or.inl ⟨hx, by simpa using hs⟩
  | some t =>
   obtain ⟨c, sg, ds⟩ := t; obtain ⟨q1, q2, q3, q4⟩ := hex c sg ds hx; rw [hx] at hs h4; simp only [At_cons] at h4; obtain ⟨r1, r2, r3⟩ := h4; exact Or.inr ⟨c, sg, ds, hx, by simp [digs] at hs; omega, q1, q2, r1, r2, digs_val r3, q4, List.length_pos_iff.2 q3, h3 c sg ds hx⟩
theorem no_hex {s : ByteArray} {m : Num} (hm : m.Ok) (hA : NumAt s m) (hX : ExAt s m) : 2 ≤ s.size → bt s 0 = 48 → bt s 1 ||| 32 ≠ 120 := by
 intro h2 h0; have hl := hm.2.2.2.1; have hp := hA.pos; have h00 := hA.ip 0 hp; have hone : m.ip.length = 1 := by
  rcases hl with hl | hl
  · exact hl
  ·
   exfalso
   cases hq : m.ip with
   | nil => rw [hq] at hp; simp at hp
   | cons a r =>
    rw [hq] at hl; have e : dg m.all 0 = a := by unfold Num.all; rw [hq]; rfl
    simp at hl; omega
 by_cases hf : 0 < m.fp.length
 · have := hA.pt hf
   rw [hone] at this; rw [this]; decide
 · have hst : m.stop = 1 := by rw [hst_of, if_pos (by omega), hone]
   have := hX.at (by omega); rw [hst] at this; rcases this with e | e <;> rw [e] <;> decide
theorem body_signs {s : ByteArray} {m : Num} (hm : m.Ok) (hA : NumAt s m) (hX : ExAt s m) : ∀ k, k < s.size → bt s k ≠ 95 := by
 intro k hk; have hal := all_len m; have hst := hst_of m; by_cases h1 : k < m.ip.length
 · have := hA.ip k h1
   have := dg_lt hA.small k; omega
 by_cases h2 : k < m.stop
 ·
  by_cases hf : m.fp.length = 0
  · rw [if_pos hf] at hst; omega
  ·
   rw [if_neg hf] at hst; by_cases h3 : k = m.ip.length
   · have := hA.pt (by omega)
     rw [h3, this]; decide
   · have := hA.fp (k - m.ip.length - 1) (by omega)
     rw [show m.ip.length + 1 + (k - m.ip.length - 1) = k from by omega] at this; have := dg_lt hA.small (m.ip.length + (k - m.ip.length - 1)); omega
 ·
  rcases hX with ⟨_, h⟩ | ⟨c, sg, ds, _, hz, hc, hsg, b1, b2, b3, hds, _, _⟩
  · omega
  ·
   by_cases e1 : k = m.stop
   · rw [e1, b1]; omega
   · by_cases e2 : k = m.stop + 1
     · rw [e2, b2]; omega
     · have := b3 (k - m.stop - 2) (by omega)
       rw [show m.stop + 2 + (k - m.stop - 2) = k from by omega] at this; have := dg_lt hds (k - m.stop - 2); omega
end
end Go.Proofs.YtljaoopfomcaoaaGreatDoor
