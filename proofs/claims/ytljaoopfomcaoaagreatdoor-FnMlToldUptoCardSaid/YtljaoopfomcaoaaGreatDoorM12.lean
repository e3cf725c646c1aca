import Derived.Lib.AppendStr
import Derived.Lib.OthersKept
import Derived.Test.YtljaoopfomcaoaaGreatDoorM10
import Derived.Test.YtljaoopfomcaoaaGreatDoorM11
set_option linter.all false
open Go.Lib (hid)
namespace Go.Proofs.YtljaoopfomcaoaaGreatDoor
section
open Go.RowKit
theorem strCells_of (s : ByteArray) : Lib.strCells s = cellsOf (bytesOf s) := by
 unfold Lib.strCells cellsOf bytesOf; rw [List.map_map]; rfl
theorem byteCells_of (l : List UInt8) : Lib.byteCells l = cellsOf (l.map UInt8.toNat) := by
 unfold Lib.byteCells cellsOf; rw [List.map_map]; rfl
theorem wp_out_str {w : World} {ops : Array Oper} {rest : List Oper} {o : Oper} {a : Act} {Q : Exit → Act → World → Prop} (hgd : o.guard = none) (s x : Operand)
  (ho : o.op = .call { callee := .builtin .append, args := #[s, x], argTypes := #[27, 9] }) (w0 : World) (S : List Nat) (v : Value) (l : List Nat) (hs : a.eval s = v)
  (hO : Out w0 S w v l) (t : ByteArray) (hx : a.eval x = .string t) (hl : l.length ≤ 1000000000) (ht : t.size ≤ 1000000000)
  (h : ∀ v' w', Out w0 S w' v' (l ++ bytesOf t) → Kt w w' → Kp S w0 w' → wpList Tryz.prog ops Q rest (a.put o.dst v') w') : wpList Tryz.prog ops Q (o :: rest) a w := by
 obtain ⟨i0, hi, hz0, hz1, hz2⟩ := info_parts info5; have hown := hO.own; have hk := hO.kp; have hrow : ∀ k, v.ownBlock = some k → w0.heap.size ≤ k := fun k hk' => (hown.lt k hk').1
 refine Lib.wpList_append_own_string w hgd s x 27 9 ho w0.heap.size 5 i0 Tryz.underlying27 Tryz.underlying9 hi hz0 hz1 hz2 v l.length (cellsOf l) hs hown t hx ?_ ?_ hk.size ?_
 · unfold maxLen; omega
 · omega
 ·
  intro v' w' h1 h2 _; refine h v' w' ⟨?_, hk.grown h2 hrow⟩ (Kt.grown hown h2) (hk.grown h2 hrow); have e : (bytesOf t).length = t.size := by simp [bytesOf]
  rw [List.length_append, cellsOf_append, e, ← strCells_of]; exact h1
end
section
open Go.RowKit
structure PkAt (w : World) (b : Nat) (p : Option Addr) (n cap k : Nat) : Prop where
 blk : w.heap[b]? = some (.cells #[.slice p n cap, .int .i64 k] 47 (0, 0))
 row : ∀ i, i < n → ∃ (g o y : Nat), p = some ⟨g, o, none⟩ ∧ g ≠ b ∧ y < 256 ∧ w.cell? ⟨g, o + i, none⟩ = some (.int .u8 y)
 nl : n ≤ 1000000000
 ncap : n ≤ cap
 kn : k ≤ n
theorem PkAt.c0 {w : World} {b n cap k : Nat} {p : Option Addr} (h : PkAt w b p n cap k) : w.cell? ⟨b, 0, none⟩ = some (.slice p n cap) := by simp [World.cell?, h.blk]
theorem PkAt.c1 {w : World} {b n cap k : Nat} {p : Option Addr} (h : PkAt w b p n cap k) : w.cell? ⟨b, 1, none⟩ = some (.int .i64 k) := by simp [World.cell?, h.blk]
theorem PkAt.fr {w : World} {b n cap k : Nat} {p : Option Addr} (h : PkAt w b p n cap k) (o : Nat) : w.frozen? ⟨b, o, none⟩ = false := by simp [World.frozen?, h.blk]
theorem PkAt.hp {w w' : World} {b n cap k : Nat} {p : Option Addr} (h : PkAt w b p n cap k) (e : w'.heap = w.heap) : PkAt w' b p n cap k :=
 ⟨by rw [e]; exact h.blk, fun i hi => by
  obtain ⟨g, o, y, h1, h2, h3, h4⟩ := h.row i hi; exact ⟨g, o, y, h1, h2, h3, by rw [World.cell?_of_block (w := w) (by rw [e])]; exact h4⟩, h.nl, h.ncap, h.kn⟩
theorem PkAt.step {w : World} {b n cap k : Nat} {p : Option Addr} (h : PkAt w b p n cap k) (hk : k < n) : PkAt (w.setCell ⟨b, 1, none⟩ (.int .i64 ((k : Int) + 1))) b p n cap (k + 1) := by
 refine ⟨blk_setCell h.blk _, fun i hi => ?_, h.nl, h.ncap, hk⟩; obtain ⟨g, o, y, h1, h2, h3, h4⟩ := h.row i hi; exact ⟨g, o, y, h1, h2, h3, by rw [World.cell?_of_block (w := w) (Below.heap_setCell _ _ _ _ h2)]; exact h4⟩
set_option maxRecDepth 100000 in
set_option maxHeartbeats 2000000 in
theorem pick_is (w : World) (b n cap k q : Nat) (p : Option Addr) (h : PkAt w b p n cap k) (hq : 1 ≤ q) (hq2 : q ≤ 1000) :
  Calls Tryz.prog 19 #[.pointer (some ⟨b, 0, none⟩), .int .i64 q] w fun e w' => ∃ r k' : Nat, e = .returned (.int .i64 r) ∧ r < q ∧ PkAt w' b p n cap k' ∧ Kp [b] w w' := by
 have H := hid h; have c0 := h.c0; have c1 := h.c1; have f0 := h.fr 0; have f1 := h.fr 1; have hnl := h.nl; have hkn := h.kn; have hcap := h.ncap; have hbw := lt_of_block h.blk; by_cases hlt : k < n
 ·
  obtain ⟨g, o, y, hp, hg, hy, hc⟩ := h.row k hlt; subst hp; have k1 : decide ((k : Int) ≥ (n : Int)) = false := by rw [decide_eq_false_iff_not]; omega
  have k2 : decide ((q : Int) < 1) = false := by rw [decide_eq_false_iff_not]; omega
  clear h; go_enter Tryz.func19, Tryz.ntmps19
  go_upto_region 1 with fail
  go_quiet (fail)
  generalize hw1 : w.drewN nq = w1; have H1 : Hid (PkAt w1 b (some ⟨g, o, none⟩) n cap k) := by rw [← hw1]; exact H.out.hp rfl
  have HK1 : Hid (Kp [b] w w1) := by rw [← hw1]; exact (Kp.refl _ _).drewN _
  clear c0 c1 f0 f1 hc hw1; have c0 := H1.out.c0; have c1 := H1.out.c1; have f0 := H1.out.fr 0; have f1 := H1.out.fr 1; go_upto_region 4 with fail
  have hH2 := H1.out.step hlt; have hK2 : Kp [b] w (w1.setCell ⟨b, 1, none⟩ (.int .i64 ((k : Int) + 1))) := HK1.out.setCell (by simp) _; generalize hw2 : w1.setCell ⟨b, 1, none⟩ (.int .i64 ((k : Int) + 1)) = w2 at *; have H2 := hid hH2; have HK2 := hid hK2; clear c0 c1 f0 f1 hH2 hK2 hw2; have c0 := H2.out.c0; have c1 := H2.out.c1; obtain ⟨g', o', y', hp', hg', hy', hc⟩ := H2.out.row k hlt
  injection hp' with hp'
  injection hp' with e1 e2
  subst e1 e2; have hq0 : ((q : Int) == 0) = false := by rw [beq_eq_false_iff_ne]; omega
  have hmod : (y' : Int) % (q : Int) = ((y' % q : Nat) : Int) := by push_cast; rfl
  have hml : y' % q < q := Nat.mod_lt _ (by omega); have HMod := hid hmod; have HMl := hid hml; clear hmod hml; go_quiet (fail)
  go_wp2_with fail
  go_ret; refine ⟨y' % q, ?_, HMl.out, ⟨k + 1, H2.out.hp rfl⟩, HK2.out.drewN _⟩
  show Ending.returned (Value.int .i64 ((y' : Int) % (q : Int))) = _
  rw [HMod.out]
 ·
  have k1 : decide ((k : Int) ≥ (n : Int)) = true := by rw [decide_eq_true_eq]; omega
  clear h; go_enter Tryz.func19, Tryz.ntmps19
  go_upto_region 1 with fail
  go_quiet (fail)
  go_wp2_with fail
  go_ret; exact ⟨0, k, rfl, by omega, H.out.hp rfl, (Kp.refl _ _).drewN _⟩
end
section
open Go.RowKit
def Kx (S : List Nat) (w w' : World) : Prop := ∀ (b : Nat) (o : Obj), w.heap[b]? = some o → b ∉ S → (∀ c f, o ≠ Obj.cells c 5 f) → w'.heap[b]? = some o
theorem Kx.refl (S : List Nat) (w : World) : Kx S w w := fun _ _ h _ _ => h
theorem Kx.trans {S : List Nat} {a b c : World} (h : Kx S a b) (k : Kx S b c) : Kx S a c := fun x o hx hs ho => k x o (h x o hx hs ho) hs ho
theorem Kx.hp {S : List Nat} {a w w' : World} (h : Kx S a w) (e : w'.heap = w.heap) : Kx S a w' := fun x o hx hs ho => by rw [e]; exact h x o hx hs ho
theorem Kx.drewN {S : List Nat} {a w : World} (h : Kx S a w) (q : Nat) : Kx S a (w.drewN q) := h.hp rfl
theorem Kx.drew {S : List Nat} {a w : World} (h : Kx S a w) : Kx S a w.drew := h.hp rfl
theorem Kx.alloc {S : List Nat} {a w : World} (h : Kx S a w) (x : Obj) : Kx S a (w.alloc x) := fun b o hb hs ho => by
 have := h b o hb hs ho; rw [Below.heap_alloc _ _ _ (lt_of_block this)]; exact this
theorem Kx.setCell {S : List Nat} {a w : World} (h : Kx S a w) {p : Addr} (hp : p.block ∈ S) (v : Value) : Kx S a (w.setCell p v) := fun b o hb hs ho => by
 rw [Below.heap_setCell _ _ _ _ (by rintro rfl; exact hs hp)]; exact h b o hb hs ho
theorem Kx.kt {S : List Nat} {a w w' : World} (h : Kx S a w) (k : Kt w w') : Kx S a w' := fun b o hb hs ho => k b o (h b o hb hs ho) ho
theorem Kx.kp {S T : List Nat} {a w w' : World} (h : Kx S a w) (k : Kp T w w') (hs : ∀ x ∈ T, x ∈ S) : Kx S a w' := fun b o hb hn ho => by
 have := h b o hb hn ho; rw [k.block b (lt_of_block this) (fun c => hn (hs b c))]; exact this
theorem Kx.iterAt {S : List Nat} {a w : World} (h : Kx S a w) {k : Nat} (hk : a.heap.size ≤ k) (s : ByteArray) (pos : Nat) : Kx S a (w.iterAt k s pos) := fun b o hb hs ho => by
 rw [Lib.iterAt_other _ _ _ _ _ (fun e => by have := lt_of_block hb; omega)]; exact h b o hb hs ho
structure PenM (w0 w : World) (pw pb : Nat) (v0 v : Value) (l : List Nat) : Prop where
 pen : w.heap[pw]? = some (.cells #[.pointer (some ⟨pb, 0, none⟩), v0] 49 (0, 0))
 out : Out w0 [] w v l
 pk : ∃ (p : Option Addr) (n cap k : Nat), PkAt w pb p n cap k ∧ ∀ g o, 0 < n → p = some ⟨g, o, none⟩ → g < w0.heap.size
 hw : w0.heap.size ≤ pw
 hb : w0.heap.size ≤ pb
 ne : pw ≠ pb
abbrev PenAt (w0 w : World) (pw pb : Nat) (v : Value) (l : List Nat) : Prop := PenM w0 w pw pb v v l
section
variable {w0 w : World} {pw pb : Nat} {v0 v : Value} {l : List Nat}
theorem PenM.c0 (h : PenM w0 w pw pb v0 v l) : w.cell? ⟨pw, 0, none⟩ = some (.pointer (some ⟨pb, 0, none⟩)) := by simp [World.cell?, h.pen]
theorem PenM.c1 (h : PenM w0 w pw pb v0 v l) : w.cell? ⟨pw, 1, none⟩ = some v0 := by simp [World.cell?, h.pen]
theorem PenM.lt (h : PenM w0 w pw pb v0 v l) : pw < w.heap.size := lt_of_block h.pen
theorem PenM.ltb (h : PenM w0 w pw pb v0 v l) : pb < w.heap.size := by
 obtain ⟨p, n, cap, k, h1, _⟩ := h.pk; exact lt_of_block h1.blk
theorem PenM.fr (h : PenM w0 w pw pb v0 v l) (o : Nat) : w.frozen? ⟨pw, o, none⟩ = false := by simp [World.frozen?, h.pen]
theorem PkAt.alloc {w : World} {b n cap k : Nat} {p : Option Addr} (h : PkAt w b p n cap k) (x : Obj) : PkAt (w.alloc x) b p n cap k :=
 ⟨by rw [Below.heap_alloc _ _ _ (lt_of_block h.blk)]; exact h.blk, fun i hi => by
  obtain ⟨g, o, y, h1, h2, h3, h4⟩ := h.row i hi; have hg : g < w.heap.size := by
   rcases Nat.lt_or_ge g w.heap.size with h' | h'
   · exact h'
   · simp [World.cell?, Array.getElem?_eq_none h'] at h4
  exact ⟨g, o, y, h1, h2, h3, by rw [World.cell?_of_block (w := w) (Below.heap_alloc _ _ _ hg)]; exact h4⟩, h.nl, h.ncap, h.kn⟩
theorem PkAt.move {w0 w w' : World} {b n cap k : Nat} {p : Option Addr} (h : PkAt w b p n cap k) (hp : ∀ g o, 0 < n → p = some ⟨g, o, none⟩ → g < w0.heap.size) (hb : w'.heap[b]? = w.heap[b]?) (h1 : Kp [] w0 w) (h2 : Kp [] w0 w') : PkAt w' b p n cap k :=
 ⟨by rw [hb]; exact h.blk, fun i hi => by
  obtain ⟨g, o, y, q1, q2, q3, q4⟩ := h.row i hi; have hg := hp g o (by omega) q1; exact ⟨g, o, y, q1, q2, q3, by rw [World.cell?_of_block (w := w) (by rw [h2.block g hg (by simp), h1.block g hg (by simp)])]; exact q4⟩, h.nl, h.ncap, h.kn⟩
theorem PenM.alloc (h : PenM w0 w pw pb v0 v l) (x : Obj) : PenM w0 (w.alloc x) pw pb v0 v l := by
 obtain ⟨p, n, cap, k, h1, h2⟩ := h.pk; exact ⟨by rw [Below.heap_alloc _ _ _ (lt_of_block h.pen)]; exact h.pen, h.out.alloc x, ⟨p, n, cap, k, h1.alloc x, h2⟩, h.hw, h.hb, h.ne⟩
theorem PenM.drewN (h : PenM w0 w pw pb v0 v l) (q : Nat) : PenM w0 (w.drewN q) pw pb v0 v l := by
 obtain ⟨p, n, cap, k, h1, h2⟩ := h.pk; exact ⟨h.pen, h.out.drewN q, ⟨p, n, cap, k, h1.hp rfl, h2⟩, h.hw, h.hb, h.ne⟩
theorem PenM.drew (h : PenM w0 w pw pb v0 v l) : PenM w0 w.drew pw pb v0 v l := by
 obtain ⟨p, n, cap, k, h1, h2⟩ := h.pk; exact ⟨h.pen, ⟨own_hp h.out.own rfl, h.out.kp.drew⟩, ⟨p, n, cap, k, h1.hp rfl, h2⟩, h.hw, h.hb, h.ne⟩
theorem PenM.iterAt (h : PenM w0 w pw pb v0 v l) {k : Nat} {s : ByteArray} {pos : Nat} (hk : w.heap[k]? = some (.stringIter s pos)) (pos' : Nat) (hw : w0.heap.size ≤ k) : PenM w0 (w.iterAt k s pos') pw pb v0 v l := by
 obtain ⟨p, n, cap, q, h1, h2⟩ := h.pk; have oth : ∀ b o, w.heap[b]? = some o → (∀ (s : ByteArray) (pos : Nat), o ≠ Obj.stringIter s pos) → (w.iterAt k s pos').heap[b]? = some o := fun b o hb ho => by
  rw [Lib.iterAt_other _ _ _ _ _ (fun e => by subst e; rw [hk] at hb; injection hb with hb; exact ho _ _ hb.symm)]; exact hb
 have hkp : Kp [] w0 (w.iterAt k s pos') := ⟨h.out.kp.os, h.out.kp.tape, h.out.kp.output, by rw [Lib.iterAt_size]; exact h.out.kp.size, fun b hb hs => by
  rw [Lib.iterAt_other _ _ _ _ _ (fun e => by omega)]; exact h.out.kp.block b hb hs⟩
 refine ⟨oth _ _ h.pen (fun _ _ e => by cases e), ⟨?_, hkp⟩, ⟨p, n, cap, q, h1.move h2 ?_ h.out.kp hkp, h2⟩, h.hw, h.hb, h.ne⟩
 ·
  obtain ⟨a1, a2⟩ := h.out.own; refine ⟨a1, ?_⟩; rcases a2 with a2 | ⟨g, cap, cur, hv, hg, hh, r⟩
  · exact Or.inl a2
  · exact Or.inr ⟨g, cap, cur, hv, hg, oth _ _ hh (fun _ _ e => by cases e), r⟩
 · rw [oth _ _ h1.blk (fun _ _ e => by cases e), h1.blk]
theorem Out.form {w0 w : World} {S : List Nat} {v : Value} {l : List Nat} (h : Out w0 S w v l) : ∃ (p : Option Addr) (n c : Nat), v = .slice p n c := by
 rcases h.own.2 with ⟨rfl, _⟩ | ⟨g, cap, cur, rfl, _⟩
 · exact ⟨none, 0, 0, rfl⟩
 · exact ⟨_, _, _, rfl⟩
theorem PenM.grow {w' : World} {v' : Value} {l' : List Nat} (h : PenM w0 w pw pb v0 v l) (hk : Kt w w') (ho : Out w0 [] w' v' l') : PenM w0 w' pw pb v0 v' l' := by
 obtain ⟨p, n, cap, k, h1, h2⟩ := h.pk; have hb := hk pb _ h1.blk (fun c f e => by injection e with _ e _; exact absurd e (by decide)); exact ⟨hk pw _ h.pen (fun c f e => by injection e with _ e _; exact absurd e (by decide)), ho,
  ⟨p, n, cap, k, h1.move h2 (by rw [hb, h1.blk]) h.out.kp ho.kp, h2⟩, h.hw, h.hb, h.ne⟩
theorem PenM.store (h : PenM w0 w pw pb v0 v l) : PenM w0 (w.setCell ⟨pw, 1, none⟩ v) pw pb v v l := by
 obtain ⟨p, n, cap, k, h1, h2⟩ := h.pk; have hne : v.ownBlock ≠ some pw := own_not h.out.own h.pen (fun c f e => by injection e with _ e _; exact absurd e (by decide)); have hkp : Kp [] w0 (w.setCell ⟨pw, 1, none⟩ v) := h.out.kp.setCell (Or.inr h.hw) _; exact ⟨blk_setCell h.pen _, ⟨ownsRow_setCell_other h.out.own (a := ⟨pw, 1, none⟩) hne _, hkp⟩,
  ⟨p, n, cap, k, h1.move h2 (Below.heap_setCell _ _ _ _ (fun e => h.ne e.symm)) h.out.kp hkp, h2⟩, h.hw, h.hb, h.ne⟩
theorem PenM.picked {w' : World} {p : Option Addr} {n cap k : Nat} (h : PenM w0 w pw pb v0 v l) (hp : ∀ g o, 0 < n → p = some ⟨g, o, none⟩ → g < w0.heap.size) (hk : PkAt w' pb p n cap k) (hK : Kp [pb] w w') : PenM w0 w' pw pb v0 v l := by
 have hkp : Kp [] w0 w' := h.out.kp.over hK (fun x hx => by simp at hx; subst hx; exact h.hb); refine ⟨by rw [hK.block pw (lt_of_block h.pen) (by simp; exact h.ne)]; exact h.pen, ⟨?_, hkp⟩, ⟨p, n, cap, k, hk, hp⟩, h.hw, h.hb, h.ne⟩; obtain ⟨p', n', cap', k', h1, h2⟩ := h.pk; have hne : v.ownBlock ≠ some pb := own_not h.out.own h1.blk (fun c f e => by injection e with _ e _; exact absurd e (by decide)); obtain ⟨a1, a2⟩ := h.out.own; refine ⟨a1, ?_⟩; rcases a2 with a2 | ⟨g, cap, cur, hv, hg, hh, r⟩
 · exact Or.inl a2
 ·
  refine Or.inr ⟨g, cap, cur, hv, hg, ?_, r⟩; rw [hK.block g (lt_of_block hh) (by
   simp
   rintro rfl
   exact hne (by rw [hv]; rfl))]
  exact hh
end
theorem pick_int (w : World) (b n cap k q : Nat) (p : Option Addr) (x : Int) (hx : x = (q : Int)) (h : PkAt w b p n cap k) (hq : 1 ≤ q) (hq2 : q ≤ 1000) :
  Calls Tryz.prog 19 #[.pointer (some ⟨b, 0, none⟩), .int .i64 x] w fun e w' => ∃ r k' : Nat, e = .returned (.int .i64 r) ∧ r < q ∧ PkAt w' b p n cap k' ∧ Kp [b] w w' := by subst hx; exact pick_is w b n cap k q p h hq hq2
theorem pen_pick (w0 w : World) (pw pb : Nat) (v0 v : Value) (l : List Nat) (q : Nat) (x : Int) (hx : x = (q : Int)) (hq : 1 ≤ q) (hq2 : q ≤ 1000) (h : PenM w0 w pw pb v0 v l) :
  Calls Tryz.prog 19 #[.pointer (some ⟨pb, 0, none⟩), .int .i64 x] w fun e w' => ∃ r : Nat, e = .returned (.int .i64 r) ∧ r < q ∧ PenM w0 w' pw pb v0 v l ∧ Kp [pb] w w' := by
 obtain ⟨p, n, cap, k, h1, h2⟩ := h.pk; refine (pick_int w pb n cap k q p x hx h1 hq hq2).mono ?_
 rintro e w' ⟨r, k', rfl, hr, hp, hK⟩
 exact ⟨r, rfl, hr, h.picked h2 hp hK, hK⟩
section
variable {w : World} {ops : Array Oper} {rest : List Oper} {o : Oper} {a : Act} {Q : Exit → Act → World → Prop}
theorem wp_pen_int (hgd : o.guard = none) (s x : Operand) (ho : o.op = .call { callee := .builtin .append, args := #[s, x], argTypes := #[27, 27] }) (w0 b : World) (pw pb : Nat) (v0 v : Value) (l : List Nat) (hs : a.eval s = v)
  (hP : PenM w0 w pw pb v0 v l) (hK : Kx [pw, pb] b w) (ad : Addr) (c : Nat) (y : Int) (hx : a.eval x = .slice (some ad) 1 c) (hc : w.cell? ad = some (.int .u8 y)) (hy : 0 ≤ y)
  (hl : l.length ≤ 1000000000)
  (h : ∀ (p' : Option Addr) (n' c' : Nat) w', PenM w0 w' pw pb v0 (.slice p' n' c') (l ++ [y.toNat]) → Kx [pw, pb] b w' → wpList Tryz.prog ops Q rest (a.put o.dst (.slice p' n' c')) w') : wpList Tryz.prog ops Q (o :: rest) a w :=
 wp_out_int hgd s x ho w0 [] v l hs hP.out ad c y hx hc hy hl (fun v' w' hO hKt _ => by
  obtain ⟨p', n', c', rfl⟩ := hO.form; exact h p' n' c' w' (hP.grow hKt hO) (hK.kt hKt))
theorem wp_pen_two (hgd : o.guard = none) (s x : Operand) (ho : o.op = .call { callee := .builtin .append, args := #[s, x], argTypes := #[27, 27] }) (w0 b : World) (pw pb : Nat) (v0 v : Value) (l : List Nat) (hs : a.eval s = v)
  (hP : PenM w0 w pw pb v0 v l) (hK : Kx [pw, pb] b w) (bb c : Nat) (y z : Int) (hx : a.eval x = .slice (some ⟨bb, 0, none⟩) 2 c) (hc : w.cell? ⟨bb, 0, none⟩ = some (.int .u8 y)) (hc2 : w.cell? ⟨bb, 1, none⟩ = some (.int .u8 z)) (hy : 0 ≤ y) (hz : 0 ≤ z)
  (hl : l.length ≤ 1000000000)
  (h : ∀ (p' : Option Addr) (n' c' : Nat) w', PenM w0 w' pw pb v0 (.slice p' n' c') (l ++ [y.toNat, z.toNat]) → Kx [pw, pb] b w' → wpList Tryz.prog ops Q rest (a.put o.dst (.slice p' n' c')) w') : wpList Tryz.prog ops Q (o :: rest) a w :=
 wp_out_two hgd s x ho w0 [] v l hs bb c y z hP.out hx hc hc2 hy hz hl (fun v' w' hO hKt _ => by
  obtain ⟨p', n', c', rfl⟩ := hO.form; exact h p' n' c' w' (hP.grow hKt hO) (hK.kt hKt))
theorem wp_pen_str (hgd : o.guard = none) (s x : Operand) (ho : o.op = .call { callee := .builtin .append, args := #[s, x], argTypes := #[27, 9] }) (w0 b : World) (pw pb : Nat) (v0 v : Value) (l : List Nat) (hs : a.eval s = v)
  (hP : PenM w0 w pw pb v0 v l) (hK : Kx [pw, pb] b w) (t : ByteArray) (hx : a.eval x = .string t) (hl : l.length ≤ 1000000000) (ht : t.size ≤ 1000000000)
  (h : ∀ (p' : Option Addr) (n' c' : Nat) w', PenM w0 w' pw pb v0 (.slice p' n' c') (l ++ bytesOf t) → Kx [pw, pb] b w' → wpList Tryz.prog ops Q rest (a.put o.dst (.slice p' n' c')) w') : wpList Tryz.prog ops Q (o :: rest) a w :=
 wp_out_str hgd s x ho w0 [] v l hs hP.out t hx hl ht (fun v' w' hO hKt _ => by
  obtain ⟨p', n', c', rfl⟩ := hO.form; exact h p' n' c' w' (hP.grow hKt hO) (hK.kt hKt))
theorem step_pen_row {K : Act → World → Prop} {E : Prop} (hgd : o.guard = none) (s x : Operand) (ho : o.op = .call { callee := .builtin .append, args := #[s, x], argTypes := #[27, 27] }) (w0 b : World) (pw pb : Nat) (v0 v : Value) (l : List Nat) (hs : a.eval s = v)
  (hP : PenM w0 w pw pb v0 v l) (hK : Kx [pw, pb] b w) (ad : Addr) (m c : Nat) (ys : List Nat) (hm : m = ys.length) (hx : a.eval x = .slice (some ad) m c) (hc : ∀ (j y : Nat), ys[j]? = some y → w.cell? (ad.add j) = some (.int .u8 (y : Int)))
  (hl : l.length ≤ 1000000000) (hy : ys.length ≤ 1000000000)
  (h : ∀ (p' : Option Addr) (n' c' : Nat) w', PenM w0 w' pw pb v0 (.slice p' n' c') (l ++ ys) → Kx [pw, pb] b w' → K (a.put o.dst (.slice p' n' c')) w') :
  if Region.wanted o (yielded ops a.tmps) = true then Oper.wp Tryz.prog o a w K Q else E := by
 have hw : Region.wanted o (yielded ops a.tmps) = true := by simp [Region.wanted, hgd]
 rw [if_pos hw]; subst hm; obtain ⟨i0, hi, hz0, hz1, hz2⟩ := info_parts info5; have hO := hP.out; have hown := hO.own; have hk := hO.kp; have hrow : ∀ k, v.ownBlock = some k → w0.heap.size ≤ k := fun k hk' => (hown.lt k hk').1
 obtain ⟨v', w', hr, h1, h2, _⟩ := run_append_own (P := Tryz.prog) w w0.heap.size 27 o.type 5 i0 (.int .u8 0) 1 1 Tryz.underlying27 hi hz0 hz1 hz2 rfl (by decide) v l.length (cellsOf l) hown ad ys.length c (cellsOf ys) (by rw [cellsOf_len]; omega) (by
  intro j u hj; unfold cellsOf at hj; rw [List.getElem?_map] at hj
  cases hyj : ys[j]? with
  | none => rw [hyj] at hj; simp at hj
  | some y =>
   rw [hyj] at hj; simp at hj; subst hj; exact hc j y hyj) (by
  intro u hu; unfold cellsOf at hu; rw [List.mem_map] at hu; obtain ⟨y, _, rfl⟩ := hu; rfl) (by unfold maxLen; omega) (by omega) hk.size
 have hO2 : Out w0 [] w' v' (l ++ ys) := ⟨by rw [List.length_append, cellsOf_append]; exact h1, hk.grown h2 hrow⟩; have hKt := Kt.grown hown h2; obtain ⟨p', n', c', rfl⟩ := hO2.form; unfold Oper.wp execOp; simp only [ho, resolve, invoke, builtin, Sem.run_bind, Sem.run_pure, Result.andThen_ok, List.map_toArray, List.map_cons, List.map_nil, hs, hx, hr]; exact h p' n' c' w' (hP.grow hKt hO2) (hK.kt hKt)
theorem step_pen_int {K : Act → World → Prop} {E : Prop} (hgd : o.guard = none) (s x : Operand) (ho : o.op = .call { callee := .builtin .append, args := #[s, x], argTypes := #[27, 27] }) (w0 b : World) (pw pb : Nat) (v0 v : Value) (l : List Nat) (hs : a.eval s = v)
  (hP : PenM w0 w pw pb v0 v l) (hK : Kx [pw, pb] b w) (ad : Addr) (c : Nat) (y : Int) (hx : a.eval x = .slice (some ad) 1 c) (hc : w.cell? ad = some (.int .u8 y)) (hy : 0 ≤ y)
  (hl : l.length ≤ 1000000000)
  (h : ∀ (p' : Option Addr) (n' c' : Nat) w', PenM w0 w' pw pb v0 (.slice p' n' c') (l ++ [y.toNat]) → Kx [pw, pb] b w' → K (a.put o.dst (.slice p' n' c')) w') :
  if Region.wanted o (yielded ops a.tmps) = true then Oper.wp Tryz.prog o a w K Q else E :=
 step_pen_row hgd s x ho w0 b pw pb v0 v l hs hP hK ad 1 c [y.toNat] rfl hx (fun j u hj => by
  cases j with
  | zero => simp at hj; subst hj; rw [Int.toNat_of_nonneg hy]; simpa [Addr.add] using hc
  | succ j => simp at hj) hl (by simp) h
theorem step_pen_str {K : Act → World → Prop} {E : Prop} (hgd : o.guard = none) (s x : Operand) (ho : o.op = .call { callee := .builtin .append, args := #[s, x], argTypes := #[27, 9] }) (w0 b : World) (pw pb : Nat) (v0 v : Value) (l : List Nat) (hs : a.eval s = v)
  (hP : PenM w0 w pw pb v0 v l) (hK : Kx [pw, pb] b w) (t : ByteArray) (hx : a.eval x = .string t) (hl : l.length ≤ 1000000000) (ht : t.size ≤ 1000000000)
  (h : ∀ (p' : Option Addr) (n' c' : Nat) w', PenM w0 w' pw pb v0 (.slice p' n' c') (l ++ bytesOf t) → Kx [pw, pb] b w' → K (a.put o.dst (.slice p' n' c')) w') :
  if Region.wanted o (yielded ops a.tmps) = true then Oper.wp Tryz.prog o a w K Q else E := by
 have hw : Region.wanted o (yielded ops a.tmps) = true := by simp [Region.wanted, hgd]
 rw [if_pos hw]; obtain ⟨i0, hi, hz0, hz1, hz2⟩ := info_parts info5; have hO := hP.out; have hown := hO.own; have hk := hO.kp; have hrow : ∀ k, v.ownBlock = some k → w0.heap.size ≤ k := fun k hk' => (hown.lt k hk').1
 obtain ⟨v', w', hr, h1, h2, _⟩ := Lib.run_append_own_string (P := Tryz.prog) w w0.heap.size 27 9 o.type 5 i0 Tryz.underlying27 Tryz.underlying9 hi hz0 hz1 hz2 v l.length (cellsOf l) hown t (by unfold maxLen; omega) (by omega) hk.size; have hO2 : Out w0 [] w' v' (l ++ bytesOf t) := ⟨by
  have e : (bytesOf t).length = t.size := by simp [bytesOf]
  rw [List.length_append, cellsOf_append, e, ← strCells_of]; exact h1, hk.grown h2 hrow⟩
 have hKt := Kt.grown hown h2; obtain ⟨p', n', c', rfl⟩ := hO2.form; unfold Oper.wp execOp; simp only [ho, resolve, invoke, builtin, Sem.run_bind, Sem.run_pure, Result.andThen_ok, List.map_toArray, List.map_cons, List.map_nil, hs, hx, hr]; exact h p' n' c' w' (hP.grow hKt hO2) (hK.kt hKt)
end
def PenPost (w0 w : World) (pw pb : Nat) (l : List Nat) (P : List Nat → Prop) (e : Ending) (w' : World) : Prop :=
 e = .returned (.tuple #[]) ∧ ∃ (v' : Value) (t : List Nat), P t ∧ PenAt w0 w' pw pb v' (l ++ t) ∧ Kx [pw, pb] w w'
end
end Go.Proofs.YtljaoopfomcaoaaGreatDoor
