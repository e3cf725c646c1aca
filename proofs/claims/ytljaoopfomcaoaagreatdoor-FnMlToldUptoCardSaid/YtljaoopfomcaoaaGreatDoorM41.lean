import Derived.Test.YtljaoopfomcaoaaGreatDoorM39
import Derived.Test.YtljaoopfomcaoaaGreatDoorM40
set_option linter.all false
open Go.Lib (hid)
namespace Go.Proofs.YtljaoopfomcaoaaGreatDoor
section
open Go.RowKit
structure PutI (P : List (ByteArray × JV)) (key : ByteArray) (y : JV) (i : Nat) (dn : Bool) (out : List (ByteArray × JV)) : Prop where
 fin : dn = true → out ++ P.drop i = insK P key y
 unf : dn = false → out ++ insK (P.drop i) key y = insK P key y
 ab : dn = true → ∀ p ∈ P.drop i, kb key p.1 = true
 len : out.length ≤ i + 1
 len0 : dn = false → out.length ≤ i
theorem PutI.start (P : List (ByteArray × JV)) (key : ByteArray) (y : JV) : PutI P key y 0 false [] := ⟨(fun h => by cases h), fun _ => rfl, (fun h => by cases h), by simp, by simp⟩
theorem drop_at {P : List (ByteArray × JV)} {i : Nat} (h : i < P.length) : P.drop i = P[i] :: P.drop (i + 1) := List.drop_eq_getElem_cons h
theorem PutI.past {P : List (ByteArray × JV)} {key : ByteArray} {y : JV} {i : Nat} {dn : Bool} {out : List (ByteArray × JV)} (h : PutI P key y i dn out) (hi : i < P.length) (hb : dn = false → kb P[i].1 key = true) : PutI P key y (i + 1) dn (out ++ [P[i]]) := by
 refine ⟨fun hd => ?_, fun hd => ?_, fun hd p hp => ?_, by have := h.len; simp; omega, fun hd => by have := h.len0 hd; simp; omega⟩
 · have := h.fin hd
   rw [drop_at hi] at this; rw [List.append_assoc]; exact this
 · have := h.unf hd
   rw [drop_at hi] at this; rw [show P[i] = (P[i].1, P[i].2) from rfl, insK, if_pos (hb hd)] at this; rw [List.append_assoc]; exact this
 · have := h.ab hd
   rw [drop_at hi] at this; exact this p (List.mem_cons_of_mem _ hp)
theorem PutI.put {P : List (ByteArray × JV)} {key : ByteArray} {y : JV} {i : Nat} {out : List (ByteArray × JV)} (h : PutI P key y i false out) (hr : RiseP P) (hi : i < P.length) (hb : kb P[i].1 key = false) (hne : P[i].1 ≠ key) : PutI P key y (i + 1) true (out ++ [(key, y)] ++ [P[i]]) := by
 have hkb : kb key P[i].1 = true := by
  rcases hk : kb key P[i].1 with _ | _
  · exact absurd (kb_total hb hk) hne
  · rfl
 refine ⟨fun _ => ?_, (fun hd => by cases hd), fun _ p hp => ?_, by have := h.len0 rfl; simp; omega, (fun hd => by cases hd)⟩
 ·
  have := h.unf rfl; rw [drop_at hi] at this; rw [← this]
  conv => rhs; rw [show P[i] = (P[i].1, P[i].2) from rfl]
  rw [insK, if_neg (by simp [hb]), if_pos hkb, List.append_assoc, List.append_assoc]; rfl
 ·
  refine kb_trans hkb ?_; have hd := hr; unfold RiseP at hd; rw [← List.take_append_drop i P, List.pairwise_append, drop_at hi] at hd; exact (List.pairwise_cons.1 hd.2.1).1 p hp
theorem PutI.same {P : List (ByteArray × JV)} {key : ByteArray} {y : JV} {i : Nat} {out : List (ByteArray × JV)} (h : PutI P key y i false out) (hr : RiseP P) (hi : i < P.length) (he : P[i].1 = key) : PutI P key y (i + 1) true (out ++ [(key, y)]) := by
 have hb : kb key key = false := kb_irrefl key; refine ⟨fun _ => ?_, (fun hd => by cases hd), fun _ p hp => ?_, by have := h.len0 rfl; simp; omega, (fun hd => by cases hd)⟩
 ·
  have := h.unf rfl; rw [drop_at hi] at this; rw [← this]
  conv => rhs; rw [show P[i] = (P[i].1, P[i].2) from rfl]
  rw [he, insK, if_neg (by simp [hb]), if_neg (by simp [hb]), List.append_assoc]; rfl
 ·
  rw [← he]; have hd := hr; unfold RiseP at hd; rw [← List.take_append_drop i P, List.pairwise_append, drop_at hi] at hd; exact (List.pairwise_cons.1 hd.2.1).1 p hp
theorem PutI.last {P : List (ByteArray × JV)} {key : ByteArray} {y : JV} {out : List (ByteArray × JV)} (h : PutI P key y P.length false out) : out ++ [(key, y)] = insK P key y := by
 have := h.unf rfl; rw [List.drop_length] at this; exact this
theorem PutI.done {P : List (ByteArray × JV)} {key : ByteArray} {y : JV} {out : List (ByteArray × JV)} (h : PutI P key y P.length true out) : out = insK P key y := by
 have := h.fin rfl; rw [List.drop_length, List.append_nil] at this; exact this
theorem HP.snoc {n : Nat} {F : Nat → Prop} {w0 W1 w : World} {ob : Nat} {kv0 lv0 kr lr : Value} {ot : List (ByteArray × JV)} {k : ByteArray} {v : JV} {KT : Option (Nat × ByteArray)} {VT : Option (Nat × List Value)} (h : HP n F w0 W1 ob kv0 lv0 kr lr (ot.map (·.1) ++ [k]) (ot.map (·.2) ++ [v]) KT VT w) :
  HP n F w0 W1 ob kv0 lv0 kr lr ((ot ++ [(k, v)]).map (·.1)) ((ot ++ [(k, v)]).map (·.2)) KT VT w := by
 rw [List.map_append, List.map_append]; exact h
theorem keys_done {w : World} {B : Nat} {ks : List ByteArray} {p : Option Addr} {q c : Nat} (h : w.ownsRow B 9 1 (.slice p q c) ks.length (ks.map Value.string)) : KeysF (fun g => B ≤ g ∧ g < w.heap.size) w ks p ∧ q = ks.length := by
 have hq : q = ks.length := by
  rcases h.2 with ⟨hv, h0⟩ | ⟨g, cap, cur, hv, _⟩
  · injection hv with _ e _; omega
  · injection hv
 subst hq; exact ⟨(keysF_own (F := fun g => B ≤ g ∧ g < w.heap.size) h (fun _ h1 h2 => ⟨h1, h2⟩)).1, rfl⟩
theorem rowIs_done {n : Nat} {F : Nat → Prop} {w0 w : World} {B : Nat} {ls : List JV} {p : Option Addr} {q c : Nat} {xs : List Value} (h : RowIs n F w0 ls xs) (ho : w.ownsRow B 26 7 (.slice p q c) ls.length xs) (k : Kp [] w0 w) (hB : w0.heap.size ≤ B) :
  q = ls.length ∧ (ls = [] ∨ ∃ g o : Nat, p = some ⟨g, o, none⟩ ∧ (F g ∨ Made w0 w g) ∧ g < w.heap.size ∧ ∀ i (_ : i < ls.length), ∃ kp' kc' lp' lc', At7 w g (o + i * 7) ls[i] kp' kc' lp' lc' ∧ DeepF n (fun g => F g ∨ Made w0 w g) w ls[i] kp' lp') := by
 rcases ho.2 with ⟨hv, hn⟩ | ⟨g, cap, cur, hv, hb, hh, _, _, hsz, ht⟩
 · injection hv with _ e _
   exact ⟨by omega, Or.inl (List.length_eq_zero_iff.1 hn)⟩
 ·
  injection hv with e1 e2 e3
  refine ⟨e2, Or.inr ⟨g, 0, e1, Or.inr ⟨by omega, lt_of_block hh⟩, lt_of_block hh, fun i hi => ?_⟩⟩; obtain ⟨kp, kc, lp, lc, h1, h2⟩ := h.2 i hi; refine ⟨kp, kc, lp, lc, ?_, h2.keep k.size fun g h3 h4 => ⟨Or.inl h3, k.block g h4 (by simp)⟩⟩; have cell : ∀ t x, t < 7 → (cells7 ls[i] kp kc lp lc)[t]? = some x → w.cell? ⟨g, 0 + i * 7 + t, none⟩ = some x := fun t x ht7 hx => by
   simp only [World.cell?, hh]; simp only [Option.isSome_none, Bool.false_eq_true, if_false]; rw [← h1, List.getElem?_take, if_pos ht7, List.getElem?_drop, ← ht, List.getElem?_take, if_pos (by omega), Array.getElem?_toList] at hx; rw [Nat.zero_add]; exact hx
  exact ⟨cell 0 _ (by omega) rfl, cell 1 _ (by omega) rfl, cell 2 _ (by omega) rfl, cell 3 _ (by omega) rfl, cell 4 _ (by omega) rfl, cell 5 _ (by omega) rfl, cell 6 _ (by omega) rfl⟩
def PutPost (n : Nat) (F : Nat → Prop) (w : World) (v : JV) (e : Ending) (w' : World) : Prop :=
 ∃ (kp : Option Addr) (kc : Nat) (lp : Option Addr) (lc : Nat), e = .returned (valOf v kp kc lp lc) ∧ DeepF (n + 1) (fun g => F g ∨ Made w w' g) w' v kp lp ∧ Kp [] w w'
theorem toList_eq_iff (a b : ByteArray) : (a.toList == b.toList) = decide (a = b) := by
 rw [ByteArray.toList_eq, ByteArray.toList_eq]; obtain ⟨⟨a⟩⟩ := a; obtain ⟨⟨b⟩⟩ := b; by_cases h : a = b
 · subst h; simp
 · have : (⟨⟨a⟩⟩ : ByteArray) ≠ ⟨⟨b⟩⟩ := fun e => h (by injection e with e; injection e)
   simp [h]
theorem le_kb (a b : ByteArray) : (Op.bytesLess a.toList b.toList || a.toList == b.toList) = !kb b a := by
 rw [less_kb, toList_eq_iff]; rcases h : kb b a with _ | _
 ·
  rcases h2 : kb a b with _ | _
  · have := kb_total h2 h
    subst this; simp
  · rfl
 · rw [kb_asymm h]
   have : a ≠ b := fun e => by subst e; rw [kb_irrefl] at h; cases h
   simp [this]
section
variable (w : World) (a b c d : Obj)
theorem heap_new4 : ((((w.alloc a).alloc b).alloc c).alloc d).heap[w.heap.size + 1 + 1 + 1]? = some d := by
 have e : (((w.alloc a).alloc b).alloc c).heap.size = w.heap.size + 1 + 1 + 1 := by simp
 rw [← e]; exact heap_alloc_new _ _
theorem heap_new4c : ((((w.alloc a).alloc b).alloc c).alloc d).heap[w.heap.size + 1 + 1]? = some c := by
 have e : ((w.alloc a).alloc b).heap.size = w.heap.size + 1 + 1 := by simp
 rw [Below.heap_alloc _ _ _ (by simp), ← e]; exact heap_alloc_new _ _
theorem heap_new4b : ((((w.alloc a).alloc b).alloc c).alloc d).heap[w.heap.size + 1]? = some b := by
 have e : (w.alloc a).heap.size = w.heap.size + 1 := by simp
 rw [Below.heap_alloc _ _ _ (by simp), Below.heap_alloc _ _ _ (by simp), ← e]; exact heap_alloc_new _ _
theorem heap_new4a : ((((w.alloc a).alloc b).alloc c).alloc d).heap[w.heap.size]? = some a := by
 rw [Below.heap_alloc _ _ _ (by simp; omega), Below.heap_alloc _ _ _ (by simp; omega), Below.heap_alloc _ _ _ (by simp)]; exact heap_alloc_new _ _
end
set_option maxRecDepth 100000 in
set_option maxHeartbeats 4000000 in
theorem put_is (n : Nat) (F : Nat → Prop) (w : World) (m : JV) (mkp mlp : Option Addr) (mkc mlc : Nat) (key : ByteArray) (y : JV) (ykp ylp : Option Addr) (ykc ylc : Nat) (hkl : m.ks.length = m.l.length) (hri : Rise m.ks) (hlen : m.ks.length ≤ 900000)
  (hd : DeepF (n + 1) F w m mkp mlp) (hdy : DeepF n F w y ykp ylp) :
  Calls Tryz.prog 24 #[valOf m mkp mkc mlp mlc, .string key, valOf y ykp ykc ylp ylc] w (PutPost n F w (tabJV (insK (prs m) key y))) := by
 obtain ⟨hks, hdl⟩ := hd; have hP1 : (prs m).map (·.1) = m.ks := zip_fst _ _ hkl
 have hP2 : (prs m).map (·.2) = m.l := zip_snd _ _ hkl
 have hPl : (prs m).length = m.ks.length := by have := congrArg List.length hP1; simpa using this
 have hrp : RiseP (prs m) := (riseP_iff _).2 (by rw [hP1]; exact hri); have HKs := hid hks; have HDl := hid hdl; have HDy := hid hdy; have HKl := hid hkl; have HRp := hid hrp; have HPl := hid hPl; have HP1 := hid (show ∀ i (h : i < (prs m).length) (h' : i < m.ks.length), (prs m)[i].1 = m.ks[i] from fun i h h' => by simp [prs]); have HP2 := hid (show ∀ i (h : i < (prs m).length) (h' : i < m.l.length), (prs m)[i].2 = m.l[i] from fun i h h' => by simp [prs]); clear hks hdl hdy hkl hri hP1 hP2 hPl hrp; unfold valOf; go_enter Tryz.func24, Tryz.ntmps24
 go_upto_region 3 with (refine wpList_store_row rfl 26 _ _ rfl (w.heap.size + 3) #[.int .i64 7, .bool false, .int .i64 0, .float .f64 0, .string ⟨#[]⟩, .slice none 0 0, .slice none 0 0] ?_ ?_ 26 #[.int .i64 0, .bool false, .int .i64 0, .float .f64 0, .string ⟨#[]⟩, .slice none 0 0, .slice none 0 0] ?_ ?_ ?_ ?_ ?_; go_must (rfl); go_must (rfl); go_must (exact heap_new4 _ _ _ _ _); go_must (kernel_rfl); go_must (rfl); go_must (simp [Value.oneCell']))
 have hob : (((((w.alloc (.cells #[.int .i64 m.kind, .bool m.b, .int .i64 m.i, .float .f64 m.f, .string m.t, .slice mkp m.ks.length mkc, .slice mlp m.l.length mlc] 26)).alloc (.cells #[.int .i64 y.kind, .bool y.b, .int .i64 y.i, .float .f64 y.f, .string y.t, .slice ykp y.ks.length ykc, .slice ylp y.l.length ylc] 26)).alloc (.cells #[.int .i64 0, .bool false, .int .i64 0, .float .f64 0, .string ⟨#[]⟩, .slice none 0 0, .slice none 0 0] 26)).alloc (.cells #[.int .i64 0, .bool false, .int .i64 0, .float .f64 0, .string ⟨#[]⟩, .slice none 0 0, .slice none 0 0] 26)).setRow (w.heap.size + 3) #[.int .i64 7, .bool false, .int .i64 0, .float .f64 0, .string ⟨#[]⟩, .slice none 0 0, .slice none 0 0]).heap[w.heap.size + 1 + 1 + 1]? = some (.cells #[.int .i64 7, .bool false, .int .i64 0, .float .f64 0, .string ⟨#[]⟩, .slice none 0 0, .slice none 0 0] 26 (0, 0)) := setRow_heap _ _ _ _ 26 _ (heap_new4 _ _ _ _ _)
 have hrb : (((((w.alloc (.cells #[.int .i64 m.kind, .bool m.b, .int .i64 m.i, .float .f64 m.f, .string m.t, .slice mkp m.ks.length mkc, .slice mlp m.l.length mlc] 26)).alloc (.cells #[.int .i64 y.kind, .bool y.b, .int .i64 y.i, .float .f64 y.f, .string y.t, .slice ykp y.ks.length ykc, .slice ylp y.l.length ylc] 26)).alloc (.cells #[.int .i64 0, .bool false, .int .i64 0, .float .f64 0, .string ⟨#[]⟩, .slice none 0 0, .slice none 0 0] 26)).alloc (.cells #[.int .i64 0, .bool false, .int .i64 0, .float .f64 0, .string ⟨#[]⟩, .slice none 0 0, .slice none 0 0] 26)).setRow (w.heap.size + 3) #[.int .i64 7, .bool false, .int .i64 0, .float .f64 0, .string ⟨#[]⟩, .slice none 0 0, .slice none 0 0]).heap[w.heap.size + 1 + 1]? = some (.cells #[.int .i64 0, .bool false, .int .i64 0, .float .f64 0, .string ⟨#[]⟩, .slice none 0 0, .slice none 0 0] 26 (0, 0)) := by
  rw [setRow_other _ _ _ _ (by omega)]; exact heap_new4c _ _ _ _ _
 have hbm : BxAt (((((w.alloc (.cells #[.int .i64 m.kind, .bool m.b, .int .i64 m.i, .float .f64 m.f, .string m.t, .slice mkp m.ks.length mkc, .slice mlp m.l.length mlc] 26)).alloc (.cells #[.int .i64 y.kind, .bool y.b, .int .i64 y.i, .float .f64 y.f, .string y.t, .slice ykp y.ks.length ykc, .slice ylp y.l.length ylc] 26)).alloc (.cells #[.int .i64 0, .bool false, .int .i64 0, .float .f64 0, .string ⟨#[]⟩, .slice none 0 0, .slice none 0 0] 26)).alloc (.cells #[.int .i64 0, .bool false, .int .i64 0, .float .f64 0, .string ⟨#[]⟩, .slice none 0 0, .slice none 0 0] 26)).setRow (w.heap.size + 3) #[.int .i64 7, .bool false, .int .i64 0, .float .f64 0, .string ⟨#[]⟩, .slice none 0 0, .slice none 0 0]) w.heap.size m mkp mkc mlp mlc := by
  unfold BxAt; rw [setRow_other _ _ _ _ (by omega)]; exact heap_new4a _ _ _ _ _
 have hby : BxAt (((((w.alloc (.cells #[.int .i64 m.kind, .bool m.b, .int .i64 m.i, .float .f64 m.f, .string m.t, .slice mkp m.ks.length mkc, .slice mlp m.l.length mlc] 26)).alloc (.cells #[.int .i64 y.kind, .bool y.b, .int .i64 y.i, .float .f64 y.f, .string y.t, .slice ykp y.ks.length ykc, .slice ylp y.l.length ylc] 26)).alloc (.cells #[.int .i64 0, .bool false, .int .i64 0, .float .f64 0, .string ⟨#[]⟩, .slice none 0 0, .slice none 0 0] 26)).alloc (.cells #[.int .i64 0, .bool false, .int .i64 0, .float .f64 0, .string ⟨#[]⟩, .slice none 0 0, .slice none 0 0] 26)).setRow (w.heap.size + 3) #[.int .i64 7, .bool false, .int .i64 0, .float .f64 0, .string ⟨#[]⟩, .slice none 0 0, .slice none 0 0]) (w.heap.size + 1) y ykp ykc ylp ylc := by
  unfold BxAt; rw [setRow_other _ _ _ _ (by omega)]; exact heap_new4b _ _ _ _ _
 have hk1 : Kp [] w (((((w.alloc (.cells #[.int .i64 m.kind, .bool m.b, .int .i64 m.i, .float .f64 m.f, .string m.t, .slice mkp m.ks.length mkc, .slice mlp m.l.length mlc] 26)).alloc (.cells #[.int .i64 y.kind, .bool y.b, .int .i64 y.i, .float .f64 y.f, .string y.t, .slice ykp y.ks.length ykc, .slice ylp y.l.length ylc] 26)).alloc (.cells #[.int .i64 0, .bool false, .int .i64 0, .float .f64 0, .string ⟨#[]⟩, .slice none 0 0, .slice none 0 0] 26)).alloc (.cells #[.int .i64 0, .bool false, .int .i64 0, .float .f64 0, .string ⟨#[]⟩, .slice none 0 0, .slice none 0 0] 26)).setRow (w.heap.size + 3) #[.int .i64 7, .bool false, .int .i64 0, .float .f64 0, .string ⟨#[]⟩, .slice none 0 0, .slice none 0 0]) := by
  have h1 : Kp [] w ((((w.alloc (.cells #[.int .i64 m.kind, .bool m.b, .int .i64 m.i, .float .f64 m.f, .string m.t, .slice mkp m.ks.length mkc, .slice mlp m.l.length mlc] 26)).alloc (.cells #[.int .i64 y.kind, .bool y.b, .int .i64 y.i, .float .f64 y.f, .string y.t, .slice ykp y.ks.length ykc, .slice ylp y.l.length ylc] 26)).alloc (.cells #[.int .i64 0, .bool false, .int .i64 0, .float .f64 0, .string ⟨#[]⟩, .slice none 0 0, .slice none 0 0] 26)).alloc (.cells #[.int .i64 0, .bool false, .int .i64 0, .float .f64 0, .string ⟨#[]⟩, .slice none 0 0, .slice none 0 0] 26)) := ((((Kp.refl _ _).alloc _).alloc _).alloc _).alloc _; exact ⟨h1.os, h1.tape, h1.output, by rw [setRow_size]; exact h1.size, fun k hk hs => by rw [setRow_other _ _ _ _ (by omega)]; exact h1.block k hk hs⟩
 have hs1 : (((((w.alloc (.cells #[.int .i64 m.kind, .bool m.b, .int .i64 m.i, .float .f64 m.f, .string m.t, .slice mkp m.ks.length mkc, .slice mlp m.l.length mlc] 26)).alloc (.cells #[.int .i64 y.kind, .bool y.b, .int .i64 y.i, .float .f64 y.f, .string y.t, .slice ykp y.ks.length ykc, .slice ylp y.l.length ylc] 26)).alloc (.cells #[.int .i64 0, .bool false, .int .i64 0, .float .f64 0, .string ⟨#[]⟩, .slice none 0 0, .slice none 0 0] 26)).alloc (.cells #[.int .i64 0, .bool false, .int .i64 0, .float .f64 0, .string ⟨#[]⟩, .slice none 0 0, .slice none 0 0] 26)).setRow (w.heap.size + 3) #[.int .i64 7, .bool false, .int .i64 0, .float .f64 0, .string ⟨#[]⟩, .slice none 0 0, .slice none 0 0]).heap.size = w.heap.size + 1 + 1 + 1 + 1 := by rw [setRow_size]; simp
 generalize hW : World.setRow _ _ _ = W1 at *; clear hW; generalize hb0 : w.heap.size = b0 at *; generalize hb1 : b0 + 1 = b1 at *; generalize hb2 : b1 + 1 = rb at *; generalize hb3 : rb + 1 = ob at *; have HBs := hid (show w.heap.size = b0 ∧ b0 + 1 = b1 ∧ b1 + 1 = rb ∧ rb + 1 = ob ∧ W1.heap.size = ob + 1 by omega); have hst : HP n F w W1 ob (.slice none 0 0) (.slice none 0 0) (.slice none 0 0) (.slice none 0 0) [] [] none none W1 :=
  ⟨hob, ⟨rfl, Or.inl ⟨rfl, rfl⟩⟩, ⟨[], RowIs.nil _ _ _, rfl, Or.inl ⟨rfl, rfl⟩⟩, (fun g k h => by cases h), (fun g k h => by cases h), hk1, Kp.refl _ _, by omega⟩
 have HSt := hid hst; have HRb := hid hrb; have HBm := hid hbm; have HBy := hid hby
 have c5 := hbm.c5; clear hob hrb hbm hby hk1 hs1 hst hb0 hb1 hb2 hb3; go_wp2_with fail
 go_loopw [8, 9, 10, 15] (fun s8 _ _ s15 wx => ∃ (i : Nat) (dn : Bool) (ot : List (ByteArray × JV)) (p : Option Addr) (q cp : Nat) (p2 : Option Addr) (q2 cp2 : Nat), s8 = .bool dn ∧ s15 = .int .i64 (i : Int) ∧ i ≤ m.ks.length ∧ PutI (prs m) key y i dn ot ∧
  HP n F w W1 ob (.slice p q cp) (.slice p2 q2 cp2) (.slice p q cp) (.slice p2 q2 cp2) (ot.map (·.1)) (ot.map (·.2)) none none wx) (fun _ _ _ s15 _ => m.ks.length - (intOf s15).toNat)
 case atStart => exact ⟨0, false, [], none, 0, 0, none, 0, 0, rfl, rfl, Nat.zero_le _, PutI.start _ _ _, HSt.out⟩
 case round =>
  obtain ⟨i, dn, ot, p, q, cp, p2, q2, cp2, rfl, rfl, hi, hI, hH⟩ := hrel; have HI := hid hI; have HH := hid hH; have hol := hI.len; have d5 := hH.c5; have d6 := hH.c6; have g5 := hH.fr 5; have g6 := hH.fr 6; have bm6 := (HBm.out.keep hH.kp1 (by have := HBs.out; simp; omega)).c6; have hby := HBy.out.keep hH.kp1 (by have := HBs.out; simp; omega); have e0 := hby.c0; have e1 := hby.c1; have e2 := hby.c2; have e3 := hby.c3; have e4 := hby.c4; have e5 := hby.c5; have e6 := hby.c6; have hkl1 : (ot.map (·.1)).length ≤ 1000000 := by rw [List.length_map]; omega
  have hkl2 : (ot.map (·.2)).length ≤ 1000000 := by rw [List.length_map]; omega
  have HLl := hid (And.intro hkl1 hkl2); clear hI hH HSt hby c5 hkl1 hkl2; by_cases hil : i < m.ks.length
  ·
   have q1 : decide ((i : Int) < (m.ks.length : Int)) = true := by rw [decide_eq_true_eq]; omega
   have hil2 : i < m.l.length := by have := HKl.out; omega
   have hilP : i < (prs m).length := by have := HPl.out; omega
   rcases HDl.out with h0 | ⟨g, o, hlp, _, _, hcs⟩
   · rw [h0] at hil2; simp at hil2
   rcases HKs.out with h0 | ⟨gk, ok, hkp, _, _, hck⟩
   · rw [h0] at hil; simp at hil
   obtain ⟨vkp, vkc, vlp, vlc, ⟨a0, a1, a2, a3, a4, a5, a6⟩, hdeep⟩ := hcs i hil2; have hkw : Kp [] w wr := HH.out.kp'; obtain ⟨v, hv⟩ : ∃ v, v = m.l[i] := ⟨_, rfl⟩; obtain ⟨k, hk⟩ : ∃ k, k = m.ks[i] := ⟨_, rfl⟩; rw [← hv] at a0 a1 a2 a3 a4 a5 a6 hdeep; have a0' := a0; clear a0; have a0 := cell_kp a0' hkw; have a1' := a1; clear a1; have a1 := cell_kp a1' hkw; have a2' := a2; clear a2; have a2 := cell_kp a2' hkw; have a3' := a3; clear a3; have a3 := cell_kp a3' hkw; have a4' := a4; clear a4; have a4 := cell_kp a4' hkw; have a5' := a5; clear a5; have a5 := cell_kp a5' hkw; have a6' := a6; clear a6; have a6 := cell_kp a6' hkw; have dk0 := hck i hil; rw [← hk] at dk0; have dk := cell_kp dk0 hkw; clear dk0; have HA := hid (And.intro a0' (And.intro a1' (And.intro a2' (And.intro a3' (And.intro a4' (And.intro a5' a6')))))); clear a0' a1' a2' a3' a4' a5' a6'; have HDv := hid hdeep
   have HPi := hid (show (prs m)[i] = (k, v) from Prod.ext (by rw [HP1.out i hilP hil, hk]) (by rw [HP2.out i hilP hil2, hv])); have hil2b : (i : Int) < (m.l.length : Int) := by omega
   have hil63 : (i : Int) + 1 ≤ 3000000 := by omega
   subst hlp hkp; clear hcs hck hdeep hkw hv hk; have hdn : dn = true → kb key k = true := fun h => by
    have := HI.out.ab h; rw [drop_at hilP, HPi.out] at this; exact this (k, v) (by simp)
   by_cases hle : dn = false ∧ kb k key = false
   ·
    obtain ⟨rfl, hkk⟩ := hle; have q3 : (Op.bytesLess key.toList k.toList || key.toList == k.toList) = true := by rw [le_kb, hkk]; rfl
    have HKk := hid hkk; clear hdn hkk; go_upto_if 26 with fail
    go_cut [8] (fun s8 wx => ∃ (p7 : Option Addr) (q7 c7 : Nat) (p8 : Option Addr) (q8 c8 : Nat), s8 = .bool true ∧ HP n F w W1 ob (.slice p7 q7 c7) (.slice p8 q8 c8) (.slice p7 q7 c7) (.slice p8 q8 c8) (ot.map (·.1) ++ [key]) (ot.map (·.2) ++ [y]) none none wx)
    case first =>
     go_upto_region 7 with fail
     have HHd := hid (HH.out.kp (Kp.refl _ _).drew); refine region_T (fun w' => w'.cell? ⟨b1, 0, none⟩ = some (.int .i64 y.kind) ∧ w'.cell? ⟨b1, 1, none⟩ = some (.bool y.b) ∧ w'.cell? ⟨b1, 2, none⟩ = some (.int .i64 y.i) ∧ w'.cell? ⟨b1, 3, none⟩ = some (.float .f64 y.f) ∧ w'.cell? ⟨b1, 4, none⟩ = some (.string y.t) ∧ w'.cell? ⟨b1, 5, none⟩ = some (.slice ykp y.ks.length ykc) ∧ w'.cell? ⟨b1, 6, none⟩ = some (.slice ylp y.l.length ylc)) (fun w' => w'.cell? ⟨ob, 5, none⟩ = some (.slice p q cp) ∧ w'.cell? ⟨ob, 6, none⟩ = some (.slice p2 q2 cp2)) [11, 13] (by kernel_rfl) ?_
     have hS0 : ∀ w' : World, Kp [ob] W1 w' → Kp [] w w' → w'.cell? ⟨b1, 0, none⟩ = some (.int .i64 y.kind) ∧ w'.cell? ⟨b1, 1, none⟩ = some (.bool y.b) ∧ w'.cell? ⟨b1, 2, none⟩ = some (.int .i64 y.i) ∧ w'.cell? ⟨b1, 3, none⟩ = some (.float .f64 y.f) ∧ w'.cell? ⟨b1, 4, none⟩ = some (.string y.t) ∧ w'.cell? ⟨b1, 5, none⟩ = some (.slice ykp y.ks.length ykc) ∧ w'.cell? ⟨b1, 6, none⟩ = some (.slice ylp y.l.length ylc) := fun w' k1 _ => by
      have hb := HBy.out.keep k1 (by have := HBs.out; simp; omega); exact ⟨hb.c0, hb.c1, hb.c2, hb.c3, hb.c4, hb.c5, hb.c6⟩
     have hSS : ∀ (w' : World) (kr lr : Value) (ka : List ByteArray) (la : List JV) (KT : Option (Nat × ByteArray)) (VT : Option (Nat × List Value)), HP n F w W1 ob _ _ kr lr ka la KT VT w' → w'.cell? ⟨ob, 5, none⟩ = some (.slice p q cp) ∧ w'.cell? ⟨ob, 6, none⟩ = some (.slice p2 q2 cp2) := fun w' _ _ _ _ _ _ hp => ⟨hp.c5, hp.c6⟩
     have HS0 := hid hS0; have HSS := hid hSS; clear hSS hS0; refine AnyT.take0 (i := 0) (v := ?v0_1) rfl (by kernel_rfl) (fun _ _ _ h => h) (Or.inl ⟨by rfl, ?hy0_1⟩) (HS0.out _ HHd.out.kp1 HHd.out.kp') (fun _ => (HSS.out _ _ _ _ _ _ _ HHd.out)) ?_
     case hy0_1 => intro w'' hS''; (try dsimp only at hS''); go_split_ands; go_simp; try (with_reducible rfl)
     (try simp only [Act.put, List.setIfInBounds_toArray, List.set_cons_zero, List.set_cons_succ]); refine AnyT.take (i := 1) (v := ?v1_2) rfl (by kernel_rfl) (fun _ _ _ h => h) (Or.inl ⟨by rfl, ?hy1_2⟩) (HS0.out _ HHd.out.kp1 HHd.out.kp') (HSS.out _ _ _ _ _ _ _ HHd.out) ?_
     case hy1_2 => intro w'' hS''; (try dsimp only at hS''); go_split_ands; go_simp; try (with_reducible rfl)
     (try simp only [Act.put, List.setIfInBounds_toArray, List.set_cons_zero, List.set_cons_succ]); refine AnyT.take0 (i := 2) (v := ?v2_3) rfl (by kernel_rfl) (fun _ _ _ h => h) (Or.inl ⟨by rfl, ?hy2_3⟩) (HS0.out _ HHd.out.kp1 HHd.out.kp') (fun _ => (HSS.out _ _ _ _ _ _ _ HHd.out)) ?_
     case hy2_3 => intro w'' hS''; (try dsimp only at hS''); go_split_ands; go_simp; try (with_reducible rfl)
     (try simp only [Act.put, List.setIfInBounds_toArray, List.set_cons_zero, List.set_cons_succ]); refine AnyT.take0 (i := 5) (v := ?v5_4) rfl (by kernel_rfl) (fun _ _ _ h => h) (Or.inl ⟨by rfl, ?hy5_4⟩) (HS0.out _ HHd.out.kp1 HHd.out.kp') (fun _ => (HSS.out _ _ _ _ _ _ _ HHd.out)) ?_
     case hy5_4 => intro w'' hS''; (try dsimp only at hS''); go_split_ands; go_simp; try (with_reducible rfl)
     (try simp only [Act.put, List.setIfInBounds_toArray, List.set_cons_zero, List.set_cons_succ]); refine AnyT.take (i := 6) (v := ?v6_5) rfl (by kernel_rfl) (fun _ _ _ h => h) (Or.inl ⟨by rfl, ?hy6_5⟩) (HS0.out _ HHd.out.kp1 HHd.out.kp') (HSS.out _ _ _ _ _ _ _ HHd.out) ?_
     case hy6_5 => intro w'' hS''; (try dsimp only at hS''); go_split_ands; go_simp; try (with_reducible rfl)
     (try simp only [Act.put, List.setIfInBounds_toArray, List.set_cons_zero, List.set_cons_succ]); refine AnyT.take0 (i := 7) (v := ?v7_6) rfl (by kernel_rfl) (fun _ _ _ h => h) (Or.inl ⟨by rfl, ?hy7_6⟩) (HS0.out _ HHd.out.kp1 HHd.out.kp') (fun _ => (HSS.out _ _ _ _ _ _ _ HHd.out)) ?_
     case hy7_6 => intro w'' hS''; (try dsimp only at hS''); go_split_ands; go_simp; try (with_reducible rfl)
     (try simp only [Act.put, List.setIfInBounds_toArray, List.set_cons_zero, List.set_cons_succ]); refine AnyT.ready (rs := [3, 8]) (by kernel_rfl) (by simp) (AllT.cons rfl (fun K hK => ?_) (AllT.cons rfl (fun K hK => ?_) AllT.nil))
     ·
      go_simp; refine hK.out _ _ (HS0.out _ (HHd.out.allocK _).kp1 (HHd.out.allocK _).kp') (fun _ => (HSS.out _ _ _ _ _ _ _ (HHd.out.allocK _))) ?_; clear hK K; refine AnyT.ready (rs := [4, 8]) (by kernel_rfl) (by simp) (AllT.cons rfl (fun K hK => ?_) (AllT.cons rfl (fun K hK => ?_) AllT.nil))
      ·
       refine step_key rfl _ _ rfl _ key (HHd.out.allocK _) 1 (by simp [Act.eval, Act.put]) (by simp [Act.eval, Act.put]) (by have := HLl.out; omega) ?_; intro p2 n2 c2 w2 hp2; have Hk2 := hid hp2; clear hp2; refine hK.out _ _ (HS0.out _ Hk2.out.kp1 Hk2.out.kp') (fun _ => (HSS.out _ _ _ _ _ _ _ Hk2.out)) ?_; clear hK K; refine AnyT.take0 (i := 10) (v := ?v10_7) rfl (by kernel_rfl) (fun _ _ _ h => h) (Or.inl ⟨by rfl, ?hy10_7⟩) (HS0.out _ Hk2.out.kp1 Hk2.out.kp') (fun _ => (HSS.out _ _ _ _ _ _ _ Hk2.out)) ?_
       case hy10_7 => intro w'' hS''; (try dsimp only at hS''); go_split_ands; go_simp; try (with_reducible rfl)
       (try simp only [Act.put, List.setIfInBounds_toArray, List.set_cons_zero, List.set_cons_succ]); refine AnyT.ready (rs := [8]) (by kernel_rfl) (by simp) (AllT.cons rfl (fun K hK => ?_) AllT.nil)
       ·
        go_simp; refine hK.out _ _ (HS0.out _ (Hk2.out.allocV _).kp1 (Hk2.out.allocV _).kp') (fun _ => (HSS.out _ _ _ _ _ _ _ (Hk2.out.allocV _))) ?_; clear hK K; refine AnyT.ready (rs := [9]) (by kernel_rfl) (by simp) (AllT.cons rfl (fun K hK => ?_) AllT.nil)
        ·
         refine step_val rfl _ _ rfl _ y _ _ _ _ (Hk2.out.allocV _) 1 (by simp [Act.eval, Act.put]) (by simp [Act.eval, Act.put]) HDy.out (by have := HLl.out; omega) ?_; intro p4 n4 c4 w4 hp4; have Hv4 := hid hp4; clear hp4; refine hK.out _ _ (HS0.out _ Hv4.out.kp1 Hv4.out.kp') (fun _ => (HSS.out _ _ _ _ _ _ _ Hv4.out)) ?_; clear hK K; have g5 := Hv4.out.fr 5; have g6 := Hv4.out.fr 6; have d5 := Hv4.out.c5; have d6 := Hv4.out.c6; refine AnyT.ready (rs := [11]) (by kernel_rfl) (by simp) (AllT.cons rfl (fun K hK => ?_) AllT.nil); go_simp; refine hK.out _ _ (HS0.out _ ((Hv4.out.kp1).setCell (p := ⟨ob, 5, none⟩) (Or.inl (by simp)) _) ((Hv4.out.kp').setCell (p := ⟨ob, 5, none⟩) (Or.inr Hv4.out.lo.1) _)) (fun h => absurd (show false = true from h) (by decide)) ?_; clear hK K
         refine AnyT.take0 (i := 12) (v := ?v12_8) rfl (by kernel_rfl) (fun _ _ _ h => h) (Or.inl ⟨by rfl, ?hy12_8⟩) (HS0.out _ ((Hv4.out.kp1).setCell (p := ⟨ob, 5, none⟩) (Or.inl (by simp)) _) ((Hv4.out.kp').setCell (p := ⟨ob, 5, none⟩) (Or.inr Hv4.out.lo.1) _)) (fun h => absurd (show false = true from h) (by decide)) ?_
         case hy12_8 => intro w'' hS''; clear hS''; go_simp; try (with_reducible rfl)
         (try simp only [Act.put, List.setIfInBounds_toArray, List.set_cons_zero, List.set_cons_succ]); refine AnyT.ready (rs := [13]) (by kernel_rfl) (by simp) (AllT.cons rfl (fun K hK => ?_) AllT.nil); go_simp; refine hK.out _ _ (HS0.out _ (((Hv4.out.kp1).setCell (p := ⟨ob, 5, none⟩) (Or.inl (by simp)) _).setCell (p := ⟨ob, 6, none⟩) (Or.inl (by simp)) _) (((Hv4.out.kp').setCell (p := ⟨ob, 5, none⟩) (Or.inr Hv4.out.lo.1) _).setCell (p := ⟨ob, 6, none⟩) (Or.inr Hv4.out.lo.1) _)) (fun h => absurd (show false = true from h) (by decide)) ?_; clear hK K; refine AnyT.done (by kernel_rfl) ?_ _; refine NoPanic.normal ?_; have HFin := hid Hv4.out.store; go_wp2_with fail
         go_meet; exact ⟨_, _, _, _, _, _, rfl, HFin.out⟩
      ·
       go_simp; refine hK.out _ _ (HS0.out _ ((HHd.out.allocK _).allocV _).kp1 ((HHd.out.allocK _).allocV _).kp') (fun _ => (HSS.out _ _ _ _ _ _ _ ((HHd.out.allocK _).allocV _))) ?_; clear hK K; refine AnyT.ready (rs := [4]) (by kernel_rfl) (by simp) (AllT.cons rfl (fun K hK => ?_) AllT.nil)
       ·
        refine step_key rfl _ _ rfl _ key ((HHd.out.allocK _).allocV _) 1 (by simp [Act.eval, Act.put]) (by simp [Act.eval, Act.put]) (by have := HLl.out; omega) ?_; intro p3 n3 c3 w3 hp3; have Hk3 := hid hp3; clear hp3; refine hK.out _ _ (HS0.out _ Hk3.out.kp1 Hk3.out.kp') (fun _ => (HSS.out _ _ _ _ _ _ _ Hk3.out)) ?_; clear hK K; refine AnyT.take0 (i := 10) (v := ?v10_9) rfl (by kernel_rfl) (fun _ _ _ h => h) (Or.inl ⟨by rfl, ?hy10_9⟩) (HS0.out _ Hk3.out.kp1 Hk3.out.kp') (fun _ => (HSS.out _ _ _ _ _ _ _ Hk3.out)) ?_
        case hy10_9 => intro w'' hS''; (try dsimp only at hS''); go_split_ands; go_simp; try (with_reducible rfl)
        (try simp only [Act.put, List.setIfInBounds_toArray, List.set_cons_zero, List.set_cons_succ]); refine AnyT.ready (rs := [9]) (by kernel_rfl) (by simp) (AllT.cons rfl (fun K hK => ?_) AllT.nil)
        ·
         refine step_val rfl _ _ rfl _ y _ _ _ _ Hk3.out 1 (by simp [Act.eval, Act.put]) (by simp [Act.eval, Act.put]) HDy.out (by have := HLl.out; omega) ?_; intro p4 n4 c4 w4 hp4; have Hv4 := hid hp4; clear hp4; refine hK.out _ _ (HS0.out _ Hv4.out.kp1 Hv4.out.kp') (fun _ => (HSS.out _ _ _ _ _ _ _ Hv4.out)) ?_; clear hK K; have g5 := Hv4.out.fr 5; have g6 := Hv4.out.fr 6; have d5 := Hv4.out.c5; have d6 := Hv4.out.c6; refine AnyT.ready (rs := [11]) (by kernel_rfl) (by simp) (AllT.cons rfl (fun K hK => ?_) AllT.nil); go_simp; refine hK.out _ _ (HS0.out _ ((Hv4.out.kp1).setCell (p := ⟨ob, 5, none⟩) (Or.inl (by simp)) _) ((Hv4.out.kp').setCell (p := ⟨ob, 5, none⟩) (Or.inr Hv4.out.lo.1) _)) (fun h => absurd (show false = true from h) (by decide)) ?_; clear hK K
         refine AnyT.take0 (i := 12) (v := ?v12_10) rfl (by kernel_rfl) (fun _ _ _ h => h) (Or.inl ⟨by rfl, ?hy12_10⟩) (HS0.out _ ((Hv4.out.kp1).setCell (p := ⟨ob, 5, none⟩) (Or.inl (by simp)) _) ((Hv4.out.kp').setCell (p := ⟨ob, 5, none⟩) (Or.inr Hv4.out.lo.1) _)) (fun h => absurd (show false = true from h) (by decide)) ?_
         case hy12_10 => intro w'' hS''; clear hS''; go_simp; try (with_reducible rfl)
         (try simp only [Act.put, List.setIfInBounds_toArray, List.set_cons_zero, List.set_cons_succ]); refine AnyT.ready (rs := [13]) (by kernel_rfl) (by simp) (AllT.cons rfl (fun K hK => ?_) AllT.nil); go_simp; refine hK.out _ _ (HS0.out _ (((Hv4.out.kp1).setCell (p := ⟨ob, 5, none⟩) (Or.inl (by simp)) _).setCell (p := ⟨ob, 6, none⟩) (Or.inl (by simp)) _) (((Hv4.out.kp').setCell (p := ⟨ob, 5, none⟩) (Or.inr Hv4.out.lo.1) _).setCell (p := ⟨ob, 6, none⟩) (Or.inr Hv4.out.lo.1) _)) (fun h => absurd (show false = true from h) (by decide)) ?_; clear hK K; refine AnyT.done (by kernel_rfl) ?_ _; refine NoPanic.normal ?_; have HFin := hid Hv4.out.store; go_wp2_with fail
         go_meet; exact ⟨_, _, _, _, _, _, rfl, HFin.out⟩
     ·
      go_simp; refine hK.out _ _ (HS0.out _ (HHd.out.allocV _).kp1 (HHd.out.allocV _).kp') (fun _ => (HSS.out _ _ _ _ _ _ _ (HHd.out.allocV _))) ?_; clear hK K; refine AnyT.ready (rs := [3]) (by kernel_rfl) (by simp) (AllT.cons rfl (fun K hK => ?_) AllT.nil)
      ·
       go_simp; refine hK.out _ _ (HS0.out _ ((HHd.out.allocV _).allocK _).kp1 ((HHd.out.allocV _).allocK _).kp') (fun _ => (HSS.out _ _ _ _ _ _ _ ((HHd.out.allocV _).allocK _))) ?_; clear hK K; refine AnyT.ready (rs := [4]) (by kernel_rfl) (by simp) (AllT.cons rfl (fun K hK => ?_) AllT.nil)
       ·
        refine step_key rfl _ _ rfl _ key ((HHd.out.allocV _).allocK _) 1 (by simp [Act.eval, Act.put]) (by simp [Act.eval, Act.put]) (by have := HLl.out; omega) ?_; intro p3 n3 c3 w3 hp3; have Hk3 := hid hp3; clear hp3; refine hK.out _ _ (HS0.out _ Hk3.out.kp1 Hk3.out.kp') (fun _ => (HSS.out _ _ _ _ _ _ _ Hk3.out)) ?_; clear hK K; refine AnyT.take0 (i := 10) (v := ?v10_11) rfl (by kernel_rfl) (fun _ _ _ h => h) (Or.inl ⟨by rfl, ?hy10_11⟩) (HS0.out _ Hk3.out.kp1 Hk3.out.kp') (fun _ => (HSS.out _ _ _ _ _ _ _ Hk3.out)) ?_
        case hy10_11 => intro w'' hS''; (try dsimp only at hS''); go_split_ands; go_simp; try (with_reducible rfl)
        (try simp only [Act.put, List.setIfInBounds_toArray, List.set_cons_zero, List.set_cons_succ]); refine AnyT.ready (rs := [9]) (by kernel_rfl) (by simp) (AllT.cons rfl (fun K hK => ?_) AllT.nil)
        ·
         refine step_val rfl _ _ rfl _ y _ _ _ _ Hk3.out 1 (by simp [Act.eval, Act.put]) (by simp [Act.eval, Act.put]) HDy.out (by have := HLl.out; omega) ?_; intro p4 n4 c4 w4 hp4; have Hv4 := hid hp4; clear hp4; refine hK.out _ _ (HS0.out _ Hv4.out.kp1 Hv4.out.kp') (fun _ => (HSS.out _ _ _ _ _ _ _ Hv4.out)) ?_; clear hK K; have g5 := Hv4.out.fr 5; have g6 := Hv4.out.fr 6; have d5 := Hv4.out.c5; have d6 := Hv4.out.c6; refine AnyT.ready (rs := [11]) (by kernel_rfl) (by simp) (AllT.cons rfl (fun K hK => ?_) AllT.nil); go_simp; refine hK.out _ _ (HS0.out _ ((Hv4.out.kp1).setCell (p := ⟨ob, 5, none⟩) (Or.inl (by simp)) _) ((Hv4.out.kp').setCell (p := ⟨ob, 5, none⟩) (Or.inr Hv4.out.lo.1) _)) (fun h => absurd (show false = true from h) (by decide)) ?_; clear hK K
         refine AnyT.take0 (i := 12) (v := ?v12_12) rfl (by kernel_rfl) (fun _ _ _ h => h) (Or.inl ⟨by rfl, ?hy12_12⟩) (HS0.out _ ((Hv4.out.kp1).setCell (p := ⟨ob, 5, none⟩) (Or.inl (by simp)) _) ((Hv4.out.kp').setCell (p := ⟨ob, 5, none⟩) (Or.inr Hv4.out.lo.1) _)) (fun h => absurd (show false = true from h) (by decide)) ?_
         case hy12_12 => intro w'' hS''; clear hS''; go_simp; try (with_reducible rfl)
         (try simp only [Act.put, List.setIfInBounds_toArray, List.set_cons_zero, List.set_cons_succ]); refine AnyT.ready (rs := [13]) (by kernel_rfl) (by simp) (AllT.cons rfl (fun K hK => ?_) AllT.nil); go_simp; refine hK.out _ _ (HS0.out _ (((Hv4.out.kp1).setCell (p := ⟨ob, 5, none⟩) (Or.inl (by simp)) _).setCell (p := ⟨ob, 6, none⟩) (Or.inl (by simp)) _) (((Hv4.out.kp').setCell (p := ⟨ob, 5, none⟩) (Or.inr Hv4.out.lo.1) _).setCell (p := ⟨ob, 6, none⟩) (Or.inr Hv4.out.lo.1) _)) (fun h => absurd (show false = true from h) (by decide)) ?_; clear hK K; refine AnyT.done (by kernel_rfl) ?_ _; refine NoPanic.normal ?_; have HFin := hid Hv4.out.store; go_wp2_with fail
         go_meet; exact ⟨_, _, _, _, _, _, rfl, HFin.out⟩
    case rest =>
     obtain ⟨p, q, cp, p2, q2, cp2, rfl, hH⟩ := hcut; clear HH d5 d6 g5 g6 bm6 a0 a1 a2 a3 a4 a5 a6 e0 e1 e2 e3 e4 e5 e6 HLl; have HH := hid (HP.snoc hH); clear hH; obtain ⟨ot2, hot2⟩ : ∃ ot2, ot2 = ot ++ [(key, y)] := ⟨_, rfl⟩; rw [← hot2] at HH; have hol2 : ot2.length ≤ i + 1 := by have := HI.out.len0 rfl; rw [hot2]; simp; omega
     have HOt := hid hot2; clear hot2; have hkl1 : (ot2.map (·.1)).length ≤ 1000000 := by rw [List.length_map]; omega
     have hkl2 : (ot2.map (·.2)).length ≤ 1000000 := by rw [List.length_map]; omega
     have HLl := hid (And.intro hkl1 hkl2); clear hkl1 hkl2; have d5 := HH.out.c5; have d6 := HH.out.c6; have g5 := HH.out.fr 5; have g6 := HH.out.fr 6; have bm6 := (HBm.out.keep HH.out.kp1 (by have := HBs.out; simp; omega)).c6; have a0 := cell_kp HA.out.1 HH.out.kp'; have a1 := cell_kp HA.out.2.1 HH.out.kp'; have a2 := cell_kp HA.out.2.2.1 HH.out.kp'; have a3 := cell_kp HA.out.2.2.2.1 HH.out.kp'; have a4 := cell_kp HA.out.2.2.2.2.1 HH.out.kp'; have a5 := cell_kp HA.out.2.2.2.2.2.1 HH.out.kp'; have a6 := cell_kp HA.out.2.2.2.2.2.2 HH.out.kp'; by_cases hke : k = key
     · have q4 : (k.toList == key.toList) = true := by subst hke; simp
       have HN := hid (HI.out.same HRp.out hilP (by rw [HPi.out]; exact hke)); clear hke; go_wp2_with fail
       go_roundw
       case measure => simp [intOf]; omega
       case rel => exact ⟨i + 1, true, ot2, p, q, cp, p2, q2, cp2, rfl, by push_cast; rfl, by omega, by rw [HOt.out]; exact HN.out, HH.out⟩
     ·
      have q4 : (k.toList == key.toList) = false := by rw [toList_eq_iff]; simp [hke]
      have HN := hid (HI.out.put HRp.out hilP (by rw [HPi.out]; exact HKk.out) (by rw [HPi.out]; exact hke)); clear hke; go_upto_region 10 with fail
      have HHd := hid (HH.out.kp (Kp.refl _ _).drew); refine region_T (fun w' => w'.cell? ⟨b0, 6, none⟩ = some (.slice (some ⟨g, o, none⟩) m.l.length mlc) ∧ w'.cell? ⟨g, o + i * 7, none⟩ = some (.int .i64 v.kind) ∧ w'.cell? ⟨g, o + i * 7 + 1, none⟩ = some (.bool v.b) ∧ w'.cell? ⟨g, o + i * 7 + 2, none⟩ = some (.int .i64 v.i) ∧ w'.cell? ⟨g, o + i * 7 + 3, none⟩ = some (.float .f64 v.f) ∧ w'.cell? ⟨g, o + i * 7 + 4, none⟩ = some (.string v.t) ∧ w'.cell? ⟨g, o + i * 7 + 5, none⟩ = some (.slice vkp v.ks.length vkc) ∧ w'.cell? ⟨g, o + i * 7 + 6, none⟩ = some (.slice vlp v.l.length vlc)) (fun w' => w'.cell? ⟨ob, 5, none⟩ = some (.slice p q cp) ∧ w'.cell? ⟨ob, 6, none⟩ = some (.slice p2 q2 cp2)) [15, 17] (by kernel_rfl) ?_
      have hS0 : ∀ w' : World, Kp [ob] W1 w' → Kp [] w w' → w'.cell? ⟨b0, 6, none⟩ = some (.slice (some ⟨g, o, none⟩) m.l.length mlc) ∧ w'.cell? ⟨g, o + i * 7, none⟩ = some (.int .i64 v.kind) ∧ w'.cell? ⟨g, o + i * 7 + 1, none⟩ = some (.bool v.b) ∧ w'.cell? ⟨g, o + i * 7 + 2, none⟩ = some (.int .i64 v.i) ∧ w'.cell? ⟨g, o + i * 7 + 3, none⟩ = some (.float .f64 v.f) ∧ w'.cell? ⟨g, o + i * 7 + 4, none⟩ = some (.string v.t) ∧ w'.cell? ⟨g, o + i * 7 + 5, none⟩ = some (.slice vkp v.ks.length vkc) ∧ w'.cell? ⟨g, o + i * 7 + 6, none⟩ = some (.slice vlp v.l.length vlc) := fun w' k1 k0 => by
       have hb := HBm.out.keep k1 (by have := HBs.out; simp; omega); obtain ⟨x0, x1, x2, x3, x4, x5, x6⟩ := HA.out; exact ⟨hb.c6, cell_kp x0 k0, cell_kp x1 k0, cell_kp x2 k0, cell_kp x3 k0, cell_kp x4 k0, cell_kp x5 k0, cell_kp x6 k0⟩
      have hSS : ∀ (w' : World) (kr lr : Value) (ka : List ByteArray) (la : List JV) (KT : Option (Nat × ByteArray)) (VT : Option (Nat × List Value)), HP n F w W1 ob _ _ kr lr ka la KT VT w' → w'.cell? ⟨ob, 5, none⟩ = some (.slice p q cp) ∧ w'.cell? ⟨ob, 6, none⟩ = some (.slice p2 q2 cp2) := fun w' _ _ _ _ _ _ hp => ⟨hp.c5, hp.c6⟩
      have HS0 := hid hS0; have HSS := hid hSS; clear hSS hS0; refine AnyT.take0 (i := 0) (v := ?v0_25) rfl (by kernel_rfl) (fun _ _ _ h => h) (Or.inl ⟨by rfl, ?hy0_25⟩) (HS0.out _ HHd.out.kp1 HHd.out.kp') (fun _ => (HSS.out _ _ _ _ _ _ _ HHd.out)) ?_
      case hy0_25 => intro w'' hS''; (try dsimp only at hS''); go_split_ands; go_simp; try (with_reducible rfl)
      (try simp only [Act.put, List.setIfInBounds_toArray, List.set_cons_zero, List.set_cons_succ]); refine AnyT.take (i := 1) (v := ?v1_26) rfl (by kernel_rfl) (fun _ _ _ h => h) (Or.inl ⟨by rfl, ?hy1_26⟩) (HS0.out _ HHd.out.kp1 HHd.out.kp') (HSS.out _ _ _ _ _ _ _ HHd.out) ?_
      case hy1_26 => intro w'' hS''; (try dsimp only at hS''); go_split_ands; go_simp; try (with_reducible rfl)
      (try simp only [Act.put, List.setIfInBounds_toArray, List.set_cons_zero, List.set_cons_succ]); refine AnyT.take0 (i := 2) (v := ?v2_27) rfl (by kernel_rfl) (fun _ _ _ h => h) (Or.inl ⟨by rfl, ?hy2_27⟩) (HS0.out _ HHd.out.kp1 HHd.out.kp') (fun _ => (HSS.out _ _ _ _ _ _ _ HHd.out)) ?_
      case hy2_27 => intro w'' hS''; (try dsimp only at hS''); go_split_ands; go_simp; try (with_reducible rfl)
      (try simp only [Act.put, List.setIfInBounds_toArray, List.set_cons_zero, List.set_cons_succ]); refine AnyT.take0 (i := 5) (v := ?v5_28) rfl (by kernel_rfl) (fun _ _ _ h => h) (Or.inl ⟨by rfl, ?hy5_28⟩) (HS0.out _ HHd.out.kp1 HHd.out.kp') (fun _ => (HSS.out _ _ _ _ _ _ _ HHd.out)) ?_
      case hy5_28 => intro w'' hS''; (try dsimp only at hS''); go_split_ands; go_simp; try (with_reducible rfl)
      (try simp only [Act.put, List.setIfInBounds_toArray, List.set_cons_zero, List.set_cons_succ]); refine AnyT.take (i := 6) (v := ?v6_29) rfl (by kernel_rfl) (fun _ _ _ h => h) (Or.inl ⟨by rfl, ?hy6_29⟩) (HS0.out _ HHd.out.kp1 HHd.out.kp') (HSS.out _ _ _ _ _ _ _ HHd.out) ?_
      case hy6_29 => intro w'' hS''; (try dsimp only at hS''); go_split_ands; go_simp; try (with_reducible rfl)
      (try simp only [Act.put, List.setIfInBounds_toArray, List.set_cons_zero, List.set_cons_succ]); refine AnyT.take0 (i := 7) (v := ?v7_30) rfl (by kernel_rfl) (fun _ _ _ h => h) (Or.inl ⟨by rfl, ?hy7_30⟩) (HS0.out _ HHd.out.kp1 HHd.out.kp') (fun _ => (HSS.out _ _ _ _ _ _ _ HHd.out)) ?_
      case hy7_30 => intro w'' hS''; (try dsimp only at hS''); go_split_ands; go_simp; try (with_reducible rfl)
      (try simp only [Act.put, List.setIfInBounds_toArray, List.set_cons_zero, List.set_cons_succ]); refine AnyT.take0 (i := 8) (v := ?v8_31) rfl (by kernel_rfl) (fun _ _ _ h => h) (Or.inl ⟨by rfl, ?hy8_31⟩) (HS0.out _ HHd.out.kp1 HHd.out.kp') (fun _ => (HSS.out _ _ _ _ _ _ _ HHd.out)) ?_
      case hy8_31 => intro w'' hS''; (try dsimp only at hS''); go_split_ands; go_simp; try (with_reducible rfl)
      (try simp only [Act.put, List.setIfInBounds_toArray, List.set_cons_zero, List.set_cons_succ]); refine AnyT.take0 (i := 9) (v := ?v9_32) rfl (by kernel_rfl) (fun _ _ _ h => h) (Or.inl ⟨by rfl, ?hy9_32⟩) (HS0.out _ HHd.out.kp1 HHd.out.kp') (fun _ => (HSS.out _ _ _ _ _ _ _ HHd.out)) ?_
      case hy9_32 => intro w'' hS''; (try dsimp only at hS''); go_split_ands; go_simp; try (with_reducible rfl)
      (try simp only [Act.put, List.setIfInBounds_toArray, List.set_cons_zero, List.set_cons_succ]); refine AnyT.take0 (i := 10) (v := ?v10_33) rfl (by kernel_rfl) (fun _ _ _ h => h) (Or.inl ⟨by rfl, ?hy10_33⟩) (HS0.out _ HHd.out.kp1 HHd.out.kp') (fun _ => (HSS.out _ _ _ _ _ _ _ HHd.out)) ?_
      case hy10_33 => intro w'' hS''; (try dsimp only at hS''); go_split_ands; go_simp; try (with_reducible rfl)
      (try simp only [Act.put, List.setIfInBounds_toArray, List.set_cons_zero, List.set_cons_succ]); refine AnyT.take0 (i := 11) (v := ?v11_34) rfl (by kernel_rfl) (fun _ _ _ h => h) (Or.inl ⟨by rfl, ?hy11_34⟩) (HS0.out _ HHd.out.kp1 HHd.out.kp') (fun _ => (HSS.out _ _ _ _ _ _ _ HHd.out)) ?_
      case hy11_34 => intro w'' hS''; (try dsimp only at hS''); go_split_ands; go_simp; try (with_reducible rfl)
      (try simp only [Act.put, List.setIfInBounds_toArray, List.set_cons_zero, List.set_cons_succ]); refine AnyT.ready (rs := [3, 12]) (by kernel_rfl) (by simp) (AllT.cons rfl (fun K hK => ?_) (AllT.cons rfl (fun K hK => ?_) AllT.nil))
      ·
       go_simp; refine hK.out _ _ (HS0.out _ (HHd.out.allocK _).kp1 (HHd.out.allocK _).kp') (fun _ => (HSS.out _ _ _ _ _ _ _ (HHd.out.allocK _))) ?_; clear hK K; refine AnyT.ready (rs := [4, 12]) (by kernel_rfl) (by simp) (AllT.cons rfl (fun K hK => ?_) (AllT.cons rfl (fun K hK => ?_) AllT.nil))
       ·
        refine step_key rfl _ _ rfl _ k (HHd.out.allocK _) 1 (by simp [Act.eval, Act.put]) (by simp [Act.eval, Act.put]) (by have := HLl.out; omega) ?_; intro p2 n2 c2 w2 hp2; have Hk2 := hid hp2; clear hp2; refine hK.out _ _ (HS0.out _ Hk2.out.kp1 Hk2.out.kp') (fun _ => (HSS.out _ _ _ _ _ _ _ Hk2.out)) ?_; clear hK K; refine AnyT.take0 (i := 14) (v := ?v14_35) rfl (by kernel_rfl) (fun _ _ _ h => h) (Or.inl ⟨by rfl, ?hy14_35⟩) (HS0.out _ Hk2.out.kp1 Hk2.out.kp') (fun _ => (HSS.out _ _ _ _ _ _ _ Hk2.out)) ?_
        case hy14_35 => intro w'' hS''; (try dsimp only at hS''); go_split_ands; go_simp; try (with_reducible rfl)
        (try simp only [Act.put, List.setIfInBounds_toArray, List.set_cons_zero, List.set_cons_succ]); refine AnyT.ready (rs := [12]) (by kernel_rfl) (by simp) (AllT.cons rfl (fun K hK => ?_) AllT.nil)
        ·
         go_simp; refine hK.out _ _ (HS0.out _ (Hk2.out.allocV _).kp1 (Hk2.out.allocV _).kp') (fun _ => (HSS.out _ _ _ _ _ _ _ (Hk2.out.allocV _))) ?_; clear hK K; refine AnyT.ready (rs := [13]) (by kernel_rfl) (by simp) (AllT.cons rfl (fun K hK => ?_) AllT.nil)
         ·
          refine step_val rfl _ _ rfl _ v _ _ _ _ (Hk2.out.allocV _) 1 (by simp [Act.eval, Act.put]) (by simp [Act.eval, Act.put]) HDv.out (by have := HLl.out; omega) ?_; intro p4 n4 c4 w4 hp4; have Hv4 := hid hp4; clear hp4; refine hK.out _ _ (HS0.out _ Hv4.out.kp1 Hv4.out.kp') (fun _ => (HSS.out _ _ _ _ _ _ _ Hv4.out)) ?_; clear hK K; have g5 := Hv4.out.fr 5; have g6 := Hv4.out.fr 6; have d5 := Hv4.out.c5; have d6 := Hv4.out.c6; refine AnyT.ready (rs := [15]) (by kernel_rfl) (by simp) (AllT.cons rfl (fun K hK => ?_) AllT.nil); go_simp; refine hK.out _ _ (HS0.out _ ((Hv4.out.kp1).setCell (p := ⟨ob, 5, none⟩) (Or.inl (by simp)) _) ((Hv4.out.kp').setCell (p := ⟨ob, 5, none⟩) (Or.inr Hv4.out.lo.1) _)) (fun h => absurd (show false = true from h) (by decide)) ?_; clear hK K
          refine AnyT.take0 (i := 16) (v := ?v16_36) rfl (by kernel_rfl) (fun _ _ _ h => h) (Or.inl ⟨by rfl, ?hy16_36⟩) (HS0.out _ ((Hv4.out.kp1).setCell (p := ⟨ob, 5, none⟩) (Or.inl (by simp)) _) ((Hv4.out.kp').setCell (p := ⟨ob, 5, none⟩) (Or.inr Hv4.out.lo.1) _)) (fun h => absurd (show false = true from h) (by decide)) ?_
          case hy16_36 => intro w'' hS''; clear hS''; go_simp; try (with_reducible rfl)
          (try simp only [Act.put, List.setIfInBounds_toArray, List.set_cons_zero, List.set_cons_succ]); refine AnyT.ready (rs := [17]) (by kernel_rfl) (by simp) (AllT.cons rfl (fun K hK => ?_) AllT.nil); go_simp; refine hK.out _ _ (HS0.out _ (((Hv4.out.kp1).setCell (p := ⟨ob, 5, none⟩) (Or.inl (by simp)) _).setCell (p := ⟨ob, 6, none⟩) (Or.inl (by simp)) _) (((Hv4.out.kp').setCell (p := ⟨ob, 5, none⟩) (Or.inr Hv4.out.lo.1) _).setCell (p := ⟨ob, 6, none⟩) (Or.inr Hv4.out.lo.1) _)) (fun h => absurd (show false = true from h) (by decide)) ?_; clear hK K; refine AnyT.done (by kernel_rfl) ?_ _; refine NoPanic.normal ?_; have HFin := hid Hv4.out.store; go_wp2_with fail
          go_roundw
          case measure => simp [intOf]; omega
          case rel => exact ⟨i + 1, _, ot2 ++ [(k, v)], _, _, _, _, _, _, rfl, by push_cast; rfl, by omega, by rw [HOt.out, ← HPi.out]; exact HN.out, HP.snoc HFin.out⟩
       ·
        go_simp; refine hK.out _ _ (HS0.out _ ((HHd.out.allocK _).allocV _).kp1 ((HHd.out.allocK _).allocV _).kp') (fun _ => (HSS.out _ _ _ _ _ _ _ ((HHd.out.allocK _).allocV _))) ?_; clear hK K; refine AnyT.ready (rs := [4]) (by kernel_rfl) (by simp) (AllT.cons rfl (fun K hK => ?_) AllT.nil)
        ·
         refine step_key rfl _ _ rfl _ k ((HHd.out.allocK _).allocV _) 1 (by simp [Act.eval, Act.put]) (by simp [Act.eval, Act.put]) (by have := HLl.out; omega) ?_; intro p3 n3 c3 w3 hp3; have Hk3 := hid hp3; clear hp3; refine hK.out _ _ (HS0.out _ Hk3.out.kp1 Hk3.out.kp') (fun _ => (HSS.out _ _ _ _ _ _ _ Hk3.out)) ?_; clear hK K; refine AnyT.take0 (i := 14) (v := ?v14_37) rfl (by kernel_rfl) (fun _ _ _ h => h) (Or.inl ⟨by rfl, ?hy14_37⟩) (HS0.out _ Hk3.out.kp1 Hk3.out.kp') (fun _ => (HSS.out _ _ _ _ _ _ _ Hk3.out)) ?_
         case hy14_37 => intro w'' hS''; (try dsimp only at hS''); go_split_ands; go_simp; try (with_reducible rfl)
         (try simp only [Act.put, List.setIfInBounds_toArray, List.set_cons_zero, List.set_cons_succ]); refine AnyT.ready (rs := [13]) (by kernel_rfl) (by simp) (AllT.cons rfl (fun K hK => ?_) AllT.nil)
         ·
          refine step_val rfl _ _ rfl _ v _ _ _ _ Hk3.out 1 (by simp [Act.eval, Act.put]) (by simp [Act.eval, Act.put]) HDv.out (by have := HLl.out; omega) ?_; intro p4 n4 c4 w4 hp4; have Hv4 := hid hp4; clear hp4; refine hK.out _ _ (HS0.out _ Hv4.out.kp1 Hv4.out.kp') (fun _ => (HSS.out _ _ _ _ _ _ _ Hv4.out)) ?_; clear hK K; have g5 := Hv4.out.fr 5; have g6 := Hv4.out.fr 6; have d5 := Hv4.out.c5; have d6 := Hv4.out.c6; refine AnyT.ready (rs := [15]) (by kernel_rfl) (by simp) (AllT.cons rfl (fun K hK => ?_) AllT.nil); go_simp; refine hK.out _ _ (HS0.out _ ((Hv4.out.kp1).setCell (p := ⟨ob, 5, none⟩) (Or.inl (by simp)) _) ((Hv4.out.kp').setCell (p := ⟨ob, 5, none⟩) (Or.inr Hv4.out.lo.1) _)) (fun h => absurd (show false = true from h) (by decide)) ?_; clear hK K
          refine AnyT.take0 (i := 16) (v := ?v16_38) rfl (by kernel_rfl) (fun _ _ _ h => h) (Or.inl ⟨by rfl, ?hy16_38⟩) (HS0.out _ ((Hv4.out.kp1).setCell (p := ⟨ob, 5, none⟩) (Or.inl (by simp)) _) ((Hv4.out.kp').setCell (p := ⟨ob, 5, none⟩) (Or.inr Hv4.out.lo.1) _)) (fun h => absurd (show false = true from h) (by decide)) ?_
          case hy16_38 => intro w'' hS''; clear hS''; go_simp; try (with_reducible rfl)
          (try simp only [Act.put, List.setIfInBounds_toArray, List.set_cons_zero, List.set_cons_succ]); refine AnyT.ready (rs := [17]) (by kernel_rfl) (by simp) (AllT.cons rfl (fun K hK => ?_) AllT.nil); go_simp; refine hK.out _ _ (HS0.out _ (((Hv4.out.kp1).setCell (p := ⟨ob, 5, none⟩) (Or.inl (by simp)) _).setCell (p := ⟨ob, 6, none⟩) (Or.inl (by simp)) _) (((Hv4.out.kp').setCell (p := ⟨ob, 5, none⟩) (Or.inr Hv4.out.lo.1) _).setCell (p := ⟨ob, 6, none⟩) (Or.inr Hv4.out.lo.1) _)) (fun h => absurd (show false = true from h) (by decide)) ?_; clear hK K; refine AnyT.done (by kernel_rfl) ?_ _; refine NoPanic.normal ?_; have HFin := hid Hv4.out.store; go_wp2_with fail
          go_roundw
          case measure => simp [intOf]; omega
          case rel => exact ⟨i + 1, _, ot2 ++ [(k, v)], _, _, _, _, _, _, rfl, by push_cast; rfl, by omega, by rw [HOt.out, ← HPi.out]; exact HN.out, HP.snoc HFin.out⟩
      ·
       go_simp; refine hK.out _ _ (HS0.out _ (HHd.out.allocV _).kp1 (HHd.out.allocV _).kp') (fun _ => (HSS.out _ _ _ _ _ _ _ (HHd.out.allocV _))) ?_; clear hK K; refine AnyT.ready (rs := [3]) (by kernel_rfl) (by simp) (AllT.cons rfl (fun K hK => ?_) AllT.nil)
       ·
        go_simp; refine hK.out _ _ (HS0.out _ ((HHd.out.allocV _).allocK _).kp1 ((HHd.out.allocV _).allocK _).kp') (fun _ => (HSS.out _ _ _ _ _ _ _ ((HHd.out.allocV _).allocK _))) ?_; clear hK K; refine AnyT.ready (rs := [4]) (by kernel_rfl) (by simp) (AllT.cons rfl (fun K hK => ?_) AllT.nil)
        ·
         refine step_key rfl _ _ rfl _ k ((HHd.out.allocV _).allocK _) 1 (by simp [Act.eval, Act.put]) (by simp [Act.eval, Act.put]) (by have := HLl.out; omega) ?_; intro p3 n3 c3 w3 hp3; have Hk3 := hid hp3; clear hp3; refine hK.out _ _ (HS0.out _ Hk3.out.kp1 Hk3.out.kp') (fun _ => (HSS.out _ _ _ _ _ _ _ Hk3.out)) ?_; clear hK K; refine AnyT.take0 (i := 14) (v := ?v14_39) rfl (by kernel_rfl) (fun _ _ _ h => h) (Or.inl ⟨by rfl, ?hy14_39⟩) (HS0.out _ Hk3.out.kp1 Hk3.out.kp') (fun _ => (HSS.out _ _ _ _ _ _ _ Hk3.out)) ?_
         case hy14_39 => intro w'' hS''; (try dsimp only at hS''); go_split_ands; go_simp; try (with_reducible rfl)
         (try simp only [Act.put, List.setIfInBounds_toArray, List.set_cons_zero, List.set_cons_succ]); refine AnyT.ready (rs := [13]) (by kernel_rfl) (by simp) (AllT.cons rfl (fun K hK => ?_) AllT.nil)
         ·
          refine step_val rfl _ _ rfl _ v _ _ _ _ Hk3.out 1 (by simp [Act.eval, Act.put]) (by simp [Act.eval, Act.put]) HDv.out (by have := HLl.out; omega) ?_; intro p4 n4 c4 w4 hp4; have Hv4 := hid hp4; clear hp4; refine hK.out _ _ (HS0.out _ Hv4.out.kp1 Hv4.out.kp') (fun _ => (HSS.out _ _ _ _ _ _ _ Hv4.out)) ?_; clear hK K; have g5 := Hv4.out.fr 5; have g6 := Hv4.out.fr 6; have d5 := Hv4.out.c5; have d6 := Hv4.out.c6; refine AnyT.ready (rs := [15]) (by kernel_rfl) (by simp) (AllT.cons rfl (fun K hK => ?_) AllT.nil); go_simp; refine hK.out _ _ (HS0.out _ ((Hv4.out.kp1).setCell (p := ⟨ob, 5, none⟩) (Or.inl (by simp)) _) ((Hv4.out.kp').setCell (p := ⟨ob, 5, none⟩) (Or.inr Hv4.out.lo.1) _)) (fun h => absurd (show false = true from h) (by decide)) ?_; clear hK K
          refine AnyT.take0 (i := 16) (v := ?v16_40) rfl (by kernel_rfl) (fun _ _ _ h => h) (Or.inl ⟨by rfl, ?hy16_40⟩) (HS0.out _ ((Hv4.out.kp1).setCell (p := ⟨ob, 5, none⟩) (Or.inl (by simp)) _) ((Hv4.out.kp').setCell (p := ⟨ob, 5, none⟩) (Or.inr Hv4.out.lo.1) _)) (fun h => absurd (show false = true from h) (by decide)) ?_
          case hy16_40 => intro w'' hS''; clear hS''; go_simp; try (with_reducible rfl)
          (try simp only [Act.put, List.setIfInBounds_toArray, List.set_cons_zero, List.set_cons_succ]); refine AnyT.ready (rs := [17]) (by kernel_rfl) (by simp) (AllT.cons rfl (fun K hK => ?_) AllT.nil); go_simp; refine hK.out _ _ (HS0.out _ (((Hv4.out.kp1).setCell (p := ⟨ob, 5, none⟩) (Or.inl (by simp)) _).setCell (p := ⟨ob, 6, none⟩) (Or.inl (by simp)) _) (((Hv4.out.kp').setCell (p := ⟨ob, 5, none⟩) (Or.inr Hv4.out.lo.1) _).setCell (p := ⟨ob, 6, none⟩) (Or.inr Hv4.out.lo.1) _)) (fun h => absurd (show false = true from h) (by decide)) ?_; clear hK K; refine AnyT.done (by kernel_rfl) ?_ _; refine NoPanic.normal ?_; have HFin := hid Hv4.out.store; go_wp2_with fail
          go_roundw
          case measure => simp [intOf]; omega
          case rel => exact ⟨i + 1, _, ot2 ++ [(k, v)], _, _, _, _, _, _, rfl, by push_cast; rfl, by omega, by rw [HOt.out, ← HPi.out]; exact HN.out, HP.snoc HFin.out⟩
   ·
    have q3 : dn = false → (Op.bytesLess key.toList k.toList || key.toList == k.toList) = false := fun h => by
     rw [le_kb]; rcases hkk : kb k key with _ | _
     · exact absurd ⟨h, hkk⟩ hle
     · rfl
    have hbk : dn = false → kb k key = true := fun h => by
     rcases hkk : kb k key with _ | _
     · exact absurd ⟨h, hkk⟩ hle
     · rfl
    have hke : k ≠ key := fun h => by
     cases dn with
     | true => have := hdn rfl; rw [h, kb_irrefl] at this; cases this
     | false => have := hbk rfl; rw [h, kb_irrefl] at this; cases this
    have q4 : (k.toList == key.toList) = false := by rw [toList_eq_iff]; simp [hke]
    have HN := hid (HI.out.past hilP (fun h => by rw [HPi.out]; exact hbk h)); rw [HPi.out] at HN; clear hdn hbk hke hle e0 e1 e2 e3 e4 e5 e6
    cases dn with
    | true =>
     clear q3; go_upto_region 10 with fail
     have HHd := hid (HH.out.kp (Kp.refl _ _).drew); refine region_T (fun w' => w'.cell? ⟨b0, 6, none⟩ = some (.slice (some ⟨g, o, none⟩) m.l.length mlc) ∧ w'.cell? ⟨g, o + i * 7, none⟩ = some (.int .i64 v.kind) ∧ w'.cell? ⟨g, o + i * 7 + 1, none⟩ = some (.bool v.b) ∧ w'.cell? ⟨g, o + i * 7 + 2, none⟩ = some (.int .i64 v.i) ∧ w'.cell? ⟨g, o + i * 7 + 3, none⟩ = some (.float .f64 v.f) ∧ w'.cell? ⟨g, o + i * 7 + 4, none⟩ = some (.string v.t) ∧ w'.cell? ⟨g, o + i * 7 + 5, none⟩ = some (.slice vkp v.ks.length vkc) ∧ w'.cell? ⟨g, o + i * 7 + 6, none⟩ = some (.slice vlp v.l.length vlc)) (fun w' => w'.cell? ⟨ob, 5, none⟩ = some (.slice p q cp) ∧ w'.cell? ⟨ob, 6, none⟩ = some (.slice p2 q2 cp2)) [15, 17] (by kernel_rfl) ?_
     have hS0 : ∀ w' : World, Kp [ob] W1 w' → Kp [] w w' → w'.cell? ⟨b0, 6, none⟩ = some (.slice (some ⟨g, o, none⟩) m.l.length mlc) ∧ w'.cell? ⟨g, o + i * 7, none⟩ = some (.int .i64 v.kind) ∧ w'.cell? ⟨g, o + i * 7 + 1, none⟩ = some (.bool v.b) ∧ w'.cell? ⟨g, o + i * 7 + 2, none⟩ = some (.int .i64 v.i) ∧ w'.cell? ⟨g, o + i * 7 + 3, none⟩ = some (.float .f64 v.f) ∧ w'.cell? ⟨g, o + i * 7 + 4, none⟩ = some (.string v.t) ∧ w'.cell? ⟨g, o + i * 7 + 5, none⟩ = some (.slice vkp v.ks.length vkc) ∧ w'.cell? ⟨g, o + i * 7 + 6, none⟩ = some (.slice vlp v.l.length vlc) := fun w' k1 k0 => by
      have hb := HBm.out.keep k1 (by have := HBs.out; simp; omega); obtain ⟨x0, x1, x2, x3, x4, x5, x6⟩ := HA.out; exact ⟨hb.c6, cell_kp x0 k0, cell_kp x1 k0, cell_kp x2 k0, cell_kp x3 k0, cell_kp x4 k0, cell_kp x5 k0, cell_kp x6 k0⟩
     have hSS : ∀ (w' : World) (kr lr : Value) (ka : List ByteArray) (la : List JV) (KT : Option (Nat × ByteArray)) (VT : Option (Nat × List Value)), HP n F w W1 ob _ _ kr lr ka la KT VT w' → w'.cell? ⟨ob, 5, none⟩ = some (.slice p q cp) ∧ w'.cell? ⟨ob, 6, none⟩ = some (.slice p2 q2 cp2) := fun w' _ _ _ _ _ _ hp => ⟨hp.c5, hp.c6⟩
     have HS0 := hid hS0; have HSS := hid hSS; clear hSS hS0; refine AnyT.take0 (i := 0) (v := ?v0_41) rfl (by kernel_rfl) (fun _ _ _ h => h) (Or.inl ⟨by rfl, ?hy0_41⟩) (HS0.out _ HHd.out.kp1 HHd.out.kp') (fun _ => (HSS.out _ _ _ _ _ _ _ HHd.out)) ?_
     case hy0_41 => intro w'' hS''; (try dsimp only at hS''); go_split_ands; go_simp; try (with_reducible rfl)
     (try simp only [Act.put, List.setIfInBounds_toArray, List.set_cons_zero, List.set_cons_succ]); refine AnyT.take (i := 1) (v := ?v1_42) rfl (by kernel_rfl) (fun _ _ _ h => h) (Or.inl ⟨by rfl, ?hy1_42⟩) (HS0.out _ HHd.out.kp1 HHd.out.kp') (HSS.out _ _ _ _ _ _ _ HHd.out) ?_
     case hy1_42 => intro w'' hS''; (try dsimp only at hS''); go_split_ands; go_simp; try (with_reducible rfl)
     (try simp only [Act.put, List.setIfInBounds_toArray, List.set_cons_zero, List.set_cons_succ]); refine AnyT.take0 (i := 2) (v := ?v2_43) rfl (by kernel_rfl) (fun _ _ _ h => h) (Or.inl ⟨by rfl, ?hy2_43⟩) (HS0.out _ HHd.out.kp1 HHd.out.kp') (fun _ => (HSS.out _ _ _ _ _ _ _ HHd.out)) ?_
     case hy2_43 => intro w'' hS''; (try dsimp only at hS''); go_split_ands; go_simp; try (with_reducible rfl)
     (try simp only [Act.put, List.setIfInBounds_toArray, List.set_cons_zero, List.set_cons_succ]); refine AnyT.take0 (i := 5) (v := ?v5_44) rfl (by kernel_rfl) (fun _ _ _ h => h) (Or.inl ⟨by rfl, ?hy5_44⟩) (HS0.out _ HHd.out.kp1 HHd.out.kp') (fun _ => (HSS.out _ _ _ _ _ _ _ HHd.out)) ?_
     case hy5_44 => intro w'' hS''; (try dsimp only at hS''); go_split_ands; go_simp; try (with_reducible rfl)
     (try simp only [Act.put, List.setIfInBounds_toArray, List.set_cons_zero, List.set_cons_succ]); refine AnyT.take (i := 6) (v := ?v6_45) rfl (by kernel_rfl) (fun _ _ _ h => h) (Or.inl ⟨by rfl, ?hy6_45⟩) (HS0.out _ HHd.out.kp1 HHd.out.kp') (HSS.out _ _ _ _ _ _ _ HHd.out) ?_
     case hy6_45 => intro w'' hS''; (try dsimp only at hS''); go_split_ands; go_simp; try (with_reducible rfl)
     (try simp only [Act.put, List.setIfInBounds_toArray, List.set_cons_zero, List.set_cons_succ]); refine AnyT.take0 (i := 7) (v := ?v7_46) rfl (by kernel_rfl) (fun _ _ _ h => h) (Or.inl ⟨by rfl, ?hy7_46⟩) (HS0.out _ HHd.out.kp1 HHd.out.kp') (fun _ => (HSS.out _ _ _ _ _ _ _ HHd.out)) ?_
     case hy7_46 => intro w'' hS''; (try dsimp only at hS''); go_split_ands; go_simp; try (with_reducible rfl)
     (try simp only [Act.put, List.setIfInBounds_toArray, List.set_cons_zero, List.set_cons_succ]); refine AnyT.take0 (i := 8) (v := ?v8_47) rfl (by kernel_rfl) (fun _ _ _ h => h) (Or.inl ⟨by rfl, ?hy8_47⟩) (HS0.out _ HHd.out.kp1 HHd.out.kp') (fun _ => (HSS.out _ _ _ _ _ _ _ HHd.out)) ?_
     case hy8_47 => intro w'' hS''; (try dsimp only at hS''); go_split_ands; go_simp; try (with_reducible rfl)
     (try simp only [Act.put, List.setIfInBounds_toArray, List.set_cons_zero, List.set_cons_succ]); refine AnyT.take0 (i := 9) (v := ?v9_48) rfl (by kernel_rfl) (fun _ _ _ h => h) (Or.inl ⟨by rfl, ?hy9_48⟩) (HS0.out _ HHd.out.kp1 HHd.out.kp') (fun _ => (HSS.out _ _ _ _ _ _ _ HHd.out)) ?_
     case hy9_48 => intro w'' hS''; (try dsimp only at hS''); go_split_ands; go_simp; try (with_reducible rfl)
     (try simp only [Act.put, List.setIfInBounds_toArray, List.set_cons_zero, List.set_cons_succ]); refine AnyT.take0 (i := 10) (v := ?v10_49) rfl (by kernel_rfl) (fun _ _ _ h => h) (Or.inl ⟨by rfl, ?hy10_49⟩) (HS0.out _ HHd.out.kp1 HHd.out.kp') (fun _ => (HSS.out _ _ _ _ _ _ _ HHd.out)) ?_
     case hy10_49 => intro w'' hS''; (try dsimp only at hS''); go_split_ands; go_simp; try (with_reducible rfl)
     (try simp only [Act.put, List.setIfInBounds_toArray, List.set_cons_zero, List.set_cons_succ]); refine AnyT.take0 (i := 11) (v := ?v11_50) rfl (by kernel_rfl) (fun _ _ _ h => h) (Or.inl ⟨by rfl, ?hy11_50⟩) (HS0.out _ HHd.out.kp1 HHd.out.kp') (fun _ => (HSS.out _ _ _ _ _ _ _ HHd.out)) ?_
     case hy11_50 => intro w'' hS''; (try dsimp only at hS''); go_split_ands; go_simp; try (with_reducible rfl)
     (try simp only [Act.put, List.setIfInBounds_toArray, List.set_cons_zero, List.set_cons_succ]); refine AnyT.ready (rs := [3, 12]) (by kernel_rfl) (by simp) (AllT.cons rfl (fun K hK => ?_) (AllT.cons rfl (fun K hK => ?_) AllT.nil))
     ·
      go_simp; refine hK.out _ _ (HS0.out _ (HHd.out.allocK _).kp1 (HHd.out.allocK _).kp') (fun _ => (HSS.out _ _ _ _ _ _ _ (HHd.out.allocK _))) ?_; clear hK K; refine AnyT.ready (rs := [4, 12]) (by kernel_rfl) (by simp) (AllT.cons rfl (fun K hK => ?_) (AllT.cons rfl (fun K hK => ?_) AllT.nil))
      ·
       refine step_key rfl _ _ rfl _ k (HHd.out.allocK _) 1 (by simp [Act.eval, Act.put]) (by simp [Act.eval, Act.put]) (by have := HLl.out; omega) ?_; intro p2 n2 c2 w2 hp2; have Hk2 := hid hp2; clear hp2; refine hK.out _ _ (HS0.out _ Hk2.out.kp1 Hk2.out.kp') (fun _ => (HSS.out _ _ _ _ _ _ _ Hk2.out)) ?_; clear hK K; refine AnyT.take0 (i := 14) (v := ?v14_51) rfl (by kernel_rfl) (fun _ _ _ h => h) (Or.inl ⟨by rfl, ?hy14_51⟩) (HS0.out _ Hk2.out.kp1 Hk2.out.kp') (fun _ => (HSS.out _ _ _ _ _ _ _ Hk2.out)) ?_
       case hy14_51 => intro w'' hS''; (try dsimp only at hS''); go_split_ands; go_simp; try (with_reducible rfl)
       (try simp only [Act.put, List.setIfInBounds_toArray, List.set_cons_zero, List.set_cons_succ]); refine AnyT.ready (rs := [12]) (by kernel_rfl) (by simp) (AllT.cons rfl (fun K hK => ?_) AllT.nil)
       ·
        go_simp; refine hK.out _ _ (HS0.out _ (Hk2.out.allocV _).kp1 (Hk2.out.allocV _).kp') (fun _ => (HSS.out _ _ _ _ _ _ _ (Hk2.out.allocV _))) ?_; clear hK K; refine AnyT.ready (rs := [13]) (by kernel_rfl) (by simp) (AllT.cons rfl (fun K hK => ?_) AllT.nil)
        ·
         refine step_val rfl _ _ rfl _ v _ _ _ _ (Hk2.out.allocV _) 1 (by simp [Act.eval, Act.put]) (by simp [Act.eval, Act.put]) HDv.out (by have := HLl.out; omega) ?_; intro p4 n4 c4 w4 hp4; have Hv4 := hid hp4; clear hp4; refine hK.out _ _ (HS0.out _ Hv4.out.kp1 Hv4.out.kp') (fun _ => (HSS.out _ _ _ _ _ _ _ Hv4.out)) ?_; clear hK K; have g5 := Hv4.out.fr 5; have g6 := Hv4.out.fr 6; have d5 := Hv4.out.c5; have d6 := Hv4.out.c6; refine AnyT.ready (rs := [15]) (by kernel_rfl) (by simp) (AllT.cons rfl (fun K hK => ?_) AllT.nil); go_simp; refine hK.out _ _ (HS0.out _ ((Hv4.out.kp1).setCell (p := ⟨ob, 5, none⟩) (Or.inl (by simp)) _) ((Hv4.out.kp').setCell (p := ⟨ob, 5, none⟩) (Or.inr Hv4.out.lo.1) _)) (fun h => absurd (show false = true from h) (by decide)) ?_; clear hK K
         refine AnyT.take0 (i := 16) (v := ?v16_52) rfl (by kernel_rfl) (fun _ _ _ h => h) (Or.inl ⟨by rfl, ?hy16_52⟩) (HS0.out _ ((Hv4.out.kp1).setCell (p := ⟨ob, 5, none⟩) (Or.inl (by simp)) _) ((Hv4.out.kp').setCell (p := ⟨ob, 5, none⟩) (Or.inr Hv4.out.lo.1) _)) (fun h => absurd (show false = true from h) (by decide)) ?_
         case hy16_52 => intro w'' hS''; clear hS''; go_simp; try (with_reducible rfl)
         (try simp only [Act.put, List.setIfInBounds_toArray, List.set_cons_zero, List.set_cons_succ]); refine AnyT.ready (rs := [17]) (by kernel_rfl) (by simp) (AllT.cons rfl (fun K hK => ?_) AllT.nil); go_simp; refine hK.out _ _ (HS0.out _ (((Hv4.out.kp1).setCell (p := ⟨ob, 5, none⟩) (Or.inl (by simp)) _).setCell (p := ⟨ob, 6, none⟩) (Or.inl (by simp)) _) (((Hv4.out.kp').setCell (p := ⟨ob, 5, none⟩) (Or.inr Hv4.out.lo.1) _).setCell (p := ⟨ob, 6, none⟩) (Or.inr Hv4.out.lo.1) _)) (fun h => absurd (show false = true from h) (by decide)) ?_; clear hK K; refine AnyT.done (by kernel_rfl) ?_ _; refine NoPanic.normal ?_; have HFin := hid Hv4.out.store; go_wp2_with fail
         go_roundw
         case measure => simp [intOf]; omega
         case rel => exact ⟨i + 1, _, ot ++ [(k, v)], _, _, _, _, _, _, rfl, by push_cast; rfl, by omega, HN.out, HP.snoc HFin.out⟩
      ·
       go_simp; refine hK.out _ _ (HS0.out _ ((HHd.out.allocK _).allocV _).kp1 ((HHd.out.allocK _).allocV _).kp') (fun _ => (HSS.out _ _ _ _ _ _ _ ((HHd.out.allocK _).allocV _))) ?_; clear hK K; refine AnyT.ready (rs := [4]) (by kernel_rfl) (by simp) (AllT.cons rfl (fun K hK => ?_) AllT.nil)
       ·
        refine step_key rfl _ _ rfl _ k ((HHd.out.allocK _).allocV _) 1 (by simp [Act.eval, Act.put]) (by simp [Act.eval, Act.put]) (by have := HLl.out; omega) ?_; intro p3 n3 c3 w3 hp3; have Hk3 := hid hp3; clear hp3; refine hK.out _ _ (HS0.out _ Hk3.out.kp1 Hk3.out.kp') (fun _ => (HSS.out _ _ _ _ _ _ _ Hk3.out)) ?_; clear hK K; refine AnyT.take0 (i := 14) (v := ?v14_53) rfl (by kernel_rfl) (fun _ _ _ h => h) (Or.inl ⟨by rfl, ?hy14_53⟩) (HS0.out _ Hk3.out.kp1 Hk3.out.kp') (fun _ => (HSS.out _ _ _ _ _ _ _ Hk3.out)) ?_
        case hy14_53 => intro w'' hS''; (try dsimp only at hS''); go_split_ands; go_simp; try (with_reducible rfl)
        (try simp only [Act.put, List.setIfInBounds_toArray, List.set_cons_zero, List.set_cons_succ]); refine AnyT.ready (rs := [13]) (by kernel_rfl) (by simp) (AllT.cons rfl (fun K hK => ?_) AllT.nil)
        ·
         refine step_val rfl _ _ rfl _ v _ _ _ _ Hk3.out 1 (by simp [Act.eval, Act.put]) (by simp [Act.eval, Act.put]) HDv.out (by have := HLl.out; omega) ?_; intro p4 n4 c4 w4 hp4; have Hv4 := hid hp4; clear hp4; refine hK.out _ _ (HS0.out _ Hv4.out.kp1 Hv4.out.kp') (fun _ => (HSS.out _ _ _ _ _ _ _ Hv4.out)) ?_; clear hK K; have g5 := Hv4.out.fr 5; have g6 := Hv4.out.fr 6; have d5 := Hv4.out.c5; have d6 := Hv4.out.c6; refine AnyT.ready (rs := [15]) (by kernel_rfl) (by simp) (AllT.cons rfl (fun K hK => ?_) AllT.nil); go_simp; refine hK.out _ _ (HS0.out _ ((Hv4.out.kp1).setCell (p := ⟨ob, 5, none⟩) (Or.inl (by simp)) _) ((Hv4.out.kp').setCell (p := ⟨ob, 5, none⟩) (Or.inr Hv4.out.lo.1) _)) (fun h => absurd (show false = true from h) (by decide)) ?_; clear hK K
         refine AnyT.take0 (i := 16) (v := ?v16_54) rfl (by kernel_rfl) (fun _ _ _ h => h) (Or.inl ⟨by rfl, ?hy16_54⟩) (HS0.out _ ((Hv4.out.kp1).setCell (p := ⟨ob, 5, none⟩) (Or.inl (by simp)) _) ((Hv4.out.kp').setCell (p := ⟨ob, 5, none⟩) (Or.inr Hv4.out.lo.1) _)) (fun h => absurd (show false = true from h) (by decide)) ?_
         case hy16_54 => intro w'' hS''; clear hS''; go_simp; try (with_reducible rfl)
         (try simp only [Act.put, List.setIfInBounds_toArray, List.set_cons_zero, List.set_cons_succ]); refine AnyT.ready (rs := [17]) (by kernel_rfl) (by simp) (AllT.cons rfl (fun K hK => ?_) AllT.nil); go_simp; refine hK.out _ _ (HS0.out _ (((Hv4.out.kp1).setCell (p := ⟨ob, 5, none⟩) (Or.inl (by simp)) _).setCell (p := ⟨ob, 6, none⟩) (Or.inl (by simp)) _) (((Hv4.out.kp').setCell (p := ⟨ob, 5, none⟩) (Or.inr Hv4.out.lo.1) _).setCell (p := ⟨ob, 6, none⟩) (Or.inr Hv4.out.lo.1) _)) (fun h => absurd (show false = true from h) (by decide)) ?_; clear hK K; refine AnyT.done (by kernel_rfl) ?_ _; refine NoPanic.normal ?_; have HFin := hid Hv4.out.store; go_wp2_with fail
         go_roundw
         case measure => simp [intOf]; omega
         case rel => exact ⟨i + 1, _, ot ++ [(k, v)], _, _, _, _, _, _, rfl, by push_cast; rfl, by omega, HN.out, HP.snoc HFin.out⟩
     ·
      go_simp; refine hK.out _ _ (HS0.out _ (HHd.out.allocV _).kp1 (HHd.out.allocV _).kp') (fun _ => (HSS.out _ _ _ _ _ _ _ (HHd.out.allocV _))) ?_; clear hK K; refine AnyT.ready (rs := [3]) (by kernel_rfl) (by simp) (AllT.cons rfl (fun K hK => ?_) AllT.nil)
      ·
       go_simp; refine hK.out _ _ (HS0.out _ ((HHd.out.allocV _).allocK _).kp1 ((HHd.out.allocV _).allocK _).kp') (fun _ => (HSS.out _ _ _ _ _ _ _ ((HHd.out.allocV _).allocK _))) ?_; clear hK K; refine AnyT.ready (rs := [4]) (by kernel_rfl) (by simp) (AllT.cons rfl (fun K hK => ?_) AllT.nil)
       ·
        refine step_key rfl _ _ rfl _ k ((HHd.out.allocV _).allocK _) 1 (by simp [Act.eval, Act.put]) (by simp [Act.eval, Act.put]) (by have := HLl.out; omega) ?_; intro p3 n3 c3 w3 hp3; have Hk3 := hid hp3; clear hp3; refine hK.out _ _ (HS0.out _ Hk3.out.kp1 Hk3.out.kp') (fun _ => (HSS.out _ _ _ _ _ _ _ Hk3.out)) ?_; clear hK K; refine AnyT.take0 (i := 14) (v := ?v14_55) rfl (by kernel_rfl) (fun _ _ _ h => h) (Or.inl ⟨by rfl, ?hy14_55⟩) (HS0.out _ Hk3.out.kp1 Hk3.out.kp') (fun _ => (HSS.out _ _ _ _ _ _ _ Hk3.out)) ?_
        case hy14_55 => intro w'' hS''; (try dsimp only at hS''); go_split_ands; go_simp; try (with_reducible rfl)
        (try simp only [Act.put, List.setIfInBounds_toArray, List.set_cons_zero, List.set_cons_succ]); refine AnyT.ready (rs := [13]) (by kernel_rfl) (by simp) (AllT.cons rfl (fun K hK => ?_) AllT.nil)
        ·
         refine step_val rfl _ _ rfl _ v _ _ _ _ Hk3.out 1 (by simp [Act.eval, Act.put]) (by simp [Act.eval, Act.put]) HDv.out (by have := HLl.out; omega) ?_; intro p4 n4 c4 w4 hp4; have Hv4 := hid hp4; clear hp4; refine hK.out _ _ (HS0.out _ Hv4.out.kp1 Hv4.out.kp') (fun _ => (HSS.out _ _ _ _ _ _ _ Hv4.out)) ?_; clear hK K; have g5 := Hv4.out.fr 5; have g6 := Hv4.out.fr 6; have d5 := Hv4.out.c5; have d6 := Hv4.out.c6; refine AnyT.ready (rs := [15]) (by kernel_rfl) (by simp) (AllT.cons rfl (fun K hK => ?_) AllT.nil); go_simp; refine hK.out _ _ (HS0.out _ ((Hv4.out.kp1).setCell (p := ⟨ob, 5, none⟩) (Or.inl (by simp)) _) ((Hv4.out.kp').setCell (p := ⟨ob, 5, none⟩) (Or.inr Hv4.out.lo.1) _)) (fun h => absurd (show false = true from h) (by decide)) ?_; clear hK K
         refine AnyT.take0 (i := 16) (v := ?v16_56) rfl (by kernel_rfl) (fun _ _ _ h => h) (Or.inl ⟨by rfl, ?hy16_56⟩) (HS0.out _ ((Hv4.out.kp1).setCell (p := ⟨ob, 5, none⟩) (Or.inl (by simp)) _) ((Hv4.out.kp').setCell (p := ⟨ob, 5, none⟩) (Or.inr Hv4.out.lo.1) _)) (fun h => absurd (show false = true from h) (by decide)) ?_
         case hy16_56 => intro w'' hS''; clear hS''; go_simp; try (with_reducible rfl)
         (try simp only [Act.put, List.setIfInBounds_toArray, List.set_cons_zero, List.set_cons_succ]); refine AnyT.ready (rs := [17]) (by kernel_rfl) (by simp) (AllT.cons rfl (fun K hK => ?_) AllT.nil); go_simp; refine hK.out _ _ (HS0.out _ (((Hv4.out.kp1).setCell (p := ⟨ob, 5, none⟩) (Or.inl (by simp)) _).setCell (p := ⟨ob, 6, none⟩) (Or.inl (by simp)) _) (((Hv4.out.kp').setCell (p := ⟨ob, 5, none⟩) (Or.inr Hv4.out.lo.1) _).setCell (p := ⟨ob, 6, none⟩) (Or.inr Hv4.out.lo.1) _)) (fun h => absurd (show false = true from h) (by decide)) ?_; clear hK K; refine AnyT.done (by kernel_rfl) ?_ _; refine NoPanic.normal ?_; have HFin := hid Hv4.out.store; go_wp2_with fail
         go_roundw
         case measure => simp [intOf]; omega
         case rel => exact ⟨i + 1, _, ot ++ [(k, v)], _, _, _, _, _, _, rfl, by push_cast; rfl, by omega, HN.out, HP.snoc HFin.out⟩
    | false =>
     have q3 := q3 rfl; go_upto_region 10 with fail
     have HHd := hid (HH.out.kp (Kp.refl _ _).drew); refine region_T (fun w' => w'.cell? ⟨b0, 6, none⟩ = some (.slice (some ⟨g, o, none⟩) m.l.length mlc) ∧ w'.cell? ⟨g, o + i * 7, none⟩ = some (.int .i64 v.kind) ∧ w'.cell? ⟨g, o + i * 7 + 1, none⟩ = some (.bool v.b) ∧ w'.cell? ⟨g, o + i * 7 + 2, none⟩ = some (.int .i64 v.i) ∧ w'.cell? ⟨g, o + i * 7 + 3, none⟩ = some (.float .f64 v.f) ∧ w'.cell? ⟨g, o + i * 7 + 4, none⟩ = some (.string v.t) ∧ w'.cell? ⟨g, o + i * 7 + 5, none⟩ = some (.slice vkp v.ks.length vkc) ∧ w'.cell? ⟨g, o + i * 7 + 6, none⟩ = some (.slice vlp v.l.length vlc)) (fun w' => w'.cell? ⟨ob, 5, none⟩ = some (.slice p q cp) ∧ w'.cell? ⟨ob, 6, none⟩ = some (.slice p2 q2 cp2)) [15, 17] (by kernel_rfl) ?_
     have hS0 : ∀ w' : World, Kp [ob] W1 w' → Kp [] w w' → w'.cell? ⟨b0, 6, none⟩ = some (.slice (some ⟨g, o, none⟩) m.l.length mlc) ∧ w'.cell? ⟨g, o + i * 7, none⟩ = some (.int .i64 v.kind) ∧ w'.cell? ⟨g, o + i * 7 + 1, none⟩ = some (.bool v.b) ∧ w'.cell? ⟨g, o + i * 7 + 2, none⟩ = some (.int .i64 v.i) ∧ w'.cell? ⟨g, o + i * 7 + 3, none⟩ = some (.float .f64 v.f) ∧ w'.cell? ⟨g, o + i * 7 + 4, none⟩ = some (.string v.t) ∧ w'.cell? ⟨g, o + i * 7 + 5, none⟩ = some (.slice vkp v.ks.length vkc) ∧ w'.cell? ⟨g, o + i * 7 + 6, none⟩ = some (.slice vlp v.l.length vlc) := fun w' k1 k0 => by
      have hb := HBm.out.keep k1 (by have := HBs.out; simp; omega); obtain ⟨x0, x1, x2, x3, x4, x5, x6⟩ := HA.out; exact ⟨hb.c6, cell_kp x0 k0, cell_kp x1 k0, cell_kp x2 k0, cell_kp x3 k0, cell_kp x4 k0, cell_kp x5 k0, cell_kp x6 k0⟩
     have hSS : ∀ (w' : World) (kr lr : Value) (ka : List ByteArray) (la : List JV) (KT : Option (Nat × ByteArray)) (VT : Option (Nat × List Value)), HP n F w W1 ob _ _ kr lr ka la KT VT w' → w'.cell? ⟨ob, 5, none⟩ = some (.slice p q cp) ∧ w'.cell? ⟨ob, 6, none⟩ = some (.slice p2 q2 cp2) := fun w' _ _ _ _ _ _ hp => ⟨hp.c5, hp.c6⟩
     have HS0 := hid hS0; have HSS := hid hSS; clear hSS hS0; refine AnyT.take0 (i := 0) (v := ?v0_57) rfl (by kernel_rfl) (fun _ _ _ h => h) (Or.inl ⟨by rfl, ?hy0_57⟩) (HS0.out _ HHd.out.kp1 HHd.out.kp') (fun _ => (HSS.out _ _ _ _ _ _ _ HHd.out)) ?_
     case hy0_57 => intro w'' hS''; (try dsimp only at hS''); go_split_ands; go_simp; try (with_reducible rfl)
     (try simp only [Act.put, List.setIfInBounds_toArray, List.set_cons_zero, List.set_cons_succ]); refine AnyT.take (i := 1) (v := ?v1_58) rfl (by kernel_rfl) (fun _ _ _ h => h) (Or.inl ⟨by rfl, ?hy1_58⟩) (HS0.out _ HHd.out.kp1 HHd.out.kp') (HSS.out _ _ _ _ _ _ _ HHd.out) ?_
     case hy1_58 => intro w'' hS''; (try dsimp only at hS''); go_split_ands; go_simp; try (with_reducible rfl)
     (try simp only [Act.put, List.setIfInBounds_toArray, List.set_cons_zero, List.set_cons_succ]); refine AnyT.take0 (i := 2) (v := ?v2_59) rfl (by kernel_rfl) (fun _ _ _ h => h) (Or.inl ⟨by rfl, ?hy2_59⟩) (HS0.out _ HHd.out.kp1 HHd.out.kp') (fun _ => (HSS.out _ _ _ _ _ _ _ HHd.out)) ?_
     case hy2_59 => intro w'' hS''; (try dsimp only at hS''); go_split_ands; go_simp; try (with_reducible rfl)
     (try simp only [Act.put, List.setIfInBounds_toArray, List.set_cons_zero, List.set_cons_succ]); refine AnyT.take0 (i := 5) (v := ?v5_60) rfl (by kernel_rfl) (fun _ _ _ h => h) (Or.inl ⟨by rfl, ?hy5_60⟩) (HS0.out _ HHd.out.kp1 HHd.out.kp') (fun _ => (HSS.out _ _ _ _ _ _ _ HHd.out)) ?_
     case hy5_60 => intro w'' hS''; (try dsimp only at hS''); go_split_ands; go_simp; try (with_reducible rfl)
     (try simp only [Act.put, List.setIfInBounds_toArray, List.set_cons_zero, List.set_cons_succ]); refine AnyT.take (i := 6) (v := ?v6_61) rfl (by kernel_rfl) (fun _ _ _ h => h) (Or.inl ⟨by rfl, ?hy6_61⟩) (HS0.out _ HHd.out.kp1 HHd.out.kp') (HSS.out _ _ _ _ _ _ _ HHd.out) ?_
     case hy6_61 => intro w'' hS''; (try dsimp only at hS''); go_split_ands; go_simp; try (with_reducible rfl)
     (try simp only [Act.put, List.setIfInBounds_toArray, List.set_cons_zero, List.set_cons_succ]); refine AnyT.take0 (i := 7) (v := ?v7_62) rfl (by kernel_rfl) (fun _ _ _ h => h) (Or.inl ⟨by rfl, ?hy7_62⟩) (HS0.out _ HHd.out.kp1 HHd.out.kp') (fun _ => (HSS.out _ _ _ _ _ _ _ HHd.out)) ?_
     case hy7_62 => intro w'' hS''; (try dsimp only at hS''); go_split_ands; go_simp; try (with_reducible rfl)
     (try simp only [Act.put, List.setIfInBounds_toArray, List.set_cons_zero, List.set_cons_succ]); refine AnyT.take0 (i := 8) (v := ?v8_63) rfl (by kernel_rfl) (fun _ _ _ h => h) (Or.inl ⟨by rfl, ?hy8_63⟩) (HS0.out _ HHd.out.kp1 HHd.out.kp') (fun _ => (HSS.out _ _ _ _ _ _ _ HHd.out)) ?_
     case hy8_63 => intro w'' hS''; (try dsimp only at hS''); go_split_ands; go_simp; try (with_reducible rfl)
     (try simp only [Act.put, List.setIfInBounds_toArray, List.set_cons_zero, List.set_cons_succ]); refine AnyT.take0 (i := 9) (v := ?v9_64) rfl (by kernel_rfl) (fun _ _ _ h => h) (Or.inl ⟨by rfl, ?hy9_64⟩) (HS0.out _ HHd.out.kp1 HHd.out.kp') (fun _ => (HSS.out _ _ _ _ _ _ _ HHd.out)) ?_
     case hy9_64 => intro w'' hS''; (try dsimp only at hS''); go_split_ands; go_simp; try (with_reducible rfl)
     (try simp only [Act.put, List.setIfInBounds_toArray, List.set_cons_zero, List.set_cons_succ]); refine AnyT.take0 (i := 10) (v := ?v10_65) rfl (by kernel_rfl) (fun _ _ _ h => h) (Or.inl ⟨by rfl, ?hy10_65⟩) (HS0.out _ HHd.out.kp1 HHd.out.kp') (fun _ => (HSS.out _ _ _ _ _ _ _ HHd.out)) ?_
     case hy10_65 => intro w'' hS''; (try dsimp only at hS''); go_split_ands; go_simp; try (with_reducible rfl)
     (try simp only [Act.put, List.setIfInBounds_toArray, List.set_cons_zero, List.set_cons_succ]); refine AnyT.take0 (i := 11) (v := ?v11_66) rfl (by kernel_rfl) (fun _ _ _ h => h) (Or.inl ⟨by rfl, ?hy11_66⟩) (HS0.out _ HHd.out.kp1 HHd.out.kp') (fun _ => (HSS.out _ _ _ _ _ _ _ HHd.out)) ?_
     case hy11_66 => intro w'' hS''; (try dsimp only at hS''); go_split_ands; go_simp; try (with_reducible rfl)
     (try simp only [Act.put, List.setIfInBounds_toArray, List.set_cons_zero, List.set_cons_succ]); refine AnyT.ready (rs := [3, 12]) (by kernel_rfl) (by simp) (AllT.cons rfl (fun K hK => ?_) (AllT.cons rfl (fun K hK => ?_) AllT.nil))
     ·
      go_simp; refine hK.out _ _ (HS0.out _ (HHd.out.allocK _).kp1 (HHd.out.allocK _).kp') (fun _ => (HSS.out _ _ _ _ _ _ _ (HHd.out.allocK _))) ?_; clear hK K; refine AnyT.ready (rs := [4, 12]) (by kernel_rfl) (by simp) (AllT.cons rfl (fun K hK => ?_) (AllT.cons rfl (fun K hK => ?_) AllT.nil))
      ·
       refine step_key rfl _ _ rfl _ k (HHd.out.allocK _) 1 (by simp [Act.eval, Act.put]) (by simp [Act.eval, Act.put]) (by have := HLl.out; omega) ?_; intro p2 n2 c2 w2 hp2; have Hk2 := hid hp2; clear hp2; refine hK.out _ _ (HS0.out _ Hk2.out.kp1 Hk2.out.kp') (fun _ => (HSS.out _ _ _ _ _ _ _ Hk2.out)) ?_; clear hK K; refine AnyT.take0 (i := 14) (v := ?v14_67) rfl (by kernel_rfl) (fun _ _ _ h => h) (Or.inl ⟨by rfl, ?hy14_67⟩) (HS0.out _ Hk2.out.kp1 Hk2.out.kp') (fun _ => (HSS.out _ _ _ _ _ _ _ Hk2.out)) ?_
       case hy14_67 => intro w'' hS''; (try dsimp only at hS''); go_split_ands; go_simp; try (with_reducible rfl)
       (try simp only [Act.put, List.setIfInBounds_toArray, List.set_cons_zero, List.set_cons_succ]); refine AnyT.ready (rs := [12]) (by kernel_rfl) (by simp) (AllT.cons rfl (fun K hK => ?_) AllT.nil)
       ·
        go_simp; refine hK.out _ _ (HS0.out _ (Hk2.out.allocV _).kp1 (Hk2.out.allocV _).kp') (fun _ => (HSS.out _ _ _ _ _ _ _ (Hk2.out.allocV _))) ?_; clear hK K; refine AnyT.ready (rs := [13]) (by kernel_rfl) (by simp) (AllT.cons rfl (fun K hK => ?_) AllT.nil)
        ·
         refine step_val rfl _ _ rfl _ v _ _ _ _ (Hk2.out.allocV _) 1 (by simp [Act.eval, Act.put]) (by simp [Act.eval, Act.put]) HDv.out (by have := HLl.out; omega) ?_; intro p4 n4 c4 w4 hp4; have Hv4 := hid hp4; clear hp4; refine hK.out _ _ (HS0.out _ Hv4.out.kp1 Hv4.out.kp') (fun _ => (HSS.out _ _ _ _ _ _ _ Hv4.out)) ?_; clear hK K; have g5 := Hv4.out.fr 5; have g6 := Hv4.out.fr 6; have d5 := Hv4.out.c5; have d6 := Hv4.out.c6; refine AnyT.ready (rs := [15]) (by kernel_rfl) (by simp) (AllT.cons rfl (fun K hK => ?_) AllT.nil); go_simp; refine hK.out _ _ (HS0.out _ ((Hv4.out.kp1).setCell (p := ⟨ob, 5, none⟩) (Or.inl (by simp)) _) ((Hv4.out.kp').setCell (p := ⟨ob, 5, none⟩) (Or.inr Hv4.out.lo.1) _)) (fun h => absurd (show false = true from h) (by decide)) ?_; clear hK K
         refine AnyT.take0 (i := 16) (v := ?v16_68) rfl (by kernel_rfl) (fun _ _ _ h => h) (Or.inl ⟨by rfl, ?hy16_68⟩) (HS0.out _ ((Hv4.out.kp1).setCell (p := ⟨ob, 5, none⟩) (Or.inl (by simp)) _) ((Hv4.out.kp').setCell (p := ⟨ob, 5, none⟩) (Or.inr Hv4.out.lo.1) _)) (fun h => absurd (show false = true from h) (by decide)) ?_
         case hy16_68 => intro w'' hS''; clear hS''; go_simp; try (with_reducible rfl)
         (try simp only [Act.put, List.setIfInBounds_toArray, List.set_cons_zero, List.set_cons_succ]); refine AnyT.ready (rs := [17]) (by kernel_rfl) (by simp) (AllT.cons rfl (fun K hK => ?_) AllT.nil); go_simp; refine hK.out _ _ (HS0.out _ (((Hv4.out.kp1).setCell (p := ⟨ob, 5, none⟩) (Or.inl (by simp)) _).setCell (p := ⟨ob, 6, none⟩) (Or.inl (by simp)) _) (((Hv4.out.kp').setCell (p := ⟨ob, 5, none⟩) (Or.inr Hv4.out.lo.1) _).setCell (p := ⟨ob, 6, none⟩) (Or.inr Hv4.out.lo.1) _)) (fun h => absurd (show false = true from h) (by decide)) ?_; clear hK K; refine AnyT.done (by kernel_rfl) ?_ _; refine NoPanic.normal ?_; have HFin := hid Hv4.out.store; go_wp2_with fail
         go_roundw
         case measure => simp [intOf]; omega
         case rel => exact ⟨i + 1, _, ot ++ [(k, v)], _, _, _, _, _, _, rfl, by push_cast; rfl, by omega, HN.out, HP.snoc HFin.out⟩
      ·
       go_simp; refine hK.out _ _ (HS0.out _ ((HHd.out.allocK _).allocV _).kp1 ((HHd.out.allocK _).allocV _).kp') (fun _ => (HSS.out _ _ _ _ _ _ _ ((HHd.out.allocK _).allocV _))) ?_; clear hK K; refine AnyT.ready (rs := [4]) (by kernel_rfl) (by simp) (AllT.cons rfl (fun K hK => ?_) AllT.nil)
       ·
        refine step_key rfl _ _ rfl _ k ((HHd.out.allocK _).allocV _) 1 (by simp [Act.eval, Act.put]) (by simp [Act.eval, Act.put]) (by have := HLl.out; omega) ?_; intro p3 n3 c3 w3 hp3; have Hk3 := hid hp3; clear hp3; refine hK.out _ _ (HS0.out _ Hk3.out.kp1 Hk3.out.kp') (fun _ => (HSS.out _ _ _ _ _ _ _ Hk3.out)) ?_; clear hK K; refine AnyT.take0 (i := 14) (v := ?v14_69) rfl (by kernel_rfl) (fun _ _ _ h => h) (Or.inl ⟨by rfl, ?hy14_69⟩) (HS0.out _ Hk3.out.kp1 Hk3.out.kp') (fun _ => (HSS.out _ _ _ _ _ _ _ Hk3.out)) ?_
        case hy14_69 => intro w'' hS''; (try dsimp only at hS''); go_split_ands; go_simp; try (with_reducible rfl)
        (try simp only [Act.put, List.setIfInBounds_toArray, List.set_cons_zero, List.set_cons_succ]); refine AnyT.ready (rs := [13]) (by kernel_rfl) (by simp) (AllT.cons rfl (fun K hK => ?_) AllT.nil)
        ·
         refine step_val rfl _ _ rfl _ v _ _ _ _ Hk3.out 1 (by simp [Act.eval, Act.put]) (by simp [Act.eval, Act.put]) HDv.out (by have := HLl.out; omega) ?_; intro p4 n4 c4 w4 hp4; have Hv4 := hid hp4; clear hp4; refine hK.out _ _ (HS0.out _ Hv4.out.kp1 Hv4.out.kp') (fun _ => (HSS.out _ _ _ _ _ _ _ Hv4.out)) ?_; clear hK K; have g5 := Hv4.out.fr 5; have g6 := Hv4.out.fr 6; have d5 := Hv4.out.c5; have d6 := Hv4.out.c6; refine AnyT.ready (rs := [15]) (by kernel_rfl) (by simp) (AllT.cons rfl (fun K hK => ?_) AllT.nil); go_simp; refine hK.out _ _ (HS0.out _ ((Hv4.out.kp1).setCell (p := ⟨ob, 5, none⟩) (Or.inl (by simp)) _) ((Hv4.out.kp').setCell (p := ⟨ob, 5, none⟩) (Or.inr Hv4.out.lo.1) _)) (fun h => absurd (show false = true from h) (by decide)) ?_; clear hK K
         refine AnyT.take0 (i := 16) (v := ?v16_70) rfl (by kernel_rfl) (fun _ _ _ h => h) (Or.inl ⟨by rfl, ?hy16_70⟩) (HS0.out _ ((Hv4.out.kp1).setCell (p := ⟨ob, 5, none⟩) (Or.inl (by simp)) _) ((Hv4.out.kp').setCell (p := ⟨ob, 5, none⟩) (Or.inr Hv4.out.lo.1) _)) (fun h => absurd (show false = true from h) (by decide)) ?_
         case hy16_70 => intro w'' hS''; clear hS''; go_simp; try (with_reducible rfl)
         (try simp only [Act.put, List.setIfInBounds_toArray, List.set_cons_zero, List.set_cons_succ]); refine AnyT.ready (rs := [17]) (by kernel_rfl) (by simp) (AllT.cons rfl (fun K hK => ?_) AllT.nil); go_simp; refine hK.out _ _ (HS0.out _ (((Hv4.out.kp1).setCell (p := ⟨ob, 5, none⟩) (Or.inl (by simp)) _).setCell (p := ⟨ob, 6, none⟩) (Or.inl (by simp)) _) (((Hv4.out.kp').setCell (p := ⟨ob, 5, none⟩) (Or.inr Hv4.out.lo.1) _).setCell (p := ⟨ob, 6, none⟩) (Or.inr Hv4.out.lo.1) _)) (fun h => absurd (show false = true from h) (by decide)) ?_; clear hK K; refine AnyT.done (by kernel_rfl) ?_ _; refine NoPanic.normal ?_; have HFin := hid Hv4.out.store; go_wp2_with fail
         go_roundw
         case measure => simp [intOf]; omega
         case rel => exact ⟨i + 1, _, ot ++ [(k, v)], _, _, _, _, _, _, rfl, by push_cast; rfl, by omega, HN.out, HP.snoc HFin.out⟩
     ·
      go_simp; refine hK.out _ _ (HS0.out _ (HHd.out.allocV _).kp1 (HHd.out.allocV _).kp') (fun _ => (HSS.out _ _ _ _ _ _ _ (HHd.out.allocV _))) ?_; clear hK K; refine AnyT.ready (rs := [3]) (by kernel_rfl) (by simp) (AllT.cons rfl (fun K hK => ?_) AllT.nil)
      ·
       go_simp; refine hK.out _ _ (HS0.out _ ((HHd.out.allocV _).allocK _).kp1 ((HHd.out.allocV _).allocK _).kp') (fun _ => (HSS.out _ _ _ _ _ _ _ ((HHd.out.allocV _).allocK _))) ?_; clear hK K; refine AnyT.ready (rs := [4]) (by kernel_rfl) (by simp) (AllT.cons rfl (fun K hK => ?_) AllT.nil)
       ·
        refine step_key rfl _ _ rfl _ k ((HHd.out.allocV _).allocK _) 1 (by simp [Act.eval, Act.put]) (by simp [Act.eval, Act.put]) (by have := HLl.out; omega) ?_; intro p3 n3 c3 w3 hp3; have Hk3 := hid hp3; clear hp3; refine hK.out _ _ (HS0.out _ Hk3.out.kp1 Hk3.out.kp') (fun _ => (HSS.out _ _ _ _ _ _ _ Hk3.out)) ?_; clear hK K; refine AnyT.take0 (i := 14) (v := ?v14_71) rfl (by kernel_rfl) (fun _ _ _ h => h) (Or.inl ⟨by rfl, ?hy14_71⟩) (HS0.out _ Hk3.out.kp1 Hk3.out.kp') (fun _ => (HSS.out _ _ _ _ _ _ _ Hk3.out)) ?_
        case hy14_71 => intro w'' hS''; (try dsimp only at hS''); go_split_ands; go_simp; try (with_reducible rfl)
        (try simp only [Act.put, List.setIfInBounds_toArray, List.set_cons_zero, List.set_cons_succ]); refine AnyT.ready (rs := [13]) (by kernel_rfl) (by simp) (AllT.cons rfl (fun K hK => ?_) AllT.nil)
        ·
         refine step_val rfl _ _ rfl _ v _ _ _ _ Hk3.out 1 (by simp [Act.eval, Act.put]) (by simp [Act.eval, Act.put]) HDv.out (by have := HLl.out; omega) ?_; intro p4 n4 c4 w4 hp4; have Hv4 := hid hp4; clear hp4; refine hK.out _ _ (HS0.out _ Hv4.out.kp1 Hv4.out.kp') (fun _ => (HSS.out _ _ _ _ _ _ _ Hv4.out)) ?_; clear hK K; have g5 := Hv4.out.fr 5; have g6 := Hv4.out.fr 6; have d5 := Hv4.out.c5; have d6 := Hv4.out.c6; refine AnyT.ready (rs := [15]) (by kernel_rfl) (by simp) (AllT.cons rfl (fun K hK => ?_) AllT.nil); go_simp; refine hK.out _ _ (HS0.out _ ((Hv4.out.kp1).setCell (p := ⟨ob, 5, none⟩) (Or.inl (by simp)) _) ((Hv4.out.kp').setCell (p := ⟨ob, 5, none⟩) (Or.inr Hv4.out.lo.1) _)) (fun h => absurd (show false = true from h) (by decide)) ?_; clear hK K
         refine AnyT.take0 (i := 16) (v := ?v16_72) rfl (by kernel_rfl) (fun _ _ _ h => h) (Or.inl ⟨by rfl, ?hy16_72⟩) (HS0.out _ ((Hv4.out.kp1).setCell (p := ⟨ob, 5, none⟩) (Or.inl (by simp)) _) ((Hv4.out.kp').setCell (p := ⟨ob, 5, none⟩) (Or.inr Hv4.out.lo.1) _)) (fun h => absurd (show false = true from h) (by decide)) ?_
         case hy16_72 => intro w'' hS''; clear hS''; go_simp; try (with_reducible rfl)
         (try simp only [Act.put, List.setIfInBounds_toArray, List.set_cons_zero, List.set_cons_succ]); refine AnyT.ready (rs := [17]) (by kernel_rfl) (by simp) (AllT.cons rfl (fun K hK => ?_) AllT.nil); go_simp; refine hK.out _ _ (HS0.out _ (((Hv4.out.kp1).setCell (p := ⟨ob, 5, none⟩) (Or.inl (by simp)) _).setCell (p := ⟨ob, 6, none⟩) (Or.inl (by simp)) _) (((Hv4.out.kp').setCell (p := ⟨ob, 5, none⟩) (Or.inr Hv4.out.lo.1) _).setCell (p := ⟨ob, 6, none⟩) (Or.inr Hv4.out.lo.1) _)) (fun h => absurd (show false = true from h) (by decide)) ?_; clear hK K; refine AnyT.done (by kernel_rfl) ?_ _; refine NoPanic.normal ?_; have HFin := hid Hv4.out.store; go_wp2_with fail
         go_roundw
         case measure => simp [intOf]; omega
         case rel => exact ⟨i + 1, _, ot ++ [(k, v)], _, _, _, _, _, _, rfl, by push_cast; rfl, by omega, HN.out, HP.snoc HFin.out⟩
  ·
   obtain rfl : i = m.ks.length := by omega
   have q1 : decide ((m.ks.length : Int) < (m.ks.length : Int)) = false := by simp
   go_upto_if 60 with fail
   go_cut [] (fun wx => ∃ (p7 : Option Addr) (q7 c7 : Nat) (p8 : Option Addr) (q8 c8 : Nat), HP n F w W1 ob (.slice p7 q7 c7) (.slice p8 q8 c8) (.slice p7 q7 c7) (.slice p8 q8 c8) ((insK (prs m) key y).map (·.1)) ((insK (prs m) key y).map (·.2)) none none wx)
   case first =>
    have HIl := hid (show PutI (prs m) key y (prs m).length dn ot by rw [HPl.out]; exact HI.out)
    cases dn with
    | true =>
     go_wp2_with fail
     go_meet; have h := HH.out; rw [HIl.out.done] at h; exact ⟨p, q, cp, p2, q2, cp2, h⟩
    | false =>
     go_upto_region 13 with fail
     have HHd := hid (HH.out.kp (Kp.refl _ _).drew); refine region_T (fun w' => w'.cell? ⟨b1, 0, none⟩ = some (.int .i64 y.kind) ∧ w'.cell? ⟨b1, 1, none⟩ = some (.bool y.b) ∧ w'.cell? ⟨b1, 2, none⟩ = some (.int .i64 y.i) ∧ w'.cell? ⟨b1, 3, none⟩ = some (.float .f64 y.f) ∧ w'.cell? ⟨b1, 4, none⟩ = some (.string y.t) ∧ w'.cell? ⟨b1, 5, none⟩ = some (.slice ykp y.ks.length ykc) ∧ w'.cell? ⟨b1, 6, none⟩ = some (.slice ylp y.l.length ylc)) (fun w' => w'.cell? ⟨ob, 5, none⟩ = some (.slice p q cp) ∧ w'.cell? ⟨ob, 6, none⟩ = some (.slice p2 q2 cp2)) [11, 13] (by kernel_rfl) ?_
     have hS0 : ∀ w' : World, Kp [ob] W1 w' → Kp [] w w' → w'.cell? ⟨b1, 0, none⟩ = some (.int .i64 y.kind) ∧ w'.cell? ⟨b1, 1, none⟩ = some (.bool y.b) ∧ w'.cell? ⟨b1, 2, none⟩ = some (.int .i64 y.i) ∧ w'.cell? ⟨b1, 3, none⟩ = some (.float .f64 y.f) ∧ w'.cell? ⟨b1, 4, none⟩ = some (.string y.t) ∧ w'.cell? ⟨b1, 5, none⟩ = some (.slice ykp y.ks.length ykc) ∧ w'.cell? ⟨b1, 6, none⟩ = some (.slice ylp y.l.length ylc) := fun w' k1 _ => by
      have hb := HBy.out.keep k1 (by have := HBs.out; simp; omega); exact ⟨hb.c0, hb.c1, hb.c2, hb.c3, hb.c4, hb.c5, hb.c6⟩
     have hSS : ∀ (w' : World) (kr lr : Value) (ka : List ByteArray) (la : List JV) (KT : Option (Nat × ByteArray)) (VT : Option (Nat × List Value)), HP n F w W1 ob _ _ kr lr ka la KT VT w' → w'.cell? ⟨ob, 5, none⟩ = some (.slice p q cp) ∧ w'.cell? ⟨ob, 6, none⟩ = some (.slice p2 q2 cp2) := fun w' _ _ _ _ _ _ hp => ⟨hp.c5, hp.c6⟩
     have HS0 := hid hS0; have HSS := hid hSS; clear hSS hS0; refine AnyT.take0 (i := 0) (v := ?v0_13) rfl (by kernel_rfl) (fun _ _ _ h => h) (Or.inl ⟨by rfl, ?hy0_13⟩) (HS0.out _ HHd.out.kp1 HHd.out.kp') (fun _ => (HSS.out _ _ _ _ _ _ _ HHd.out)) ?_
     case hy0_13 => intro w'' hS''; (try dsimp only at hS''); go_split_ands; go_simp; try (with_reducible rfl)
     (try simp only [Act.put, List.setIfInBounds_toArray, List.set_cons_zero, List.set_cons_succ]); refine AnyT.take (i := 1) (v := ?v1_14) rfl (by kernel_rfl) (fun _ _ _ h => h) (Or.inl ⟨by rfl, ?hy1_14⟩) (HS0.out _ HHd.out.kp1 HHd.out.kp') (HSS.out _ _ _ _ _ _ _ HHd.out) ?_
     case hy1_14 => intro w'' hS''; (try dsimp only at hS''); go_split_ands; go_simp; try (with_reducible rfl)
     (try simp only [Act.put, List.setIfInBounds_toArray, List.set_cons_zero, List.set_cons_succ]); refine AnyT.take0 (i := 2) (v := ?v2_15) rfl (by kernel_rfl) (fun _ _ _ h => h) (Or.inl ⟨by rfl, ?hy2_15⟩) (HS0.out _ HHd.out.kp1 HHd.out.kp') (fun _ => (HSS.out _ _ _ _ _ _ _ HHd.out)) ?_
     case hy2_15 => intro w'' hS''; (try dsimp only at hS''); go_split_ands; go_simp; try (with_reducible rfl)
     (try simp only [Act.put, List.setIfInBounds_toArray, List.set_cons_zero, List.set_cons_succ]); refine AnyT.take0 (i := 5) (v := ?v5_16) rfl (by kernel_rfl) (fun _ _ _ h => h) (Or.inl ⟨by rfl, ?hy5_16⟩) (HS0.out _ HHd.out.kp1 HHd.out.kp') (fun _ => (HSS.out _ _ _ _ _ _ _ HHd.out)) ?_
     case hy5_16 => intro w'' hS''; (try dsimp only at hS''); go_split_ands; go_simp; try (with_reducible rfl)
     (try simp only [Act.put, List.setIfInBounds_toArray, List.set_cons_zero, List.set_cons_succ]); refine AnyT.take (i := 6) (v := ?v6_17) rfl (by kernel_rfl) (fun _ _ _ h => h) (Or.inl ⟨by rfl, ?hy6_17⟩) (HS0.out _ HHd.out.kp1 HHd.out.kp') (HSS.out _ _ _ _ _ _ _ HHd.out) ?_
     case hy6_17 => intro w'' hS''; (try dsimp only at hS''); go_split_ands; go_simp; try (with_reducible rfl)
     (try simp only [Act.put, List.setIfInBounds_toArray, List.set_cons_zero, List.set_cons_succ]); refine AnyT.take0 (i := 7) (v := ?v7_18) rfl (by kernel_rfl) (fun _ _ _ h => h) (Or.inl ⟨by rfl, ?hy7_18⟩) (HS0.out _ HHd.out.kp1 HHd.out.kp') (fun _ => (HSS.out _ _ _ _ _ _ _ HHd.out)) ?_
     case hy7_18 => intro w'' hS''; (try dsimp only at hS''); go_split_ands; go_simp; try (with_reducible rfl)
     (try simp only [Act.put, List.setIfInBounds_toArray, List.set_cons_zero, List.set_cons_succ]); refine AnyT.ready (rs := [3, 8]) (by kernel_rfl) (by simp) (AllT.cons rfl (fun K hK => ?_) (AllT.cons rfl (fun K hK => ?_) AllT.nil))
     ·
      go_simp; refine hK.out _ _ (HS0.out _ (HHd.out.allocK _).kp1 (HHd.out.allocK _).kp') (fun _ => (HSS.out _ _ _ _ _ _ _ (HHd.out.allocK _))) ?_; clear hK K; refine AnyT.ready (rs := [4, 8]) (by kernel_rfl) (by simp) (AllT.cons rfl (fun K hK => ?_) (AllT.cons rfl (fun K hK => ?_) AllT.nil))
      ·
       refine step_key rfl _ _ rfl _ key (HHd.out.allocK _) 1 (by simp [Act.eval, Act.put]) (by simp [Act.eval, Act.put]) (by have := HLl.out; omega) ?_; intro p2 n2 c2 w2 hp2; have Hk2 := hid hp2; clear hp2; refine hK.out _ _ (HS0.out _ Hk2.out.kp1 Hk2.out.kp') (fun _ => (HSS.out _ _ _ _ _ _ _ Hk2.out)) ?_; clear hK K; refine AnyT.take0 (i := 10) (v := ?v10_19) rfl (by kernel_rfl) (fun _ _ _ h => h) (Or.inl ⟨by rfl, ?hy10_19⟩) (HS0.out _ Hk2.out.kp1 Hk2.out.kp') (fun _ => (HSS.out _ _ _ _ _ _ _ Hk2.out)) ?_
       case hy10_19 => intro w'' hS''; (try dsimp only at hS''); go_split_ands; go_simp; try (with_reducible rfl)
       (try simp only [Act.put, List.setIfInBounds_toArray, List.set_cons_zero, List.set_cons_succ]); refine AnyT.ready (rs := [8]) (by kernel_rfl) (by simp) (AllT.cons rfl (fun K hK => ?_) AllT.nil)
       ·
        go_simp; refine hK.out _ _ (HS0.out _ (Hk2.out.allocV _).kp1 (Hk2.out.allocV _).kp') (fun _ => (HSS.out _ _ _ _ _ _ _ (Hk2.out.allocV _))) ?_; clear hK K; refine AnyT.ready (rs := [9]) (by kernel_rfl) (by simp) (AllT.cons rfl (fun K hK => ?_) AllT.nil)
        ·
         refine step_val rfl _ _ rfl _ y _ _ _ _ (Hk2.out.allocV _) 1 (by simp [Act.eval, Act.put]) (by simp [Act.eval, Act.put]) HDy.out (by have := HLl.out; omega) ?_; intro p4 n4 c4 w4 hp4; have Hv4 := hid hp4; clear hp4; refine hK.out _ _ (HS0.out _ Hv4.out.kp1 Hv4.out.kp') (fun _ => (HSS.out _ _ _ _ _ _ _ Hv4.out)) ?_; clear hK K; have g5 := Hv4.out.fr 5; have g6 := Hv4.out.fr 6; have d5 := Hv4.out.c5; have d6 := Hv4.out.c6; refine AnyT.ready (rs := [11]) (by kernel_rfl) (by simp) (AllT.cons rfl (fun K hK => ?_) AllT.nil); go_simp; refine hK.out _ _ (HS0.out _ ((Hv4.out.kp1).setCell (p := ⟨ob, 5, none⟩) (Or.inl (by simp)) _) ((Hv4.out.kp').setCell (p := ⟨ob, 5, none⟩) (Or.inr Hv4.out.lo.1) _)) (fun h => absurd (show false = true from h) (by decide)) ?_; clear hK K
         refine AnyT.take0 (i := 12) (v := ?v12_20) rfl (by kernel_rfl) (fun _ _ _ h => h) (Or.inl ⟨by rfl, ?hy12_20⟩) (HS0.out _ ((Hv4.out.kp1).setCell (p := ⟨ob, 5, none⟩) (Or.inl (by simp)) _) ((Hv4.out.kp').setCell (p := ⟨ob, 5, none⟩) (Or.inr Hv4.out.lo.1) _)) (fun h => absurd (show false = true from h) (by decide)) ?_
         case hy12_20 => intro w'' hS''; clear hS''; go_simp; try (with_reducible rfl)
         (try simp only [Act.put, List.setIfInBounds_toArray, List.set_cons_zero, List.set_cons_succ]); refine AnyT.ready (rs := [13]) (by kernel_rfl) (by simp) (AllT.cons rfl (fun K hK => ?_) AllT.nil); go_simp; refine hK.out _ _ (HS0.out _ (((Hv4.out.kp1).setCell (p := ⟨ob, 5, none⟩) (Or.inl (by simp)) _).setCell (p := ⟨ob, 6, none⟩) (Or.inl (by simp)) _) (((Hv4.out.kp').setCell (p := ⟨ob, 5, none⟩) (Or.inr Hv4.out.lo.1) _).setCell (p := ⟨ob, 6, none⟩) (Or.inr Hv4.out.lo.1) _)) (fun h => absurd (show false = true from h) (by decide)) ?_; clear hK K; refine AnyT.done (by kernel_rfl) ?_ _; refine NoPanic.normal ?_; have HFin := hid Hv4.out.store; go_wp2_with fail
         go_meet; have h := HP.snoc HFin.out; rw [HIl.out.last] at h; exact ⟨_, _, _, _, _, _, h⟩
      ·
       go_simp; refine hK.out _ _ (HS0.out _ ((HHd.out.allocK _).allocV _).kp1 ((HHd.out.allocK _).allocV _).kp') (fun _ => (HSS.out _ _ _ _ _ _ _ ((HHd.out.allocK _).allocV _))) ?_; clear hK K; refine AnyT.ready (rs := [4]) (by kernel_rfl) (by simp) (AllT.cons rfl (fun K hK => ?_) AllT.nil)
       ·
        refine step_key rfl _ _ rfl _ key ((HHd.out.allocK _).allocV _) 1 (by simp [Act.eval, Act.put]) (by simp [Act.eval, Act.put]) (by have := HLl.out; omega) ?_; intro p3 n3 c3 w3 hp3; have Hk3 := hid hp3; clear hp3; refine hK.out _ _ (HS0.out _ Hk3.out.kp1 Hk3.out.kp') (fun _ => (HSS.out _ _ _ _ _ _ _ Hk3.out)) ?_; clear hK K; refine AnyT.take0 (i := 10) (v := ?v10_21) rfl (by kernel_rfl) (fun _ _ _ h => h) (Or.inl ⟨by rfl, ?hy10_21⟩) (HS0.out _ Hk3.out.kp1 Hk3.out.kp') (fun _ => (HSS.out _ _ _ _ _ _ _ Hk3.out)) ?_
        case hy10_21 => intro w'' hS''; (try dsimp only at hS''); go_split_ands; go_simp; try (with_reducible rfl)
        (try simp only [Act.put, List.setIfInBounds_toArray, List.set_cons_zero, List.set_cons_succ]); refine AnyT.ready (rs := [9]) (by kernel_rfl) (by simp) (AllT.cons rfl (fun K hK => ?_) AllT.nil)
        ·
         refine step_val rfl _ _ rfl _ y _ _ _ _ Hk3.out 1 (by simp [Act.eval, Act.put]) (by simp [Act.eval, Act.put]) HDy.out (by have := HLl.out; omega) ?_; intro p4 n4 c4 w4 hp4; have Hv4 := hid hp4; clear hp4; refine hK.out _ _ (HS0.out _ Hv4.out.kp1 Hv4.out.kp') (fun _ => (HSS.out _ _ _ _ _ _ _ Hv4.out)) ?_; clear hK K; have g5 := Hv4.out.fr 5; have g6 := Hv4.out.fr 6; have d5 := Hv4.out.c5; have d6 := Hv4.out.c6; refine AnyT.ready (rs := [11]) (by kernel_rfl) (by simp) (AllT.cons rfl (fun K hK => ?_) AllT.nil); go_simp; refine hK.out _ _ (HS0.out _ ((Hv4.out.kp1).setCell (p := ⟨ob, 5, none⟩) (Or.inl (by simp)) _) ((Hv4.out.kp').setCell (p := ⟨ob, 5, none⟩) (Or.inr Hv4.out.lo.1) _)) (fun h => absurd (show false = true from h) (by decide)) ?_; clear hK K
         refine AnyT.take0 (i := 12) (v := ?v12_22) rfl (by kernel_rfl) (fun _ _ _ h => h) (Or.inl ⟨by rfl, ?hy12_22⟩) (HS0.out _ ((Hv4.out.kp1).setCell (p := ⟨ob, 5, none⟩) (Or.inl (by simp)) _) ((Hv4.out.kp').setCell (p := ⟨ob, 5, none⟩) (Or.inr Hv4.out.lo.1) _)) (fun h => absurd (show false = true from h) (by decide)) ?_
         case hy12_22 => intro w'' hS''; clear hS''; go_simp; try (with_reducible rfl)
         (try simp only [Act.put, List.setIfInBounds_toArray, List.set_cons_zero, List.set_cons_succ]); refine AnyT.ready (rs := [13]) (by kernel_rfl) (by simp) (AllT.cons rfl (fun K hK => ?_) AllT.nil); go_simp; refine hK.out _ _ (HS0.out _ (((Hv4.out.kp1).setCell (p := ⟨ob, 5, none⟩) (Or.inl (by simp)) _).setCell (p := ⟨ob, 6, none⟩) (Or.inl (by simp)) _) (((Hv4.out.kp').setCell (p := ⟨ob, 5, none⟩) (Or.inr Hv4.out.lo.1) _).setCell (p := ⟨ob, 6, none⟩) (Or.inr Hv4.out.lo.1) _)) (fun h => absurd (show false = true from h) (by decide)) ?_; clear hK K; refine AnyT.done (by kernel_rfl) ?_ _; refine NoPanic.normal ?_; have HFin := hid Hv4.out.store; go_wp2_with fail
         go_meet; have h := HP.snoc HFin.out; rw [HIl.out.last] at h; exact ⟨_, _, _, _, _, _, h⟩
     ·
      go_simp; refine hK.out _ _ (HS0.out _ (HHd.out.allocV _).kp1 (HHd.out.allocV _).kp') (fun _ => (HSS.out _ _ _ _ _ _ _ (HHd.out.allocV _))) ?_; clear hK K; refine AnyT.ready (rs := [3]) (by kernel_rfl) (by simp) (AllT.cons rfl (fun K hK => ?_) AllT.nil)
      ·
       go_simp; refine hK.out _ _ (HS0.out _ ((HHd.out.allocV _).allocK _).kp1 ((HHd.out.allocV _).allocK _).kp') (fun _ => (HSS.out _ _ _ _ _ _ _ ((HHd.out.allocV _).allocK _))) ?_; clear hK K; refine AnyT.ready (rs := [4]) (by kernel_rfl) (by simp) (AllT.cons rfl (fun K hK => ?_) AllT.nil)
       ·
        refine step_key rfl _ _ rfl _ key ((HHd.out.allocV _).allocK _) 1 (by simp [Act.eval, Act.put]) (by simp [Act.eval, Act.put]) (by have := HLl.out; omega) ?_; intro p3 n3 c3 w3 hp3; have Hk3 := hid hp3; clear hp3; refine hK.out _ _ (HS0.out _ Hk3.out.kp1 Hk3.out.kp') (fun _ => (HSS.out _ _ _ _ _ _ _ Hk3.out)) ?_; clear hK K; refine AnyT.take0 (i := 10) (v := ?v10_23) rfl (by kernel_rfl) (fun _ _ _ h => h) (Or.inl ⟨by rfl, ?hy10_23⟩) (HS0.out _ Hk3.out.kp1 Hk3.out.kp') (fun _ => (HSS.out _ _ _ _ _ _ _ Hk3.out)) ?_
        case hy10_23 => intro w'' hS''; (try dsimp only at hS''); go_split_ands; go_simp; try (with_reducible rfl)
        (try simp only [Act.put, List.setIfInBounds_toArray, List.set_cons_zero, List.set_cons_succ]); refine AnyT.ready (rs := [9]) (by kernel_rfl) (by simp) (AllT.cons rfl (fun K hK => ?_) AllT.nil)
        ·
         refine step_val rfl _ _ rfl _ y _ _ _ _ Hk3.out 1 (by simp [Act.eval, Act.put]) (by simp [Act.eval, Act.put]) HDy.out (by have := HLl.out; omega) ?_; intro p4 n4 c4 w4 hp4; have Hv4 := hid hp4; clear hp4; refine hK.out _ _ (HS0.out _ Hv4.out.kp1 Hv4.out.kp') (fun _ => (HSS.out _ _ _ _ _ _ _ Hv4.out)) ?_; clear hK K; have g5 := Hv4.out.fr 5; have g6 := Hv4.out.fr 6; have d5 := Hv4.out.c5; have d6 := Hv4.out.c6; refine AnyT.ready (rs := [11]) (by kernel_rfl) (by simp) (AllT.cons rfl (fun K hK => ?_) AllT.nil); go_simp; refine hK.out _ _ (HS0.out _ ((Hv4.out.kp1).setCell (p := ⟨ob, 5, none⟩) (Or.inl (by simp)) _) ((Hv4.out.kp').setCell (p := ⟨ob, 5, none⟩) (Or.inr Hv4.out.lo.1) _)) (fun h => absurd (show false = true from h) (by decide)) ?_; clear hK K
         refine AnyT.take0 (i := 12) (v := ?v12_24) rfl (by kernel_rfl) (fun _ _ _ h => h) (Or.inl ⟨by rfl, ?hy12_24⟩) (HS0.out _ ((Hv4.out.kp1).setCell (p := ⟨ob, 5, none⟩) (Or.inl (by simp)) _) ((Hv4.out.kp').setCell (p := ⟨ob, 5, none⟩) (Or.inr Hv4.out.lo.1) _)) (fun h => absurd (show false = true from h) (by decide)) ?_
         case hy12_24 => intro w'' hS''; clear hS''; go_simp; try (with_reducible rfl)
         (try simp only [Act.put, List.setIfInBounds_toArray, List.set_cons_zero, List.set_cons_succ]); refine AnyT.ready (rs := [13]) (by kernel_rfl) (by simp) (AllT.cons rfl (fun K hK => ?_) AllT.nil); go_simp; refine hK.out _ _ (HS0.out _ (((Hv4.out.kp1).setCell (p := ⟨ob, 5, none⟩) (Or.inl (by simp)) _).setCell (p := ⟨ob, 6, none⟩) (Or.inl (by simp)) _) (((Hv4.out.kp').setCell (p := ⟨ob, 5, none⟩) (Or.inr Hv4.out.lo.1) _).setCell (p := ⟨ob, 6, none⟩) (Or.inr Hv4.out.lo.1) _)) (fun h => absurd (show false = true from h) (by decide)) ?_; clear hK K; refine AnyT.done (by kernel_rfl) ?_ _; refine NoPanic.normal ?_; have HFin := hid Hv4.out.store; go_wp2_with fail
         go_meet; have h := HP.snoc HFin.out; rw [HIl.out.last] at h; exact ⟨_, _, _, _, _, _, h⟩
   case rest =>
    obtain ⟨p7, q7, c7, p8, q8, c8, hH⟩ := hcut; have hbs := HBs.out; have hrb2 : wc.heap[rb]? = some (.cells #[.int .i64 0, .bool false, .int .i64 0, .float .f64 0, .string ⟨#[]⟩, .slice none 0 0, .slice none 0 0] 26 (0, 0)) := by rw [hH.kp1.block rb (by omega) (by simp; omega)]; exact HRb.out
    have hE := kp_setRow wc rb #[.int .i64 7, .bool false, .int .i64 0, .float .f64 0, .string ⟨#[]⟩, .slice p7 q7 c7, .slice p8 q8 c8]; have hEh : (wc.setRow rb #[.int .i64 7, .bool false, .int .i64 0, .float .f64 0, .string ⟨#[]⟩, .slice p7 q7 c7, .slice p8 q8 c8]).heap[rb]? = some (.cells #[.int .i64 7, .bool false, .int .i64 0, .float .f64 0, .string ⟨#[]⟩, .slice p7 q7 c7, .slice p8 q8 c8] 26 (0, 0)) := setRow_heap _ _ _ _ 26 _ hrb2; obtain ⟨xs, hr1, hr2⟩ := hH.row; have hky := own_kp (S := [rb]) hH.key hE (by intro x hx; simp at hx; omega); obtain ⟨hkf, hkl⟩ := keys_done hky; obtain ⟨hll, hlist⟩ := rowIs_done hr1 (own_kp (S := [rb]) hr2 hE (by intro x hx; simp at hx; omega)) (hH.kp'.over hE (by simp; omega)) (by have := hH.lo; omega)
    have hpost : PutPost n F w (tabJV (insK (prs m) key y)) (.returned (.agg #[.int .i64 7, .bool false, .int .i64 0, .float .f64 0, .string ⟨#[]⟩, .slice p7 q7 c7, .slice p8 q8 c8])) (wc.setRow rb #[.int .i64 7, .bool false, .int .i64 0, .float .f64 0, .string ⟨#[]⟩, .slice p7 q7 c7, .slice p8 q8 c8]) := by
     refine ⟨p7, c7, p8, c8, ?_, ⟨hkf.keep (Nat.le_refl _) fun g h1 _ => ⟨Or.inr ⟨by have := hH.lo; omega, h1.2⟩, rfl⟩, hlist⟩, hH.kp'.over hE (by simp; omega)⟩; rw [hkl, hll]; rfl
    have HBk := hid hH.blk; have HPo := hid hpost; have HEh := hid hEh; have HRb2 := hid hrb2; clear hky hH hrb2 hE hEh hr1 hr2 hkf hkl hll hlist hpost hbs d5 d6 g5 g6 bm6 e0 e1 e2 e3 e4 e5 e6; go_wp2_with (first | (refine wpList_load_row rfl 26 _ rfl ob rfl 26 _ (0, 0) _ HBk.out Tryz.underlying26 rfl (by kernel_rfl) ?_) | (refine wpList_store_row rfl 26 _ _ rfl rb #[.int .i64 7, .bool false, .int .i64 0, .float .f64 0, .string ⟨#[]⟩, .slice p7 q7 c7, .slice p8 q8 c8] ?_ ?_ 26 #[.int .i64 0, .bool false, .int .i64 0, .float .f64 0, .string ⟨#[]⟩, .slice none 0 0, .slice none 0 0] ?_ ?_ ?_ ?_ ?_; go_must (rfl); go_must (rfl); go_must (exact HRb2.out); go_must (kernel_rfl); go_must (rfl); go_must (simp [Value.oneCell'])))
    refine bodyPost_ret (results_cell_row rfl _ _ rb 26 _ (0, 0) _ rfl HEh.out Tryz.underlying26 rfl (by kernel_rfl)) rfl ?_; exact HPo.out
end
end Go.Proofs.YtljaoopfomcaoaaGreatDoor
