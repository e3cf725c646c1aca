import Derived.Maps.OwnSet
import Derived.Deep.LoopGhost
import Derived.Test.YtljaoopfomcaoaaGreatDoorM11
import Derived.Test.YtljaoopfomcaoaaGreatDoorM29
import Derived.Test.YtljaoopfomcaoaaGreatDoorM30
set_option linter.all false
open Go.Lib (hid)
namespace Go.Proofs.YtljaoopfomcaoaaGreatDoor
section
open Go.RowKit
def BufAt (w : World) (b : Nat) (s : ByteArray) (at' last : Int) : Prop := w.heap[b]? = some (.cells #[.string s, .int .i64 at', .int .i64 last] 87 (0, 0))
section
variable {w w' : World} {b : Nat} {s : ByteArray} {x y : Int}
theorem BufAt.c0 (h : BufAt w b s x y) : w.cell? ⟨b, 0, none⟩ = some (.string s) := by simp [World.cell?, show w.heap[b]? = _ from h]
theorem BufAt.c1 (h : BufAt w b s x y) : w.cell? ⟨b, 1, none⟩ = some (.int .i64 x) := by simp [World.cell?, show w.heap[b]? = _ from h]
theorem BufAt.c2 (h : BufAt w b s x y) : w.cell? ⟨b, 2, none⟩ = some (.int .i64 y) := by simp [World.cell?, show w.heap[b]? = _ from h]
theorem BufAt.fr (h : BufAt w b s x y) (o : Nat) : w.frozen? ⟨b, o, none⟩ = false := by simp [World.frozen?, show w.heap[b]? = _ from h]
theorem BufAt.lt (h : BufAt w b s x y) : b < w.heap.size := lt_of_block h
theorem BufAt.hp (h : BufAt w b s x y) (e : w'.heap = w.heap) : BufAt w' b s x y := by unfold BufAt at *; rw [e]; exact h
theorem BufAt.kp (h : BufAt w b s x y) {S : List Nat} (k : Kp S w w') (hb : b ∉ S) : BufAt w' b s x y := by unfold BufAt at *; rw [k.block b (lt_of_block h) hb]; exact h
theorem BufAt.set1 (h : BufAt w b s x y) (z : Int) : BufAt (w.setCell ⟨b, 1, none⟩ (.int .i64 z)) b s z y := blk_setCell h _
theorem BufAt.set2 (h : BufAt w b s x y) (z : Int) : BufAt (w.setCell ⟨b, 2, none⟩ (.int .i64 z)) b s x z := blk_setCell h _
end
abbrev EndErr : Value := .iface 126 (.agg #[])
set_option maxRecDepth 100000 in
set_option maxHeartbeats 2000000 in
theorem read_end (w : World) (b : Nat) (s : ByteArray) (y : Int) (h : BufAt w b s s.size y) (hs : s.size ≤ 1000000) :
  Calls Tryz.prog 86 #[.pointer (some ⟨b, 0, none⟩)] w fun e w' => e = .returned (.tuple #[.int .i32 0, .int .i64 0, EndErr]) ∧ BufAt w' b s s.size 0 ∧ Kp [b] w w' := by
 have H := hid h; have c0 := h.c0; have c1 := h.c1; clear h; go_enter Tryz.func86, Tryz.ntmps86
 go_upto_region 1 with fail
 go_quiet (fail)
 generalize hw1 : w.drewN nq = w1; have H1 : Hid (BufAt w1 b s s.size y) := by show BufAt _ _ _ _ _; rw [← hw1]; exact H.out.hp rfl
 have HK1 : Hid (Kp [b] w w1) := by rw [← hw1]; exact (Kp.refl _ _).drewN _
 clear c0 c1 hw1; have c2 := H1.out.c2; have f2 := H1.out.fr 2; go_wp2_with fail
 go_ret3
 exact ⟨rfl, H1.out.set2 0, HK1.out.setCell (by simp) _⟩
set_option maxRecDepth 100000 in
set_option maxHeartbeats 2000000 in
theorem bread_is (w : World) (b i r : Nat) (s : ByteArray) (y : Int) (h : BufAt w b s i y) (hs : s.size ≤ 1000000) (hr : scalar r) (hA : At (bt s) i (utf8 r)) (hi : i + (utf8 r).length ≤ s.size) (hE : Env w) :
  Calls Tryz.prog 86 #[.pointer (some ⟨b, 0, none⟩)] w fun e w' => e = .returned (.tuple #[.int .i32 r, .int .i64 ((utf8 r).length : Int), .nilIface]) ∧ BufAt w' b s ((i + (utf8 r).length : Nat) : Int) ((utf8 r).length : Int) ∧ Kp [b] w w' := by
 have hul := utf8_len r; have H := hid h; have HE := hid hE; have HR := hid hr; have HA := hid hA; have c0 := h.c0; have c1 := h.c1; have k1 : decide ((i : Int) ≥ (s.size : Int)) = false := by rw [decide_eq_false_iff_not]; omega
 clear h hE hr hA; go_enter Tryz.func86, Tryz.ntmps86
 go_upto_region 1 with fail
 go_quiet (fail)
 generalize hw1 : w.drewN nq = w1; have H1 : Hid (BufAt w1 b s i y) := by show BufAt _ _ _ _ _; rw [← hw1]; exact H.out.hp rfl
 have HK1 : Hid (Kp [b] w w1) := by rw [← hw1]; exact (Kp.refl _ _).drewN _
 have HE1 : Hid (Env w1) := by rw [← hw1]; exact HE.out.hp rfl
 clear c0 c1 hw1; have c0 := H1.out.c0; have c1 := H1.out.c1; have hb := H1.out.lt; have hi1 : (i : Int) ≤ (s.size : Int) := by omega
 have hi0 : (0 : Int) ≤ (i : Int) := by omega
 go_upto_region 4 with fail
 go_region_held3 (fun w' => w'.cell? ⟨b, 0, none⟩ = some (.string s) ∧ w'.cell? ⟨b, 1, none⟩ = some (.int .i64 i)) (first | (go_keep; done) | exact ⟨‹_›, ‹_›⟩) (first | (go_at_call 124; refine (decode_rd s i r b (.string s) (.int .i64 i) _ _ rfl HR.out HA.out (by omega) (by exact HE1.out.hp rfl) (by exact hb) (by exact c0) (by exact c1)).mono ?_; rintro e2 w2 ⟨rfl, hbel, d0, d1⟩))
 generalize hn : w1.drew = w1' at *; have HB2 : Hid (BufAt w2 b s i y) := by show BufAt _ _ _ _ _; rw [← hn] at hbel; exact (H1.out.hp (w' := w1.drew) rfl).kp (S := []) (Kp.of_below hbel (Nat.le_refl _) []) (by simp)
 have HK2 : Hid (Kp [b] w w2) := by rw [← hn] at hbel; exact (HK1.out.drew).below hbel (by have := HK1.out.size; exact this)
 clear hbel d0 d1 c0 c1; have c1 := HB2.out.c1; have f1 := HB2.out.fr 1; have hwr : IntKind.i64.wrap ((i : Int) + ((utf8 r).length : Int)) = (i : Int) + ((utf8 r).length : Int) := IntWalk.i64_in _ (by omega); go_upto_region 6 with fail
 have hB3 := HB2.out.set1 ((i : Int) + ((utf8 r).length : Int)); have hK3 := HK2.out.setCell (p := ⟨b, 1, none⟩) (by simp) (.int .i64 ((i : Int) + ((utf8 r).length : Int))); generalize hw3 : World.setCell _ _ _ = w3 at *; have HB3 := hid hB3; have HK3 := hid hK3; clear c1 f1 hwr hw3 hB3 hK3; have c2 := HB3.out.c2; have f2 := HB3.out.fr 2; go_wp2_with fail
 go_ret3
 refine ⟨rfl, ?_, HK3.out.setCell (by simp) _⟩; have h := HB3.out.set2 ((utf8 r).length : Int); rw [show ((i + (utf8 r).length : Nat) : Int) = (i : Int) + ((utf8 r).length : Int) from by push_cast; rfl]; exact h
end
section
open Go.RowKit
set_option maxRecDepth 100000 in
set_option maxHeartbeats 2000000 in
theorem unread_is (w : World) (b : Nat) (s : ByteArray) (x y : Nat) (h : BufAt w b s x y) (hyx : y ≤ x) (hx : x ≤ 1000000) :
  Calls Tryz.prog 91 #[.pointer (some ⟨b, 0, none⟩)] w fun e w' => e = .returned .nilIface ∧ BufAt w' b s ((x - y : Nat) : Int) 0 ∧ Kp [b] w w' := by
 have H := hid h; have c1 := h.c1; have c2 := h.c2; have f1 := h.fr 1; have hwr : IntKind.i64.wrap ((x : Int) - (y : Int)) = (x : Int) - (y : Int) := IntWalk.i64_in _ (by omega); clear h; go_enter Tryz.func91, Tryz.ntmps91
 go_upto_region 1 with fail
 go_region
 go_upto_region 2 with fail
 have hB3 : BufAt (w.setCell ⟨b, 1, none⟩ (.int .i64 ((x : Int) - (y : Int)))).drew b s ((x : Int) - (y : Int)) y := (H.out.set1 ((x : Int) - (y : Int))).hp rfl; have hK3 := ((Kp.refl [b] w).setCell (p := ⟨b, 1, none⟩) (by simp) (.int .i64 ((x : Int) - (y : Int)))).drew; generalize hw3 : World.drew (World.setCell _ _ _) = w3 at *; have HB3 := hid hB3; have HK3 := hid hK3; clear c1 c2 f1 hwr hw3 hB3 hK3; have c2 := HB3.out.c2; have f2 := HB3.out.fr 2; go_wp2_with fail
 go_ret; refine ⟨rfl, ?_, HK3.out.setCell (by simp) _⟩; have h := HB3.out.set2 0; rw [show ((x - y : Nat) : Int) = (x : Int) - (y : Int) from by omega]; exact h
set_option maxRecDepth 100000 in
set_option maxHeartbeats 2000000 in
theorem rest_is (w : World) (b : Nat) (s : ByteArray) (x : Nat) (y : Int) (h : BufAt w b s x y) (hx : x ≤ s.size) (hs : s.size ≤ 1000000) :
  Calls Tryz.prog 61 #[.pointer (some ⟨b, 0, none⟩)] w fun e w' => e = .returned (.string (s.extract x s.size)) ∧ w'.heap = w.heap ∧ Kp [] w w' := by
 have c0 := h.c0; have c1 := h.c1; have k1 : (x : Int) ≤ (s.size : Int) := by omega
 have k0 : (0 : Int) ≤ (x : Int) := by omega
 clear h; go_enter Tryz.func61, Tryz.ntmps61
 go_upto_region 1 with fail
 go_quiet (fail)
 go_wp2_with fail
 go_ret; exact ⟨rfl, rfl, (Kp.refl _ _).drewN _⟩
set_option maxRecDepth 100000 in
set_option maxHeartbeats 2000000 in
theorem skip_is (w : World) (b : Nat) (s : ByteArray) (x n : Nat) (y : Int) (h : BufAt w b s x y) (hx : x + n ≤ 1000000) :
  Calls Tryz.prog 62 #[.pointer (some ⟨b, 0, none⟩), .int .i64 n] w fun e w' => e = .returned (.tuple #[]) ∧ BufAt w' b s ((x + n : Nat) : Int) 0 ∧ Kp [b] w w' := by
 have H := hid h; have c1 := h.c1; have f1 := h.fr 1; have hwr : IntKind.i64.wrap ((x : Int) + (n : Int)) = (x : Int) + (n : Int) := IntWalk.i64_in _ (by omega); clear h; go_enter Tryz.func62, Tryz.ntmps62
 go_upto_region 1 with fail
 have hB3 := H.out.set1 ((x : Int) + (n : Int)); have hK3 := (Kp.refl [b] w).setCell (p := ⟨b, 1, none⟩) (by simp) (.int .i64 ((x : Int) + (n : Int))); generalize hw3 : World.setCell _ _ _ = w3 at *; have HB3 := hid hB3; have HK3 := hid hK3; clear c1 f1 hwr hw3 hB3 hK3; have c2 := HB3.out.c2; have f2 := HB3.out.fr 2; go_wp2_with fail
 first | (refine bodyPost_ret (results_none rfl _ _ _) rfl ?_) | (refine bodyPost_end (results_none rfl _ _ _) rfl ?_)
 refine ⟨rfl, ?_, HK3.out.setCell (by simp) _⟩; have h := HB3.out.set2 0; rw [show ((x + n : Nat) : Int) = (x : Int) + (n : Int) from by push_cast; rfl]; exact h
theorem as126_yes (v : Value) (w : World) : (Instr.typeAssert (.iface 126 v) 60 126 true).run Tryz.prog w = .ok (.tuple #[v, .bool true]) w := by kernel_rfl
theorem as126_nil (w : World) : (Instr.typeAssert .nilIface 60 126 true).run Tryz.prog w = .ok (.tuple #[.agg #[], .bool false]) w := by kernel_rfl
attribute [local go_sem] as126_yes as126_nil
set_option maxRecDepth 100000 in
theorem isEnd_yes (w : World) : Calls Tryz.prog 47 #[.iface 126 (.agg #[])] w fun e w' => e = .returned (.bool true) ∧ Kp [] w w' := by
 go_enter Tryz.func47, Tryz.ntmps47
 go_wp2_with fail
 go_ret; exact ⟨rfl, (Kp.refl _ _).alloc _⟩
set_option maxRecDepth 100000 in
theorem isEnd_no (w : World) : Calls Tryz.prog 47 #[.nilIface] w fun e w' => e = .returned (.bool false) ∧ Kp [] w w' := by
 go_enter Tryz.func47, Tryz.ntmps47
 go_wp2_with fail
 go_ret; exact ⟨rfl, (Kp.refl _ _).alloc _⟩
set_option maxRecDepth 100000 in
theorem space_is (w : World) (r : Nat) (hr : r < 128) (h : ws r = true ∨ (33 ≤ r)) :
  Calls Tryz.prog 90 #[.int .i32 r] w fun e w' => e = .returned (.bool (ws r)) ∧ w' = w := by
 by_cases hw : ws r = true
 ·
  simp [ws] at hw; rcases hw with ((rfl | rfl) | rfl) | rfl; all_goals
   go_enter Tryz.func90, Tryz.ntmps90
   go_wp2_with fail
   go_ret; exact ⟨rfl, rfl⟩
 ·
  have h33 : 33 ≤ r := by rcases h with h | h; exact absurd h hw; exact h
  have hwf : ws r = false := by simpa using hw
  rw [hwf]; clear hw hwf h; have k1 : ((r : Int) == 9) = false := by rw [beq_eq_false_iff_ne]; omega
  have k2 : ((r : Int) == 10) = false := by rw [beq_eq_false_iff_ne]; omega
  have k3 : ((r : Int) == 11) = false := by rw [beq_eq_false_iff_ne]; omega
  have k4 : ((r : Int) == 12) = false := by rw [beq_eq_false_iff_ne]; omega
  have k5 : ((r : Int) == 13) = false := by rw [beq_eq_false_iff_ne]; omega
  have k6 : ((r : Int) == 32) = false := by rw [beq_eq_false_iff_ne]; omega
  have k7 : ((r : Int) == 133) = false := by rw [beq_eq_false_iff_ne]; omega
  have k8 : ((r : Int) == 160) = false := by rw [beq_eq_false_iff_ne]; omega
  have k9 : ((r : Int) == 5760) = false := by rw [beq_eq_false_iff_ne]; omega
  have k10 : ((r : Int) == 8232) = false := by rw [beq_eq_false_iff_ne]; omega
  have k11 : ((r : Int) == 8233) = false := by rw [beq_eq_false_iff_ne]; omega
  have k12 : ((r : Int) == 8239) = false := by rw [beq_eq_false_iff_ne]; omega
  have k13 : ((r : Int) == 8287) = false := by rw [beq_eq_false_iff_ne]; omega
  have k14 : ((r : Int) == 12288) = false := by rw [beq_eq_false_iff_ne]; omega
  have k15 : decide ((r : Int) ≥ 8192) = false := by rw [decide_eq_false_iff_not]; omega
  go_enter Tryz.func90, Tryz.ntmps90
  go_wp2_with fail
  go_ret; exact ⟨rfl, rfl⟩
set_option maxRecDepth 100000 in
theorem newBuffer_is (w : World) (s : ByteArray) : Calls Tryz.prog 38 #[.string s] w fun e w' => e = .returned (.pointer (some ⟨w.heap.size, 0, none⟩)) ∧ BufAt w' w.heap.size s 0 0 ∧ Kp [] w w' ∧ w'.heap.size = w.heap.size + 1 := by
 go_enter Tryz.func38, Tryz.ntmps38
 go_wp2_with fail
 go_ret; exact ⟨rfl, by show (w.heap.push _)[w.heap.size]? = _; simp, (Kp.refl _ _).alloc _, by simp⟩
def ParAt (w : World) (b bb : Nat) (m : Value) : Prop := w.heap[b]? = some (.cells #[.pointer (some ⟨bb, 0, none⟩), m, .nilFunc, .bool true] 91 (0, 0))
set_option maxRecDepth 100000 in
theorem newParser_is (w : World) (bb : Nat) (m : Value) (hm : ∃ r, m = .map r) : Calls Tryz.prog 39 #[.pointer (some ⟨bb, 0, none⟩), m] w fun e w' => e = .returned (.pointer (some ⟨w.heap.size, 0, none⟩)) ∧ ParAt w' w.heap.size bb m ∧ Kp [] w w' ∧ w'.heap.size = w.heap.size + 1 := by
 obtain ⟨r, rfl⟩ := hm; go_enter Tryz.func39, Tryz.ntmps39
 go_wp2_with fail
 go_ret; exact ⟨rfl, by show (w.heap.push _)[w.heap.size]? = _; simp, (Kp.refl _ _).alloc _, by simp⟩
end
section
open Go.RowKit
open Go.Maps (Keyed)
theorem runeKeyed : Keyed Tryz.prog 21 := Go.Maps.int_keyed Tryz.underlying21
theorem keyOf_rune (x : Nat) (h : x < 2147483648) : keyOf Tryz.prog 21 (.int .i32 x) = some (.int .i32 x) := by
 have hm : IntKind.i32.min = -2147483648 := by decide
 have hM : IntKind.i32.max = 2147483647 := by decide
 have hw : (Lit.int .i32 (x : Int)).wf = true := by simp [Lit.wf]; omega
 simp [keyOf, Tryz.underlying21, mapKey, hw]
def stops (x : Nat) : Bool := x == 61 || x == 91 || x == 44 || x == 46
def SetIs (w : World) (r : Nat) : Prop := ∃ (n : Nat) (D : DataW Value), w.ownsMap Tryz.prog 21 RV r n D ∧ ∀ x : Nat, Maps.has D (.int .i32 x) = stops x
def setOf : Nat → DataW Value
 | 0 => .map []
 | i + 1 => (setOf i).put (.int .i32 (([61, 91, 44, 46].getD i 0 : Nat) : Int)) (.held (.bool true))
theorem setOf_succ (i : Nat) : setOf (i + 1) = (setOf i).put (.int .i32 (([61, 91, 44, 46].getD i 0 : Nat) : Int)) (.held (.bool true)) := by rw [setOf]
theorem setOf4 : setOf 4 = .map [(.int .i32 44, .held (.bool true)), (.int .i32 46, .held (.bool true)), (.int .i32 61, .held (.bool true)), (.int .i32 91, .held (.bool true))] := by rfl
theorem setOf_has (x : Nat) : Maps.has (setOf 4) (.int .i32 x) = stops x := by
 rw [setOf4]; unfold stops; simp [Maps.has, Lit.sameKey]; rw [Bool.eq_iff_iff]; simp; omega
theorem mk105 (w : World) : (Instr.makeMap 105 (some (.int .i64 4))).run Tryz.prog w = .ok (.map (some w.heap.size)) (w.alloc (.map #[] 0)) := by kernel_rfl
attribute [local go_sem] mk105
theorem set_new (w : World) : (w.alloc (.map #[] 0)).ownsMap Tryz.prog 21 RV w.heap.size 0 (setOf 0) := by
 exact World.ownsMap_made w Tryz.prog 21 RV
set_option maxRecDepth 100000 in
set_option maxHeartbeats 2000000 in
theorem runeSet_is (w : World) (g c : Nat) (h0 : w.cell? ⟨g, 0, none⟩ = some (.int .i32 61)) (h1 : w.cell? ⟨g, 1, none⟩ = some (.int .i32 91)) (h2 : w.cell? ⟨g, 2, none⟩ = some (.int .i32 44)) (h3 : w.cell? ⟨g, 3, none⟩ = some (.int .i32 46)) :
  Calls Tryz.prog 54 #[.slice (some ⟨g, 0, none⟩) 4 c] w fun e w' => e = .returned (.map (some w.heap.size)) ∧ SetIs w' w.heap.size ∧ Kp [] w w' := by
 have hc : ∀ i, i < 4 → w.cell? ⟨g, i, none⟩ = some (.int .i32 (([61, 91, 44, 46].getD i 0 : Nat) : Int)) := fun i hi => by
  rcases (show i = 0 ∨ i = 1 ∨ i = 2 ∨ i = 3 from by omega) with rfl | rfl | rfl | rfl
  · exact h0
  · exact h1
  · exact h2
  · exact h3
 have HC := hid hc; have hg := cell_lt h0; clear hc h0 h1 h2 h3; go_enter Tryz.func54, Tryz.ntmps54
 go_wp2_with fail
 go_loopw [5, 11] (fun v5 v11 wr => ∃ i : Nat, v11 = .int .i64 (i : Int) ∧ i ≤ 4 ∧ wr.ownsMap Tryz.prog 21 RV w.heap.size i (setOf i) ∧ Kp [] w wr) (fun _ v11 _ => 4 - (intOf v11).toNat)
 case atStart => exact ⟨0, rfl, by omega, set_new w, (Kp.refl _ _).alloc _⟩
 case round =>
  obtain ⟨i, rfl, hi, hM, hK⟩ := hrel; have HM := hid hM; have HK := hid hK; clear hM hK; by_cases h4 : i = 4
  · subst h4
    go_wp2_with fail
    go_ret; exact ⟨rfl, ⟨4, _, HM.out, setOf_has⟩, HK.out⟩
  ·
   have k1 : decide ((i : Int) < 4) = true := by rw [decide_eq_true_eq]; omega
   have c0 : wr.cell? ⟨g, i, none⟩ = some (.int .i32 (([61, 91, 44, 46].getD i 0 : Nat) : Int)) := cell_kp (HC.out i (by omega)) HK.out; have hx : [61, 91, 44, 46].getD i 0 < 2147483648 := by
    rcases (show i = 0 ∨ i = 1 ∨ i = 2 ∨ i = 3 from by omega) with rfl | rfl | rfl | rfl <;> decide
   obtain ⟨x, hxx⟩ : ∃ x, x = [61, 91, 44, 46].getD i 0 := ⟨_, rfl⟩; have HX := hid hxx; rw [← hxx] at c0 hx; clear hxx; go_wp2_with (at_mapUpdate; go_must (refine wpList_mapUpdate_own _ rfl _ _ _ 105 rfl 21 4 runeKeyed Tryz.underlying105 RV w.heap.size i (setOf i) rfl HM.out (by unfold maxLen; omega) (.int .i32 x) _ (.int .i32 x) rfl rfl (keyOf_rune x hx) (.held (.bool true)) [] rfl ?_); intro w4 ho hg4; have HO := hid ho; have HG := hid hg4; clear ho hg4)
   go_roundw
   case measure => simp [intOf]; omega
   case rel => exact ⟨i + 1, by push_cast; rfl, by omega, by have h := HO.out; rw [HX.out] at h; rw [setOf_succ]; exact h, HK.out.grown HG.out (fun k hk => by cases hk; exact Nat.le_refl _)⟩
theorem zero4 (w : World) : (zeroValue 4).run Tryz.prog w = .ok (.bool false) w := by kernel_rfl
set_option maxRecDepth 100000 in
set_option maxHeartbeats 2000000 in
theorem inMap_is (w : World) (r x : Nat) (hx : x < 2147483648) (h : SetIs w r) :
  Calls Tryz.prog 87 #[.int .i32 x, .map (some r)] w fun e w' => e = .returned (.bool (stops x)) ∧ w' = w := by
 obtain ⟨n, D, hM, hD⟩ := h; have HM := hid hM; have hDx := hD x; obtain ⟨b, hb⟩ : ∃ b, b = stops x := ⟨_, rfl⟩; rw [← hb] at hDx ⊢; have HD := hid hDx; clear hM hD hDx hb; go_enter Tryz.func87, Tryz.ntmps87
 go_wp2_with (at_lookup; go_must (refine wpList_lookup_own_ok _ rfl _ _ 105 rfl 21 4 runeKeyed Tryz.underlying105 RV (zero4 w) (.held (.bool false)) [] rfl r n D rfl HM.out _ _ rfl (keyOf_rune x hx) ?_); intro v ps hv; rw [HD.out]; clear hv)
 go_ret; exact ⟨rfl, rfl⟩
end
section
open Go.RowKit
theorem ParAt.c0 {w : World} {b bb : Nat} {m : Value} (h : ParAt w b bb m) : w.cell? ⟨b, 0, none⟩ = some (.pointer (some ⟨bb, 0, none⟩)) := by simp [World.cell?, show w.heap[b]? = _ from h]
theorem ParAt.c1 {w : World} {b bb : Nat} {m : Value} (h : ParAt w b bb m) : w.cell? ⟨b, 1, none⟩ = some m := by simp [World.cell?, show w.heap[b]? = _ from h]
theorem ParAt.c3 {w : World} {b bb : Nat} {m : Value} (h : ParAt w b bb m) : w.cell? ⟨b, 3, none⟩ = some (.bool true) := by simp [World.cell?, show w.heap[b]? = _ from h]
theorem ParAt.kp {w w' : World} {b bb : Nat} {m : Value} {S : List Nat} (h : ParAt w b bb m) (k : Kp S w w') (hb : b ∉ S) : ParAt w' b bb m := by unfold ParAt at *; rw [k.block b (lt_of_block h) hb]; exact h
theorem ParAt.lt {w : World} {b bb : Nat} {m : Value} (h : ParAt w b bb m) : b < w.heap.size := lt_of_block h
theorem ascii_at {s : ByteArray} {k r : Nat} (h : bt s k = r) (hr : r < 128) : At (bt s) k (utf8 r) := by
 rw [utf8_small hr]; intro i hi; obtain rfl : i = 0 := by simpa using hi
 simpa using h
theorem read_ascii (w : World) (b i r : Nat) (s : ByteArray) (y : Int) (h : BufAt w b s i y) (hs : s.size ≤ 1000000) (hr : r < 128) (hA : bt s i = r) (hi : i < s.size) (hE : Env w) :
  Calls Tryz.prog 86 #[.pointer (some ⟨b, 0, none⟩)] w fun e w' => e = .returned (.tuple #[.int .i32 r, .int .i64 1, .nilIface]) ∧ BufAt w' b s ((i + 1 : Nat) : Int) 1 ∧ Kp [b] w w' := by
 have hl : (utf8 r).length = 1 := by rw [utf8_small hr]; rfl
 have := bread_is w b i r s y h hs (Or.inl (by omega)) (ascii_at hA hr) (by omega) hE; rw [hl] at this; exact this
def EvPost (w : World) (bb : Nat) (s : ByteArray) (j : Nat) (e : Ending) (w' : World) : Prop :=
 ∃ (b : Bool) (x : Nat) (y' : Int), e = .returned (.tuple #[.bool b, .nilIface]) ∧ BufAt w' bb s x y' ∧ Kp [bb] w w' ∧
   ((j = s.size ∧ b = true ∧ x = j) ∨ (j < s.size ∧ bt s j = 44 ∧ b = true ∧ x = j + 1) ∨ (j < s.size ∧ bt s j ≠ 44 ∧ b = false ∧ x = j))
set_option maxRecDepth 100000 in
set_option maxHeartbeats 4000000 in
theorem emptyVal_is (w : World) (p bb : Nat) (m : Value) (s : ByteArray) (i j : Nat) (y : Int) (hp : ParAt w p bb m) (hne : p ≠ bb) (h11 : 11 ≤ bb) (h : BufAt w bb s i y) (hs : s.size ≤ 1000000) (hE : Env w) (hw : Ws (bt s) i j) (hj : j ≤ s.size)
  (hf : j = s.size ∨ (j < s.size ∧ (bt s j = 44 ∨ (33 ≤ bt s j ∧ bt s j < 128)))) :
  Calls Tryz.prog 59 #[.pointer (some ⟨p, 0, none⟩)] w (EvPost w bb s j) := by
 have HPa := hid hp; have HB := hid h; have HE := hid hE; have HW := hid hw; have HF := hid hf; have hij := hw.1; clear hp h hE hw hf; go_enter Tryz.func59, Tryz.ntmps59
 go_wp2_with fail
 go_loopg [4, 5, 6] (j - i) (fun gf s4 s5 s6 wx => ∃ (k : Nat) (y' : Int), i ≤ k ∧ k ≤ j ∧ j - k ≤ gf ∧ BufAt wx bb s k y' ∧ Kp [bb] w wx)
 case atStart => exact ⟨i, y, by omega, by omega, by omega, HB.out, Kp.refl _ _⟩
 case round =>
  obtain ⟨k, y', hik, hkj, hgf, hB, hK⟩ := hrel; clear HB; have HB := hid hB; have HK := hid hK; have hP2 := HPa.out.kp hK (by simp; exact hne); have HE2 := hid (HE.out.kp hK (by simp; exact h11)); have c0 := hP2.c0; have HP2 := hid hP2; clear hB hK hP2; go_wp2_with fail
  by_cases hlt : k < j
  ·
   obtain ⟨g', rfl⟩ : ∃ g', gk = g' + 1 := ⟨gk - 1, by omega⟩; have hws := HW.out.2 k hik hlt; obtain ⟨r, hr⟩ : ∃ r, bt s k = r := ⟨_, rfl⟩; rw [hr] at hws; have hr33 : r < 33 := by simp [ws] at hws; omega
   have HR := hid hr; have HWs := hid hws; have k44 : ((r : Int) == 44) = false := by rw [beq_eq_false_iff_ne]; omega
   clear hr hws; refine (read_ascii _ bb k r s y' HB.out hs (by omega) HR.out (by omega) HE2.out).mono ?_
   rintro e1 w1 ⟨rfl, hb1, hk1⟩
   have HB1 := hid hb1; have HK1 := hid (HK.out.trans hk1); clear hb1 hk1 c0; go_wp2_with fail
   refine (isEnd_no w1).mono ?_
   rintro e2 w2 ⟨rfl, hk2⟩
   have HK2 := hid hk2; clear hk2; go_wp2_with fail
   refine (space_is w2 r (by omega) (Or.inl HWs.out)).mono ?_; rw [HWs.out]
   rintro e3 w3 ⟨rfl, rfl⟩
   go_wp2_with fail
   go_roundg g'
   case measure => omega
   case rel => exact ⟨k + 1, 1, by omega, by omega, by omega, HB1.out.kp HK2.out (by simp), HK1.out.trans (HK2.out.mono (fun _ _ h => by simp at h))⟩
  ·
   obtain rfl : k = j := by omega
   rcases HF.out with hsz | ⟨hjs, hch⟩
   ·
    subst hsz; refine (read_end _ bb s y' HB.out hs).mono ?_
    rintro e1 w1 ⟨rfl, hb1, hk1⟩
    have HB1 := hid hb1; have HK1 := hid (HK.out.trans hk1); clear hb1 hk1 c0; go_wp2_with fail
    refine (isEnd_yes w1).mono ?_
    rintro e2 w2 ⟨rfl, hk2⟩
    have HK2 := hid hk2; clear hk2; go_wp2_with fail
    go_ret2
    exact ⟨true, s.size, 0, rfl, HB1.out.kp HK2.out (by simp), HK1.out.trans (HK2.out.mono (fun _ _ h => by simp at h)), Or.inl ⟨rfl, rfl, rfl⟩⟩
   ·
    obtain ⟨r, hr⟩ : ∃ r, bt s k = r := ⟨_, rfl⟩; rw [hr] at hch; have HR := hid hr; have hr128 : r < 128 := by omega
    clear hr; refine (read_ascii _ bb k r s y' HB.out hs hr128 HR.out hjs HE2.out).mono ?_
    rintro e1 w1 ⟨rfl, hb1, hk1⟩
    have HB1 := hid hb1; have HK1 := hid (HK.out.trans hk1); clear hb1 hk1 c0; go_wp2_with fail
    refine (isEnd_no w1).mono ?_
    rintro e2 w2 ⟨rfl, hk2⟩
    have HK2 := hid (HK1.out.trans (hk2.mono (fun _ _ h => by simp at h))); have HB2 := hid (HB1.out.kp hk2 (by simp)); clear hk2; by_cases h44 : r = 44
    · subst h44
      go_wp2_with fail
      go_ret2
      exact ⟨true, k + 1, 1, rfl, HB2.out, HK2.out, Or.inr (Or.inl ⟨hjs, HR.out, rfl, rfl⟩)⟩
    ·
     have k44 : ((r : Int) == 44) = false := by rw [beq_eq_false_iff_ne]; omega
     have h33 : 33 ≤ r := by omega
     have hwf : ws r = false := by simp [ws]; omega
     go_wp2_with fail
     refine (space_is w2 r hr128 (Or.inr h33)).mono ?_; rw [hwf]
     rintro e3 w3 ⟨rfl, rfl⟩
     have hP3 := HPa.out.kp HK2.out (by simp; exact hne); have c0 := hP3.c0; clear hwf hP3; go_wp2_with fail
     refine (unread_is _ bb s (k + 1) 1 HB2.out (by omega) (by omega)).mono ?_
     rintro e4 w4 ⟨rfl, hb4, hk4⟩
     have HB4 := hid hb4; have HK4 := hid (HK2.out.trans hk4); clear hb4 hk4; go_wp2_with fail
     go_ret2
     exact ⟨false, k, 0, rfl, HB4.out, HK4.out, Or.inr (Or.inr ⟨hjs, by rw [HR.out]; exact h44, rfl, rfl⟩)⟩
end
end Go.Proofs.YtljaoopfomcaoaaGreatDoor
