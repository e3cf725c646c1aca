import Derived.Deep.RegionHeld3
import Derived.Deep.RegionWith
import Derived.Test.YtljaoopfomcaoaaGreatDoorM07
set_option linter.all false
open Go.Lib (hid)
namespace Go.Proofs.YtljaoopfomcaoaaGreatDoor
section
open Go.RowKit
attribute [local go_sem] bt_eq
def rdPos (b : Nat) (w : World) : Nat := match w.cell? ⟨b, 1, none⟩ with | some (.int _ x) => x.toNat | _ => 0
theorem decode_at_is (s : ByteArray) (i r : Nat) (t : ByteArray) (w : World) (ht : t = s.extract i s.size) (hr : scalar r) (h : At (bt s) i (utf8 r)) (hs : i + (utf8 r).length ≤ s.size) (he : Env w) :
  Calls Tryz.prog 124 #[.string t] w fun e w' => e = .returned (.tuple #[.int .i32 r, .int .i64 ((utf8 r).length : Int)]) ∧ Below w.heap.size w w' := by
 rw [ht]; refine (Tryz.utf8_DecodeRuneInString (s.extract i s.size) w he.u8).mono fun e w' h' => ?_
 rw [decode_utf8 s i r hr h hs] at h'; exact h'
theorem decode_rd (s : ByteArray) (i r b : Nat) (x0 x1 : Value) (t : ByteArray) (w : World) (ht : t = s.extract i s.size) (hr : scalar r) (h : At (bt s) i (utf8 r)) (hs : i + (utf8 r).length ≤ s.size) (he : Env w)
  (hb : b < w.heap.size) (h0 : w.cell? ⟨b, 0, none⟩ = some x0) (h1 : w.cell? ⟨b, 1, none⟩ = some x1) :
  Calls Tryz.prog 124 #[.string t] w fun e w' => e = .returned (.tuple #[.int .i32 r, .int .i64 ((utf8 r).length : Int)]) ∧ Below w.heap.size w w' ∧ w'.cell? ⟨b, 0, none⟩ = some x0 ∧ w'.cell? ⟨b, 1, none⟩ = some x1 :=
 (decode_at_is s i r t w ht hr h hs he).mono fun e w' ⟨a, c⟩ => ⟨a, c, by rw [c.cell (p := ⟨b, 0, none⟩) hb]; exact h0, by rw [c.cell (p := ⟨b, 1, none⟩) hb]; exact h1⟩
theorem rdPos_of {w : World} {b : Nat} {s : ByteArray} {x : Int} (h : RdAt w b s x) : rdPos b w = x.toNat := by unfold rdPos; rw [h.c1]
theorem enc_append : ∀ (a b : List Nat), enc (a ++ b) = enc a ++ enc b
 | [], b => rfl
 | x :: a, b => by rw [List.cons_append, enc, enc, enc_append, List.append_assoc]
theorem enc_snocR (a : List Nat) (r : Nat) : enc (a ++ [r]) = enc a ++ utf8 r := by rw [enc_append]; simp [enc]
structure TxtInv (w : World) (b : Nat) (s : ByteArray) (e : Nat) (rs : List Nat) (v : Value) (wr : World) (k : Nat) (r1 r2 : List Nat) : Prop where
 rd : RdAt wr b s k
 all : rs = r1 ++ r2
 body : StrBody (bt s) k e r2
 own : wr.ownsRow w.heap.size 5 1 v (enc r1).length (cellsOf (enc r1))
 kp : Kp [b] w wr
 len : (enc r1).length ≤ 4 * k
theorem hexv4_lt {g : Nat → Nat} {i u : Nat} (h : Unit4 g i u) : u < 65536 := by
 obtain ⟨_, _, a, b, c, d, ha, hb, hc, hd, rfl⟩ := h; have := hexv_lt ha; have := hexv_lt hb; have := hexv_lt hc; have := hexv_lt hd; omega
theorem Piece.small {g : Nat → Nat} {i j r : Nat} (h : Piece g i j r) : r < 1114112 := by
 rcases h with ⟨h1, _⟩ | ⟨_, _, h3⟩ | ⟨h1, _⟩ | ⟨u, v, _, _, _, h4, h5, h6, h7, h8⟩
 · unfold scalar at h1; omega
 · omega
 · have := hexv4_lt h1; omega
 · omega
theorem StrBody.small {g : Nat → Nat} : ∀ {rs : List Nat} {i j : Nat}, StrBody g i j rs → ∀ r ∈ rs, r < 1114112
 | [], _, _, _, r, hr => by cases hr
 | x :: rs, i, j, ⟨a, h1, h2⟩, r, hr => by
  rcases List.mem_cons.1 hr with rfl | hr
  · exact h1.small
  · exact h2.small r hr
theorem utf8_256 {r : Nat} (h : r < 1114112) : ∀ x ∈ utf8 r, x < 256 := by
 unfold utf8
 repeat' split
 all_goals (intro x hx; simp at hx; omega)
theorem enc_256 : ∀ {rs : List Nat}, (∀ r ∈ rs, r < 1114112) → ∀ x ∈ enc rs, x < 256
 | [], _, x, hx => by cases hx
 | r :: rs, h, x, hx => by
  rw [enc, List.mem_append] at hx; rcases hx with hx | hx
  · exact utf8_256 (h r (by simp)) x hx
  · exact enc_256 (fun y hy => h y (by simp [hy])) x hx
theorem unit4_is (w : World) (b : Nat) (s : ByteArray) (x : Int) (i u : Nat) (hs : s.size ≤ 1000000) (hx : x = (i : Int)) (hr : RdAt w b s x) (h : Unit4 (bt s) i u) (hi : i + 6 ≤ s.size) :
  Calls Tryz.prog 156 #[.pointer (some ⟨b, 0, none⟩)] w fun e w' => e = .returned (.int .i32 u) ∧ DrN w w' := by
 subst hx; obtain ⟨_, _, p, q, y, z, hp, hq, hy, hz, rfl⟩ := h; have := unit_is w b s i (fun t => [p, q, y, z].getD t 0) hs hr hi (fun t ht => by
  rcases (show t = 0 ∨ t = 1 ∨ t = 2 ∨ t = 3 from by omega) with rfl | rfl | rfl | rfl
  · exact hp
  · exact hq
  · exact hy
  · exact hz)
 refine this.mono fun e w' h => ?_
 have e4 : acc4 (fun t => [p, q, y, z].getD t 0) 4 = ((p * 16 + q) * 16 + y) * 16 + z := by simp [acc4]
 rw [e4] at h; exact h
theorem TxtInv.next' {w wr w2 : World} {b : Nat} {s : ByteArray} {e k a r : Nat} {rs r1 r2 : List Nat} {v v2 : Value} (h : TxtInv w b s e rs v wr k r1 (r :: r2)) (hp : k < a)
  (hbody : StrBody (bt s) a e r2) (R : RdAt w2 b s (a : Int)) (ho : w2.ownsRow w.heap.size 5 1 v2 (enc r1 ++ utf8 r).length (cellsOf (enc r1 ++ utf8 r))) (hk : Kp [b] w w2)
  (hae : a ≤ s.size) (hl : (utf8 r).length ≤ 4 * (a - k)) :
  (∃ k' r1' r2', TxtInv w b s e rs v2 w2 k' r1' r2') ∧ s.size - rdPos b w2 < s.size - rdPos b wr := by
 refine ⟨⟨a, r1 ++ [r], r2, R, by rw [h.all]; simp, hbody, ?_, hk, ?_⟩, ?_⟩
 · rw [enc_snocR]; exact ho
 · rw [enc_snocR, List.length_append]; have := h.len; omega
 · rw [rdPos_of R, rdPos_of h.rd]; omega
theorem TxtInv.next {w wr w2 : World} {b : Nat} {s : ByteArray} {e k a r : Nat} {rs r1 r2 : List Nat} {v v2 : Value} (h : TxtInv w b s e rs v wr k r1 (r :: r2)) (hp : k < a)
  (hbody : StrBody (bt s) a e r2) (hbw : b < w.heap.size) (R : RdAt w2 b s k) (ho : w2.ownsRow w.heap.size 5 1 v2 (enc r1 ++ utf8 r).length (cellsOf (enc r1 ++ utf8 r))) (hk : Kp [b] w w2)
  (hae : a ≤ s.size) (y : Int) (hy : y = (a : Int)) (hl : (utf8 r).length ≤ 4 * (a - k)) :
  (∃ k' r1' r2', TxtInv w b s e rs v2 (w2.setCell ⟨b, 1, none⟩ (.int .i64 y)) k' r1' r2') ∧ s.size - rdPos b (w2.setCell ⟨b, 1, none⟩ (.int .i64 y)) < s.size - rdPos b wr := by
 subst hy; exact h.next' hp hbody R.move (ownsRow_setCell_below ho hbw _) (hk.setCell (by simp) _) hae hl
set_option maxRecDepth 100000 in
set_option maxHeartbeats 4000000 in
theorem rtext_is (w : World) (b : Nat) (s : ByteArray) (i j : Nat) (rs : List Nat) (hs : s.size ≤ 1000000) (hj : j ≤ s.size) (hr : RdAt w b s i) (he : Env w) (hb : 11 ≤ b) (hst : StrAt (bt s) i j rs) :
  Calls Tryz.prog 134 #[.pointer (some ⟨b, 0, none⟩)] w fun e' w' => ∃ t : ByteArray, e' = .returned (.string t) ∧ bytesOf t = enc rs ∧ Kp [b] w w' ∧ RdAt w' b s j := by
 obtain ⟨h0, e, hbody, h34, hje⟩ := hst; have HB := hid hbody; have HR := hid hr; have HE := hid he; have H34 := hid h34; have HJ := hid hje; have hes : e < s.size := by omega
 have c0 := hr.c0; have c1 := hr.c1; have f1 := hr.fr 1; have hbw := hr.lt; have hie : i + 1 ≤ e := by obtain ⟨n, hn⟩ := hbody.steps; exact hn.le
 clear hr he hbody h34 hje h0; go_enter Tryz.func134, Tryz.ntmps134
 go_wp2_with fail
 go_loopw [3] (fun v wr => ∃ k r1 r2, TxtInv w b s e rs v wr k r1 r2) (fun _ wr => s.size - rdPos b wr)
 case atStart => refine ⟨i + 1, [], rs, ?_, rfl, HB.out, ⟨rfl, Or.inl ⟨rfl, rfl⟩⟩, (Kp.refl _ _).setCell (by simp) _, by simp [enc]⟩; have := HR.out.move (y := (i : Int) + 1); simpa using this
 case round =>
  obtain ⟨k, r1, r2, hI⟩ := hrel; have HI := hid hI; have hke : k ≤ e := by obtain ⟨n, hn⟩ := hI.body.steps; exact hn.le
  have d0 := hI.rd.c0; have d1 := hI.rd.c1; have g1 := hI.rd.fr 1; have hbr := hI.rd.lt; have HEr := hid (HE.out.kp hI.kp (fun x hx => by simp at hx; omega)); clear c0 c1 f1
  cases r2 with
  | nil =>
   obtain rfl : k = e := hI.body; clear hI; have q1 : ((bt s k : Int) != 34) = false := by have := H34.out; simp; omega
   have k0 : (0 : Int) ≤ (k : Int) := by omega
   have k1 : (k : Int) < (s.size : Int) := by omega
   go_wp2_with fail
   go_quiet (fail)
   have hcv := run_convert_own (ownsRow_setCell_below (a := ⟨b, 1, none⟩) (own_hp (w' := wr.drewN nq) HI.out.own rfl) hbw (.int .i64 ((k : Int) + 1))); go_wp2_with fail
   go_ret; refine ⟨strOf (enc r1), rfl, ?_, ((HI.out.kp.drewN nq).setCell (by simp) _).drewN 0, ?_⟩
   · have e1 := HI.out.all
     rw [List.append_nil] at e1; rw [e1, bytesOf_strOf]; rw [← e1]; exact enc_256 HB.out.small
   · rw [HJ.out]
     exact RdAt.move (y := ((k + 1 : Nat) : Int)) (RdAt.same HI.out.rd rfl)
  | cons r r2 =>
   obtain ⟨a, hp, hbody⟩ := hI.body; have hae : a ≤ e := by obtain ⟨n, hn⟩ := hbody.steps; exact hn.le
   clear hI; rcases hp with ⟨p1, p2, p3, p4, p5, p6⟩ | ⟨p1, p2, p3⟩ | ⟨p1, p2, p3⟩ | ⟨u, v', p1, p2, p3, p4, p5, p6, p7, p8⟩
   ·
    have hl := utf8_len r; have hx : bt s k = (utf8 r).getD 0 0 := p5 0 (by omega); have hx2 : bt s k ≠ 34 ∧ bt s k ≠ 92 := by
     by_cases hr : r < 128
     · rw [utf8_small hr] at hx; simp at hx; omega
     · have := utf8_ge (r := r) (by omega) ((utf8 r).getD 0 0) (by
        rw [List.getD_eq_getElem?_getD, List.getElem?_eq_getElem (by omega)]; exact List.getElem_mem _)
       omega
    have q1 : ((bt s k : Int) != 34) = true := by simp; omega
    have q2 : ((bt s k : Int) != 92) = true := by simp; omega
    have P5 := hid p5; clear p5 hx hx2; go_wp2_with fail
    go_quiet (fail)
    go_wp2_with fail
    go_quiet (fail)
    go_wp2_with fail
    have k0 : (0 : Int) ≤ (k : Int) := by omega
    have k1 : (k : Int) ≤ (s.size : Int) := by omega
    go_region_held3 (fun w' => w'.cell? ⟨b, 0, none⟩ = some (.string s) ∧ w'.cell? ⟨b, 1, none⟩ = some (.int .i64 k)) (first | (go_keep; done) | exact ⟨‹_›, ‹_›⟩) (first | (go_at_call 124; refine (decode_rd s k r b (.string s) (.int .i64 k) _ _ rfl p1 P5.out (by omega) (by exact HEr.out.hp rfl) (by exact hbr) (by exact d0) (by exact d1)).mono ?_; rintro e' w1 ⟨rfl, hb1, hy0, hy1⟩))
    go_wp2_with fail
    clear hy0 hy1 k0 k1 d0 d1 q1 q2; have R1 : RdAt w1 b s k := HI.out.rd.same (hb1.block b hbr); have K1 : Kp [b] w w1 := (Kp.hp HI.out.kp ⟨_, rfl⟩).below hb1 HI.out.kp.size; have O1 := own_kp (own_hp (w' := wr.drewN _) HI.out.own rfl) (Kp.of_below hb1 (Nat.le_refl _) []) (by simp); have hlen := HI.out.len; refine (appendRune_is w [b] w1 _ (enc r1) r O1 p1 K1 (by omega)).mono ?_
    rintro e2 w2 ⟨v2, rfl, ho2, hk2, hs2⟩
    have R2 : RdAt w2 b s k := R1.same (hs2 b hbw); have z0 := R2.c0; have z1 := R2.c1; have z2 := R2.fr 1; have HR2 := hid R2; have HO2 := hid ho2; have HK2 := hid hk2; clear R1 K1 O1 hb1 hs2 R2 ho2 hk2; go_wp2_with fail
    exact HI.out.next (by omega) hbody hbw HR2.out HO2.out HK2.out (by omega) _ (by omega) (by omega)
   ·
    have q1 : ((bt s k : Int) != 34) = true := by simp; omega
    have q2 : ((bt s k : Int) != 92) = false := by simp; omega
    have k0 : (0 : Int) ≤ (k : Int) := by omega
    have k1 : (k : Int) < (s.size : Int) := by omega
    have k2 : (k : Int) + 1 < (s.size : Int) := by omega
    have hw1 : IntKind.i64.wrap ((k : Int) + 1) = (k : Int) + 1 := IntWalk.i64_in _ (by omega); have hr128 : r < 128 ∧ scalar r := by unfold scalar; omega
    rcases p3 with ⟨p3, rfl⟩ | ⟨p3, rfl⟩ | ⟨p3, rfl⟩ | ⟨p3, rfl⟩
    ·
     have hlen := HI.out.len; go_wp2_with fail
     go_quiet (fail)
     go_wp2_with fail
     go_quiet (fail)
     go_wp2_with fail
     go_quiet (fail)
     go_wp2_with (at_builtin; go_must (refine wp_append_byte rfl _ _ rfl w [b] _ (enc r1) rfl ((own_hp (w' := _) HI.out.own rfl).alloc _) ⟨wr.heap.size, 0, none⟩ _ 34 rfl (cell_new _ _ _ _) ((Kp.drewN HI.out.kp _).alloc _) (by omega) ?_); intro v2 w2 ho2 hk2 hs2; have R2 : RdAt w2 b s k := RdAt.same HI.out.rd ((hs2 b hbw).trans (Below.heap_alloc _ _ _ hbr)); have z0 := R2.c0; have z1 := R2.c1; have z2 := R2.fr 1; have HR2 := hid R2; have HO2 := hid ho2; have HK2 := hid hk2; clear R2 ho2 hk2 hs2 d0 d1 g1)
     exact HI.out.next (by omega) hbody hbw HR2.out HO2.out HK2.out (by omega) _ (by omega) (by have := utf8_len 34; omega)
    ·
     have hlen := HI.out.len; go_wp2_with fail
     go_quiet (fail)
     go_wp2_with fail
     go_quiet (fail)
     go_wp2_with fail
     go_quiet (fail)
     go_wp2_with (at_builtin; go_must (refine wp_append_byte rfl _ _ rfl w [b] _ (enc r1) rfl ((own_hp (w' := _) HI.out.own rfl).alloc _) ⟨wr.heap.size, 0, none⟩ _ 92 rfl (cell_new _ _ _ _) ((Kp.drewN HI.out.kp _).alloc _) (by omega) ?_); intro v2 w2 ho2 hk2 hs2; have R2 : RdAt w2 b s k := RdAt.same HI.out.rd ((hs2 b hbw).trans (Below.heap_alloc _ _ _ hbr)); have z0 := R2.c0; have z1 := R2.c1; have z2 := R2.fr 1; have HR2 := hid R2; have HO2 := hid ho2; have HK2 := hid hk2; clear R2 ho2 hk2 hs2 d0 d1 g1)
     exact HI.out.next (by omega) hbody hbw HR2.out HO2.out HK2.out (by omega) _ (by omega) (by have := utf8_len 92; omega)
    ·
     have hlen := HI.out.len; go_wp2_with fail
     go_quiet (fail)
     go_wp2_with fail
     go_quiet (fail)
     go_wp2_with fail
     go_quiet (fail)
     go_wp2_with (at_builtin; go_must (refine wp_append_byte rfl _ _ rfl w [b] _ (enc r1) rfl ((own_hp (w' := _) HI.out.own rfl).alloc _) ⟨wr.heap.size, 0, none⟩ _ 47 rfl (cell_new _ _ _ _) ((Kp.drewN HI.out.kp _).alloc _) (by omega) ?_); intro v2 w2 ho2 hk2 hs2; have R2 : RdAt w2 b s k := RdAt.same HI.out.rd ((hs2 b hbw).trans (Below.heap_alloc _ _ _ hbr)); have z0 := R2.c0; have z1 := R2.c1; have z2 := R2.fr 1; have HR2 := hid R2; have HO2 := hid ho2; have HK2 := hid hk2; clear R2 ho2 hk2 hs2 d0 d1 g1)
     exact HI.out.next (by omega) hbody hbw HR2.out HO2.out HK2.out (by omega) _ (by omega) (by have := utf8_len 47; omega)
    ·
     have hlen := HI.out.len; go_wp2_with fail
     go_quiet (fail)
     go_wp2_with fail
     go_quiet (fail)
     go_wp2_with fail
     go_quiet (fail)
     go_wp2_with (at_builtin; go_must (refine wp_append_byte rfl _ _ rfl w [b] _ (enc r1) rfl ((own_hp (w' := _) HI.out.own rfl).alloc _) ⟨wr.heap.size, 0, none⟩ _ 10 rfl (cell_new _ _ _ _) ((Kp.drewN HI.out.kp _).alloc _) (by omega) ?_); intro v2 w2 ho2 hk2 hs2; have R2 : RdAt w2 b s k := RdAt.same HI.out.rd ((hs2 b hbw).trans (Below.heap_alloc _ _ _ hbr)); have z0 := R2.c0; have z1 := R2.c1; have z2 := R2.fr 1; have HR2 := hid R2; have HO2 := hid ho2; have HK2 := hid hk2; clear R2 ho2 hk2 hs2 d0 d1 g1)
     exact HI.out.next (by omega) hbody hbw HR2.out HO2.out HK2.out (by omega) _ (by omega) (by have := utf8_len 10; omega)
   ·
    have hlen := HI.out.len; have q1 : ((bt s k : Int) != 34) = true := by have := p1.1; simp; omega
    have q2 : ((bt s k : Int) != 92) = false := by have := p1.1; simp; omega
    have k0 : (0 : Int) ≤ (k : Int) := by omega
    have k1 : (k : Int) < (s.size : Int) := by omega
    have k2 : (k : Int) + 1 < (s.size : Int) := by omega
    have hw1 : IntKind.i64.wrap ((k : Int) + 1) = (k : Int) + 1 := IntWalk.i64_in _ (by omega); have p4 : bt s (k + 1) = 117 := p1.2.1; have hr16 := hexv4_lt p1; have hscal : r < 55296 ∨ 57343 < r := by unfold scalar at p3; omega
    have P1 := hid p1; clear p1; go_wp2_with fail
    go_quiet (fail)
    go_wp2_with fail
    go_quiet (fail)
    go_wp2_with fail
    go_quiet (fail)
    go_wp2_with fail
    refine (unit4_is _ b s k k r hs rfl (by exact RdAt.same HI.out.rd rfl) P1.out (by omega)).mono ?_
    rintro e1 w1 ⟨rfl, hd1⟩
    have R1 : RdAt w1 b s k := hd1.rd (RdAt.same HI.out.rd rfl); have K1 : Kp [b] w w1 := (Kp.drewN HI.out.kp _).hp hd1; have O1 := own_hp (own_hp (w' := wr.drewN _) HI.out.own rfl) hd1.hp; have z0 := R1.c0; have z1 := R1.c1; have z2 := R1.fr 1; have HR1 := hid R1; have HK1 := hid K1; have HO1 := hid O1; clear R1 K1 O1 hd1 q1 q2 k0 k1 k2 hw1 p4 d0 d1 g1; have HH : (decide ((55296 : Int) ≤ (r : Int)) = false) ∨ (decide ((55296 : Int) ≤ (r : Int)) = true ∧ decide ((r : Int) < 57344) = false) := by
     rcases hscal with hc | hc
     · left; rw [decide_eq_false_iff_not]; omega
     · right; rw [decide_eq_false_iff_not, decide_eq_true_eq]; omega
    have hl := utf8_len r; clear hscal; rcases HH with hc | ⟨hc, hc2⟩; all_goals
     go_wp2_with fail
     refine (appendRune_is w [b] _ _ (enc r1) r (ownsRow_setCell_below HO1.out hbw _) p3 (HK1.out.setCell (by simp) _) (by omega)).mono ?_
     rintro e2 w2 ⟨v2, rfl, ho2, hk2, hs2⟩
     have R2 : RdAt w2 b s (((k + 6 : Nat)) : Int) := RdAt.same (HR1.out.move (y := ((k + 6 : Nat) : Int))) (hs2 b hbw); have HR2 := hid R2; have HO2 := hid ho2; have HK2 := hid hk2; clear R2 ho2 hk2 hs2; go_wp2_with fail
     rw [p2] at hbody; exact HI.out.next' (by omega) hbody HR2.out HO2.out HK2.out (by omega) (by omega)
   ·
    have hlen := HI.out.len; have q1 : ((bt s k : Int) != 34) = true := by have := p1.1; simp; omega
    have q2 : ((bt s k : Int) != 92) = false := by have := p1.1; simp; omega
    have k0 : (0 : Int) ≤ (k : Int) := by omega
    have k1 : (k : Int) < (s.size : Int) := by omega
    have k2 : (k : Int) + 1 < (s.size : Int) := by omega
    have hw1 : IntKind.i64.wrap ((k : Int) + 1) = (k : Int) + 1 := IntWalk.i64_in _ (by omega); have p14 : bt s (k + 1) = 117 := p1.2.1; have P1 := hid p1; have P2 := hid p2; clear p1 p2; go_wp2_with fail
    go_quiet (fail)
    go_wp2_with fail
    go_quiet (fail)
    go_wp2_with fail
    go_quiet (fail)
    go_wp2_with fail
    refine (unit4_is _ b s k k u hs rfl (by exact RdAt.same HI.out.rd rfl) P1.out (by omega)).mono ?_
    rintro e1 w1 ⟨rfl, hd1⟩
    have R1 : RdAt w1 b s k := hd1.rd (RdAt.same HI.out.rd rfl); have K1 : Kp [b] w w1 := (Kp.drewN HI.out.kp _).hp hd1; have O1 := own_hp (own_hp (w' := wr.drewN _) HI.out.own rfl) hd1.hp; have z0 := R1.c0; have z1 := R1.c1; have z2 := R1.fr 1; have HR1 := hid R1; have HK1 := hid K1; have HO1 := hid O1; clear R1 K1 O1 hd1 q1 q2 k0 k1 k2 hw1 p14 d0 d1 g1; have q1 : bt s (k + 6) = 92 := P2.out.1; have q2 : bt s (k + 6 + 1) = 117 := P2.out.2.1; have hc1 : decide ((55296 : Int) ≤ (u : Int)) = true := by rw [decide_eq_true_eq]; omega
    have hc2 : decide ((u : Int) < 57344) = true := by rw [decide_eq_true_eq]; omega
    have hc3 : decide ((u : Int) < 56320) = true := by rw [decide_eq_true_eq]; omega
    have hc4 : decide ((56320 : Int) ≤ (v' : Int)) = true := by rw [decide_eq_true_eq]; omega
    have hc5 : decide ((v' : Int) < 57344) = true := by rw [decide_eq_true_eq]; omega
    have k3 : (0 : Int) ≤ (k : Int) + 6 := by omega
    have k4 : (k : Int) + 6 < (s.size : Int) := by omega
    have k5 : (k : Int) + 6 + 1 < (s.size : Int) := by omega
    have hw2 : IntKind.i64.wrap ((k : Int) + 6 + 1) = (k : Int) + 6 + 1 := IntWalk.i64_in _ (by omega); go_wp2_with fail
    go_quiet (fail)
    go_wp2_with fail
    refine (unit4_is _ b s ((k : Int) + 6) (k + 6) v' hs (by omega) (by exact RdAt.same (HR1.out.move (y := (k : Int) + 6)) rfl) P2.out (by omega)).mono ?_
    rintro e1 w2 ⟨rfl, hd2⟩
    have R2 : RdAt w2 b s ((k : Int) + 6) := hd2.rd (RdAt.same (HR1.out.move (y := (k : Int) + 6)) rfl); have K2 : Kp [b] w w2 := (Kp.drewN (HK1.out.setCell (by simp) _) _).hp hd2; have O2 := own_hp (own_hp (w' := (w1.setCell ⟨b, 1, none⟩ (.int .i64 ((k : Int) + 6))).drewN _) (ownsRow_setCell_below HO1.out hbw _) rfl) hd2.hp; clear z0 z1 z2; have z0 := R2.c0; have z1 := R2.c1; have z2 := R2.fr 1; have HR2 := hid R2; have HK2 := hid K2; have HO2 := hid O2; clear R2 K2 O2 hd2 q1 q2 k3 k4 k5 hw2; go_wp2_with fail
    have hl := utf8_len r; have hsc : scalar r := by unfold scalar; omega
    refine (appendRune_int w [b] _ _ (enc r1) r _ (by omega) (ownsRow_setCell_below HO2.out hbw _) hsc (HK2.out.setCell (by simp) _) (by omega)).mono ?_
    rintro e2 w3 ⟨v2, rfl, ho2, hk2, hs2⟩
    have R3 : RdAt w3 b s (((k + 12 : Nat)) : Int) := by
     refine RdAt.same (w := w2.setCell ⟨b, 1, none⟩ (.int .i64 ((k : Int) + 6 + 6))) ?_ (hs2 b hbw); rw [show ((k + 12 : Nat) : Int) = (k : Int) + 6 + 6 from by omega]; exact HR2.out.move
    have HR3 := hid R3; have HO3 := hid ho2; have HK3 := hid hk2; clear R3 ho2 hk2 hs2; go_wp2_with fail
    rw [p3] at hbody; exact HI.out.next' (by omega) hbody HR3.out HO3.out HK3.out (by omega) (by omega)
end
end Go.Proofs.YtljaoopfomcaoaaGreatDoor
