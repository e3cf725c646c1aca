import Derived.Shelf.Unicode.ValidAny
import Derived.Test.YtljaoopfomcaoaaGreatDoorM04
import Derived.Test.YtljaoopfomcaoaaGreatDoorM06
set_option linter.all false
open Go.Lib (hid)
namespace Go.Proofs
open Go.Shelf
def Tryz.lays196_ren : Go.Shelf.Ren := ⟨fun | 196 => 23 | 259 => 36 | n => n, fun | 9 => 9 | 4 => 4 | 3 => 3 | 5 => 5 | 12 => 12 | 119 => 70 | 0 => 0 | 46 => 74 | 139 => 73 | 138 => 72 | 53 => 84 | n => n, fun | 3 => 0 | 4 => 1 | n => n⟩
theorem Tryz.lays196 : Go.Proofs.Lays.n196 Tryz.prog Tryz.lays196_ren := {
 mixed := by kernel_rfl
 f196 := Tryz.func23.trans (congrArg some (by kernel_rfl))
 f259 := Tryz.func36.trans (congrArg some (by kernel_rfl))
 t0 := Tryz.underlying0
 a0 := Tryz.isAgg0
 z0 := Tryz.sizeOf0
 v0 := Tryz.zeroValue0
 t3 := Tryz.underlying3
 a3 := Tryz.isAgg3
 z3 := Tryz.sizeOf3
 v3 := Tryz.zeroValue3
 t4 := Tryz.underlying4
 a4 := Tryz.isAgg4
 z4 := Tryz.sizeOf4
 v4 := Tryz.zeroValue4
 t5 := Tryz.underlying5
 a5 := Tryz.isAgg5
 z5 := Tryz.sizeOf5
 v5 := Tryz.zeroValue5
 t9 := Tryz.underlying9
 a9 := Tryz.isAgg9
 z9 := Tryz.sizeOf9
 v9 := Tryz.zeroValue9
 t12 := Tryz.underlying12
 a12 := Tryz.isAgg12
 z12 := Tryz.sizeOf12
 v12 := Tryz.zeroValue12
 t46 := Tryz.underlying74
 a46 := Tryz.isAgg74
 z46 := Tryz.sizeOf74
 v46 := Tryz.zeroValue74
 t53 := Tryz.underlying84
 a53 := Tryz.isAgg84
 z53 := Tryz.sizeOf84
 v53 := Tryz.zeroValue84
 t119 := Tryz.underlying70
 a119 := Tryz.isAgg70
 z119 := Tryz.sizeOf70
 t138 := Tryz.underlying72
 a138 := Tryz.isAgg72
 z138 := Tryz.sizeOf72
 v138 := Tryz.zeroValue72
 t139 := Tryz.underlying73
 a139 := Tryz.isAgg73
 z139 := Tryz.sizeOf73
 v139 := Tryz.zeroValue73
 g3 := by kernel_rfl
 g4 := by kernel_rfl }
end Go.Proofs
namespace Go.Proofs.YtljaoopfomcaoaaGreatDoor
section
open Go.RowKit
theorem decodeN_back (n b0 b1 b2 b3 r k : Nat) (h : Lib.decodeN n b0 b1 b2 b3 = (r, k)) (hn : 0 < n) (l0 : b0 < 256) (l1 : b1 < 256) (l2 : b2 < 256) (l3 : b3 < 256) (hv : ¬ (r = 65533 ∧ k = 1)) :
  scalar r ∧ k ≤ n ∧ utf8 r = [b0, b1, b2, b3].take k := by
 unfold Lib.decodeN at h
 split at h
 · rename_i c0
   obtain ⟨rfl, rfl⟩ := Prod.mk.inj h; refine ⟨Or.inl (by omega), hn, ?_⟩; unfold utf8; rw [if_pos c0]; rfl
 split at h
 ·
  rename_i c0 c
  split at h
  ·
   rename_i c2
   obtain ⟨rfl, rfl⟩ := Prod.mk.inj h; refine ⟨Or.inl (by omega), by omega, ?_⟩; unfold utf8; rw [if_neg (by omega), if_pos (by omega)]
   show _ = [b0, b1]
   congr 1
   · omega
   · congr 1; omega
  · exact absurd ⟨(Prod.mk.inj h).1.symm, (Prod.mk.inj h).2.symm⟩ hv
 split at h
 ·
  rename_i c0 c1 c
  split at h
  ·
   rename_i c2
   obtain ⟨rfl, rfl⟩ := Prod.mk.inj h; refine ⟨?_, by omega, ?_⟩
   · unfold scalar; omega
   unfold utf8; rw [if_neg (by omega), if_neg (by omega), if_pos (by omega)]
   show _ = [b0, b1, b2]
   congr 1
   · omega
   · congr 1
     · omega
     · congr 1; omega
  · exact absurd ⟨(Prod.mk.inj h).1.symm, (Prod.mk.inj h).2.symm⟩ hv
 split at h
 ·
  rename_i c0 c1 c3 c
  split at h
  ·
   rename_i c2
   obtain ⟨rfl, rfl⟩ := Prod.mk.inj h; refine ⟨?_, by omega, ?_⟩
   · unfold scalar; omega
   unfold utf8; rw [if_neg (by omega), if_neg (by omega), if_neg (by omega)]
   show _ = [b0, b1, b2, b3]
   congr 1
   · omega
   · congr 1
     · omega
     · congr 1
       · omega
       · congr 1; omega
  · exact absurd ⟨(Prod.mk.inj h).1.symm, (Prod.mk.inj h).2.symm⟩ hv
 · exact absurd ⟨(Prod.mk.inj h).1.symm, (Prod.mk.inj h).2.symm⟩ hv
theorem take4 (l : List UInt8) (k : Nat) (hk : k ≤ l.length) (hk4 : k ≤ 4) : [(l.getD 0 0).toNat, (l.getD 1 0).toNat, (l.getD 2 0).toNat, (l.getD 3 0).toNat].take k = (l.take k).map UInt8.toNat := by
 apply List.ext_getElem?; intro i; rw [List.getElem?_take, List.getElem?_map, List.getElem?_take]; by_cases hi : i < k
 ·
  rw [if_pos hi, if_pos hi]; have hl : i < l.length := by omega
  have e : l.getD i 0 = l[i] := by rw [List.getD_eq_getElem?_getD, List.getElem?_eq_getElem hl]; rfl
  rw [List.getElem?_eq_getElem hl]; have hi4 : i < 4 := by omega
  rcases i with _ | _ | _ | _ | i
  · exact congrArg (fun z => some (UInt8.toNat z)) e
  · exact congrArg (fun z => some (UInt8.toNat z)) e
  · exact congrArg (fun z => some (UInt8.toNat z)) e
  · exact congrArg (fun z => some (UInt8.toNat z)) e
  · omega
 · rw [if_neg hi, if_neg hi]; rfl
theorem decodeN_k (n b0 b1 b2 b3 : Nat) : (Lib.decodeN n b0 b1 b2 b3).2 ≤ 4 := by
 unfold Lib.decodeN
 repeat' split
 all_goals simp
theorem valid_utf : ∀ (n : Nat) (l : List UInt8), l.length ≤ n → Lib.validD l = true → ∃ rs, l.map UInt8.toNat = enc rs ∧ ∀ r ∈ rs, scalar r
 | 0, l, h, _ => ⟨[], by rw [List.length_eq_zero_iff.1 (show l.length = 0 by omega)]; rfl, by simp⟩
 | n + 1, l, h, hv => by
  by_cases hne : l = []
  · exact ⟨[], by rw [hne]; rfl, by simp⟩
  have hl : 0 < l.length := List.length_pos_iff.2 hne; rw [Lib.validD_step l hne] at hv
  split at hv
  · cases hv
  ·
   rename_i hbad
   have hw := Lib.decodeL_width l; obtain ⟨rs, h1, h2⟩ := valid_utf n (l.drop (Lib.decodeL l).2) (by rw [List.length_drop]; omega) hv; obtain ⟨r, k, hrk⟩ : ∃ r k, Lib.decodeL l = (r, k) := ⟨_, _, rfl⟩; rw [hrk] at hbad h1 hw; have hN := Lib.decodeL_N l; have hk4 := decodeN_k l.length (l.getD 0 0).toNat (l.getD 1 0).toNat (l.getD 2 0).toNat (l.getD 3 0).toNat
   rw [← hN, hrk] at hk4; rw [hrk] at hN; obtain ⟨s1, s2, s3⟩ := decodeN_back _ _ _ _ _ r k hN.symm hl (UInt8.toNat_lt _) (UInt8.toNat_lt _) (UInt8.toNat_lt _) (UInt8.toNat_lt _) hbad; refine ⟨r :: rs, ?_, fun q hq => ?_⟩
   · rw [enc, s3, take4 l k s2 hk4, ← h1, ← List.map_append, List.take_append_drop]
   · rcases List.mem_cons.1 hq with rfl | hq
     · exact s1
     · exact h2 q hq
theorem valid_is (s : ByteArray) (w : World) (hs : s.size ≤ 100000000) (hT : Lib.Utf8Tabs 0 1 w) :
  Calls Tryz.prog 23 #[.string s] w fun e w' => ∃ b : Bool, e = .returned (.bool b) ∧ Kp [] w w' ∧ (b = true → Utf s) := by
 have h : Calls Tryz.prog 23 #[.string s] w _ := Any.utf8_ValidString Tryz.lays196 s w (by omega) hT; refine h.mono ?_
 rintro e w' ⟨rfl, hb⟩
 refine ⟨_, rfl, Kp.of_below hb (Nat.le_refl _) [], fun h => ?_⟩; obtain ⟨rs, h1, h2⟩ := valid_utf _ s.data.toList (Nat.le_refl _) h; exact ⟨rs, h1, h2⟩
end
section
open Go.RowKit
structure BIn (w : World) (bx : Nat) (v : JV) (kp : Option Addr) (kc : Nat) (lp : Option Addr) (lc : Nat) (wr : World) : Prop where
 box : BxAt wr bx v kp kc lp lc
 kp' : Kp [] w wr
theorem BIn.new (w : World) (v : JV) (kp : Option Addr) (kc : Nat) (lp : Option Addr) (lc : Nat) :
  BIn w w.heap.size v kp kc lp lc (w.alloc (.cells #[.int .i64 v.kind, .bool v.b, .int .i64 v.i, .float .f64 v.f, .string v.t, .slice kp v.ks.length kc, .slice lp v.l.length lc] 26)) :=
 ⟨bxAt_fresh w v kp kc lp lc, (Kp.refl _ _).alloc _⟩
theorem BIn.next {w : World} {bx : Nat} {v : JV} {kp : Option Addr} {kc : Nat} {lp : Option Addr} {lc : Nat} {wr w' : World} (h : BIn w bx v kp kc lp lc wr) (k : Kp [] wr w') : BIn w bx v kp kc lp lc w' :=
 ⟨h.box.keep k (by simp), h.kp'.trans k⟩
def ClrPost (n : Nat) (w : World) (v : JV) (e : Ending) (w' : World) : Prop :=
 ∃ b : Bool, e = .returned (.bool b) ∧ Kp [] w w' ∧ (b = true → Clear n v)
theorem ClrPost.no {n : Nat} {w w' : World} {v : JV} (hk : Kp [] w w') : ClrPost n w v (.returned (.bool false)) w' := ⟨false, rfl, hk, fun h => by cases h⟩
def ClrDoes (n : Nat) : Prop :=
 ∀ (m : Nat) (w0 w : World) (v : JV) (kp lp : Option Addr) (kc lc : Nat), Deep n w0 v kp lp → Fits m v → Kp [] w0 w → Env w0 → Calls Tryz.prog 18 #[valOf v kp kc lp lc] w (ClrPost n w v)
theorem mem_take_succ {α : Type} {l : List α} {i : Nat} (hi : i < l.length) {P : α → Prop} (h : ∀ x ∈ l.take i, P x) (hx : P l[i]) : ∀ x ∈ l.take (i + 1), P x := by
 intro x hm; rw [← List.take_append_getElem hi] at hm; rcases List.mem_append.1 hm with hm | hm
 · exact h x hm
 · rw [List.mem_singleton.1 hm]; exact hx
set_option maxRecDepth 100000 in
set_option maxHeartbeats 2000000 in
theorem clr_step (n : Nat) (IH : ClrDoes n) : ClrDoes (n + 1) := by
 intro m w0 w v kp lp kc lc hd hF hk0 hE; obtain ⟨m, rfl⟩ : ∃ m', m = m' + 1 := by
  cases m with
  | zero => exact hF.elim
  | succ m => exact ⟨m, rfl⟩
 obtain ⟨hks0, hdl⟩ := hd; obtain ⟨⟨_, _, _, htl, hkslen, hllen, hksz⟩, hft⟩ := hF; have HDl := hid hdl; have HKs := hid hks0; have HFt := hid hft; have HKz := hid hksz; have HIH := hid IH; have HK0 := hid hk0; have HE := hid hE; clear hks0 hdl hft IH hk0 hE hksz; have HB0 := hid (BIn.new w v kp kc lp lc); unfold valOf; go_enter Tryz.func18, Tryz.ntmps18
 go_upto_region 1 with fail
 generalize hW : World.alloc _ _ = w1 at *; clear hW; have b5 := HB0.out.box.c5; go_wp2_with fail
 go_loopw [4, 10] (fun _ s10 wx => ∃ i : Nat, s10 = .int .i64 (i : Int) ∧ i ≤ v.ks.length ∧ BIn w w.heap.size v kp kc lp lc wx ∧ ∀ x ∈ v.ks.take i, Utf x) (fun _ s10 _ => v.ks.length - (intOf s10).toNat)
 case atStart => exact ⟨0, rfl, Nat.zero_le _, HB0.out, by simp⟩
 case round =>
  obtain ⟨i, rfl, hi, hB, hU⟩ := hrel; have HB1 := hid hB; have HU := hid hU; clear hB hU HB0 b5; by_cases hil : i < v.ks.length
  ·
   have q1 : decide ((i : Int) < (v.ks.length : Int)) = true := by rw [decide_eq_true_eq]; omega
   rcases HKs.out with h0 | ⟨g, o, hkp, hcs⟩
   · rw [h0] at hil; simp at hil
   have hkw : Kp [] w0 wr := HK0.out.trans HB1.out.kp'; have d0 := cell_kp (hcs i hil) hkw; obtain ⟨x, hx⟩ : ∃ x, x = v.ks[i] := ⟨_, rfl⟩; rw [← hx] at d0; have hxs : x.size ≤ 2000000 := by rw [hx]; exact HKz.out _ (List.getElem_mem hil)
   have HX := hid hx; have hcv := valid_is x wr (by omega) (HE.out.kp hkw (by simp)).u8; have HCv := hid hcv; subst hkp; clear hcs hkw hx hcv; go_wp2_with fail
   refine HCv.out.mono ?_
   rintro e7 w4 ⟨b, rfl, hk4, hb⟩
   have HK4 := hid hk4; have HBb := hid hb; clear hk4 HCv hb d0
   cases b with
   | false =>
    go_wp2_with fail
    go_ret; exact ClrPost.no (HB1.out.kp'.trans HK4.out)
   | true =>
    have HCx := hid (HBb.out rfl); clear HBb; go_wp2_with fail
    go_roundw
    case measure => simp [intOf]; omega
    case rel => exact ⟨i + 1, by push_cast; rfl, by omega, HB1.out.next HK4.out, mem_take_succ hil HU.out (by rw [← HX.out]; exact HCx.out)⟩
  ·
   obtain rfl : i = v.ks.length := by omega
   have q1 : decide ((v.ks.length : Int) < (v.ks.length : Int)) = false := by simp
   have b6 := HB1.out.box.c6; have HKs0 := hid (show ∀ x ∈ v.ks, Utf x by have := HU.out; rwa [List.take_length] at this); clear HU; go_wp2_with fail
   go_loopw [6, 21] (fun _ s21 wx => ∃ i : Nat, s21 = .int .i64 (i : Int) ∧ i ≤ v.l.length ∧ BIn w w.heap.size v kp kc lp lc wx ∧ ∀ x ∈ v.l.take i, Clear n x) (fun _ s21 _ => v.l.length - (intOf s21).toNat)
   case atStart => exact ⟨0, rfl, Nat.zero_le _, HB1.out, by simp⟩
   case round =>
    obtain ⟨i, rfl, hi, hB, hCl⟩ := hrel; have HB := hid hB; have HCl := hid hCl; clear hB hCl HB1; by_cases hil : i < v.l.length
    ·
     have q1 : decide ((i : Int) < (v.l.length : Int)) = true := by rw [decide_eq_true_eq]; omega
     rcases HDl.out with h0 | ⟨g, o, hlp, hcs⟩
     · rw [h0] at hil; simp at hil
     obtain ⟨kp', kc', lp', lc', ⟨a0, a1, a2, a3, a4, a5, a6⟩, hdeep⟩ := hcs i hil; have hkw : Kp [] w0 wr := HK0.out.trans HB.out.kp'; have d0 := cell_kp a0 hkw; have d1 := cell_kp a1 hkw; have d2 := cell_kp a2 hkw; have d3 := cell_kp a3 hkw; have d4 := cell_kp a4 hkw; have d5 := cell_kp a5 hkw; have d6 := cell_kp a6 hkw; have HDeep := hid hdeep; have HKw := hid hkw; clear a0 a1 a2 a3 a4 a5 a6 hcs hdeep hkw; subst hlp; obtain ⟨x, hx⟩ : ∃ x, x = v.l[i] := ⟨_, rfl⟩; have HX := hid hx; rw [← hx] at d0 d1 d2 d3 d4 d5 d6 HDeep; clear hx
     go_upto_region 10 with (refine wpList_store_row rfl 26 _ _ rfl wr.heap.size #[.int .i64 x.kind, .bool x.b, .int .i64 x.i, .float .f64 x.f, .string x.t, .slice kp' x.ks.length kc', .slice lp' x.l.length lc'] ?_ ?_ 26 #[.int .i64 0, .bool false, .int .i64 0, .float .f64 0, .string ⟨#[]⟩, .slice none 0 0, .slice none 0 0] ?_ ?_ ?_ ?_ ?_; go_must (rfl); go_must (rfl); go_must (exact heap_alloc_new _ _); go_must (kernel_rfl); go_must (rfl); go_must (simp [Value.oneCell']))
     have hcopy := copy_kp' wr #[.int .i64 x.kind, .bool x.b, .int .i64 x.i, .float .f64 x.f, .string x.t, .slice kp' x.ks.length kc', .slice lp' x.l.length lc'] #[.int .i64 0, .bool false, .int .i64 0, .float .f64 0, .string ⟨#[]⟩, .slice none 0 0, .slice none 0 0]; have hbx2 : BxAt ((wr.alloc (.cells #[.int .i64 0, .bool false, .int .i64 0, .float .f64 0, .string ⟨#[]⟩, .slice none 0 0, .slice none 0 0] 26)).setRow wr.heap.size #[.int .i64 x.kind, .bool x.b, .int .i64 x.i, .float .f64 x.f, .string x.t, .slice kp' x.ks.length kc', .slice lp' x.l.length lc']) wr.heap.size x kp' kc' lp' lc' := setRow_heap _ _ _ _ 26 _ (heap_alloc_new _ _); generalize hW : World.setRow _ _ _ = w3 at *; have HCp := hid hcopy; have e0 := hbx2.c0; have e1 := hbx2.c1; have e2 := hbx2.c2; have e3 := hbx2.c3; have e4 := hbx2.c4; have e5 := hbx2.c5; have e6 := hbx2.c6
     have hc := HIH.out m w0 w3 x kp' lp' kc' lc' HDeep.out (by rw [HX.out]; exact HFt.out _ (List.getElem_mem hil)) (HKw.out.trans hcopy) HE.out; have HC := hid hc; clear d0 d1 d2 d3 d4 d5 d6 hW hcopy hbx2 hc; go_wp2_with fail
     refine HC.out.mono ?_
     rintro e7 w4 ⟨b, rfl, hk4, hb⟩
     have HK4 := hid hk4; have HBb := hid hb; clear e0 e1 e2 e3 e4 e5 e6 hk4 HC hb
     cases b with
     | false =>
      go_wp2_with fail
      go_ret; exact ClrPost.no ((HB.out.kp'.trans HCp.out).trans HK4.out)
     | true =>
      have HCx := hid (HBb.out rfl); have hil63 : (i : Int) + 1 ≤ 3000000 := by omega
      clear HBb; go_wp2_with fail
      go_roundw
      case measure => simp [intOf]; omega
      case rel => exact ⟨i + 1, by push_cast; rfl, by omega, (HB.out.next HCp.out).next HK4.out, mem_take_succ hil HCl.out (by rw [← HX.out]; exact HCx.out)⟩
    ·
     obtain rfl : i = v.l.length := by omega
     have q1 : decide ((v.l.length : Int) < (v.l.length : Int)) = false := by simp
     have b4 := HB.out.box.c4; have hcv := valid_is v.t wr (by omega) (HE.out.kp (HK0.out.trans HB.out.kp') (by simp)).u8; have HCv := hid hcv; clear hcv; go_wp2_with fail
     refine HCv.out.mono ?_
     rintro e7 w4 ⟨b, rfl, hk4, hb⟩
     have hpost : ClrPost (n + 1) w v (.returned (.bool b)) w4 :=
      ⟨b, rfl, HB.out.kp'.trans hk4, fun h => ⟨HKs0.out, hb h, by have := HCl.out; rwa [List.take_length] at this⟩⟩
     have HPost := hid hpost; clear hk4 hb hpost HCv; go_wp2_with fail
     go_ret; exact HPost.out
theorem clr_does : ∀ n, ClrDoes n
 | 0 => fun _ _ _ _ _ _ _ _ h => h.elim
 | n + 1 => clr_step n (clr_does n)
def ClearPost (n : Nat) (w : World) (v : JV) (e : Ending) (w' : World) : Prop :=
 ∃ b : Bool, e = .returned (.bool b) ∧ Kp [] w w' ∧ (b = true → Clear n v ∧ ∀ k ∈ v.ks, k.size ≠ 0)
theorem ClearPost.no {n : Nat} {w w' : World} {v : JV} (hk : Kp [] w w') : ClearPost n w v (.returned (.bool false)) w' := ⟨false, rfl, hk, fun h => by cases h⟩
set_option maxRecDepth 100000 in
set_option maxHeartbeats 2000000 in
theorem mlClear_is (n m : Nat) (w : World) (v : JV) (kp lp : Option Addr) (kc lc : Nat) (hd : Deep n w v kp lp) (hF : Fits m v) (hE : Env w) :
  Calls Tryz.prog 7 #[valOf v kp kc lp lc] w (ClearPost n w v) := by
 have hks : StrsAt w kp v.ks := by
  cases n with
  | zero => exact hd.elim
  | succ n => exact hd.1
 have hkslen : v.ks.length ≤ 2000000 := by
  cases m with
  | zero => exact hF.elim
  | succ n => exact hF.1.2.2.2.2.1
 have HKs := hid hks; have HD := hid hd; have HF := hid hF; have HE := hid hE; clear hks hd hF hE; have HB0 := hid (BIn.new w v kp kc lp lc); unfold valOf; go_enter Tryz.func7, Tryz.ntmps7
 go_upto_region 1 with fail
 generalize hW : World.alloc _ _ = w1 at *; clear hW; have b5 := HB0.out.box.c5; go_wp2_with fail
 go_loopw [4, 8] (fun _ s8 wx => ∃ i : Nat, s8 = .int .i64 (i : Int) ∧ i ≤ v.ks.length ∧ BIn w w.heap.size v kp kc lp lc wx ∧ ∀ x ∈ v.ks.take i, x.size ≠ 0) (fun _ s8 _ => v.ks.length - (intOf s8).toNat)
 case atStart => exact ⟨0, rfl, Nat.zero_le _, HB0.out, by simp⟩
 case round =>
  obtain ⟨i, rfl, hi, hB, hU⟩ := hrel; have HB1 := hid hB; have HU := hid hU; clear hB hU HB0 b5; by_cases hil : i < v.ks.length
  ·
   have q1 : decide ((i : Int) < (v.ks.length : Int)) = true := by rw [decide_eq_true_eq]; omega
   rcases HKs.out with h0 | ⟨g, o, hkp, hcs⟩
   · rw [h0] at hil; simp at hil
   have d0 := cell_kp (hcs i hil) HB1.out.kp'; obtain ⟨x, hx⟩ : ∃ x, x = v.ks[i] := ⟨_, rfl⟩; rw [← hx] at d0; have HX := hid hx; subst hkp; clear hcs hx; by_cases hz : x.toList.isEmpty = true
   · have q2 : x.toList.isEmpty = true := hz
     clear hz; go_wp2_with fail
     go_ret; exact ClearPost.no HB1.out.kp'
   ·
    have q2 : x.toList.isEmpty = false := by simpa using hz
    have HZ := hid hz; clear hz; go_wp2_with fail
    go_roundw
    case measure => simp [intOf]; omega
    case rel =>
     refine ⟨i + 1, by push_cast; rfl, by omega, HB1.out, mem_take_succ hil HU.out ?_⟩; rw [← HX.out]; intro h; refine HZ.out ?_; rw [ByteArray.toList_eq]; obtain ⟨⟨l⟩⟩ := x; have h : l.length = 0 := h
     show l.isEmpty = true
     rw [List.length_eq_zero_iff.1 h]; rfl
  ·
   obtain rfl : i = v.ks.length := by omega
   have q1 : decide ((v.ks.length : Int) < (v.ks.length : Int)) = false := by simp
   have b0 := HB1.out.box.c0; have b1 := HB1.out.box.c1; have b2 := HB1.out.box.c2; have b3 := HB1.out.box.c3; have b4 := HB1.out.box.c4; have b5 := HB1.out.box.c5; have b6 := HB1.out.box.c6; have hc := clr_does n m w wr v kp lp kc lc HD.out HF.out HB1.out.kp' HE.out; unfold valOf at hc; have HC := hid hc; clear hc; go_wp2_with fail
   refine HC.out.mono ?_
   rintro e7 w4 ⟨b, rfl, hk4, hb⟩
   have hpost : ClearPost n w v (.returned (.bool b)) w4 := ⟨b, rfl, HB1.out.kp'.trans hk4, fun h => ⟨hb h, by have := HU.out; rwa [List.take_length] at this⟩⟩; have HPost := hid hpost; clear hk4 hb hpost HC; go_wp2_with fail
   go_ret; exact HPost.out
end
end Go.Proofs.YtljaoopfomcaoaaGreatDoor
