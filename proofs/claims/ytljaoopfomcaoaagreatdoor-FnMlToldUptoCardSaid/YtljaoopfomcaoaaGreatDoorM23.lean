import Derived.Deep.DeepCutAuto
import Derived.Deep.RegionWith
import Derived.Lib.ItoaLen
import Derived.Test.YtljaoopfomcaoaaGreatDoorM20
import Derived.Test.YtljaoopfomcaoaaGreatDoorM22
import Derived.Test.YtljaoopfomcaoaaGreatDoorN01
import Derived.Test.YtljaoopfomcaoaaGreatDoorN02
set_option linter.all false
open Go.Lib (hid)
namespace Go.Proofs.YtljaoopfomcaoaaGreatDoor
section
open Go.RowKit
structure Parts (f : Nat) (neg : Bool) (mant : Nat) (E : Int) (e0 fr : Nat) : Prop where
 top : f / 9223372036854775808 = if neg then 1 else 0
 exp : f / 4503599627370496 % 2048 = e0
 frac : f % 4503599627370496 = fr
 lt : e0 < 2047
 case : (e0 = 0 ∧ mant = fr ∧ E = -1074) ∨ (0 < e0 ∧ mant = fr + 4503599627370496 ∧ E = (e0 : Int) - 1075)
 f64 : f < 18446744073709551616
theorem bits_of (f : Nat) (w : World) : Sem.run Tryz.prog (callFunc 73 #[.float .f64 f]) w = .ok (.value (.int .u64 f)) w := by
 rw [run_callFunc_extern Tryz.func73 (by kernel_rfl) (by kernel_rfl) (by kernel_rfl) (e := Extern.MathFloatBits.float64bits) (by kernel_rfl)]; rfl
theorem Out.step {w0 w w' : World} {S : List Nat} {v : Value} {l : List Nat} (h : Out w0 S w v l) (k : Kp [] w w') : Out w0 S w' v l :=
 ⟨own_heap h.own fun g _ hg => k.block g hg (by simp), h.kp.trans (Kp.mono k (fun _ _ h => by simp at h))⟩
theorem Kt.kp {w w' : World} (k : Kp [] w w') : Kt w w' := fun b o hb _ => by rw [k.block b (lt_of_block hb) (by simp)]; exact hb
theorem flAt_of {f mant e0 fr : Nat} {E : Int} {neg : Bool} (h : Parts f neg mant E e0 fr) : FlAt f neg mant E := by
 have h1 := h.top; have h2 := h.exp; have h3 := h.frac; have h4 := h.case; have h5 := h.lt; have hfr : fr < 4503599627370496 := by rw [← h3]; exact Nat.mod_lt _ (by decide)
 have ht : f / 4503599627370496 / 2048 = f / 9223372036854775808 := by rw [Nat.div_div_eq_div_mul]
 have d1 := Nat.div_add_mod f 4503599627370496; have d2 := Nat.div_add_mod (f / 4503599627370496) 2048; rw [ht, h1, h2] at d2; rw [h3] at d1; generalize f / 4503599627370496 = A at d1 d2; clear h1 h2 h3 ht h; have hb : mant + (E + 1074).toNat * 4503599627370496 = fr + e0 * 4503599627370496 := by
  rcases h4 with ⟨q1, q2, q3⟩ | ⟨q1, q2, q3⟩
  · rw [q1, q2, q3]; rfl
  · have q4 : (E + 1074).toNat = e0 - 1 := by omega
    obtain ⟨e, rfl⟩ : ∃ e, e0 = e + 1 := ⟨e0 - 1, by omega⟩; rw [q4, q2]; omega
 refine ⟨?_, by omega, by omega, by omega, by omega⟩
 show f = mant + (E + 1074).toNat * 4503599627370496 + _
 rw [hb, ← d1, ← d2]
 cases neg with
 | true => simp only [if_true]; omega
 | false => simp only [Bool.false_eq_true, if_false]; omega
theorem nd_low (u : Nat) (h : 1 ≤ u) : 10 ^ (Lib.nDigits u - 1) ≤ u := by
 induction u using Nat.strongRecOn with
 | ind u ih =>
  by_cases h10 : u < 10
  · rw [Lib.nDigits_small h10]; simpa using h
  · rw [Lib.nDigits_big h10]
    have := ih (u / 10) (by omega) (by omega); have hp := Lib.nDigits_pos (u / 10); rw [show Lib.nDigits (u / 10) + 1 - 1 = (Lib.nDigits (u / 10) - 1) + 1 from by omega, Nat.pow_succ]; omega
theorem shown_of {mant d nd : Nat} {E P : Int} {ds : List Nat} (hnd : nd = Lib.nDigits d) (hd1 : 1 ≤ d) (hdl : d < 10 ^ nd) (hnd2 : nd ≤ 20) (hI : Fl.InIv mant E d P) (hP1 : -348 ≤ P) (hP2 : P ≤ 349)
  (hz : ∃ z, tens nd d = ds ++ List.replicate z 0) (hne : ds ≠ []) : Shown mant E ds ((nd : Int) + P) := by
 obtain ⟨z, hz⟩ := hz; have hlen := congrArg List.length hz; rw [tens_len, List.length_append, List.length_replicate] at hlen; have hpos : 0 < ds.length := List.length_pos_iff.2 hne; have hsm : ∀ x ∈ ds, x < 10 := fun x hx => tens_small nd d x (by rw [hz]; exact List.mem_append_left _ hx)
 refine ⟨hsm, hne, ?_, by omega, by omega, by omega, z, P, ?_, by omega⟩
 ·
  have h1 : dg (tens nd d) 0 = dg ds 0 := by rw [hz]; exact dg_left hpos
  have h2 := tens_get nd d 0 (by omega); rw [h1] at h2; have h3 := nd_low d hd1; rw [← hnd] at h3; have h4 : 1 ≤ d / 10 ^ (nd - 1) := (Nat.le_div_iff_mul_le (pow10_pos _)).2 (by rw [Nat.one_mul]; exact h3); have h5 : d / 10 ^ (nd - 1) < 10 := by
   refine Nat.div_lt_of_lt_mul ?_; rw [← Nat.pow_succ, show (nd - 1).succ = nd from by omega]; exact hdl
  rw [h2, Nat.sub_zero, Nat.mod_eq_of_lt h5]; omega
 · have h1 := num_tens nd d hdl
   rw [hz, num_zeros] at h1; rw [h1]; exact hI
theorem mk_k (mant : Nat) (h1 : 1 ≤ mant) (h2 : mant < 9007199254740992) : ∃ k, k ≤ 52 ∧ 4503599627370496 ≤ mant * 2 ^ k ∧ mant * 2 ^ k < 9007199254740992 ∧ Lib.bitLen mant = 53 - k := by
 have hL1 := Nat.log2_self_le (n := mant) (by omega); have hL2 := Nat.lt_log2_self (n := mant); have hL3 : mant.log2 ≤ 52 := by
  have h5 : 2 ^ mant.log2 < 2 ^ 53 := Nat.lt_of_le_of_lt hL1 (by omega); have := (Nat.pow_lt_pow_iff_right (by omega : 1 < 2)).1 h5; omega
 refine ⟨52 - mant.log2, by omega, ?_, ?_, ?_⟩
 · have h6 : 2 ^ mant.log2 * 2 ^ (52 - mant.log2) ≤ mant * 2 ^ (52 - mant.log2) := Nat.mul_le_mul_right _ hL1
   rw [← Nat.pow_add, show mant.log2 + (52 - mant.log2) = 52 from by omega] at h6; omega
 · have h6 : mant * 2 ^ (52 - mant.log2) < 2 ^ (mant.log2 + 1) * 2 ^ (52 - mant.log2) := Nat.mul_lt_mul_of_pos_right hL2 (pow2_pos _)
   rw [← Nat.pow_add, show mant.log2 + 1 + (52 - mant.log2) = 53 from by omega] at h6; omega
 ·
  rw [Lib.bitLen_shift mant.log2 mant hL1 (by omega)]; have h7 : mant / 2 ^ mant.log2 = 1 := by
   refine Nat.div_eq_of_lt_le (by omega) ?_; rw [Nat.pow_succ] at hL2; omega
  rw [h7, show Lib.bitLen 1 = 1 from by decide]; omega
theorem tab_heap {w w' : World} {name : String} {k : IntKind} {zs : List Int} (h : Lib.TabIs Tryz.prog w name k zs) (hb : ∀ g, g < w.heap.size → w'.heap[g]? = w.heap[g]?) : Lib.TabIs Tryz.prog w' name k zs := by
 unfold Lib.TabIs World.var? at *
 cases hg : Tryz.prog.globalNamed name with
 | none => simp [hg] at h
 | some g =>
  simp only [hg, Option.bind_some] at h ⊢; have hlt : g < w.heap.size := by
   rcases Nat.lt_or_ge g w.heap.size with h' | h'
   · exact h'
   · rw [Array.getElem?_eq_none h'] at h; simp at h
  rw [hb g hlt]; exact h
set_option maxRecDepth 100000 in
set_option maxHeartbeats 4000000 in
theorem ftoa_is (w0 w : World) (S : List Nat) (v : Value) (l : List Nat) (f mant e0 fr : Nat) (E : Int) (neg : Bool) (fm : Nat) (hO : Out w0 S w v l) (hl : l.length ≤ 100000000) (hP : Parts f neg mant E e0 fr) (hfm : fm = 103 ∨ fm = 101 ∨ fm = 69)
  (hT : PowTab w) (hTb : Lib.TabIs Tryz.prog w "internal/strconv.uint64pow10" .u64 Lib.pow10Tab) (hw : 5 ≤ w.heap.size) :
  Calls Tryz.prog 51 #[v, .float .f64 f, .int .u8 fm, .int .i64 (-1)] w fun e w' => ∃ v' m, e = .returned v' ∧ Num.Ok m ∧ numSem m f ∧ Out w0 S w' v' (l ++ m.text) ∧ Kt w w' := by
 have hb := bits_of f; have HP := hid hP; have HO := hid hO; have HT := hid hT; have HTb := hid hTb; have hf64 := hP.f64; have hlt := hP.lt; have hfrl : fr < 4503599627370496 := by rw [← hP.frac]; exact Nat.mod_lt _ (by omega)
 have b0 : ((f : Int) / 9223372036854775808 != 0) = neg := by
  have h9 := hP.top
  cases neg with
  | true => rw [bne_iff_ne]; simp at h9; omega
  | false => simp at h9; simp; omega
 have b1 : bits .and .i64 ((f : Int) / 4503599627370496) 2047 = (e0 : Int) := by
  have h9 := and_i64_nat (f / 4503599627370496) 2047 (by omega) (by omega); have h8 : f / 4503599627370496 &&& 2047 = f / 4503599627370496 % 2048 := Nat.and_two_pow_sub_one_eq_mod (f / 4503599627370496) 11; rw [h8, hP.exp] at h9; exact h9
 have b2 : bits .and .u64 (f : Int) 4503599627370495 = (fr : Int) := by rw [low52 f hf64, hP.frac]
 have b3 : bits .or .u64 (fr : Int) 4503599627370496 = ((fr + 4503599627370496 : Nat) : Int) := by
  have := or52 fr 1 hfrl (by omega); exact this
 have hcase := hP.case; have hE1 : -1074 ≤ E := by omega
 have hE2 : E ≤ 971 := by omega
 have HCase := hid hcase; have kf1 : ((fm : Int) == 98) = false := by rw [beq_eq_false_iff_ne]; omega
 have kf2 : ((fm : Int) == 120) = false := by rw [beq_eq_false_iff_ne]; omega
 have kf3 : ((fm : Int) == 88) = false := by rw [beq_eq_false_iff_ne]; omega
 have hfl : fm < 256 := by omega
 have HFm := hid hfm; clear hP hO hT hTb hcase hfm; go_enter Tryz.func51, Tryz.ntmps51
 go_upto_region 14 with fail
 go_quiet (fail)
 generalize hw1 : w.drewN nq = w1; have HO1 : Hid (Out w0 S w1 v l) := by rw [← hw1]; exact HO.out.drewN _
 have HK1 : Hid (Kp [] w w1) := by rw [← hw1]; exact (Kp.refl _ _).drewN _
 clear hw1; go_upto_if 67 with fail
 rw [show ((e0 : Int) == 2047) = false from by rw [beq_eq_false_iff_ne]; omega]; go_upto_if 78 with fail
 go_cut [14, 15] (fun s14 s15 wx => s14 = .int .i64 (E + 1075) ∧ s15 = .int .u64 (mant : Int) ∧ wx = w1)
 case first =>
  rcases HCase.out with ⟨h1, h2, h3⟩ | ⟨h1, h2, h3⟩
  · rw [show ((e0 : Int) == 0) = true from by rw [beq_iff_eq]; omega]
    go_wp2_with fail
    go_meet; exact ⟨by congr 1; omega, by rw [h2], rfl⟩
  · rw [show ((e0 : Int) == 0) = false from by rw [beq_eq_false_iff_ne]; omega]
    go_wp2_with fail
    go_meet; exact ⟨by congr 1; omega, by rw [h2]; rfl, rfl⟩
 case rest =>
 obtain ⟨rfl, rfl, hwx⟩ := hcut; have hwx2 := hwx.symm; subst hwx2; clear b1 b2 b3 b0 hb; have hpos : E + 1075 + -1023 = E + 52 := by omega
 go_upto_if 112 with fail
 clear hpos; by_cases hm0 : mant = 0
 ·
  have k0 : ((mant : Int) == 0) = true := by rw [beq_iff_eq]; omega
  rw [k0]; have hz : f = if neg then 9223372036854775808 else 0 := by
   have h9 := flAt_of HP.out; have h8 := h9.bits; have h7 : (E + 1074).toNat = 0 := by have := h9.nm; omega
   rw [h8, hm0, h7]; omega
  have HZf := hid hz; clear hz hm0 kf1 kf2 kf3; rcases HFm.out with rfl | rfl | rfl
  ·
   obtain ⟨m', hm'1, hm'2, hm'3⟩ := (z_form HZf.out 101 (by decide)).1; go_wp2_with fail
   refine (efgZ103 w0 w1 S v l neg HO1.out hl).mono ?_
   rintro e9 w9 ⟨v', rfl, hO9, hK9⟩
   have HO9 := hid hO9; have HK9 := hid ((Kt.kp HK1.out).trans hK9); clear hO9 hK9; go_wp2_with fail
   go_ret; refine ⟨v', m', rfl, hm'1, hm'2, ?_, HK9.out⟩; rw [hm'3]; have h9 := HO9.out; simp only [List.append_assoc] at h9 ⊢; exact h9
  ·
   obtain ⟨m', hm'1, hm'2, hm'3⟩ := (z_form HZf.out 101 (by decide)).2; go_wp2_with fail
   refine (efgZ101 w0 w1 S v l neg HO1.out hl).mono ?_
   rintro e9 w9 ⟨v', rfl, hO9, hK9⟩
   have HO9 := hid hO9; have HK9 := hid ((Kt.kp HK1.out).trans hK9); clear hO9 hK9; go_wp2_with fail
   go_ret; refine ⟨v', m', rfl, hm'1, hm'2, ?_, HK9.out⟩; rw [hm'3]; have h9 := HO9.out; simp only [List.append_assoc] at h9 ⊢; exact h9
  ·
   obtain ⟨m', hm'1, hm'2, hm'3⟩ := (z_form HZf.out 69 (by decide)).2; go_wp2_with fail
   refine (efgZ69 w0 w1 S v l neg HO1.out hl).mono ?_
   rintro e9 w9 ⟨v', rfl, hO9, hK9⟩
   have HO9 := hid hO9; have HK9 := hid ((Kt.kp HK1.out).trans hK9); clear hO9 hK9; go_wp2_with fail
   go_ret; refine ⟨v', m', rfl, hm'1, hm'2, ?_, HK9.out⟩; rw [hm'3]; have h9 := HO9.out; simp only [List.append_assoc] at h9 ⊢; exact h9
 ·
  have k0 : ((mant : Int) == 0) = false := by rw [beq_eq_false_iff_ne]; omega
  rw [k0]; go_upto_region 34 with fail
  generalize hwz : World.alloc w1 _ = w2; have HBk : Hid (w2.heap[w1.heap.size]? = some (.cells (Array.replicate 32 (.int .u8 0)) 141 (0, 0))) := by show _ = _; rw [← hwz]; exact heap_alloc_new _ _
  have HK2 : Hid (Kp [] w1 w2) := by rw [← hwz]; exact (Kp.refl _ _).alloc _
  have hbw := lt_of_block HBk.out; clear hwz; have hml : mant < 9007199254740992 := by have := HCase.out; omega
  obtain ⟨k, hk, hk1, hk2, hbl⟩ := mk_k mant (by omega) hml; have hMt : Mt mant k E := ⟨by omega, hk2, hk1, hE1, hE2, hk, by
   rcases HCase.out with h9 | h9
   · exact Or.inr h9.2.2
   · left
     rcases Nat.eq_zero_or_pos k with h8 | h8
     · exact h8
     · exfalso
       have h7 : mant * 2 ^ 1 ≤ mant * 2 ^ k := Nat.mul_le_mul_left _ (Nat.pow_le_pow_right (by omega) h8); omega⟩
  have HMt := hid hMt; obtain ⟨zz, hzz⟩ : ∃ zz : Nat, zz = 11 + k := ⟨_, rfl⟩; obtain ⟨m, hm⟩ : ∃ m, m = mant * 2 ^ (11 + k) := ⟨_, rfl⟩; have hmm : m < 18446744073709551616 := by rw [hm, Nat.pow_add, Nat.mul_comm (2 ^ 11), ← Nat.mul_assoc]; omega
  have HM := hid hm; have hbl2 : (Lib.bitLen ((mant : Int)).toNat : Int) = ((53 - k : Nat) : Int) := by rw [Int.toNat_natCast, hbl]
  have HBl := hid hbl2; obtain ⟨q, hq⟩ : ∃ q : Nat, q = 53 - k := ⟨_, rfl⟩; have hz1 : (64 : Int) - (q : Int) = (zz : Int) := by omega
  have hz2 : IntKind.u64.wrap ((mant : Int) * 2 ^ zz) = (m : Int) := by
   have e : (mant : Int) * 2 ^ zz = (m : Int) := by rw [hm, hzz]; push_cast; rfl
   rw [e]
   show _ % 18446744073709551616 = _
   omega
  have hzl : zz < 64 := by omega
  have HQ := hid hq; have HZz := hid hzz; have HZ2 := hid hz2; clear hk1 hk2 hbl hMt hm hbl2 hq hzz hz2; go_wp2_with fail
  refine (Tryz.bits_Len64 (mant : Int) w2 (by omega) (by omega)).mono ?_
  rintro e1 w3 ⟨rfl, hw3⟩
  have hw3 := hw3.symm; subst hw3; rw [HBl.out, ← HQ.out]; go_upto_region 37 with fail
  rw [HZ2.out]; have hT2 : PowTab w2 := HT.out.heap ((HK1.out.trans HK2.out).block 4 (by omega) (by simp)); have hw12 := (HK1.out.trans HK2.out).size; go_wp2_with fail
  refine (short_is w2 mant k m E _ HMt.out HM.out (by have := HZz.out; omega) hT2 (by omega)).mono ?_
  rintro e2 w3 ⟨d, P, rfl, hI, hd1, hd2, hP1, hP2, hK3⟩
  have HI := hid hI; have HK3 := hid hK3; have HTb3 : Hid (Lib.TabIs Tryz.prog w3 "internal/strconv.uint64pow10" .u64 Lib.pow10Tab) :=
   tab_heap HTb.out fun g hg => ((HK1.out.trans HK2.out).trans hK3).block g hg (by simp)
  have HBk3 : Hid (w3.heap[w1.heap.size]? = some (.cells (Array.replicate 32 (.int .u8 0)) 141 (0, 0))) := by
   show _ = _
   rw [hK3.block _ hbw (by simp)]; exact HBk.out
  have hbw3 := lt_of_block HBk3.out; obtain ⟨nd, hnd⟩ : ∃ nd, nd = Lib.nDigits d := ⟨_, rfl⟩; have hd64 : d < 18446744073709551616 := by omega
  have hdl : d < 10 ^ nd := by rw [hnd]; exact Lib.lt_pow_nDigits d
  have hnd1 : 1 ≤ nd := by rw [hnd]; exact Lib.nDigits_pos d
  have hnd2 : nd ≤ 20 := by rw [hnd]; exact Lib.nDigits_le20 d hd64
  have HNd := hid hnd; have HDl := hid hdl; clear hI hK3 hT2 hnd hdl hd2; go_upto_region 38 with fail
  have hN : ∀ wx : World, wx.heap = w3.heap → Calls Tryz.prog 69 #[.int .u64 d] wx fun e w' => e = .returned (.int .i64 (nd : Int)) ∧ w' = wx := by
   intro wx hx; have h9 := Tryz.internal_strconv_numDigits d hd1 hd64 wx (tab_heap HTb3.out fun g _ => by rw [hx]); rw [HNd.out]; exact h9
  have hS : ∀ wx : World, wx.heap = w3.heap → Kp [] w3 wx → Calls Tryz.prog 79 #[.slice (some ⟨w1.heap.size, 0, none⟩) 32 32, .int .u64 d, .int .i64 P, .int .i64 nd] wx fun e w' => ∃ ds : List Nat, e = .returned (.tuple #[.int .i64 ((nd : Int) + P), .int .i64 ds.length]) ∧
    ((∃ z, tens nd d = ds ++ List.replicate z 0) ∧ ds ≠ [] ∧ DigBlk w' w1.heap.size 141 ds ∧ Kp [w1.heap.size] w3 w') := by
   intro wx hx hk; have hbx : wx.heap[w1.heap.size]? = some (.cells (Array.replicate 32 (.int .u8 0)) 141 (0, 0)) := by rw [hx]; exact HBk3.out
   refine (setDigits_is wx w1.heap.size 32 d nd P (Array.replicate nd 0) ?_ (by simp) (by omega) (by omega) hd1 HDl.out hd64 hnd1 hnd2 (by omega) (by omega) (lt_of_block hbx)).mono ?_
   ·
    intro j hj; have hj' : j < nd := by simpa using hj
    constructor
    · simp only [World.cell?, hbx, Nat.zero_add, Option.isSome_none, Bool.false_eq_true, if_false]
      rw [Array.getElem?_replicate, if_pos (by omega), getElem!_pos _ j hj]; simp
    · simp [World.frozen?, hbx]
   · rintro e9 w9 ⟨ds, z, rfl, h1, h2, h3, h4, h5, h6⟩
     obtain ⟨c', hc'⟩ := h6 _ _ _ hbx; exact ⟨ds, rfl, ⟨z, h1⟩, h2, h4.blk hc', (Kp.mono hk (fun _ _ h => by simp at h)).trans h5⟩
  have HN := hid hN; have HS := hid hS; clear hN hS; go_cut [22, 23] (fun s22 s23 wx => ∃ ds : List Nat, s22 = .int .i64 ((nd : Int) + P) ∧ s23 = .int .i64 (ds.length : Int) ∧ ((∃ z, tens nd d = ds ++ List.replicate z 0) ∧ ds ≠ [] ∧ DigBlk wx w1.heap.size 141 ds ∧ Kp [w1.heap.size] w3 wx))
  case first =>
   go_region_with (first | (go_at_call 69; refine (HN.out _ (by rfl)).mono ?_; rintro e9 w9 ⟨rfl, rfl⟩) | (go_at_call 79; refine (HS.out _ (by rfl) (by first | exact Kp.refl _ _ | exact (Kp.refl _ _).drew | exact (Kp.refl _ _).drew.drew)).mono ?_; rintro e9 w9 ⟨ds, rfl, hds⟩))
   all_goals (go_wp2_with fail; go_meet)
   all_goals (exact ⟨ds, rfl, rfl, hds⟩)
  case rest =>
  obtain ⟨ds, rfl, rfl, hz, hne, hB, hKb⟩ := hcut; have hSh := shown_of HNd.out hd1 HDl.out hnd2 HI.out hP1 hP2 hz hne; obtain ⟨dp, hdp⟩ : ∃ dp, dp = (nd : Int) + P := ⟨_, rfl⟩; rw [← hdp] at hSh ⊢; have hK5 : Kp [] w1 wc := Kp.mono ((Kp.mono (HK2.out.trans HK3.out) (S' := [w1.heap.size]) (fun _ _ h => by simp at h)).trans hKb) (fun k hk h => by simp at h; omega); have HO5 := hid (HO1.out.step hK5); have HKt5 := hid (Kt.kp (HK1.out.trans hK5)); have HB5 := hid hB; have HSh := hid hSh; have hdsl : 0 < ds.length := List.length_pos_iff.2 hne; have hds20 := hSh.len; have hdp1 := hSh.d1; have hdp2 := hSh.d2; have HFl := hid (flAt_of HP.out); have hm1 : 1 ≤ mant := by omega
  clear hz hne hB hKb hSh hdp hK5 hP1 hP2 hd1 kf1 kf2 kf3; rcases HFm.out with rfl | hfm
  ·
   by_cases hin : -3 ≤ dp ∧ dp ≤ 6
   ·
    obtain ⟨m', hm'1, hm'2, hm'3⟩ := f_form HFl.out HSh.out hm1 hin.1 hin.2; go_wp2_with fail
    refine (efgF w0 wc S v l _ neg w1.heap.size 32 141 ds dp HO5.out hl HB5.out (by decide) hdsl hds20 HSh.out.small (by omega) (by omega) hin.1 hin.2 rfl).mono ?_
    rintro e9 w9 ⟨v', rfl, hO9, hK9⟩
    have HO9 := hid hO9; have HK9 := hid (HKt5.out.trans hK9); clear hO9 hK9; go_wp2_with fail
    go_ret; refine ⟨v', m', rfl, hm'1, hm'2, ?_, HK9.out⟩; rw [hm'3]; have h9 := HO9.out; simp only [List.append_assoc] at h9 ⊢; exact h9
   ·
    obtain ⟨m', hm'1, hm'2, hm'3⟩ := e_form 101 (Or.inl rfl) HFl.out HSh.out hm1; go_wp2_with fail
    refine (efgG w0 wc S v l _ neg w1.heap.size 32 141 ds dp HO5.out hl HB5.out (by decide) hdsl hds20 HSh.out.small (by omega) (by omega) (by omega) (by omega) (by omega) rfl).mono ?_
    rintro e9 w9 ⟨v', rfl, hO9, hK9⟩
    have HO9 := hid hO9; have HK9 := hid (HKt5.out.trans hK9); clear hO9 hK9; go_wp2_with fail
    go_ret; refine ⟨v', m', rfl, hm'1, hm'2, ?_, HK9.out⟩; rw [hm'3]; exact HO9.out
  ·
   obtain ⟨m', hm'1, hm'2, hm'3⟩ := e_form fm hfm HFl.out HSh.out hm1; have hmax : max ((ds.length : Int) - 1) 0 = (ds.length : Int) - 1 := by omega
   rcases hfm with rfl | rfl
   ·
    go_wp2_with fail
    refine (efgE w0 wc S v l _ neg w1.heap.size 32 141 ds dp ((ds.length : Int) - 1) 101 HO5.out hl HB5.out (by decide) hdsl hds20 HSh.out.small (by omega) (by omega) (by omega) (by omega) (by decide) rfl rfl).mono ?_
    rintro e9 w9 ⟨v', rfl, hO9, hK9⟩
    have HO9 := hid hO9; have HK9 := hid (HKt5.out.trans hK9); clear hO9 hK9; go_wp2_with fail
    go_ret; refine ⟨v', m', rfl, hm'1, hm'2, ?_, HK9.out⟩; rw [hm'3]; exact HO9.out
   ·
    go_wp2_with fail
    refine (efgE w0 wc S v l _ neg w1.heap.size 32 141 ds dp ((ds.length : Int) - 1) 69 HO5.out hl HB5.out (by decide) hdsl hds20 HSh.out.small (by omega) (by omega) (by omega) (by omega) (by decide) rfl rfl).mono ?_
    rintro e9 w9 ⟨v', rfl, hO9, hK9⟩
    have HO9 := hid hO9; have HK9 := hid (HKt5.out.trans hK9); clear hO9 hK9; go_wp2_with fail
    go_ret; refine ⟨v', m', rfl, hm'1, hm'2, ?_, HK9.out⟩; rw [hm'3]; exact HO9.out
end
end Go.Proofs.YtljaoopfomcaoaaGreatDoor
