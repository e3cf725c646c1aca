import Derived.Laws.Bits64b
import Derived.Laws.OwnMore
import Derived.Test.YtljaoopfomcaoaaGreatDoorM11
set_option linter.all false
open Go.Lib (hid)
namespace Go.Proofs.YtljaoopfomcaoaaGreatDoor
section
open Go.RowKit
theorem dg_lt {ds : List Nat} (h : ∀ d ∈ ds, d < 10) (i : Nat) : dg ds i < 10 := by
 unfold dg; rw [List.getD_eq_getElem?_getD]; by_cases hi : i < ds.length
 · rw [List.getElem?_eq_getElem hi]; exact h _ (List.getElem_mem hi)
 · rw [List.getElem?_eq_none (by omega)]; simp
theorem dg_past {ds : List Nat} {i : Nat} (h : ds.length ≤ i) : dg ds i = 0 := by
 unfold dg; rw [List.getD_eq_getElem?_getD, List.getElem?_eq_none h]; rfl
theorem pre_ge {ds : List Nat} (hd : Dig ds) (hne : ds ≠ []) : ∀ i, 10 ^ i ≤ pre ds (i + 1)
 | 0 => by
  cases ds with
  | nil => exact absurd rfl hne
  | cons d l => have := hd.head; simp [pre, dg] at *; omega
 | i + 1 => by
  have := pre_ge hd hne i; rw [pre, Nat.pow_succ]; omega
structure H1Inv (ds : List Nat) (k i : Nat) : Prop where
 lt : pre ds i < 10 * 2 ^ k
 i : i ≤ 19
theorem H1Inv.next {ds : List Nat} {k i : Nat} (h : H1Inv ds k i) (hz : pre ds i < 2 ^ k) (hd : Dig ds) (hne : ds ≠ []) (hk : k ≤ 59) : H1Inv ds k (i + 1) := by
 have h1 := dg_lt hd.small i; have hlt : pre ds (i + 1) < 10 * 2 ^ k := by rw [pre]; omega
 refine ⟨hlt, ?_⟩; have h2 := pre_ge hd hne i; have h3 : 2 ^ k ≤ 2 ^ 59 := Nat.pow_le_pow_right (by omega) hk; have h4 : 10 ^ i < 10 ^ 19 := by
  have : (10 : Nat) * 2 ^ 59 < 10 ^ 19 := by decide
  omega
 have := (Nat.pow_lt_pow_iff_right (by omega : 1 < 10)).1 h4; omega
theorem DecAt.keep {w w' : World} {B b g cap : Nat} {ds : List Nat} {dp : Int} (h : DecAt w B b g cap ds dp) (hb : w'.heap[b]? = w.heap[b]?) (hg : w'.heap[g]? = w.heap[g]?) : DecAt w' B b g cap ds dp := by
 refine ⟨by rw [hb]; exact h.blk, h.own.1, ?_⟩; rcases h.own.2 with ⟨h1, _⟩ | ⟨g', cap', cur, h1, h2, h3, h4⟩
 · cases h1
 ·
  injection h1 with h1 _ h8
  subst h8; have h1 := Option.some.inj h1
  injection h1 with h1 _ _
  subst h1; exact Or.inr ⟨g, cap, cur, rfl, h2, by rw [hg]; exact h3, h4⟩
theorem own_slice {w : World} {B : Nat} {v : Value} {l : List Nat} (h : w.ownsRow B 5 1 v l.length (cellsOf l)) (hne : l ≠ []) : ∃ g cap, v = .slice (some ⟨g, 0, none⟩) l.length cap ∧ B ≤ g ∧ g < w.heap.size := by
 rcases h.2 with ⟨rfl, h1⟩ | ⟨g, cap, cur, rfl, h1, h2, _⟩
 · exact absurd (List.length_eq_zero_iff.1 h1) hne
 · exact ⟨g, cap, rfl, h1, lt_of_block h2⟩
theorem own_base {w : World} {B B' : Nat} {e : TypeId} {k : Nat} {v : Value} {n : Nat} {xs : List Value} (h : w.ownsRow B' e k v n xs) (hB : B ≤ B') : w.ownsRow B e k v n xs := by
 refine ⟨h.1, ?_⟩; rcases h.2 with h1 | ⟨g, cap, cur, h1, h2, h3⟩
 · exact Or.inl h1
 · exact Or.inr ⟨g, cap, cur, h1, by omega, h3⟩
theorem mask_is (n k : Nat) (hn : n < 18446744073709551616) (hk : k ≤ 59) : bits .and .u64 (n : Int) (2 ^ k - 1) = ((n % 2 ^ k : Nat) : Int) := by
 have h1 : 2 ^ k ≤ 2 ^ 59 := Nat.pow_le_pow_right (by omega) hk; have h2 : 1 ≤ 2 ^ k := Nat.pow_pos (by omega); have e : ((2 : Int) ^ k - 1) = ((2 ^ k - 1 : Nat) : Int) := by
  rw [Int.ofNat_sub h2]; push_cast; rfl
 rw [e, bits_and_u64_nat n (2 ^ k - 1) hn (by omega), Nat.and_two_pow_sub_one_eq_mod]
set_option maxRecDepth 100000 in
set_option maxHeartbeats 2000000 in
theorem half_is (w : World) (B b g cap k : Nat) (ds : List Nat) (dp : Int) (h : DecAt w B b g cap ds dp) (hd : Dig ds) (hne : ds ≠ []) (hb : B ≤ b) (hB : B ≤ w.heap.size) (hk1 : 1 ≤ k) (hk2 : k ≤ 59)
  (hl : ds.length ≤ 400000) (hp : -400000 ≤ dp) (hp2 : dp ≤ 400000) :
  Calls Tryz.prog 177 #[.pointer (some ⟨b, 0, none⟩), .int .i64 k] w fun e w' => e = .returned (.tuple #[]) ∧
   ∃ g' cap' ds' dp', DecAt w' B b g' cap' ds' dp' ∧ Dig ds' ∧ ds' ≠ [] ∧ Ends ds' ∧ Kp [b] w w' ∧ (∀ N M, Is ds dp N M → Is ds' dp' N (M * 2 ^ k)) ∧
    ds'.length ≤ ds.length + 60 ∧ dp - 20 ≤ dp' ∧ dp' ≤ dp := by
 have H := hid h; have HD := hid hd; have HN := hid hne; have hlen : 0 < ds.length := List.length_pos_iff.2 hne; have c0 := h.c0; have c1 := h.c1; have f0 := h.fr 0; have f1 := h.fr 1; have hcap := h.cap; have h2k : 2 ^ k ≤ 2 ^ 59 := Nat.pow_le_pow_right (by omega) hk2; have h2p : 1 ≤ 2 ^ k := Nat.pow_pos (by omega); clear h hd hne; go_enter Tryz.func177, Tryz.ntmps177
 go_wp2_with fail
 go_loop [4, 5] (fun v4 v5 => ∃ i : Nat, v4 = .int .u64 ((pre ds i : Nat) : Int) ∧ v5 = .int .i64 i ∧ H1Inv ds k i) (fun v4 v5 => 20 - (intOf v5).toNat)
 case atStart => exact ⟨0, rfl, rfl, ⟨by simp [pre]; omega, by omega⟩⟩
 case round =>
  obtain ⟨i, rfl, rfl, hI⟩ := hrel; have hI1 := hI.lt; have hI2 := hI.i; clear hI; by_cases hz : pre ds i < 2 ^ k
  ·
   have q0 : (((pre ds i : Nat) : Int) / 2 ^ k == 0) = true := by
    have : pre ds i / 2 ^ k = 0 := Nat.div_eq_of_lt hz; rw [beq_iff_eq]; exact_mod_cast this
   have hnx := H1Inv.next ⟨hI1, hI2⟩ hz HD.out HN.out hk2; have hdl := dg_lt HD.out.small i; by_cases hi : i < ds.length
   · have hdi := H.out.dig i hi
     go_wp2_with fail
     refine ⟨⟨i + 1, ?_, by simp, hnx⟩, by simp [intOf]; have := hnx.i; omega⟩; rw [pre]
     congr 1; push_cast; omega
   ·
    have hp0 : ((pre ds i : Int) == 0) = false := by
     have h1 := pre_ge HD.out HN.out (i - 1); rw [show i - 1 + 1 = i from by omega] at h1; have h2 := pow10_pos (i - 1); rw [beq_eq_false_iff_ne]; omega
    have hge : decide ((i : Int) ≥ (ds.length : Int)) = true := by rw [decide_eq_true_eq]; omega
    go_wp2_with fail
    refine ⟨⟨i + 1, ?_, by simp, hnx⟩, by simp [intOf]; have := hnx.i; omega⟩; rw [pre, dg_past (by omega)]
    congr 1; push_cast; omega
  ·
   have q0 : (((pre ds i : Nat) : Int) / 2 ^ k == 0) = false := by
    have : 0 < pre ds i / 2 ^ k := Nat.div_pos (by omega) h2p; rw [beq_eq_false_iff_ne]; intro e; have : pre ds i / 2 ^ k = 0 := by exact_mod_cast e
    omega
   have hw1 : IntKind.i64.wrap (dp - (i - 1)) = dp - ((i : Int) - 1) := IntWalk.i64_in _ (by omega); go_wp2_with fail
   have hbw := H.out.lt; have hgw := H.out.ownd; have hD1 := H.out.set1 (dp - ((i : Int) - 1)); have HD1 := hid hD1; have hK1 : Kp [b] w (w.setCell ⟨b, 1, none⟩ (.int .i64 (dp - ((i : Int) - 1)))) := (Kp.refl _ _).setCell (by simp) _; have hp0 : 0 < num ds := by
    have := pre_ge HD.out HN.out (ds.length - 1); rw [show ds.length - 1 + 1 = ds.length from by omega, pre_len] at this; have := pow10_pos (ds.length - 1); omega
   have HH := hid (HInv.start (ds := ds) (k := k) (i := i) hk1 hp0 (by omega) hI1); generalize hW : w.setCell ⟨b, 1, none⟩ (.int .i64 (dp - ((i : Int) - 1))) = w1 at *; go_loopw [4, 5, 6] (fun v4 v5 v6 wr => ∃ (m n : Nat) (out : List Nat), v4 = .int .u64 (n : Int) ∧ v5 = .int .i64 m ∧ m ≤ ds.length + k + 1 ∧ HInv ds k i m out n ∧ wr.ownsRow w.heap.size 5 1 v6 out.length (cellsOf out) ∧ Kp [b] w wr ∧
     DecAt wr B b g cap ds (dp - ((i : Int) - 1))) (fun v4 v5 v6 wr => ds.length + k + 2 - (intOf v5).toNat)
   case atStart => exact ⟨i, pre ds i, [], rfl, rfl, (by
    rcases Nat.lt_or_ge i (ds.length + k + 1) with hh | hh
    · omega
    · have := HH.out.zero hh; omega), HH.out, ⟨rfl, Or.inl ⟨rfl, rfl⟩⟩, hK1, HD1.out⟩
   case round =>
    obtain ⟨m, n, out, rfl, rfl, hmm, hI, hO, hK, hDr⟩ := hrel; have HI2 := hid hI; have HO2 := hid hO; have HK2 := hid hK; have HD2 := hid hDr; clear c0 c1 f0 f1 hD1 hK1; have c0 := hDr.c0; have c1 := hDr.c1; have f0 := hDr.fr 0; have f1 := hDr.fr 1; have hn := hI.lt; have hol := hI.len; have hzz := hI.zero; have hstep := hI.step HD.out.small; have hand := mask_is n k (by omega) hk2; obtain ⟨q, hq⟩ : ∃ q, q = n / 2 ^ k := ⟨_, rfl⟩; obtain ⟨r, hr⟩ : ∃ r, r = n % 2 ^ k := ⟨_, rfl⟩; have hql : q < 10 := by rw [hq]; exact Nat.div_lt_of_lt_mul (by rw [Nat.mul_comm]; exact hn)
    have hrl : r < 2 ^ k := by rw [hr]; exact Nat.mod_lt _ h2p
    have hq8 : (n : Int) / 2 ^ k % 256 = (q : Int) := by
     have : (n / 2 ^ k) % 256 = q := by rw [← hq]; exact Nat.mod_eq_of_lt (by omega)
     exact_mod_cast this
    rw [← hr] at hand; rw [← hq, ← hr] at hstep; have HST := hid hstep; have hdl := dg_lt HD.out.small m; clear hI hO hK hDr hq hr hstep; have hbr : b < wr.heap.size := HD2.out.lt; have hgr := HD2.out.ownd; have hsh : (1 : Int) ≤ 2 ^ k := by exact_mod_cast h2p
    have hsh2 : (2 : Int) ^ k ≤ 18446744073709551615 := by
     have e : (2 : Int) ^ k = ((2 ^ k : Nat) : Int) := by push_cast; rfl
     rw [e]; omega
    by_cases hi : m < ds.length
    ·
     have hdi := HD2.out.dig m hi; go_wp2_with (at_builtin; go_must (refine wp_append_byte rfl _ _ rfl w [b] _ out rfl (HO2.out.alloc _) ⟨wr.heap.size, 0, none⟩ _ q rfl (cell_new _ _ _ _) (HK2.out.alloc _) (by omega) ?_); intro v2 w2 ho2 hk2 hs2; have HD3 : Hid (DecAt w2 B b g cap ds (dp - ((i : Int) - 1))) := HD2.out.keep ((hs2 b hbw).trans (Below.heap_alloc _ _ _ hbr)) ((hs2 g hgw.2).trans (Below.heap_alloc _ _ _ hgr.2)); clear c0 c1 f0 f1 hdi; have c0 := HD3.out.c0; have c1 := HD3.out.c1; have f0 := HD3.out.fr 0; have f1 := HD3.out.fr 1; have hdi := HD3.out.dig m hi; have HO3 := hid ho2; have HK3 := hid hk2; clear ho2 hk2 hs2)
     refine ⟨⟨m + 1, r * 10 + dg ds m, out ++ [q], ?_, ?_, by omega, HST.out, HO3.out, HK3.out, HD3.out⟩, ?_⟩
     · congr 1
     · congr 1
     · have e1 : (intOf (.int .i64 ((m : Int) + 1))).toNat = m + 1 := by show ((m : Int) + 1).toNat = _; omega
       have e2 : (intOf (.int .i64 (m : Int))).toNat = m := by show ((m : Int)).toNat = _; omega
       rw [e1, e2]; omega
    ·
     have hdz : dg ds m = 0 := dg_past (by omega); rw [hdz] at HST; by_cases h0 : n = 0
     ·
      subst h0; have hout : out ≠ [] := by
       rintro rfl
       have := HI2.out.first rfl
       omega
      obtain ⟨g2, cap2, rfl, hg1, hg2⟩ := own_slice HO2.out hout; have HIs := HI2.out; have hlen2 : out.length ≤ ds.length + 60 := by
       omega
      go_wp2_with fail
      have hD4 : DecAt (wr.setCell ⟨b, 0, none⟩ (.slice (some ⟨g2, 0, none⟩) out.length cap2)) B b g2 cap2 out (dp - ((i : Int) - 1)) :=
       ⟨HD2.out.set0 _, ownsRow_setCell_other (own_base HO2.out hB) (a := ⟨b, 0, none⟩) (fun e => by have := Option.some.inj e; simp at this; omega) _⟩
      refine (trim_is _ B b g2 cap2 out _ hD4 ⟨HI2.out.small, HI2.out.head⟩ hout hb).mono ?_
      rintro e2 w2 ⟨rfl, ds', z, ez, hD5, hd5, hn5, he5, hk5⟩
      go_wp2_with fail
      first | (refine bodyPost_ret (results_none rfl _ _ _) rfl ?_) | (refine bodyPost_end (results_none rfl _ _ _) rfl ?_)
      refine ⟨rfl, g2, cap2, ds', _, hD5, hd5, hn5, he5, (HK2.out.setCell (by simp) _).trans hk5, fun N M hNM => ?_, ?_, ?_, ?_⟩
      · have h9 := (HI2.out.done (by omega) hNM).trim ez
        rw [show dp - (i : Int) + 1 = dp - ((i : Int) - 1) by omega] at h9; exact h9
      · have := congrArg List.length ez
        simp at this; omega
      · omega
      · have : 1 ≤ i := by
         rcases Nat.eq_zero_or_pos i with h | h
         · subst h
           simp [pre] at hz
         · exact h
        omega
     ·
      have hml : m < ds.length + k + 1 := by
       rcases Nat.lt_or_ge m (ds.length + k + 1) with hh | hh
       · exact hh
       · exact absurd (hzz hh) h0
      have hz2 : decide ((n : Int) > 0) = true := by rw [decide_eq_true_eq]; omega
      go_wp2_with (at_builtin; go_must (refine wp_append_byte rfl _ _ rfl w [b] _ out rfl (HO2.out.alloc _) ⟨wr.heap.size, 0, none⟩ _ q rfl (cell_new _ _ _ _) (HK2.out.alloc _) (by omega) ?_); intro v2 w2 ho2 hk2 hs2; have HD3 : Hid (DecAt w2 B b g cap ds (dp - ((i : Int) - 1))) := HD2.out.keep ((hs2 b hbw).trans (Below.heap_alloc _ _ _ hbr)) ((hs2 g hgw.2).trans (Below.heap_alloc _ _ _ hgr.2)); clear c0 c1 f0 f1; have c0 := HD3.out.c0; have c1 := HD3.out.c1; have f0 := HD3.out.fr 0; have f1 := HD3.out.fr 1; have HO3 := hid ho2; have HK3 := hid hk2; clear ho2 hk2 hs2)
      refine ⟨⟨m + 1, r * 10 + 0, out ++ [q], ?_, ?_, by omega, HST.out, HO3.out, HK3.out, HD3.out⟩, ?_⟩
      · congr 1
      · congr 1
      · have e1 : (intOf (.int .i64 ((m : Int) + 1))).toNat = m + 1 := by show ((m : Int) + 1).toNat = _; omega
        have e2 : (intOf (.int .i64 (m : Int))).toNat = m := by show ((m : Int)).toNat = _; omega
        rw [e1, e2]; omega
end
section
structure DInv (ds : List Nat) (k j x : Nat) (out : List Nat) (n : Nat) : Prop where
 eq : num (ds.drop j) * 2 ^ k = num out.reverse + n * 10 ^ out.length
 len : out.length + j = ds.length + x
 jl : j ≤ ds.length
 past : x = 0 ∨ j = 0
 lt : n * 10 ^ x < 2 ^ k
 small : ∀ d ∈ out, d < 10
 last : j = 0 → n = 0 → out.reverse.headD 1 ≠ 0
theorem DInv.start {ds : List Nat} {k : Nat} (hne : ds ≠ []) : DInv ds k ds.length 0 [] 0 := by
 have h2 : 0 < 2 ^ k := Nat.pow_pos (by omega); exact ⟨by simp [num], by simp, by simp, by simp, by simpa using h2, by simp, fun h => absurd (List.length_eq_zero_iff.1 h) hne⟩
theorem num_rev_snoc (out : List Nat) (q : Nat) : num (out ++ [q]).reverse = q * 10 ^ out.length + num out.reverse := by
 rw [List.reverse_append, List.reverse_singleton, List.singleton_append, num_cons, List.length_reverse]
theorem DInv.stepA {ds : List Nat} {k j : Nat} {out : List Nat} {n d : Nat} (h : DInv ds k (j + 1) 0 out n) (hd : Dig ds) (e : d = dg ds j) :
  DInv ds k j 0 (out ++ [(n + d * 2 ^ k) % 10]) ((n + d * 2 ^ k) / 10) ∧ n + d * 2 ^ k < 10 * 2 ^ k := by
 have h2 : 0 < 2 ^ k := Nat.pow_pos (by omega); have hlen := h.len; have hjl := h.jl; have hlt := h.lt; have hj : j < ds.length := by omega
 have hdl : d < 10 := by
  rw [e]; unfold dg; rw [List.getD_eq_getElem?_getD, List.getElem?_eq_getElem hj]; exact hd.small _ (List.getElem_mem hj)
 have hb : d * 2 ^ k ≤ 9 * 2 ^ k := Nat.mul_le_mul_right _ (by omega); have hnn : n + d * 2 ^ k < 10 * 2 ^ k := by simp at hlt; omega
 have hdrop : ds.drop j = d :: ds.drop (j + 1) := by
  rw [List.drop_eq_getElem_cons hj]
  congr 1
  rw [e]; unfold dg; rw [List.getD_eq_getElem?_getD, List.getElem?_eq_getElem hj]; rfl
 refine ⟨⟨?_, by simp; omega, by omega, Or.inl rfl, ?_, ?_, ?_⟩, hnn⟩
 ·
  rw [hdrop, num_cons, Nat.add_mul, h.eq, num_rev_snoc, List.length_append, List.length_singleton, Nat.pow_succ]; have hl : (ds.drop (j + 1)).length = out.length := by simp; omega
  rw [hl]; have hdm := Nat.div_add_mod (n + d * 2 ^ k) 10; have e1 : d * 10 ^ out.length * 2 ^ k + (num out.reverse + n * 10 ^ out.length) = num out.reverse + (n + d * 2 ^ k) * 10 ^ out.length := by
   rw [Nat.add_mul]; have : d * 10 ^ out.length * 2 ^ k = d * 2 ^ k * 10 ^ out.length := by
    simp only [Nat.mul_assoc, Nat.mul_comm, Nat.mul_left_comm]
   omega
  rw [e1]; have e2 : (n + d * 2 ^ k) * 10 ^ out.length = (n + d * 2 ^ k) / 10 * (10 ^ out.length * 10) + (n + d * 2 ^ k) % 10 * 10 ^ out.length := by
   conv => lhs; rw [← hdm]
   rw [Nat.add_mul]
   congr 1
   simp only [Nat.mul_assoc, Nat.mul_comm, Nat.mul_left_comm]
  omega
 · simp; omega
 · intro y hy
   rcases List.mem_append.1 hy with h1 | h1
   · exact h.small y h1
   · simp at h1; omega
 ·
  intro h0 h1; subst h0; have hd0 : d ≠ 0 := by
   have := hd.head; rw [List.drop_zero] at hdrop; rw [hdrop] at this; simpa using this
  have : 1 * 2 ^ k ≤ d * 2 ^ k := Nat.mul_le_mul_right _ (by omega); simp only [List.reverse_append, List.reverse_singleton, List.singleton_append, List.headD_cons]; omega
theorem DInv.stepB {ds : List Nat} {k x : Nat} {out : List Nat} {n : Nat} (h : DInv ds k 0 x out n) (hn : n ≠ 0) : DInv ds k 0 (x + 1) (out ++ [n % 10]) (n / 10) := by
 have hlen := h.len; have hlt := h.lt; have hdm := Nat.div_add_mod n 10; refine ⟨?_, by simp; omega, by omega, Or.inr rfl, ?_, ?_, ?_⟩
 ·
  rw [h.eq, num_rev_snoc, List.length_append, List.length_singleton, Nat.pow_succ]; have e2 : n * 10 ^ out.length = n / 10 * (10 ^ out.length * 10) + n % 10 * 10 ^ out.length := by
   conv => lhs; rw [← hdm]
   rw [Nat.add_mul]
   congr 1
   simp only [Nat.mul_assoc, Nat.mul_comm, Nat.mul_left_comm]
  omega
 · have h1 : n / 10 * 10 ^ (x + 1) = 10 * (n / 10) * 10 ^ x := by rw [Nat.pow_succ]; simp only [Nat.mul_assoc, Nat.mul_comm, Nat.mul_left_comm]
   rw [h1]; exact Nat.lt_of_le_of_lt (Nat.mul_le_mul_right _ (by omega)) hlt
 · intro y hy
   rcases List.mem_append.1 hy with h1 | h1
   · exact h.small y h1
   · simp at h1; omega
 · intro h0 h1
   simp only [List.reverse_append, List.reverse_singleton, List.singleton_append, List.headD_cons]; omega
theorem DInv.few {ds : List Nat} {k j x : Nat} {out : List Nat} {n : Nat} (h : DInv ds k j x out n) (hn : n ≠ 0) (hk : k ≤ 59) : x ≤ 17 := by
 have h1 := h.lt; have h2 : 2 ^ k ≤ 2 ^ 59 := Nat.pow_le_pow_right (by omega) hk; have h3 : 1 * 10 ^ x ≤ n * 10 ^ x := Nat.mul_le_mul_right _ (by omega); have h4 : 10 ^ x < 10 ^ 18 := by
  have : (2 : Nat) ^ 59 < 10 ^ 18 := by decide
  omega
 have := (Nat.pow_lt_pow_iff_right (by omega : 1 < 10)).1 h4; omega
theorem DInv.done {ds : List Nat} {k x : Nat} {out : List Nat} {dp : Int} {N M : Nat} (h : DInv ds k 0 x out 0) (hi : Is ds dp N M) : Is out.reverse (dp + ((out.length : Int) - ds.length)) (N * 2 ^ k) M := by
 have e := h.eq; simp at e; obtain ⟨c, c', hc, he⟩ := hi; refine ⟨c, c', by rw [List.length_reverse]; omega, ?_⟩; rw [← e]; have e1 : num ds * 2 ^ k * 10 ^ c * M = num ds * 10 ^ c * M * 2 ^ k := by simp only [Nat.mul_assoc, Nat.mul_comm, Nat.mul_left_comm]
 rw [e1, he]; simp only [Nat.mul_assoc, Nat.mul_comm, Nat.mul_left_comm]
structure RInv (out l : List Nat) (t : Nat) : Prop where
 len : l.length = out.length
 at_ : ∀ p, p < out.length → dg l p = if p < t ∨ out.length - t ≤ p then dg out (out.length - 1 - p) else dg out p
 t : 2 * t ≤ out.length + 1
theorem RInv.start (out : List Nat) : RInv out out 0 := ⟨rfl, fun p hp => by rw [if_neg (by omega)], by omega⟩
theorem dg_set (l : List Nat) (i p v : Nat) (hi : i < l.length) : dg (l.set i v) p = if p = i then v else dg l p := by
 unfold dg; rw [List.getD_eq_getElem?_getD, List.getD_eq_getElem?_getD, List.getElem?_set]; by_cases h : i = p
 · subst h; simp [hi]
 · rw [if_neg h, if_neg (by omega)]
theorem RInv.step {out l : List Nat} {t j : Nat} (h : RInv out l t) (hj : j + t + 1 = out.length) (ht : t < j) :
  RInv out ((l.set t (dg l j)).set j (dg l t)) (t + 1) := by
 have hl := h.len; refine ⟨by simp [hl], fun p hp => ?_, by omega⟩; rw [dg_set _ _ _ _ (by simp; omega), dg_set _ _ _ _ (by omega)]; by_cases h1 : p = j
 · rw [if_pos h1, h.at_ t (by omega), if_neg (by omega), if_pos (by omega)]
   congr 1; omega
 ·
  rw [if_neg h1]; by_cases h2 : p = t
  · rw [if_pos h2, h.at_ j (by omega), if_neg (by omega), if_pos (by omega)]
    congr 1; omega
  · rw [if_neg h2, h.at_ p hp]
    by_cases h3 : p < t ∨ out.length - t ≤ p
    · rw [if_pos h3, if_pos (by omega)]
    · rw [if_neg h3, if_neg (by omega)]
theorem RInv.done {out l : List Nat} {t : Nat} (h : RInv out l t) (ht : out.length ≤ 2 * t + 1) : l = out.reverse := by
 apply List.ext_getElem
 · simp [h.len]
 ·
  intro p h1 h2; have hp : p < out.length := by simpa using h2
  have h3 := h.at_ p hp; have e1 : dg l p = l[p] := by unfold dg; rw [List.getD_eq_getElem?_getD, List.getElem?_eq_getElem h1]; rfl
  have e2 : dg out (out.length - 1 - p) = out.reverse[p] := by
   unfold dg; rw [List.getElem_reverse, List.getD_eq_getElem?_getD, List.getElem?_eq_getElem (by omega)]; rfl
  rw [← e1, ← e2, h3]
  split
  · rfl
  · congr 1
    have := h.t; omega
end
section
open Go.RowKit
theorem cell_own {w : World} {B g n cap : Nat} {l : List Nat} (h : w.ownsRow B 5 1 (.slice (some ⟨g, 0, none⟩) n cap) n (cellsOf l)) (i : Nat) (hi : i < l.length) : w.cell? ⟨g, i, none⟩ = some (.int .u8 (dg l i)) := by
 have := h.cells (g := g) rfl i (.int .u8 (dg l i)) (by simp [cellsOf, List.getElem?_eq_getElem hi, dg, List.getD_eq_getElem?_getD]); have e : (⟨g, 0, none⟩ : Addr).add i = ⟨g, i, none⟩ := by unfold Addr.add; split <;> simp_all
 rwa [e] at this
theorem free_own {w : World} {B g n cap : Nat} {xs : List Value} (h : w.ownsRow B 5 1 (.slice (some ⟨g, 0, none⟩) n cap) n xs) (i : Nat) : w.frozen? ⟨g, i, none⟩ = false := by
 rcases h.2 with ⟨h1, _⟩ | ⟨g', cap', cur, h1, _, h2, _⟩
 · cases h1
 ·
  injection h1 with h1 _ _
  have h1 := Option.some.inj h1
  injection h1 with h1 _ _
  subst h1; simp [World.frozen?, h2]
theorem cellsOf_set (l : List Nat) (i v : Nat) : cellsOf (l.set i v) = (cellsOf l).set i (.int .u8 v) := by simp [cellsOf, List.map_set]
set_option maxRecDepth 100000 in
set_option maxHeartbeats 2000000 in
theorem double_is (w : World) (B b g cap k : Nat) (ds : List Nat) (dp : Int) (h : DecAt w B b g cap ds dp) (hd : Dig ds) (hne : ds ≠ []) (hb : B ≤ b) (hB : B ≤ w.heap.size) (hk2 : k ≤ 59)
  (hl : ds.length ≤ 400000) (hp : -400000 ≤ dp) (hp2 : dp ≤ 400000) :
  Calls Tryz.prog 178 #[.pointer (some ⟨b, 0, none⟩), .int .i64 k] w fun e w' => e = .returned (.tuple #[]) ∧
   ∃ g' cap' ds' dp', DecAt w' B b g' cap' ds' dp' ∧ Dig ds' ∧ ds' ≠ [] ∧ Ends ds' ∧ Kp [b] w w' ∧ (∀ N M, Is ds dp N M → Is ds' dp' (N * 2 ^ k) M) ∧
    ds'.length ≤ ds.length + 20 ∧ dp ≤ dp' ∧ dp' ≤ dp + 20 := by
 have H := hid h; have HD := hid hd; have HN := hid hne; have hlen : 0 < ds.length := List.length_pos_iff.2 hne; have c0 := h.c0; have c1 := h.c1; have f0 := h.fr 0; have f1 := h.fr 1; have hcap := h.cap; have h2k : 2 ^ k ≤ 2 ^ 59 := Nat.pow_le_pow_right (by omega) hk2; have h2p : 1 ≤ 2 ^ k := Nat.pow_pos (by omega); have hbw := h.lt; have hgw := h.ownd; have hgb := h.ne; have hw0 : IntKind.i64.wrap ((ds.length : Int) - 1) = (ds.length : Int) - 1 := IntWalk.i64_in _ (by omega); clear h hd hne; go_enter Tryz.func178, Tryz.ntmps178
 go_wp2_with fail
 go_loopw [4, 5, 6] (fun v4 v5 v6 wr => ∃ (j x n : Nat) (out : List Nat), v4 = .int .u64 (n : Int) ∧ v6 = .int .i64 ((j : Int) - 1 - x) ∧ DInv ds k j x out n ∧ x ≤ 18 ∧ wr.ownsRow w.heap.size 5 1 v5 out.length (cellsOf out) ∧ Kp [b] w wr ∧
   DecAt wr B b g cap ds dp) (fun v4 v5 v6 wr => (intOf v6 + 30).toNat)
 case atStart => exact ⟨ds.length, 0, 0, [], rfl, by simp, DInv.start HN.out, by omega, ⟨rfl, Or.inl ⟨rfl, rfl⟩⟩, Kp.refl _ _, H.out⟩
 case round =>
  obtain ⟨j, x, n, out, rfl, rfl, hI, hx, hO, hK, hDr⟩ := hrel; have HI := hid hI; have HO := hid hO; have HK := hid hK; have HD2 := hid hDr; clear c0 c1 f0 f1; have c0 := hDr.c0; have c1 := hDr.c1; have f0 := hDr.fr 0; have f1 := hDr.fr 1; have hol := hI.len; have hjl := hI.jl; have hpast := hI.past; have hbr : b < wr.heap.size := HD2.out.lt; have hgr := HD2.out.ownd; have hm1 : ∀ y : Int, -20 ≤ y → y ≤ 400000 → (intOf (.int .i64 y) + 30).toNat = (y + 30).toNat := fun y _ _ => rfl
  have HM1 := hid hm1; clear hI hO hK hDr hm1; rcases Nat.eq_zero_or_pos j with h0 | h0
  ·
   subst h0; by_cases hn : n = 0
   ·
    subst hn; have hout : out ≠ [] := by
     rintro rfl
     simp at hol; omega
    obtain ⟨g2, cap2, rfl, hg1, hg2⟩ := own_slice HO.out hout; have hx18 : x ≤ 18 := hx; have g1 : decide (((0 : Nat) : Int) - 1 - x ≥ 0) = false := by rw [decide_eq_false_iff_not]; omega
    have hw1 : IntKind.i64.wrap ((out.length : Int) - (ds.length : Int)) = (out.length : Int) - ds.length := IntWalk.i64_in _ (by omega); have hw2 : IntKind.i64.wrap (dp + ((out.length : Int) - (ds.length : Int))) = dp + ((out.length : Int) - ds.length) := IntWalk.i64_in _ (by omega); have hw3 : IntKind.i64.wrap ((out.length : Int) - 1) = (out.length : Int) - 1 := IntWalk.i64_in _ (by omega); have hol0 : 0 < out.length := List.length_pos_iff.2 hout; go_wp2_with fail
    go_still_tail 15, (by kernel_rfl)
    go_wp2_with fail
    have hS := HD2.out.set1 (dp + ((out.length : Int) - ds.length)); have hg2b : g2 ≠ b := by omega
    have hO5 := ownsRow_setCell_other HO.out (a := ⟨b, 1, none⟩) (fun e => by have := Option.some.inj e; simp at this; omega) (.int .i64 (dp + ((out.length : Int) - ds.length))); have hK5 : Kp [b] w (wr.setCell ⟨b, 1, none⟩ (.int .i64 (dp + ((out.length : Int) - ds.length)))) := HK.out.setCell (by simp) _; have HS := hid hS; have HO5 := hid hO5; have HK5 := hid hK5; clear hS hO5 hK5 c0 c1 f0 f1; generalize hW : wr.setCell ⟨b, 1, none⟩ (.int .i64 (dp + ((out.length : Int) - ds.length))) = w1 at *; clear hW; go_loopw [7, 8] (fun v7 v8 wq => ∃ (t : Nat) (l : List Nat), v7 = .int .i64 (t : Int) ∧ v8 = .int .i64 ((out.length : Int) - 1 - t) ∧ RInv out l t ∧
     wq.ownsRow w.heap.size 5 1 (.slice (some ⟨g2, 0, none⟩) out.length cap2) out.length (cellsOf l) ∧ Kp [b] w wq ∧
     wq.heap[b]? = some (.cells #[.slice (some ⟨g, 0, none⟩) ds.length cap, .int .i64 (dp + ((out.length : Int) - ds.length))] 256 (0, 0))) (fun v7 v8 wq => out.length - (intOf v7).toNat)
    case atStart => exact ⟨0, out, rfl, by congr 1; omega, RInv.start out, HO5.out, HK5.out.drew, HS.out.blk⟩
    case round =>
     obtain ⟨t, l, rfl, rfl, hR, hOq, hKq, hBq⟩ := hrel; have HRq := hid hR; have HOq := hid hOq; have HKq := hid hKq; have HBq := hid hBq; have htl := hR.t; have hll := hR.len; clear hR hOq hKq; by_cases hlt : 2 * t + 1 < out.length
     ·
      obtain ⟨i, hi⟩ : ∃ i, i + t + 1 = out.length := ⟨out.length - 1 - t, by omega⟩; have e8 : Value.int .i64 ((out.length : Int) - 1 - t) = .int .i64 (i : Int) := by congr 1; omega
      rw [e8]; have ct : wr.cell? ⟨g2, t, none⟩ = some (.int .u8 (dg l t)) := cell_own HOq.out t (by omega); have ci : wr.cell? ⟨g2, i, none⟩ = some (.int .u8 (dg l i)) := cell_own HOq.out i (by omega); have ft : wr.frozen? ⟨g2, t, none⟩ = false := free_own HOq.out t; have fi : wr.frozen? ⟨g2, i, none⟩ = false := free_own HOq.out i; have hti : t < i := by omega
      clear hBq; go_wp2_with fail
      go_region
      go_wp2_with fail
      have hO6 := ((HOq.out.stored t (.int .u8 (dg l i))).1.stored i (.int .u8 (dg l t))).1; rw [← cellsOf_set, ← cellsOf_set] at hO6; refine ⟨⟨t + 1, _, by congr 1, by congr 1; omega, HRq.out.step hi hti, hO6, ((HKq.out.setCell (Or.inr hg1) _).setCell (Or.inr hg1) _).drew, ?_⟩, ?_⟩
      · show ((wr.setCell _ _).setCell _ _).heap[b]? = _
        rw [Below.heap_setCell _ _ _ _ (by simp; omega), Below.heap_setCell _ _ _ _ (by simp; omega)]; exact HBq.out
      · show out.length - ((t : Int) + 1).toNat < out.length - ((t : Int)).toNat
        omega
     ·
      have hrev := HRq.out.done (by omega); subst hrev; have f0 : wr.frozen? ⟨b, 0, none⟩ = false := by simp [World.frozen?, hBq]
      have c0 : wr.cell? ⟨b, 0, none⟩ = some (.slice (some ⟨g, 0, none⟩) ds.length cap) := by simp [World.cell?, hBq]
      have g3 : decide ((t : Int) < (out.length : Int) - 1 - t) = false := by rw [decide_eq_false_iff_not]; omega
      clear hBq; go_wp2_with fail
      have hD6 : DecAt (wr.setCell ⟨b, 0, none⟩ (.slice (some ⟨g2, 0, none⟩) out.length cap2)) B b g2 cap2 out.reverse (dp + ((out.length : Int) - ds.length)) := by
       refine ⟨by have := blk_setCell (o := 0) HBq.out (.slice (some ⟨g2, 0, none⟩) out.length cap2); simpa using this, ?_⟩; rw [List.length_reverse]; exact ownsRow_setCell_other (own_base HOq.out hB) (a := ⟨b, 0, none⟩) (fun e => by have := Option.some.inj e; simp at this; omega) _
      have hDig : Dig out.reverse := ⟨fun d hd => HI.out.small d (by simpa using hd), HI.out.last rfl rfl⟩; refine (trim_is _ B b g2 cap2 out.reverse _ hD6 hDig (by simpa using hout) hb).mono ?_
      rintro e2 w2 ⟨rfl, ds', z, ez, hD7, hd7, hn7, he7, hk7⟩
      go_wp2_with fail
      first | (refine bodyPost_ret (results_none rfl _ _ _) rfl ?_) | (refine bodyPost_end (results_none rfl _ _ _) rfl ?_)
      refine ⟨rfl, g2, cap2, ds', _, hD7, hd7, hn7, he7, (HKq.out.setCell (by simp) _).trans hk7, fun N M hNM => (HI.out.done hNM).trim ez, ?_, ?_, ?_⟩
      · have := congrArg List.length ez
        simp at this; omega
      · omega
      · omega
   ·
    have HST := hid (HI.out.stepB hn); have hx17 := HI.out.few hn hk2; have g1 : decide (((0 : Nat) : Int) - 1 - x ≥ 0) = false := by rw [decide_eq_false_iff_not]; omega
    have g2 : decide ((n : Int) > 0) = true := by rw [decide_eq_true_eq]; omega
    obtain ⟨q, hq⟩ : ∃ q, q = n % 10 := ⟨_, rfl⟩; obtain ⟨r, hr⟩ : ∃ r, r = n / 10 := ⟨_, rfl⟩; rw [← hq, ← hr] at HST; have hnl : n < 2 ^ k := by
     have := HI.out.lt; have h5 : 1 ≤ 10 ^ x := pow10_pos x; have : n * 1 ≤ n * 10 ^ x := Nat.mul_le_mul_left _ h5; omega
    have q1 : (n : Int) % 10 = (q : Int) := by omega
    have q2 : (n : Int) / 10 = (r : Int) := by omega
    have q3 : (n : Int).tmod 10 = (q : Int) := by rw [Int.tmod_eq_emod_of_nonneg (by omega)]; omega
    have q4 : (n : Int).tdiv 10 = (r : Int) := by rw [Int.tdiv_eq_ediv_of_nonneg (by omega)]; omega
    have q5 : (q : Int) % 256 = (q : Int) := by omega
    clear hq hr; go_wp2_with (at_builtin; go_must (refine wp_append_byte rfl _ _ rfl w [b] _ out rfl (HO.out.alloc _) ⟨wr.heap.size, 0, none⟩ _ q rfl (cell_new _ _ _ _) (HK.out.alloc _) (by omega) ?_); intro v2 w2 ho2 hk2 hs2; have HD3 : Hid (DecAt w2 B b g cap ds dp) := HD2.out.keep ((hs2 b hbw).trans (Below.heap_alloc _ _ _ hbr)) ((hs2 g hgw.2).trans (Below.heap_alloc _ _ _ hgr.2)); clear c0 c1 f0 f1; have HO3 := hid ho2; have HK3 := hid hk2; clear ho2 hk2 hs2)
    refine ⟨⟨0, x + 1, r, out ++ [q], rfl, by congr 1; omega, HST.out, by omega, HO3.out, HK3.out, HD3.out⟩, ?_⟩
    show ((-1 - (x : Int) - 1) + 30).toNat < (((0 : Nat) : Int) - 1 - x + 30).toNat
    omega
  ·
   obtain ⟨j, rfl⟩ : ∃ i, j = i + 1 := ⟨j - 1, by omega⟩; obtain rfl : x = 0 := by omega
   have e6 : Value.int .i64 (((j + 1 : Nat) : Int) - 1 - ((0 : Nat) : Int)) = .int .i64 (j : Int) := by congr 1; omega
   rw [e6]; have hjd : j < ds.length := by omega
   have hdi := HD2.out.dig j hjd; obtain ⟨hst, hs2⟩ := HI.out.stepA HD.out rfl; have hdl := dg_lt HD.out.small j; obtain ⟨m, hm⟩ : ∃ m, m = dg ds j * 2 ^ k := ⟨_, rfl⟩; have qm : (dg ds j : Int) * 2 ^ k = (m : Int) := by rw [hm]; push_cast; rfl
   rw [← hm] at hst hs2; obtain ⟨q, hq⟩ : ∃ q, q = (n + m) % 10 := ⟨_, rfl⟩; obtain ⟨r, hr⟩ : ∃ r, r = (n + m) / 10 := ⟨_, rfl⟩; rw [← hq, ← hr] at hst; have HST := hid hst; have q1 : ((n : Int) + m) % 10 = (q : Int) := by omega
   have q2 : ((n : Int) + m) / 10 = (r : Int) := by omega
   have q3 : ((n : Int) + m).tmod 10 = (q : Int) := by rw [Int.tmod_eq_emod_of_nonneg (by omega)]; omega
   have q4 : ((n : Int) + m).tdiv 10 = (r : Int) := by rw [Int.tdiv_eq_ediv_of_nonneg (by omega)]; omega
   have q5 : (q : Int) % 256 = (q : Int) := by omega
   clear hq hr hm hst; go_wp2_with (at_builtin; go_must (refine wp_append_byte rfl _ _ rfl w [b] _ out rfl (HO.out.alloc _) ⟨wr.heap.size, 0, none⟩ _ q rfl (cell_new _ _ _ _) (HK.out.alloc _) (by omega) ?_); intro v2 w2 ho2 hk2 hs2; have HD3 : Hid (DecAt w2 B b g cap ds dp) := HD2.out.keep ((hs2 b hbw).trans (Below.heap_alloc _ _ _ hbr)) ((hs2 g hgw.2).trans (Below.heap_alloc _ _ _ hgr.2)); clear c0 c1 f0 f1 hdi; have c0 := HD3.out.c0; have c1 := HD3.out.c1; have f0 := HD3.out.fr 0; have f1 := HD3.out.fr 1; have HO3 := hid ho2; have HK3 := hid hk2; clear ho2 hk2 hs2)
   refine ⟨⟨j, 0, r, out ++ [q], rfl, by congr 1; omega, HST.out, by omega, HO3.out, HK3.out, HD3.out⟩, ?_⟩
   show ((j : Int) - 1 + 30).toNat < ((j : Int) + 30).toNat
   omega
end
end Go.Proofs.YtljaoopfomcaoaaGreatDoor
