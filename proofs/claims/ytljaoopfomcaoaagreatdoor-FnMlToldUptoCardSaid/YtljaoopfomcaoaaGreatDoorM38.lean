import Derived.Maps.RangeWalk
import Derived.Test.YtljaoopfomcaoaaGreatDoorM37
set_option linter.all false
open Go.Lib (hid)
namespace Go.Proofs.YtljaoopfomcaoaaGreatDoor
section
open Go.RowKit Go.Sort Go.Maps
theorem keysF_own {F : Nat → Prop} {w : World} {B q cp : Nat} {p : Option Addr} {ks : List ByteArray} (h : w.ownsRow B 9 1 (.slice p q cp) q (ks.map Value.string)) (hF : ∀ g, B ≤ g → g < w.heap.size → F g) : KeysF F w ks p ∧ q = ks.length := by
 have hl := h.1; simp at hl; refine ⟨?_, hl.symm⟩; rcases h.2 with ⟨hv, h0⟩ | ⟨g, cap, cur, hv, hb, hh, h1, h2, h3, h4⟩
 · exact Or.inl (List.length_eq_zero_iff.1 (by omega))
 ·
  injection hv with e1 e2 e3
  subst e1; refine Or.inr ⟨g, 0, rfl, hF g hb (lt_of_block hh), lt_of_block hh, fun i hi => ?_⟩; simp only [World.cell?, hh]; simp only [Option.isSome_none, Bool.false_eq_true, if_false]; have e : cur[0 + i]? = (ks.map Value.string)[i]? := by
   rw [← h4, List.getElem?_take, if_pos (by omega), Array.getElem?_toList, Nat.zero_add]
  rw [e]; simp [hi]
theorem own_form {w : World} {B e k n : Nat} {v : Value} {xs : List Value} (h : w.ownsRow B e k v n xs) : ∃ (p : Option Addr) (q c : Nat), v = .slice p q c := by
 rcases h.2 with ⟨rfl, _⟩ | ⟨g, cap, cur, rfl, _⟩
 · exact ⟨none, 0, 0, rfl⟩
 · exact ⟨_, _, _, rfl⟩
theorem info9 : (Tryz.prog.info? 9).map (fun i => (i.zero, i.size, i.bytes)) = some (some (.string ⟨#[]⟩), 1, 16) := by kernel_rfl
theorem map_eql_nil (r : Nat) (w : World) : (binOp BinOp.eql 55 (Value.map (some r)) (Value.map none)).run Tryz.prog w = .ok (.bool false) w := by kernel_rfl
attribute [local go_sem] map_eql_nil vas_m4 vas_m2 vas_m22 vas_m9 vas_m85 vas_m3 vas_m94 vas_m98 vas_m55
set_option maxRecDepth 100000 in
set_option maxHeartbeats 4000000 in
theorem vin_map (n : Nat) (IH : VinGoes n) (F : Nat → Prop) (w : World) (j : JV) (r m c d : Nat) (es : List (ByteArray × Value)) (hk : j.kind = 7) (hd : d + (n + 1) ≤ 4000) (hri : Rise j.ks) (hR : RightL (RightC n) j.l c) (hc : c ≤ 1000000) (hrw : r < w.heap.size)
  (hM : w.ownsMap Tryz.prog 9 RV r m (.map (es.map entry))) (hks : es.map (·.1) = j.ks) (hel : es.length = j.l.length) (hreps : ∀ k (h : k < j.l.length) (h' : k < es.length), AnyRep n F w es[k].2 j.l[k]) :
  Calls Tryz.prog 41 #[.iface 55 (.map (some r)), .int .i64 d] w (VinF (n + 1) w j) := by
 have k1 : decide ((d : Int) > 4000) = false := by rw [decide_eq_false_iff_not]; omega
 have hlen := hR.len; have HR := hid hR; have HIH := hid IH; have HKd := hid hk; have HRi := hid hri; have HM := hid hM; have HKs := hid hks; have HEl := hid hel; have HReps := hid hreps; clear hR IH hk hri hM hks hel hreps; obtain ⟨i0, hi0, hz0, hz1, hz2⟩ := info_parts info9; go_enter Tryz.func41, Tryz.ntmps41
 go_upto_region 42 with (refine wpList_store_row rfl 26 _ _ rfl (w.heap.size + 1) #[.int .i64 7, .bool false, .int .i64 0, .float .f64 0, .string ⟨#[]⟩, .slice none 0 0, .slice none 0 0] ?_ ?_ 26 #[.int .i64 0, .bool false, .int .i64 0, .float .f64 0, .string ⟨#[]⟩, .slice none 0 0, .slice none 0 0] ?_ ?_ ?_ ?_ ?_; go_must (rfl); go_must (rfl); go_must (exact heap_alloc2_new _ _ _); go_must (kernel_rfl); go_must (rfl); go_must (simp [Value.oneCell']))
 have hob : (((w.alloc (.cells #[.int .i64 0, .bool false, .int .i64 0, .float .f64 0, .string ⟨#[]⟩, .slice none 0 0, .slice none 0 0] 26)).alloc (.cells #[.int .i64 0, .bool false, .int .i64 0, .float .f64 0, .string ⟨#[]⟩, .slice none 0 0, .slice none 0 0] 26)).setRow (w.heap.size + 1) #[.int .i64 7, .bool false, .int .i64 0, .float .f64 0, .string ⟨#[]⟩, .slice none 0 0, .slice none 0 0]).heap[w.heap.size + 1]? = some (.cells #[.int .i64 7, .bool false, .int .i64 0, .float .f64 0, .string ⟨#[]⟩, .slice none 0 0, .slice none 0 0] 26 (0, 0)) := setRow_heap _ _ _ _ 26 _ (heap_alloc2_new _ _ _)
 have hb0 : (((w.alloc (.cells #[.int .i64 0, .bool false, .int .i64 0, .float .f64 0, .string ⟨#[]⟩, .slice none 0 0, .slice none 0 0] 26)).alloc (.cells #[.int .i64 0, .bool false, .int .i64 0, .float .f64 0, .string ⟨#[]⟩, .slice none 0 0, .slice none 0 0] 26)).setRow (w.heap.size + 1) #[.int .i64 7, .bool false, .int .i64 0, .float .f64 0, .string ⟨#[]⟩, .slice none 0 0, .slice none 0 0]).heap[w.heap.size]? = some (.cells #[.int .i64 0, .bool false, .int .i64 0, .float .f64 0, .string ⟨#[]⟩, .slice none 0 0, .slice none 0 0] 26 (0, 0)) := by
  rw [setRow_other _ _ _ _ (by omega), Below.heap_alloc _ _ _ (by simp), heap_alloc_new]
 have hk1 : Kp [] w (((w.alloc (.cells #[.int .i64 0, .bool false, .int .i64 0, .float .f64 0, .string ⟨#[]⟩, .slice none 0 0, .slice none 0 0] 26)).alloc (.cells #[.int .i64 0, .bool false, .int .i64 0, .float .f64 0, .string ⟨#[]⟩, .slice none 0 0, .slice none 0 0] 26)).setRow (w.heap.size + 1) #[.int .i64 7, .bool false, .int .i64 0, .float .f64 0, .string ⟨#[]⟩, .slice none 0 0, .slice none 0 0]) := by
  have h1 : Kp [] w ((w.alloc (.cells #[.int .i64 0, .bool false, .int .i64 0, .float .f64 0, .string ⟨#[]⟩, .slice none 0 0, .slice none 0 0] 26)).alloc (.cells #[.int .i64 0, .bool false, .int .i64 0, .float .f64 0, .string ⟨#[]⟩, .slice none 0 0, .slice none 0 0] 26)) := ((Kp.refl _ _).alloc _).alloc _; exact ⟨h1.os, h1.tape, h1.output, by rw [setRow_size]; exact h1.size, fun k hk hs => by rw [setRow_other _ _ _ _ (by omega)]; exact h1.block k hk hs⟩
 have hs1 : (((w.alloc (.cells #[.int .i64 0, .bool false, .int .i64 0, .float .f64 0, .string ⟨#[]⟩, .slice none 0 0, .slice none 0 0] 26)).alloc (.cells #[.int .i64 0, .bool false, .int .i64 0, .float .f64 0, .string ⟨#[]⟩, .slice none 0 0, .slice none 0 0] 26)).setRow (w.heap.size + 1) #[.int .i64 7, .bool false, .int .i64 0, .float .f64 0, .string ⟨#[]⟩, .slice none 0 0, .slice none 0 0]).heap.size = w.heap.size + 2 := by rw [setRow_size]; simp
 generalize hW : World.setRow _ _ _ = W1 at *; clear hW; generalize hobe : w.heap.size + 1 = ob at *; generalize hb0e : w.heap.size = b0 at *; have hM1 := ownsMap_blk HM.out (hk1.block r (by omega) (by simp)); have HM1 := hid hM1; have HOb := hid hob; have HB0 := hid hb0; have HK1 := hid hk1; have HS1 := hid hs1; have HE0 := hid hb0e; have HEo := hid hobe; have HRw := hid hrw; clear hob hb0 hk1 hs1 hb0e hobe hM1 hrw; go_wp2_with (at_range; go_must (refine wpList_range_own _ rfl _ 55 rfl 9 20 strKeyed Tryz.underlying55 RV r m _ rfl HM1.out ?_); intro W2 hrg2 hg2 hs2; have HRg2 := hid hrg2; have HG2 := hid hg2; have HS2 := hid hs2; clear hrg2 hg2 hs2)
 go_frame
 generalize hite : W1.heap.size = it at *; have HEi := hid hite; clear hite; have hst : KM W2 r it m ob es (Maps.has (.map (es.map entry))) (Maps.size (.map (es.map entry))) [] (.slice none 0 0) W2 := by
  have e1 := HS1.out; have e2 := HE0.out; have e3 := HEo.out; have e4 := HEi.out; have e5 := HS2.out; have e6 := HRw.out; exact ⟨HRg2.out, by rw [HG2.out.block ob (by omega) (by simp)]; exact HOb.out, ⟨rfl, Or.inl ⟨rfl, rfl⟩⟩, Collected.start _, by rw [size_entries]; simp, Kp.refl _ _, by omega, by omega, by omega, by omega, by omega⟩
 have HSt := hid hst; clear hst; go_loopw [19] (fun _ wx => ∃ (left : Lit → Bool) (cnt : Nat) (ss : List (List UInt8)) (p : Option Addr) (q cp : Nat), KM W2 r it m ob es left cnt ss (.slice p q cp) wx) (fun _ wx => wx.rangeLeft r it)
 case atStart => exact ⟨_, _, [], none, 0, 0, HSt.out⟩
 case round =>
  obtain ⟨left, cnt, ss, p, q, cp, hI⟩ := hrel; have HI := hid hI; have c5 := hI.c5; have f5 := hI.fr 5; have hsl : ss.length ≤ c := by have := hI.cn; have := HEl.out; omega
  have hq : q = ss.length := by
   rcases hI.own.2 with ⟨hv, h0⟩ | ⟨g, cap, cur, hv, _⟩
   · injection hv with _ e _; omega
   · injection hv
  have HQ := hid hq; clear hI HSt hq; go_wp2_with (at_next; go_must (refine wpList_next_ranges _ rfl _ rfl 9 strKeyed RV encStr (fun x => x) (fun key kl hk => by obtain ⟨x, hx, _⟩ := Maps.keyOf_str Tryz.underlying9 hk; exact ⟨x, hx⟩) (fun v y _ => ⟨v, rfl⟩) r it m _ _ _ rfl HI.out.rg ?_ ?_))
  ·
   intro hc0 hl0; have hp := HI.out.col.perm HI.out.rg.owns strKeyed Tryz.underlying9 hl0; have HPm := hid hp; have hown := HI.out.own; rw [← HQ.out] at hown; have HOw := hid hown; clear hl0 hc0 hp hown; go_wp2_with fail
   refine (sort_strs wr W2.heap.size p q cp ss HQ.out.symm HOw.out (by have := HQ.out; omega)).mono ?_
   rintro e4 w4 ⟨rfl, ho4, hg4⟩
   rw [keys_sorted HPm.out HKs.out HRi.out] at ho4; have x1 := HS1.out; have x2 := HE0.out; have x3 := HEo.out; have x4 := HEi.out; have x5 := HS2.out; have x6 := HRw.out; have y1 := HI.out.kp'.size; have y2 := hg4.size; have low : ∀ g, g < W2.heap.size → some g ≠ (Value.slice p q cp).ownBlock := fun g hg' e => by have := (HOw.out.lt g e.symm).1; omega
   have hk24 : Kp [ob, it] W2 w4 := HI.out.kp'.grown hg4 fun k hk => (HOw.out.lt k hk).1
   have hkw4 : Kp [] w w4 := by
    have h1 : Kp [] w W2 := ⟨HG2.out.os.trans HK1.out.os, HG2.out.tape.trans HK1.out.tape, HG2.out.output.trans HK1.out.output, by omega, fun g h1 h2 => by rw [HG2.out.block g (by omega) (by simp), HK1.out.block g h1 h2]⟩; exact h1.over hk24 (by simp; omega)
   have hblk4 : w4.heap[ob]? = some (.cells #[.int .i64 7, .bool false, .int .i64 0, .float .f64 0, .string ⟨#[]⟩, .slice p q cp, .slice none 0 0] 26 (0, 0)) := by rw [hg4.block ob (by omega) (low ob (by omega))]; exact HI.out.blk
   have hb04 : w4.heap[b0]? = some (.cells #[.int .i64 0, .bool false, .int .i64 0, .float .f64 0, .string ⟨#[]⟩, .slice none 0 0, .slice none 0 0] 26 (0, 0)) := by rw [hk24.block b0 (by omega) (by simp; omega), HG2.out.block b0 (by omega) (by simp)]; exact HB0.out
   have hst4 : VM (fun g => w4.heap.size ≤ g) n w4 ob 7 (.slice p q cp) (.slice none 0 0) (j.l.map (nrm n)) 0 (.slice none 0 0) [] w4 := ⟨hblk4, VRow.nil _ _ _ _ _, Kp.refl _ _, by omega, by omega⟩; have e5 := hst4.c5; have hql : q = j.l.length := by
    have h1 := (keysF_own (F := fun _ => True) ho4 (fun _ _ _ => trivial)).2; have h2 := congrArg List.length HKs.out; have h3 := HEl.out; simp at h2; omega
   have HOb4 := hid (show ob < W2.heap.size by omega); have HB04 := hid hb04; have HSt := hid hst4; have HO4 := hid ho4; have HKw4 := hid hkw4; have HBL := hid (show b0 < w4.heap.size ∧ b0 ≠ ob ∧ W2.heap.size ≤ w4.heap.size ∧ w.heap.size ≤ W2.heap.size ∧ b0 < W2.heap.size by omega); subst hql; clear x1 x2 x3 x4 x5 x6 y1 y2 low hk24 hkw4 hblk4 hb04 hst4 ho4 hg4 c5 f5 HI HOw HPm HQ; go_wp2_with fail
   go_loopw [21, 124] (fun _ s124 wx => ∃ (i : Nat) (p3 : Option Addr) (q3 c3 : Nat) (xs : List Value), s124 = .int .i64 (i : Int) ∧ i ≤ j.l.length ∧ VM (fun g => w4.heap.size ≤ g) n w4 ob 7 (.slice p j.l.length cp) (.slice p3 q3 c3) (j.l.map (nrm n)) i (.slice p3 q3 c3) xs wx) (fun _ s124 _ => j.l.length - (intOf s124).toNat)
   case atStart => exact ⟨0, none, 0, 0, [], rfl, Nat.zero_le _, HSt.out⟩
   case round =>
    obtain ⟨i, p3, q3, c3, xs, rfl, hi, hI⟩ := hrel; have HI := hid hI; have c6 := hI.c6; have f6 := hI.fr 6; have hkw : Kp [] w wr := by
     have := HBL.out; exact HKw4.out.over hI.kp' (by have := HEo.out; have := HE0.out; simp; omega)
    have HKw := hid hkw; clear hI HSt hkw e5; by_cases hil : i < j.l.length
    ·
     have q1 : decide ((i : Int) < (j.l.length : Int)) = true := by rw [decide_eq_true_eq]; omega
     have hies : i < es.length := by have := HEl.out; omega
     have hown := own_kp HO4.out HI.out.kp' (by have := HOb4.out; simp; exact this); obtain ⟨hkf, hkl⟩ := keysF_own (F := fun _ => True) hown (fun _ _ _ => trivial); rcases hkf with h0 | ⟨g, o, hp, _, hg, hcs⟩
     · have h9 := congrArg List.length h0; rw [List.length_nil] at h9; omega
     have hik : i < j.ks.length := by omega
     have q0 := hcs i hik; have hke : j.ks[i] = es[i].1 := by
      have h1 : j.ks[i] = (es.map (·.1))[i]'(by rw [List.length_map]; exact hies) := by congr 1; exact HKs.out.symm
      rw [h1, List.getElem_map]
     rw [hke] at q0; have hm : wr.ownsMap Tryz.prog 9 RV r m (.map (es.map entry)) := ownsMap_blk HM.out (HKw.out.block r (by have := HRw.out; have := HE0.out; omega) (by simp)); have hlk0 := look_at hm hies; have hlk1 := look_at (w := wr.drew) (ownsMap_blk hm rfl) hies; obtain ⟨k, hkd⟩ : ∃ k, k = es[i].1 := ⟨_, rfl⟩; obtain ⟨x, hxd⟩ : ∃ x, x = es[i].2 := ⟨_, rfl⟩; have hrep := HReps.out i hil hies; rw [← hxd] at hlk0 hlk1 hrep; rw [← hkd] at hlk0 hlk1 q0; have hrep := hrep.kp HKw.out; obtain ⟨ci, hRi, hci⟩ := HR.out.mem j.l[i] (List.getElem_mem hil); have HRep := hid hrep; have HRi := hid hRi; obtain ⟨y, hy⟩ : ∃ y, y = nrm n j.l[i] := ⟨_, rfl⟩; have HY := hid hy; have hil63 : (i : Int) + 1 ≤ 3000000 := by omega
     have hwd : IntKind.i64.wrap ((d : Int) + 1) = (d : Int) + 1 := IntWalk.i64_in _ (by omega); have hil2 : i < (j.l.map (nrm n)).length := by rw [List.length_map]; exact hil
     have hyl : y = (j.l.map (nrm n))[i] := by rw [List.getElem_map]; exact HY.out
     have HYl := hid hyl; subst hp; clear hcs hrep hRi hy hyl hkd hxd hm hke hown hkl hik; go_upto_region 50 with fail
     go_region_law (first | (refine step_vm rfl _ _ rfl (by simp [Act.eval, Act.put]) HV4.out _ _ rfl kp kc lp lc hil2 y HYl.out rfl 1 (by simp [Act.eval, Act.put]) HD4.out (by omega) ?_; intro p5 n5 c5 w5 hv5; have HV5 := hid hv5.store; have d6 := hv5.c6; have g6 := hv5.fr 6; clear hv5) | (go_simp; go_at_call 41; refine (vin_int HIH.out F _ x _ ci (d + 1) _ (by omega) (HRep.out.kp (by first | exact Kp.refl _ _ | exact (Kp.refl _ _).drew)) HRi.out (by omega) (by omega)).mono ?_; rintro e4 w9 ⟨kp, kc, lp, lc, he, hd4, hk4⟩; rw [← HY.out] at he hd4; unfold valOf at he; subst he; have HK4 := hid hk4; have hV4 := (HI.out.kp (by first | exact Kp.refl _ _ | exact (Kp.refl _ _).drew)).kp hk4; have HV4 := hid hV4; have d6 := hV4.c6; have g6 := hV4.fr 6; have hlt4 := lt_of_block hV4.blk; have HD4 := hid (vin_fx hd4 HI.out (by first | exact Nat.le_refl _ | (simp; done))); clear hk4 hV4 hd4))
     all_goals
      generalize hw7 : World.setCell _ _ _ = w7 at *; clear hw7 c6 f6 hlk0 hlk1; go_wp2_with fail
      go_roundw
      case measure => simp [intOf]; omega
      case rel => exact ⟨i + 1, p5, n5, c5, _, by push_cast; rfl, by omega, HV5.out⟩
    ·
     obtain rfl : i = j.l.length := by omega
     have q1 : decide ((j.l.length : Int) < (j.l.length : Int)) = false := by simp
     have hbl := HBL.out; have hbw : wr.heap[b0]? = some (.cells #[.int .i64 0, .bool false, .int .i64 0, .float .f64 0, .string ⟨#[]⟩, .slice none 0 0, .slice none 0 0] 26 (0, 0)) := by rw [HI.out.kp'.block b0 (by omega) (by simp; omega)]; exact HB04.out
     have HBw := hid hbw; have hE := kp_setRow wr b0 #[.int .i64 7, .bool false, .int .i64 0, .float .f64 0, .string ⟨#[]⟩, .slice p j.l.length cp, .slice p3 q3 c3]; have hEh : (wr.setRow b0 #[.int .i64 7, .bool false, .int .i64 0, .float .f64 0, .string ⟨#[]⟩, .slice p j.l.length cp, .slice p3 q3 c3]).heap[b0]? = some (.cells #[.int .i64 7, .bool false, .int .i64 0, .float .f64 0, .string ⟨#[]⟩, .slice p j.l.length cp, .slice p3 q3 c3] 26 (0, 0)) := setRow_heap _ _ _ _ 26 _ hbw; have HE := hid hE; have HEh := hid hEh; have hrow := HI.out.row.keep hE (by
      intro x hx; simp at hx; subst hx; refine ⟨fun e => ?_, by omega⟩; have := (HI.out.row.own.lt x e.symm).1; omega)
     rw [show VRow (fun g => w4.heap.size ≤ g) n w4.heap.size (j.l.map (nrm n)) j.l.length = VRow (fun g => w4.heap.size ≤ g) n w4.heap.size (j.l.map (nrm n)) (j.l.map (nrm n)).length by rw [List.length_map]] at hrow; obtain ⟨lp, lc, hlv, hlist⟩ := hrow.done (F := Made w (wr.setRow b0 #[.int .i64 7, .bool false, .int .i64 0, .float .f64 0, .string ⟨#[]⟩, .slice p j.l.length cp, .slice p3 q3 c3])) (fun g h1 h2 => ⟨by omega, h2⟩) (fun g h1 h2 => ⟨by omega, h2⟩); have hown := own_kp (own_kp HO4.out HI.out.kp' (by have := HOb4.out; simp; exact this)) hE (by simp; omega); obtain ⟨hkf, hkl⟩ := keysF_own (F := Made w (wr.setRow b0 #[.int .i64 7, .bool false, .int .i64 0, .float .f64 0, .string ⟨#[]⟩, .slice p j.l.length cp, .slice p3 q3 c3])) hown (fun g h1 h2 => ⟨by omega, h2⟩); have HLv := hid hlv; have HList := hid hlist; have HKf := hid hkf; have HKl := hid hkl
     clear hbl hbw hE hEh hrow hlv hlist hown hkf hkl; go_wp2_with (first | (refine wpList_load_row rfl 26 _ rfl ob rfl 26 _ (0, 0) _ HI.out.blk Tryz.underlying26 rfl (by kernel_rfl) ?_) | (refine wpList_store_row rfl 26 _ _ rfl b0 #[.int .i64 7, .bool false, .int .i64 0, .float .f64 0, .string ⟨#[]⟩, .slice p j.l.length cp, .slice p3 q3 c3] ?_ ?_ 26 #[.int .i64 0, .bool false, .int .i64 0, .float .f64 0, .string ⟨#[]⟩, .slice none 0 0, .slice none 0 0] ?_ ?_ ?_ ?_ ?_; go_must (rfl); go_must (rfl); go_must (exact HBw.out); go_must (kernel_rfl); go_must (rfl); go_must (simp [Value.oneCell'])))
     refine bodyPost_ret (results_cell_row rfl _ _ b0 26 _ (0, 0) _ rfl HEh.out Tryz.underlying26 rfl (by kernel_rfl)) rfl ?_; have hN : nrm (n + 1) j = .mk 7 false 0 0 ⟨#[]⟩ j.ks (j.l.map (nrm n)) := by unfold nrm; simp only [HKd.out]; rfl
     refine ⟨p, cp, lp, lc, ?_, ?_, HKw.out.over HE.out (by have := HE0.out; simp; omega)⟩
     · rw [hN, HLv.out, HKl.out]; rfl
     · rw [hN]; exact ⟨HKf.out, HList.out⟩
  ·
   intro x cv kl yd yp w1 cnt1 hkey hlk hv hat hrg1 hlt hg1 hs1 hen; obtain ⟨x', ex, rfl, _⟩ := Maps.keyOf_str Tryz.underlying9 hkey; obtain rfl : x = x' := encStr_inj ex; have HRg1 := hid hrg1; have HG1 := hid hg1; have HLk := hid hlk; have HAt := hid hat
   have HLt := hid hlt; unfold encStr at hen; have e1 : w1.heap[ob]? = some (.cells #[.int .i64 7, .bool false, .int .i64 0, .float .f64 0, .string ⟨#[]⟩, .slice p q cp, .slice none 0 0] 26 (0, 0)) := by
    rw [hg1.block ob (lt_of_block HI.out.blk) (by simp; exact HI.out.ne)]; exact HI.out.blk
   have hobl : ob < w1.heap.size := lt_of_block e1; have e5 : w1.cell? ⟨ob, 5, none⟩ = some (.slice p q cp) := by simp [World.cell?, e1]
   have g5 : w1.frozen? ⟨ob, 5, none⟩ = false := by simp [World.frozen?, e1]
   have hk1 : Kp [ob, it] W2 w1 := ⟨hg1.os.trans HI.out.kp'.os, hg1.tape.trans HI.out.kp'.tape, hg1.output.trans HI.out.kp'.output, by have := hg1.size; have := HI.out.kp'.size; omega, fun g h1 h2 => by
    rw [hg1.block g (by have := HI.out.kp'.size; omega) (by simp at h2 ⊢; exact h2.2), HI.out.kp'.block g h1 h2]⟩
   have hown1 := HI.out.own.kept hg1 (Or.inr (row_ne_iter HI.out.own HI.out.rg).symm); have HK1b := hid hk1; have HO1 := hid hown1; have HE1 := hid e1; clear hkey hlk hv hat hrg1 hlt hg1 hs1 ex e1 hk1 hown1 c5 f5
   go_wp2_with (at_builtin; go_must (refine wp_append_at rfl _ _ 23 rfl W2 [ob, it] 9 i0 (.string ⟨#[]⟩) 1 16 Tryz.underlying23 hi0 hz0 hz1 hz2 rfl (by decide) _ ss.length (ss.map encStr) rfl (HO1.out.alloc _) ⟨w1.heap.size, 0, none⟩ 1 _ (by decide) [.string ⟨x.toArray⟩] rfl rfl (one_new _ _ _ _) (by intro u' hu'; simp at hu'; subst hu'; rfl) (by unfold maxLen; omega) (by omega) (HK1b.out.alloc _) ?_); intro l5 w5 ho5 hk5 hg5 hl5; obtain ⟨p5, q5, c5, rfl⟩ := own_form ho5; have hobw : w5.heap[ob]? = _ := (hg5.block ob (by simp; omega) (fun e => by have := (HO1.out.lt ob e.symm).1; have := HI.out.l1; omega)).trans ((Below.heap_alloc _ _ _ hobl).trans HE1.out); have h5 : w5.cell? ⟨ob, 5, none⟩ = some (.slice p q cp) := (by simp [World.cell?, hobw]); have h6 : w5.frozen? ⟨ob, 5, none⟩ = false := (by simp [World.frozen?, hobw]); have HNx := hid (HI.out.next HRg1.out HLt.out HLk.out HAt.out HG1.out ho5 hg5); clear ho5 hk5 hg5 hl5 hobw)
   generalize World.setCell _ _ _ = w7 at *; go_roundw
   case rel => exact ⟨_, cnt1, ss ++ [x], p5, q5, c5, HNx.out⟩
   case measure => rw [HNx.out.rg.left_eq, HI.out.rg.left_eq]; exact HLt.out
end
section
open Go.RowKit
theorem nrm_flat {n : Nat} {j : JV} (hk : j.kind ≠ 6 ∧ j.kind ≠ 7) : (nrm (n + 1) j).ks = [] ∧ (nrm (n + 1) j).l = [] := by
 unfold nrm
 split
 · exact ⟨rfl, rfl⟩
 split
 · exact ⟨rfl, rfl⟩
 split
 · exact ⟨rfl, rfl⟩
 split
 · exact ⟨rfl, rfl⟩
 split
 · rename_i h; exact absurd h hk.1
 split
 · rename_i h; exact absurd h hk.2
 · exact ⟨rfl, rfl⟩
theorem vin_flat {n : Nat} {w : World} {j : JV} {x : Value} {d : Nat} (hk : j.kind ≠ 6 ∧ j.kind ≠ 7) (h : Calls Tryz.prog 41 #[x, .int .i64 d] w (VinPost (n + 1) w j)) : Calls Tryz.prog 41 #[x, .int .i64 d] w (VinF (n + 1) w j) := by
 refine h.mono ?_
 rintro e w' ⟨kp, kc, lp, lc, he, _, hK⟩
 obtain ⟨h1, h2⟩ := nrm_flat (n := n) hk; exact ⟨kp, kc, lp, lc, he, ⟨Or.inl h1, Or.inl h2⟩, hK⟩
theorem vin_goes : ∀ n, VinGoes n
 | 0 => fun _ _ _ _ _ _ h => h.elim
 | n + 1 => by
  intro F w x j c d hA hR hc hd; obtain ⟨_, _, hR⟩ := hR; rcases hA with ⟨hk, rfl⟩ | ⟨hk, rfl⟩ | ⟨hk, rfl⟩ | ⟨hk, rfl⟩ | ⟨hk, rfl⟩ | ⟨hk, a, cap, rfl, hl⟩ | ⟨hk, r, m, es, rfl, _, hrw, hM, hks, hel, hreps⟩
  · exact vin_flat (by omega) (vin_0 n w j d hk (by omega))
  · exact vin_flat (by omega) (vin_1 n w j d hk (by omega))
  · exact vin_flat (by omega) (vin_2 n w j d hk (by omega))
  · exact vin_flat (by omega) (vin_4 n w j d hk (by omega))
  · exact vin_flat (by omega) (vin_5 n w j d hk (by omega))
  ·
   obtain ⟨m, rfl, hl2⟩ : ∃ m, c = 1 + m ∧ RightL (RightC n) j.l m := by
    rcases hR with ⟨h, _⟩ | ⟨h, _⟩ | ⟨_, h⟩
    · omega
    · omega
    · exact h
   exact vin_list n (vin_goes n) F w j a cap m d hk hd hl2 (by omega) hl
  ·
   obtain ⟨hr, m', rfl, hl2⟩ : Rise j.ks ∧ ∃ m, c = 1 + m ∧ RightL (RightC n) j.l m := by
    rcases hR with ⟨h, _⟩ | ⟨h, _⟩ | ⟨h | ⟨_, h1, _⟩, h3⟩
    · omega
    · omega
    · omega
    · exact ⟨h1, h3⟩
   exact vin_map n (vin_goes n) F w j r m m' d es hk hd hr hl2 (by omega) hrw hM hks hel hreps
set_option maxRecDepth 100000 in
set_option maxHeartbeats 1000000 in
theorem valueOf_is (n c : Nat) (F : Nat → Prop) (w : World) (x : Value) (j : JV) (hA : AnyRep n F w x j) (hR : RightC n j c) (hc : c ≤ 1000000) (hn : n ≤ 4000) : Calls Tryz.prog 29 #[x] w (VinF n w j) := by
 have HA := hid hA; have HR := hid hR; clear hA hR; go_enter Tryz.func29, Tryz.ntmps29
 go_wp2_with fail
 have h0 : (w.alloc (.cells #[.int .i64 0, .bool false, .int .i64 0, .float .f64 0, .string ⟨#[]⟩, .slice none 0 0, .slice none 0 0] 26)).heap[w.heap.size]? = some (.cells #[.int .i64 0, .bool false, .int .i64 0, .float .f64 0, .string ⟨#[]⟩, .slice none 0 0, .slice none 0 0] 26 (0, 0)) := heap_alloc_new _ _; have hk0 : Kp [] w (w.alloc (.cells #[.int .i64 0, .bool false, .int .i64 0, .float .f64 0, .string ⟨#[]⟩, .slice none 0 0, .slice none 0 0] 26)) := (Kp.refl _ _).alloc _; have hs0 : w.heap.size < (w.alloc (.cells #[.int .i64 0, .bool false, .int .i64 0, .float .f64 0, .string ⟨#[]⟩, .slice none 0 0, .slice none 0 0] 26)).heap.size := lt_of_block h0; generalize w.alloc _ = W0 at *; refine (vin_int (vin_goes n) F W0 x j c 0 0 rfl (HA.out.kp hk0) HR.out hc (by omega)).mono ?_
 rintro e w1 ⟨kp, kc, lp, lc, he, hd, hk⟩
 obtain ⟨y, hy⟩ : ∃ y, y = nrm n j := ⟨_, rfl⟩; rw [← hy] at he hd; have HY := hid hy; have h1 : w1.heap[w.heap.size]? = some (.cells #[.int .i64 0, .bool false, .int .i64 0, .float .f64 0, .string ⟨#[]⟩, .slice none 0 0, .slice none 0 0] 26 (0, 0)) := by rw [hk.block _ hs0 (by simp)]; exact h0
 have hE := kp_setRow w1 w.heap.size #[.int .i64 y.kind, .bool y.b, .int .i64 y.i, .float .f64 y.f, .string y.t, .slice kp y.ks.length kc, .slice lp y.l.length lc]; have hEh : (w1.setRow w.heap.size #[.int .i64 y.kind, .bool y.b, .int .i64 y.i, .float .f64 y.f, .string y.t, .slice kp y.ks.length kc, .slice lp y.l.length lc]).heap[w.heap.size]? = some (.cells #[.int .i64 y.kind, .bool y.b, .int .i64 y.i, .float .f64 y.f, .string y.t, .slice kp y.ks.length kc, .slice lp y.l.length lc] 26 (0, 0)) := setRow_heap _ _ _ _ 26 _ h1; have H1 := hid h1; have HEh := hid hEh; have hpost : VinF n w j (.returned (valOf y kp kc lp lc)) (w1.setRow w.heap.size #[.int .i64 y.kind, .bool y.b, .int .i64 y.i, .float .f64 y.f, .string y.t, .slice kp y.ks.length kc, .slice lp y.l.length lc]) := by
  have hw := hk0.size; refine ⟨kp, kc, lp, lc, by rw [HY.out], ?_, (hk0.trans hk).over hE (by simp)⟩; rw [← HY.out]; refine hd.keep hE.size fun g hg _ => ⟨⟨by have := hg.1; omega, by have := hg.2; have := hE.size; omega⟩, hE.block g hg.2 (by have := hg.1; simp; omega)⟩
 have HPo := hid hpost; subst he; clear hy hd h0 h1 hE hEh hpost hk hk0; unfold valOf; go_wp2_with (refine wpList_store_row rfl 26 _ _ rfl w.heap.size #[.int .i64 y.kind, .bool y.b, .int .i64 y.i, .float .f64 y.f, .string y.t, .slice kp y.ks.length kc, .slice lp y.l.length lc] ?_ ?_ 26 #[.int .i64 0, .bool false, .int .i64 0, .float .f64 0, .string ⟨#[]⟩, .slice none 0 0, .slice none 0 0] ?_ ?_ ?_ ?_ ?_; go_must (rfl); go_must (rfl); go_must (exact H1.out); go_must (kernel_rfl); go_must (rfl); go_must (simp [Value.oneCell']))
 refine bodyPost_ret (results_cell_row rfl _ _ w.heap.size 26 _ (0, 0) _ rfl HEh.out Tryz.underlying26 rfl (by kernel_rfl)) rfl ?_; exact HPo.out
end
section
open Go.RowKit
def plc (c : Nat) : Prop := (48 ≤ c ∧ c ≤ 57) ∨ c = 43 ∨ c = 45 ∨ c = 92
def Brk (g : Nat → Nat) (n : Nat) : Prop := ∀ a k, a < k → k ≤ n → g a = 91 → (∀ b, a < b → b < k → g b ≠ 93) → (∀ b, a < b → b < k → plc (g b)) → (k = n ∨ g k = 93) → k - a ≤ 4
structure PInv (g : Nat → Nat) (i : Nat) (sum n : Nat) (dg : Bool) : Prop where
 sum' : sum ≤ 999 * i
 n' : n ≤ 1048576
 dg' : dg = true → ∃ a, a < i ∧ g a = 91 ∧ (∀ b, a < b → b < i → (48 ≤ g b ∧ g b ≤ 57) ∨ g b = 43) ∧ n + 1 ≤ 10 ^ (i - a - 1)
theorem PInv.off {g : Nat → Nat} {i sum n : Nat} {dg : Bool} (h : PInv g i sum n dg) : PInv g (i + 1) sum n false := ⟨by have := h.sum'; omega, h.n', fun h => by cases h⟩
theorem PInv.open {g : Nat → Nat} {i sum n : Nat} {dg : Bool} (h : PInv g i sum n dg) (hc : g i = 91) : PInv g (i + 1) sum 0 true :=
 ⟨by have := h.sum'; omega, by omega, fun _ => ⟨i, by omega, hc, fun b h1 h2 => by omega, by rw [show i + 1 - i - 1 = 0 by omega]; exact Nat.le_refl _⟩⟩
theorem PInv.close {g : Nat → Nat} {N i sum n : Nat} {dg : Bool} (h : PInv g i sum n dg) (hB : Brk g N) (hi : i < N) (hd : dg = true) (hc : g i = 93) : n ≤ 999 ∧ PInv g (i + 1) (sum + n) n false := by
 obtain ⟨a, h1, h2, h3, h4⟩ := h.dg' hd; have := hB a i h1 (by omega) h2 (fun b b1 b2 => by have := h3 b b1 b2; omega) (fun b b1 b2 => by have := h3 b b1 b2; unfold plc; omega) (Or.inr hc); have : 10 ^ (i - a - 1) ≤ 10 ^ 3 := Nat.pow_le_pow_right (by omega) (by omega); have hn : n ≤ 999 := by omega
 exact ⟨hn, by have := h.sum'; omega, h.n', fun h => by cases h⟩
theorem PInv.plus {g : Nat → Nat} {i sum n : Nat} {dg : Bool} (h : PInv g i sum n dg) (hc : g i = 43) : PInv g (i + 1) sum n dg := by
 refine ⟨by have := h.sum'; omega, h.n', fun hd => ?_⟩; obtain ⟨a, h1, h2, h3, h4⟩ := h.dg' hd; refine ⟨a, by omega, h2, fun b b1 b2 => ?_, Nat.le_trans h4 (Nat.pow_le_pow_right (by omega) (by omega))⟩; rcases Nat.lt_or_ge b i with hb | hb
 · exact h3 b b1 hb
 · obtain rfl : b = i := by omega
   exact Or.inr hc
theorem PInv.dig {g : Nat → Nat} {i sum n : Nat} {dg : Bool} (h : PInv g i sum n dg) (h0 : 48 ≤ g i) (h9 : g i ≤ 57) : PInv g (i + 1) sum (min (n * 10 + (g i - 48)) 1048576) dg := by
 refine ⟨by have := h.sum'; omega, Nat.min_le_right _ _, fun hd => ?_⟩; obtain ⟨a, h1, h2, h3, h4⟩ := h.dg' hd; refine ⟨a, by omega, h2, fun b b1 b2 => ?_, ?_⟩
 · rcases Nat.lt_or_ge b i with hb | hb
   · exact h3 b b1 hb
   · obtain rfl : b = i := by omega
     exact Or.inl ⟨h0, h9⟩
 · have e : i + 1 - a - 1 = (i - a - 1) + 1 := by omega
   rw [e, Nat.pow_succ]; have := Nat.min_le_left (n * 10 + (g i - 48)) 1048576; omega
theorem bt_get (s : ByteArray) (i : Nat) (h : i < s.size) : (s[i]'h).toNat = bt s i := by
 unfold bt; rw [List.getD_eq_getElem?_getD, List.getElem?_eq_getElem (by simpa using h)]; rfl
set_option maxRecDepth 100000 in
set_option maxHeartbeats 1000000 in
theorem places_is (s : ByteArray) (w : World) (hs : s.size ≤ 2000) (hB : Brk (bt s) s.size) :
  Calls Tryz.prog 27 #[.string s] w fun e w' => ∃ k : Nat, e = .returned (.int .i64 k) ∧ k ≤ 2000000 ∧ w' = w := by
 have HB := hid hB; clear hB; go_enter Tryz.func27, Tryz.ntmps27
 go_wp2_with fail
 go_loopw [3, 4, 5, 6, 7] (fun s3 s4 s5 s6 _ wx => ∃ (i sum n : Nat) (dg : Bool), s3 = .int .i64 (sum : Int) ∧ s4 = .int .i64 (n : Int) ∧ s5 = .bool dg ∧ s6 = .int .i64 (i : Int) ∧ i ≤ s.size ∧ PInv (bt s) i sum n dg ∧ wx = w) (fun _ _ _ s6 _ _ => s.size - (intOf s6).toNat)
 case atStart => exact ⟨0, 0, 0, false, rfl, rfl, rfl, rfl, Nat.zero_le _, ⟨by omega, by omega, fun h => by cases h⟩, rfl⟩
 case round =>
  obtain ⟨i, sum, n, dg, rfl, rfl, rfl, rfl, hi, hinv, hw⟩ := hrel; subst hw; have HI := hid hinv; have hsum := hinv.sum'; have hn := hinv.n'; clear hinv; by_cases hil : i < s.size
  ·
   have q1 : decide ((i : Int) < (s.size : Int)) = true := by rw [decide_eq_true_eq]; omega
   have hlt := bt_lt s i; have hil63 : (i : Int) + 1 ≤ 5000 := by omega
   go_wp2_with fail
   all_goals
    have hsi : ((s[i]'hil).toNat : Int) = ((bt s i : Nat) : Int) := by rw [bt_get]
    simp only [hsi, beq_iff_eq, bne_iff_ne, ne_eq, beq_eq_false_iff_ne, bne_eq_false_iff_eq] at *
   · exact ⟨⟨i + 1, sum, 0, true, rfl, rfl, rfl, by push_cast; rfl, by omega, HI.out.open (by omega), trivial⟩, by simp [intOf]; omega⟩
   · rename_i dg _ _ _ _
     obtain ⟨h1, h2⟩ := HI.out.close HB.out hil (by assumption) (by omega); exact ⟨⟨i + 1, sum + n, n, false, by push_cast; rfl, rfl, rfl, by push_cast; rfl, by omega, h2, trivial⟩, by simp [intOf]; omega⟩
   · exfalso
     obtain ⟨h1, h2⟩ := HI.out.close HB.out hil (by assumption) (by omega); omega
   · exact ⟨⟨i + 1, sum, n, false, rfl, rfl, rfl, by push_cast; rfl, by omega, HI.out.off, trivial⟩, by simp [intOf]; omega⟩
   · refine ⟨⟨i + 1, sum, _, dg, rfl, ?_, rfl, by push_cast; rfl, by omega, HI.out.dig (by omega) (by omega), trivial⟩, by simp [intOf]; omega⟩
     congr 1
     omega
   · exact ⟨⟨i + 1, sum, n, false, rfl, rfl, rfl, by push_cast; rfl, by omega, HI.out.off, trivial⟩, by simp [intOf]; omega⟩
   · exact ⟨⟨i + 1, sum, n, false, rfl, rfl, rfl, by push_cast; rfl, by omega, HI.out.off, trivial⟩, by simp [intOf]; omega⟩
   · exact ⟨⟨i + 1, sum, n, dg, rfl, rfl, rfl, by push_cast; rfl, by omega, HI.out.plus (by omega), trivial⟩, by simp [intOf]; omega⟩
  · have q1 : decide ((i : Int) < (s.size : Int)) = false := by rw [decide_eq_false_iff_not]; omega
    go_wp2_with fail
    go_ret; exact ⟨sum, rfl, by omega, rfl⟩
end
end Go.Proofs.YtljaoopfomcaoaaGreatDoor
