import Derived.Laws.Cover4
import Derived.Defers
import Derived.Recover
import Derived.Test.YtljaoopfomcaoaaGreatDoorM21
import Derived.Test.YtljaoopfomcaoaaGreatDoorM31
import Derived.Test.YtljaoopfomcaoaaGreatDoorM33
set_option linter.all false
open Go.Lib (hid)
namespace Go.Proofs.YtljaoopfomcaoaaGreatDoor
section
open Go.RowKit
theorem info21 : (Tryz.prog.info? 21).map (fun i => (i.zero, i.size, i.bytes)) = some (some (.int .i32 0), 1, 4) := by kernel_rfl
def runesOf (l : List Nat) : List Value := l.map fun (r : Nat) => Value.int .i32 (r : Int)
theorem SetIs.kp {w w' : World} {r : Nat} {S : List Nat} (h : SetIs w r) (k : Kp S w w') (hs : r ∉ S) : SetIs w' r := by
 obtain ⟨n, D, ⟨a, c, h1, h2⟩, hD⟩ := h; exact ⟨n, D, ⟨a, c, by rw [k.block r (lt_of_block h1) hs]; exact h1, h2⟩, hD⟩
theorem SetIs.lt {w : World} {r : Nat} (h : SetIs w r) : r < w.heap.size := by
 obtain ⟨n, D, ⟨a, c, h1, h2⟩, hD⟩ := h; exact lt_of_block h1
theorem news_one (w : World) (x : Value) (t : TypeId) (f : Nat × Nat) : ∀ j u, [x][j]? = some u → (w.alloc (.cells #[x] t f)).cell? ((⟨w.heap.size, 0, none⟩ : Addr).add j) = some u := by
 intro j u hj
 match j, hj with
 | 0, hj => simp at hj; subst hj; simpa [Addr.add] using cell_new w x t f
 | (j + 1), hj => simp at hj
theorem one_i32 (x : Int) : ∀ u ∈ [Value.int .i32 x], u.oneCell' = true := by intro u hu; simp at hu; subst hu; rfl
structure RuInv (w : World) (bb : Nat) (s : ByteArray) (a : Nat) (rs : List Nat) (k : Nat) (done rest : List Nat) (v : Value) (wr : World) : Prop where
 all : done ++ rest = rs
 key : KeyAt (bt s) k a rest
 own : wr.ownsRow w.heap.size 21 1 v done.length (runesOf done)
 kp : Kp [bb] w wr
 len : done.length ≤ k
def RuPost (w : World) (bb : Nat) (s : ByteArray) (a : Nat) (rs : List Nat) (e : Ending) (w' : World) : Prop :=
 ∃ v : Value, e = .returned (.tuple #[v, .int .i32 61, .nilIface]) ∧ BufAt w' bb s ((a + 1 : Nat) : Int) 1 ∧ w'.ownsRow w.heap.size 21 1 v rs.length (runesOf rs) ∧ Kp [bb] w w'
theorem runes_new (w : World) : (w.alloc (.cells #[] 21)).ownsRow w.heap.size 21 1 (.slice (some ⟨w.heap.size, 0, none⟩) 0 0) 0 [] :=
 ⟨rfl, Or.inr ⟨w.heap.size, 0, #[], rfl, Nat.le_refl _, by show (w.heap.push _)[w.heap.size]? = _; simp, Nat.le_refl _, by unfold maxLen; omega, rfl, rfl⟩⟩
set_option maxRecDepth 100000 in
set_option maxHeartbeats 4000000 in
theorem runesUntil_is (w : World) (bb st : Nat) (s : ByteArray) (i a : Nat) (y : Int) (rs : List Nat) (hst : SetIs w st) (hne : st ≠ bb) (h11 : 11 ≤ bb) (h : BufAt w bb s i y) (hs : s.size ≤ 1000000) (hE : Env w) (hk : KeyAt (bt s) i a rs) (ha : bt s a = 61) (has : a < s.size) :
  Calls Tryz.prog 55 #[.pointer (some ⟨bb, 0, none⟩), .map (some st)] w (RuPost w bb s a rs) := by
 have HSt := hid hst; have HB := hid h; have HE := hid hE; have HK0 := hid hk; have HA := hid ha; have hbw := h.lt; clear hst h hE hk ha; go_enter Tryz.func55, Tryz.ntmps55
 go_wp2_with fail
 go_loopg [7, 8, 9, 10, 11, 12, 13] rs.length (fun gf s7 s8 s9 s10 s11 s12 s13 wx => ∃ (k : Nat) (done rest : List Nat) (y' : Int), RuInv w bb s a rs k done rest s7 wx ∧ BufAt wx bb s k y' ∧ rest.length ≤ gf)
 case atStart => exact ⟨i, [], rs, y, ⟨rfl, HK0.out, runes_new w, (Kp.refl _ _).alloc _, Nat.zero_le _⟩, HB.out.kp ((Kp.refl [] w).alloc _) (by simp), Nat.le_refl _⟩
 case round =>
  obtain ⟨k, done, rest, y', hI, hB, hgf⟩ := hrel; clear HB HK0; have HAll := hid hI.all; have HKey := hid hI.key; have HO := hid hI.own; have HK := hid hI.kp; have hdl := hI.len; have hka := hI.key.le; have HB := hid hB; have HE2 := hid (HE.out.kp hI.kp (by simp; exact h11)); have HS2 := hid (HSt.out.kp hI.kp (by simp; exact hne)); obtain ⟨i0, hi21, hz0, hz1, hz2⟩ := info_parts info21; clear hI hB; go_wp2_with fail
  cases rest with
  | nil =>
   obtain rfl : k = a := HKey.out; refine (read_ascii _ bb k 61 s y' HB.out hs (by decide) HA.out has HE2.out).mono ?_
   rintro e1 w1 ⟨rfl, hb1, hk1⟩
   have HB1 := hid hb1; have HK1 := hid (HK.out.trans hk1); have HO1 := hid (own_kp HO.out hk1 (by simp; omega)); have HS1 := hid (HS2.out.kp hk1 (by simp; exact hne)); clear hb1 hk1; go_wp2_with fail
   refine (inMap_is w1 st 61 (by decide) HS1.out).mono ?_
   rintro e2 w2 ⟨rfl, rfl⟩
   have hs61 : stops 61 = true := by decide
   rw [hs61]; go_wp2_with fail
   go_ret3
   have hd : done = rs := by have := HAll.out; simpa using this
   rw [hd] at HO1; exact ⟨_, rfl, HB1.out, HO1.out, HK1.out⟩
  | cons r rest =>
   obtain ⟨g', rfl⟩ : ∃ g', gk = g' + 1 := ⟨gk - 1, by simp at hgf; omega⟩; obtain ⟨b, ⟨hsc, hch⟩, hrest⟩ := HKey.out; have hul := utf8_len r; have hr2 : r < 1114112 := by unfold scalar at hsc; omega
   have hba := hrest.le; have HSc := hid hsc; have HRest := hid hrest; clear hsc hrest HKey; rcases hch with ⟨h1, h2, h3, h4, h5, hat, hb⟩ | ⟨h92, hat, hb⟩
   ·
    have HAt := hid hat
    clear hat
    refine (bread_is _ bb k r s y' HB.out hs HSc.out HAt.out (by omega) HE2.out).mono ?_
    rintro e1 w1 ⟨rfl, hb1, hk1⟩
    have HK1 := hid (HK.out.trans hk1); have HO1 := hid (own_kp HO.out hk1 (by simp; omega)); have HS1 := hid (HS2.out.kp hk1 (by simp; exact hne)); clear HB HK HO; have HB := hid hb1; have HK := hid HK1.out; have HO := hid HO1.out; clear hb1 hk1 HK1 HO1; go_wp2_with fail
    refine (inMap_is w1 st r (by omega) HS1.out).mono ?_
    rintro e2 w2 ⟨rfl, rfl⟩
    have hst : stops r = false := by simp [stops]; omega
    have k92 : ((r : Int) == 92) = false := by rw [beq_eq_false_iff_ne]; omega
    rw [hst]; clear hst; go_wp2_with (at_builtin; go_must (refine wp_append_at rfl _ _ 107 rfl w [bb] 21 i0 (.int .i32 0) 1 4 Tryz.underlying107 hi21 hz0 hz1 hz2 rfl (by decide) _ _ _ rfl (HO.out.alloc _) ⟨_, 0, none⟩ 1 _ (by decide) [.int .i32 r] rfl rfl (news_one _ _ _ _) (one_i32 _) (by unfold maxLen; omega) (by omega) (HK.out.alloc _) ?_); intro v5 w5 ho5 hk5 hg5 _; have HB5 := hid (show BufAt w5 bb s ((k + (utf8 r).length : Nat) : Int) ((utf8 r).length : Int) from by unfold BufAt; rw [hg5.block bb (by simp; have := HB.out.lt; omega) (fun e => by have := (HO.out.lt bb e.symm).1; omega), Below.heap_alloc _ _ _ HB.out.lt]; exact HB.out); have HO5 := hid ho5; have HK5 := hid hk5; clear ho5 hk5 hg5)
    go_roundg g'
    case measure => omega
    case rel => exact ⟨k + (utf8 r).length, done ++ [r], rest, _, ⟨by have := HAll.out; simpa using this, by rw [hb] at HRest; exact HRest.out, by simp only [runesOf, List.map_append, List.length_append] at *; exact HO5.out, HK5.out, by simp; omega⟩, HB5.out, by simp at hgf; omega⟩
   ·
    have HAt := hid hat
    have H92 := hid h92; clear hat h92; refine (read_ascii _ bb k 92 s y' HB.out hs (by decide) H92.out (by omega) HE2.out).mono ?_
    rintro e1 w1 ⟨rfl, hb1, hk1⟩
    have HK1 := hid (HK.out.trans hk1); have HO1 := hid (own_kp HO.out hk1 (by simp; omega)); have HS1 := hid (HS2.out.kp hk1 (by simp; exact hne)); have HE3 := hid (HE2.out.kp hk1 (by simp; exact h11)); clear HB HK HO; have HB := hid hb1; have HK := hid HK1.out; have HO := hid HO1.out; clear hb1 hk1 HK1 HO1; go_wp2_with fail
    refine (inMap_is w1 st 92 (by decide) HS1.out).mono ?_
    rintro e2 w2 ⟨rfl, rfl⟩
    have hst : stops 92 = false := by decide
    rw [hst]; clear hst; go_wp2_with fail
    refine (bread_is _ bb (k + 1) r s 1 HB.out hs HSc.out HAt.out (by omega) HE3.out).mono ?_
    rintro e3 w3 ⟨rfl, hb3, hk3⟩
    have HK1 := hid (HK.out.trans hk3); have HO1 := hid (own_kp HO.out hk3 (by simp; omega)); clear HB HK HO; have HB := hid hb3; have HK := hid HK1.out; have HO := hid HO1.out; clear hb3 hk3 HK1 HO1
    go_wp2_with (at_builtin; go_must (refine wp_append_at rfl _ _ 107 rfl w [bb] 21 i0 (.int .i32 0) 1 4 Tryz.underlying107 hi21 hz0 hz1 hz2 rfl (by decide) _ _ _ rfl (HO.out.alloc _) ⟨_, 0, none⟩ 1 _ (by decide) [.int .i32 r] rfl rfl (news_one _ _ _ _) (one_i32 _) (by unfold maxLen; omega) (by omega) (HK.out.alloc _) ?_); intro v5 w5 ho5 hk5 hg5 _; have HB5 := hid (show BufAt w5 bb s ((k + 1 + (utf8 r).length : Nat) : Int) ((utf8 r).length : Int) from by unfold BufAt; rw [hg5.block bb (by simp; have := HB.out.lt; omega) (fun e => by have := (HO.out.lt bb e.symm).1; omega), Below.heap_alloc _ _ _ HB.out.lt]; exact HB.out); have HO5 := hid ho5; have HK5 := hid hk5; clear ho5 hk5 hg5)
    go_roundg g'
    case measure => omega
    case rel => exact ⟨k + 1 + (utf8 r).length, done ++ [r], rest, _, ⟨by have := HAll.out; simpa using this, by rw [hb] at HRest; exact HRest.out, by simp only [runesOf, List.map_append, List.length_append] at *; exact HO5.out, HK5.out, by simp; omega⟩, HB5.out, by simp at hgf; omega⟩
end
section
open Go.RowKit
theorem val_does (S : NumSem) (hN : NumReads S) : ∀ n, ValDoes S n
 | 0 => fun w b s i a j v _ _ _ _ _ hT _ _ => absurd hT (by simp [Tx])
 | n + 1 => by
  intro w b s i a j v hs hr he hb hw hT hj hst; by_cases h67 : v.kind ≠ 6 ∧ v.kind ≠ 7
  · exact val_scalar S hN n w b s i a j v hs hr he hb hw hT hj hst h67
  ·
   rcases hT with ⟨h, e, g⟩ | ⟨h, e, g⟩ | ⟨h, e, g⟩ | ⟨m, hm, h, e, gS, g⟩ | ⟨rs, h, gt, g⟩ | ⟨e, h1, h2, h3, h4, h5⟩ | ⟨e, h1, h2, h3, h4, h5, h7⟩
   case inr.inr.inr.inr.inr.inl =>
    subst h3; exact val_list S n (val_does S hN n) w b s i a e v hs hr he hb hw (by omega) h1 h2 h4 h5
   case inr.inr.inr.inr.inr.inr =>
    subst h3; exact val_obj S n (val_does S hN n) w b s i a e v hs hr he hb hw (by omega) h1 h2 h4 h7 h5
   all_goals (exfalso; omega)
end
section
open Go.RowKit
attribute [local go_sem] bt_eq
set_option maxRecDepth 100000 in
set_option maxHeartbeats 4000000 in
theorem first_is (S : NumSem) (hN : NumReads S) (n : Nat) (w : World) (s : ByteArray) (a j pb : Nat) (y : Value) (v : JV) (hs : s.size ≤ 1000000) (he : Env w) (hpb : 11 ≤ pb)
  (hc : w.heap[pb]? = some (.cells #[y] 20 (0, 0)))
  (hw : Ws (bt s) 0 a) (hT : Tx S (bt s) n a j v) (hj : j ≤ s.size) (hst : NumStop s j) (hn : n ≤ 10000) :
  Calls Tryz.prog 60 #[.string s, .pointer (some ⟨pb, 0, none⟩)] w fun e' w' => ∃ x, e' = .returned (.tuple #[.int .i64 j, .nilIface]) ∧
   AnyRep n (fun g => Made w w' g) w' x v ∧ Kp [pb] w w' ∧ w'.heap[pb]? = some (.cells #[x] 20 (0, 0)) := by
 have haj := hT.start.1; have c0 : w.cell? ⟨pb, 0, none⟩ = some y := by simp [World.cell?, hc]
 have f0 : w.frozen? ⟨pb, 0, none⟩ = false := by simp [World.frozen?, hc]
 have hpw : pb < w.heap.size := lt_of_block hc; have HW := hid hw; have HE := hid he; have HT := hid hT; have HC := hid hc; have HN := hid hN; have HS := hid hst; clear hw he hT hc hN hst; go_enter Tryz.func60, Tryz.ntmps60
 go_wp2_with fail
 refine (scan_does S n s 0 a j v _ _ w hs rfl HW.out HT.out hj HS.out (by omega) (by omega)).mono ?_
 rintro e1 w1 ⟨rfl, m, rfl⟩
 have j0 : (0 : Int) ≤ (j : Int) := by omega
 have j1 : (j : Int) ≤ (s.size : Int) := by omega
 go_wp2_with (refine wpList_store_row rfl 163 _ _ rfl w.heap.size #[.string (s.extract 0 j), .int .i64 0, .bool false, .nilIface] ?_ ?_ 163 #[.string ⟨#[]⟩, .int .i64 0, .bool false, .nilIface] ?_ ?_ ?_ ?_ ?_; go_must (rfl); go_must (rfl); go_must (exact heap_alloc_new _ _); go_must (kernel_rfl); go_must (rfl); go_must (simp [Value.oneCell']))
 generalize hW : World.setRow _ _ _ = w1; have hR : RdAt w1 w.heap.size (s.extract 0 j) ((0 : Nat) : Int) := by
  rw [← hW]; exact setRow_heap _ _ _ _ 163 _ (heap_alloc_new _ _)
 have hK : Kp [] w w1 := by
  have h1 : Kp [] w ((w.drewN m).alloc (.cells #[.string ⟨#[]⟩, .int .i64 0, .bool false, .nilIface] 163)) := ((Kp.refl _ _).drewN m).alloc _; rw [← hW]; exact ⟨h1.os, h1.tape, h1.output, by rw [setRow_size]; exact h1.size, fun k hk hs => by rw [setRow_other _ _ _ _ (by omega)]; exact h1.block k hk hs⟩
 have hR' := hid hR; have hK' := hid hK; clear hR hK hW; have hE1 : Env w1 := HE.out.kp (S := []) hK'.out (by simp); have hTs : Tx S (bt (s.extract 0 j)) n a j v := HT.out.up (o := 0) fun k h1 h2 => by
  rw [bt_extract _ _ _ _ (by omega)]; congr 1; omega
 have hWs : Ws (bt (s.extract 0 j)) 0 a := HW.out.up (o := 0) fun k h1 h2 => by
  rw [bt_extract _ _ _ _ (by omega)]; congr 1; omega
 have hsz : (s.extract 0 j).size = j := size_extract _ _ _ hj; have hpw1 : pb < w1.heap.size := by have := hK'.out.size; omega
 have hb11 : 11 ≤ w.heap.size := HE.out.size; refine (val_does S HN.out n w1 w.heap.size (s.extract 0 j) 0 a j v (by omega) hR'.out hE1 hb11 hWs hTs (by omega) (Or.inl (by omega))).mono ?_
 rintro e2 w2 ⟨x, j', rfl, hx, k2, r2, -, -⟩
 have HX := hid hx; have HK2 := hid k2; have HR2 := hid r2; have hC2 : w2.heap[pb]? = some (.cells #[y] 20 (0, 0)) := by
  rw [k2.block pb hpw1 (by simp; omega), hK'.out.block pb hpw (by simp)]; exact HC.out
 have d0 : w2.cell? ⟨pb, 0, none⟩ = some y := by simp [World.cell?, hC2]
 have g0 : w2.frozen? ⟨pb, 0, none⟩ = false := by simp [World.frozen?, hC2]
 have d3 := r2.c3; have HC2 := hid hC2; have KW2 : Hid (∀ u, Kp [pb] w (w2.setCell ⟨pb, 0, none⟩ u)) := fun u => by
  refine Kp.setCell (S := [pb]) (a := w) (w := w2) ?_ (Or.inl (by simp)) u; have h1 := hK'.out; refine ⟨k2.os.trans h1.os, k2.tape.trans h1.tape, k2.output.trans h1.output, Nat.le_trans h1.size k2.size, fun k hk hs => ?_⟩; have := h1.size; rw [k2.block k (by omega) (by simp; omega), h1.block k hk (by simp)]
 clear hx k2 r2 c0 f0 hE1 hTs hWs hC2; rcases HX.out.form with hxf | ⟨tx, yx, hxf⟩; all_goals
  subst hxf; go_wp2_with fail
  go_quiet (fail)
  go_wp2_with fail
  go_ret2
  refine ⟨_, rfl, ?_, (KW2.out _).drewN _, one_setCell HC2.out⟩; refine HX.out.keep ?_ ?_
  · simp [World.setCell]
  · intro g hg hgs
    obtain ⟨ga, gb⟩ := hg; have hs1 := hK'.out.size; exact ⟨⟨by omega, by simpa [World.setCell] using hgs⟩, Below.heap_setCell _ _ _ _ (by simp; omega)⟩
end
section
open Go.RowKit
attribute [local go_sem] bt_eq
set_option maxRecDepth 100000 in
set_option maxHeartbeats 2000000 in
theorem bits_zero (w : World) (a : Nat) (dp : Int) (h : Bare w a dp) :
  Calls Tryz.prog 165 #[.pointer (some ⟨a, 0, none⟩), .agg #[.int .i64 52, .int .i64 11, .int .i64 (-1023)]] w fun e w' => e = .returned (.tuple #[.int .u64 0, .bool false]) ∧ Kp [] w w' := by
 have hbw := lt_of_block h; have c0 := h.c0; have c1 := h.c1; have H := hid h; clear h; go_enter Tryz.func165, Tryz.ntmps165
 go_wp2_with fail
 generalize hW : w.alloc (.cells #[.int .i64 52, .int .i64 11, .int .i64 (-1023)] 236) = w1; have hF1 : FormAt w1 w.heap.size := by rw [← hW]; exact heap_alloc_new _ _
 have hK1 : Kp [] w w1 := by rw [← hW]; exact (Kp.refl _ _).alloc _
 have hB1 : Bare w1 a dp := by show w1.heap[a]? = _; rw [← hW]; exact (Below.heap_alloc _ _ _ hbw).trans H.out
 have HK1 := hid hK1; clear hW c0 c1 hK1; have e0 := hF1.c0; have e1 := hF1.c1; have e2 := hF1.c2; have c0 := hB1.c0; have c1 := hB1.c1; go_quiet (fail)
 go_wp2_with fail
 go_ret2
 exact ⟨rfl, HK1.out.drewN _⟩
theorem text_bytes {s : ByteArray} {m : Num} (h : bytesOf s = m.text) : At (bt s) 0 m.text ∧ s.size = m.text.length := by
 have hl : s.size = m.text.length := by rw [← h]; simp [bytesOf]
 refine ⟨fun k hk => ?_, hl⟩; rw [← h]; unfold bt bytesOf; have hk' : k < s.data.toList.length := by rw [← h] at hk; simpa [bytesOf] using hk
 simp only [List.getD_eq_getElem?_getD, List.getElem?_map, Nat.zero_add, List.getElem?_eq_getElem hk', Option.map_some, Option.getD_some]
theorem ne_empty {s : ByteArray} (h : 0 < s.size) : s.toList.isEmpty = false := by
 rw [Lib.toList_data]; have : 0 < s.data.toList.length := by simpa using h
 cases hs : s.data.toList with
 | nil => rw [hs] at this; simp at this
 | cons a r => rfl
theorem dec_lt {w : World} {B b L N M : Nat} (h : Dst w B b L N M) : b < w.heap.size := by
 obtain ⟨g, cap, ds, dp, h1, _⟩ := h; exact h1.lt
theorem or63 (a : Nat) (h : a < 9223372036854775808) : bits .or .u64 9223372036854775808 (a : Int) = ((a + 9223372036854775808 : Nat) : Int) := by
 have e : (9223372036854775808 : Int) = ((9223372036854775808 : Nat) : Int) := rfl; rw [e, bits_or_u64_nat _ a (by omega) (by omega)]; have h1 := Nat.shiftLeft_add_eq_or_of_lt (b := a) (i := 63) (by omega) 1; rw [Nat.shiftLeft_eq, Nat.one_mul] at h1; have h2 : (9223372036854775808 : Nat) = 2 ^ 63 := rfl; rw [h2, ← h1, Nat.add_comm]
theorem or0 (a : Nat) (h : a < 9223372036854775808) : bits .or .u64 0 (a : Int) = (a : Int) := by
 have e : (0 : Int) = ((0 : Nat) : Int) := rfl; rw [e, bits_or_u64_nat _ a (by omega) (by omega), Nat.zero_or]
structure PfAt (s t : ByteArray) (m : Num) : Prop where
 sz : 0 < t.size
 at1 : NumAt t m
 at2 : ExAt t m
 nh : 2 ≤ t.size → bt t 0 = 48 → bt t 1 ||| 32 ≠ 120
 t0 : 48 ≤ bt t 0 ∧ bt t 0 ≤ 57
 us : ∀ k, k < s.size → bt s k ≠ 95
 sz2 : t.size ≤ m.all.length + 6
theorem pf_of {s t : ByteArray} {m : Num} (hm : m.Ok) (h3 : ∀ c sg ds, m.ex = some (c, sg, ds) → ds.length ≤ 3) (h : At (bt t) 0 m.body) (hs : t.size = m.body.length)
  (hu : (∀ k, k < t.size → bt t k ≠ 95) → ∀ k, k < s.size → bt s k ≠ 95) : PfAt s t m := by
 obtain ⟨q1, q2⟩ := body_at hm h hs h3; have := q1.pos; have h1 := hst_le m; have h2 := q2.size; have h0 := q1.ip 0 q1.pos; have hd := dg_lt q1.small 0; have hal := all_len m; have hst := hst_of m; refine ⟨by omega, q1, q2, no_hex hm q1 q2, by omega, hu (body_signs hm q1 q2), ?_⟩; have h5 : m.stop ≤ m.all.length + 1 := by rw [hst]; split <;> omega
 rcases q2 with ⟨_, hz⟩ | ⟨_, _, _, _, hz, _, _, _, _, _, _, _, h4⟩ <;> omega
theorem pf_plain {s : ByteArray} {m : Num} (hm : m.Ok) (h3 : ∀ c sg ds, m.ex = some (c, sg, ds) → ds.length ≤ 3) (hb : bytesOf s = m.text) (hn : m.neg = false) : PfAt s s m := by
 obtain ⟨h1, h2⟩ := text_bytes hb; rw [text_body, hn] at h1 h2; exact pf_of hm h3 h1 h2 id
theorem pf_neg {s : ByteArray} {m : Num} (hm : m.Ok) (h3 : ∀ c sg ds, m.ex = some (c, sg, ds) → ds.length ≤ 3) (hb : bytesOf s = m.text) (hn : m.neg = true) : PfAt s (s.extract 1 s.size) m ∧ bt s 0 = 45 := by
 obtain ⟨h1, h2⟩ := text_bytes hb; rw [text_body, hn] at h1 h2; simp only [if_true, List.cons_append, List.nil_append, At_cons, List.length_cons] at h1 h2; have hz := size_extract s 1 s.size (Nat.le_refl _); have hbt : ∀ k, k < m.body.length → bt (s.extract 1 s.size) k = bt s (1 + k) := fun k hk => bt_extract _ _ _ _ (by omega)
 refine ⟨pf_of hm h3 (fun k hk => ?_) (by omega) (fun hu k hk => ?_), h1.1⟩
 · rw [Nat.zero_add, hbt k hk]
   exact h1.2 k hk
 ·
  cases k with
  | zero => rw [h1.1]; decide
  | succ k =>
   have := hu k (by omega); rwa [hbt k (by omega), Nat.add_comm] at this
set_option maxRecDepth 100000 in
set_option maxHeartbeats 4000000 in
theorem num_reads : NumReads numSem := by
 intro m f s w hm hS hb hs he; obtain ⟨hl, hex1, hex2, h3, u, hu, hf⟩ := hS; have hul := hu.small; have HU := hid hu; have HF := hid hf; have H3 := hid h3; have HM := hid hm; have HB := hid hb; clear hu hf h3 hm hb
 cases hn : m.neg with
 | false =>
  have HP := hid (pf_plain HM.out H3.out HB.out hn); have hz0 := HP.out.t0; have k1 : ((bt s 0 : Int) == 43) = false := by rw [beq_eq_false_iff_ne]; omega
  have k2 : ((bt s 0 : Int) == 45) = false := by rw [beq_eq_false_iff_ne]; omega
  have H57 : Hid (bt s 0 < 65) := by show _ < _; omega
  have hz := HP.out.sz; have HFf : Hid (f = u) := by show _ = _; rw [HF.out, hn]; rfl
  have hor := or0 u hul; have hne : s.toList.isEmpty = false := ne_empty hz; have hz2 := HP.out.sz2; have H57t : Hid (bt s 0 < 65) := by have := HP.out.t0; show _ < _; omega
  obtain ⟨o, ho⟩ : ∃ o, o = (f : Int) := ⟨_, rfl⟩; have HOr : Hid (bits .or .u64 0 (u : Int) = (f : Int)) := by show _ = _; rw [hor, HFf.out]
  have hts : s.size ≤ 1000 := by omega
  clear hn hor ho; go_enter Tryz.func135, Tryz.ntmps135
  go_wp2_with fail
  refine (fold_no s _ _ hs hz H57.out (by decide)).mono ?_
  rintro e1 w1 ⟨rfl, hw1⟩
  have hw1 := hw1.symm; subst hw1; go_wp2_with fail
  refine (formOf_is _).mono ?_
  rintro e2 w2 ⟨rfl, hK2⟩
  have HK2 : Hid (Kp [] w w2) := hK2; clear hK2
  go_wp2_with (refine wpList_store_row rfl 236 _ _ rfl w2.heap.size #[.int .i64 52, .int .i64 11, .int .i64 (-1023)] ?_ ?_ 236 #[.int .i64 0, .int .i64 0, .int .i64 0] ?_ ?_ ?_ ?_ ?_; go_must (rfl); go_must (rfl); go_must (exact heap_alloc_new _ _); go_must (kernel_rfl); go_must (rfl); go_must (simp [Value.oneCell']); generalize hw3 : World.setRow _ _ _ = w3; have HF3 : Hid (FormAt w3 w2.heap.size) := (by show _ = _; rw [← hw3]; exact setRow_heap _ _ _ _ 236 _ (heap_alloc_new _ _)); have HK3 : Hid (Kp [] w w3) := (by have h1 : Kp [] w (w2.alloc (.cells #[.int .i64 0, .int .i64 0, .int .i64 0] 236)) := HK2.out.alloc _; have h2 := HK2.out.size; rw [← hw3]; exact ⟨h1.os, h1.tape, h1.output, by rw [setRow_size]; exact h1.size, fun k hk hs => by rw [setRow_other _ _ _ _ (by omega)]; exact h1.block k hk hs⟩); clear hw3; have e0 := HF3.out.c0; have e1 := HF3.out.c1; have e2 := HF3.out.c2)
  refine (fold_no s _ _ (by omega) HP.out.sz H57t.out (by decide)).mono ?_
  rintro e4 w4 ⟨rfl, rfl⟩
  go_wp2_with fail
  refine (fold_no s _ _ (by omega) HP.out.sz H57t.out (by decide)).mono ?_
  rintro e5 w5 ⟨rfl, rfl⟩
  go_wp2_with fail
  have hff := lt_of_block HF3.out; refine (read_is w5 s m HP.out.at1 HP.out.at2 HP.out.nh hl hts hex1 hex2).mono ?_
  rintro e6 w6 ⟨rfl, hK6, hD6⟩
  have hff6 : w2.heap.size < w6.heap.size := Nat.lt_of_lt_of_le hff hK6.size; have hnf : w2.heap.size ≠ w5.heap.size := by omega
  have HF6 : Hid (FormAt w6 w2.heap.size) := by
   show _ = _
   rw [hK6.block _ hff (by simp)]; exact HF3.out
  have HK6 := hid (HK3.out.trans hK6); have HD6 := hid hD6; have hw56 := hK6.size; clear hD6 hK6 e0 e1 e2; have e0 := HF6.out.c0; have e1 := HF6.out.c1; have e2 := HF6.out.c2; go_wp2_with fail
  refine (underscores_no s _ hs HP.out.us).mono ?_
  rintro e7 w7 ⟨rfl, rfl⟩
  go_wp2_with fail
  rcases HD6.out with ⟨hz0, hBa⟩ | ⟨hnz, hDs⟩
  ·
   have hu0 : u = 0 := by
    rcases HU.out with ⟨_, h⟩ | ⟨h, _⟩
    · exact h
    · exact absurd hz0 h
   have HOr0 : Hid (bits .or .u64 0 0 = (f : Int)) := by
    have := HOr.out; rw [hu0] at this; exact this
   clear hu0 hul hz0; refine (bits_zero w7 _ _ hBa).mono ?_
   rintro e8 w8 ⟨rfl, hK8⟩
   have HF8 : Hid (FormAt w8 w2.heap.size) := by
    show _ = _
    rw [hK8.block _ hff6 (by simp)]; exact HF6.out
   have HK8 := hid (HK6.out.trans hK8); clear hK8 e0 e1 e2 hBa; have e0 := HF8.out.c0; have e1 := HF8.out.c1; have e2 := HF8.out.c2; go_wp2_with fail
   rw [HOr0.out]; refine (float_is f w8).mono ?_
   rintro e9 w9 ⟨rfl, hK9⟩
   have HK9 := hid (HK8.out.trans hK9); clear hK9; go_wp2_with fail
   go_ret2
   exact ⟨rfl, HK9.out⟩
  ·
   obtain ⟨p, q, E, r, hpq, hFl, hur⟩ : ∃ (p q : Nat) (E : Int) (r : Nat), (p : Int) - q = m.exp - m.fp.length ∧ FltIs (num m.all * 10 ^ p) (10 ^ q) E r ∧ u = r + (E + 1022).toNat * 2 ^ 52 := by
    rcases HU.out with ⟨h, _⟩ | ⟨_, h⟩
    · exact absurd h hnz
    · exact h
   obtain ⟨x, y, x1, x2, x3, x4, x5⟩ := hFl.rn; have hDD := hDs p q hpq; have hbits := bits_is w7 w5.heap.size w5.heap.size 1000 _ _ hDD (Nat.le_refl _) (dec_lt hDD) hw56 (Nat.le_refl _) (pow10_pos q) hFl.lo hFl.hi E x y r x1 hFl.e1 hFl.e2 x2 x3 x4 x5 hFl.ov; rw [← hur] at hbits; clear hDD hDs hpq hFl hur x1 x2 x3 x4 x5 hnz; refine hbits.mono ?_
   rintro e8 w8 ⟨rfl, hK8⟩
   have HF8 : Hid (FormAt w8 w2.heap.size) := by
    show _ = _
    rw [hK8.block _ hff6 (by simpa using hnf)]; exact HF6.out
   have HK8 : Hid (Kp [] w w8) := by
    have h1 : Kp [w5.heap.size] w w7 := Kp.mono HK6.out (fun _ _ h => by simp at h); have h2 := HK3.out.size; exact Kp.mono (h1.trans hK8) (fun k hk h => by simp at h; omega)
   clear hK8 e0 e1 e2 hbits; have e0 := HF8.out.c0; have e1 := HF8.out.c1; have e2 := HF8.out.c2; go_wp2_with fail
   rw [HOr.out]; refine (float_is f w8).mono ?_
   rintro e9 w9 ⟨rfl, hK9⟩
   have HK9 := hid (HK8.out.trans hK9); clear hK9; go_wp2_with fail
   go_ret2
   exact ⟨rfl, HK9.out⟩
 | true =>
  have HP := hid (pf_neg HM.out H3.out HB.out hn).1; have hm45 := (pf_neg HM.out H3.out HB.out hn).2; have k1 : ((bt s 0 : Int) == 43) = false := by rw [beq_eq_false_iff_ne]; omega
  have k2 : ((bt s 0 : Int) == 45) = true := by rw [beq_iff_eq]; omega
  have H57 : Hid (bt s 0 < 65) := by show _ < _; omega
  have hzt := HP.out.sz; have hze : (s.extract 1 s.size).size = s.size - 1 := size_extract s 1 s.size (Nat.le_refl _); have hz : 0 < s.size := by omega
  have HFf : Hid (f = u + 9223372036854775808) := by show _ = _; rw [HF.out, hn]; rfl
  have hor := or63 u hul; clear hm45 hze; have hne : s.toList.isEmpty = false := ne_empty hz; have hz2 := HP.out.sz2; have H57t : Hid (bt (s.extract 1 s.size) 0 < 65) := by have := HP.out.t0; show _ < _; omega
  obtain ⟨o, ho⟩ : ∃ o, o = (f : Int) := ⟨_, rfl⟩; have HOr : Hid (bits .or .u64 9223372036854775808 (u : Int) = (f : Int)) := by show _ = _; rw [hor, HFf.out]
  have hts : (s.extract 1 s.size).size ≤ 1000 := by omega
  clear hn hor ho; go_enter Tryz.func135, Tryz.ntmps135
  go_wp2_with fail
  refine (fold_no s _ _ hs hz H57.out (by decide)).mono ?_
  rintro e1 w1 ⟨rfl, hw1⟩
  have hw1 := hw1.symm; subst hw1; go_wp2_with fail
  go_quiet (fail)
  go_wp2_with fail
  refine (formOf_is _).mono ?_
  rintro e2 w2 ⟨rfl, hK2⟩
  have HK2 : Hid (Kp [] w w2) := (Kp.refl [] w |>.drewN _).trans hK2; clear hK2
  go_wp2_with (refine wpList_store_row rfl 236 _ _ rfl w2.heap.size #[.int .i64 52, .int .i64 11, .int .i64 (-1023)] ?_ ?_ 236 #[.int .i64 0, .int .i64 0, .int .i64 0] ?_ ?_ ?_ ?_ ?_; go_must (rfl); go_must (rfl); go_must (exact heap_alloc_new _ _); go_must (kernel_rfl); go_must (rfl); go_must (simp [Value.oneCell']); generalize hw3 : World.setRow _ _ _ = w3; have HF3 : Hid (FormAt w3 w2.heap.size) := (by show _ = _; rw [← hw3]; exact setRow_heap _ _ _ _ 236 _ (heap_alloc_new _ _)); have HK3 : Hid (Kp [] w w3) := (by have h1 : Kp [] w (w2.alloc (.cells #[.int .i64 0, .int .i64 0, .int .i64 0] 236)) := HK2.out.alloc _; have h2 := HK2.out.size; rw [← hw3]; exact ⟨h1.os, h1.tape, h1.output, by rw [setRow_size]; exact h1.size, fun k hk hs => by rw [setRow_other _ _ _ _ (by omega)]; exact h1.block k hk hs⟩); clear hw3; have e0 := HF3.out.c0; have e1 := HF3.out.c1; have e2 := HF3.out.c2)
  refine (fold_no (s.extract 1 s.size) _ _ (by omega) HP.out.sz H57t.out (by decide)).mono ?_
  rintro e4 w4 ⟨rfl, rfl⟩
  go_wp2_with fail
  refine (fold_no (s.extract 1 s.size) _ _ (by omega) HP.out.sz H57t.out (by decide)).mono ?_
  rintro e5 w5 ⟨rfl, rfl⟩
  go_wp2_with fail
  have hff := lt_of_block HF3.out; refine (read_is w5 (s.extract 1 s.size) m HP.out.at1 HP.out.at2 HP.out.nh hl hts hex1 hex2).mono ?_
  rintro e6 w6 ⟨rfl, hK6, hD6⟩
  have hff6 : w2.heap.size < w6.heap.size := Nat.lt_of_lt_of_le hff hK6.size; have hnf : w2.heap.size ≠ w5.heap.size := by omega
  have HF6 : Hid (FormAt w6 w2.heap.size) := by
   show _ = _
   rw [hK6.block _ hff (by simp)]; exact HF3.out
  have HK6 := hid (HK3.out.trans hK6); have HD6 := hid hD6; have hw56 := hK6.size; clear hD6 hK6 e0 e1 e2; have e0 := HF6.out.c0; have e1 := HF6.out.c1; have e2 := HF6.out.c2; go_wp2_with fail
  refine (underscores_no s _ hs HP.out.us).mono ?_
  rintro e7 w7 ⟨rfl, rfl⟩
  go_wp2_with fail
  rcases HD6.out with ⟨hz0, hBa⟩ | ⟨hnz, hDs⟩
  ·
   have hu0 : u = 0 := by
    rcases HU.out with ⟨_, h⟩ | ⟨h, _⟩
    · exact h
    · exact absurd hz0 h
   have HOr0 : Hid (bits .or .u64 9223372036854775808 0 = (f : Int)) := by
    have := HOr.out; rw [hu0] at this; exact this
   clear hu0 hul hz0; refine (bits_zero w7 _ _ hBa).mono ?_
   rintro e8 w8 ⟨rfl, hK8⟩
   have HF8 : Hid (FormAt w8 w2.heap.size) := by
    show _ = _
    rw [hK8.block _ hff6 (by simp)]; exact HF6.out
   have HK8 := hid (HK6.out.trans hK8); clear hK8 e0 e1 e2 hBa; have e0 := HF8.out.c0; have e1 := HF8.out.c1; have e2 := HF8.out.c2; go_wp2_with fail
   rw [HOr0.out]; refine (float_is f w8).mono ?_
   rintro e9 w9 ⟨rfl, hK9⟩
   have HK9 := hid (HK8.out.trans hK9); clear hK9; go_wp2_with fail
   go_ret2
   exact ⟨rfl, HK9.out⟩
  ·
   obtain ⟨p, q, E, r, hpq, hFl, hur⟩ : ∃ (p q : Nat) (E : Int) (r : Nat), (p : Int) - q = m.exp - m.fp.length ∧ FltIs (num m.all * 10 ^ p) (10 ^ q) E r ∧ u = r + (E + 1022).toNat * 2 ^ 52 := by
    rcases HU.out with ⟨h, _⟩ | ⟨_, h⟩
    · exact absurd h hnz
    · exact h
   obtain ⟨x, y, x1, x2, x3, x4, x5⟩ := hFl.rn; have hDD := hDs p q hpq; have hbits := bits_is w7 w5.heap.size w5.heap.size 1000 _ _ hDD (Nat.le_refl _) (dec_lt hDD) hw56 (Nat.le_refl _) (pow10_pos q) hFl.lo hFl.hi E x y r x1 hFl.e1 hFl.e2 x2 x3 x4 x5 hFl.ov; rw [← hur] at hbits; clear hDD hDs hpq hFl hur x1 x2 x3 x4 x5 hnz; refine hbits.mono ?_
   rintro e8 w8 ⟨rfl, hK8⟩
   have HF8 : Hid (FormAt w8 w2.heap.size) := by
    show _ = _
    rw [hK8.block _ hff6 (by simpa using hnf)]; exact HF6.out
   have HK8 : Hid (Kp [] w w8) := by
    have h1 : Kp [w5.heap.size] w w7 := Kp.mono HK6.out (fun _ _ h => by simp at h); have h2 := HK3.out.size; exact Kp.mono (h1.trans hK8) (fun k hk h => by simp at h; omega)
   clear hK8 e0 e1 e2 hbits; have e0 := HF8.out.c0; have e1 := HF8.out.c1; have e2 := HF8.out.c2; go_wp2_with fail
   rw [HOr.out]; refine (float_is f w8).mono ?_
   rintro e9 w9 ⟨rfl, hK9⟩
   have HK9 := hid (HK8.out.trans hK9); clear hK9; go_wp2_with fail
   go_ret2
   exact ⟨rfl, HK9.out⟩
end
section
open Go.RowKit
theorem bytesOf_append (a b : ByteArray) : bytesOf (a ++ b) = bytesOf a ++ bytesOf b := by
 unfold bytesOf; rw [ByteArray.data_append, Array.toList_append, List.map_append]
theorem bytesOf_encode (r : Nat) (h : scalar r) : bytesOf (Utf8.encode (r : Int)) = utf8 r := by
 unfold scalar at h; have hv : Utf8.valid (r : Int) = true := by unfold Utf8.valid; simp; omega
 have hb : ∀ n, n < 256 → (UInt8.ofNat n).toNat = n := fun n hn => by rw [UInt8.toNat_ofNat']; omega
 unfold Utf8.encode utf8; simp only [hv, if_true, Int.toNat_natCast]; by_cases c1 : r < 128
 · rw [if_pos c1, if_pos c1]; simp [bytesOf]; omega
 ·
  rw [if_neg c1, if_neg c1]; by_cases c2 : r < 2048
  · rw [if_pos c2, if_pos c2]; simp [bytesOf]; omega
  · rw [if_neg c2, if_neg c2]
    by_cases c3 : r < 65536
    · rw [if_pos c3, if_pos c3]; simp [bytesOf]; omega
    · rw [if_neg c3, if_neg c3]; simp [bytesOf]; omega
theorem fold_runes : ∀ (rs : List Nat) (s : ByteArray), (∀ r ∈ rs, scalar r) → bytesOf ((rs.map Int.ofNat).foldl (fun r n => r ++ Utf8.encode n) s) = bytesOf s ++ enc rs
 | [], s, _ => by simp [enc]
 | r :: rs, s, h => by
  rw [List.map_cons, List.foldl_cons, fold_runes rs _ (fun x hx => h x (by simp [hx])), bytesOf_append, enc, List.append_assoc]; have e : bytesOf (Utf8.encode (Int.ofNat r)) = utf8 r := bytesOf_encode r (h r (by simp)); rw [e]
theorem runesBytes_is (rs : List Nat) (k : ByteArray) (hb : bytesOf k = enc rs) (hs : ∀ r ∈ rs, scalar r) : runesBytes (rs.map Int.ofNat) = k := by
 apply bytesOf_inj; rw [hb]; unfold runesBytes; have := fold_runes rs ByteArray.empty hs; rw [this]; rfl
theorem conv_key (w : World) (B : Nat) (v : Value) (rs : List Nat) (k : ByteArray) (h : w.ownsRow B 21 1 v rs.length (runesOf rs)) (hb : bytesOf k = enc rs) (hs : ∀ r ∈ rs, scalar r) :
  (convert 107 9 v).run Tryz.prog w = .ok (.string k) w := by
 obtain ⟨h1, h2⟩ := h; rcases h2 with ⟨rfl, hn⟩ | ⟨g, cap, cur, rfl, hg, hh, hnc, hcm, hcs, ht⟩
 ·
  have : rs = [] := List.length_eq_zero_iff.1 hn; subst this; rw [run_convert_runes_nil w 107 9 21 0 0 Tryz.underlying107 Tryz.underlying21 Tryz.underlying9]; have : k = ByteArray.empty := bytesOf_inj (by rw [hb]; rfl); rw [this]
 ·
  have hc : ∀ j, j < (rs.map Int.ofNat).length → w.cell? ((⟨g, 0, none⟩ : Addr).add j) = some (.int .i32 ((rs.map Int.ofNat).getD j 0)) := by
   intro j hj; rw [List.length_map] at hj; have hcells := World.ownsRow.cells (w := w) (base := B) (e := 21) (size := 1) (v := .slice (some ⟨g, 0, none⟩) rs.length cap) (n := rs.length) (xs := runesOf rs) ⟨h1, Or.inr ⟨g, cap, cur, rfl, hg, hh, hnc, hcm, hcs, ht⟩⟩ (g := g) rfl; refine hcells j _ ?_; unfold runesOf; rw [List.getElem?_map, List.getElem?_eq_getElem hj, List.getD_eq_getElem?_getD, List.getElem?_map, List.getElem?_eq_getElem hj]; rfl
  have := run_convert_runes (P := Tryz.prog) w 107 9 21 ⟨g, 0, none⟩ rs.length cap (rs.map Int.ofNat) (by simp) Tryz.underlying107 Tryz.underlying21 Tryz.underlying9 hc; rw [this, List.take_of_length_le (by simp), runesBytes_is rs k hb hs]
end
section
open Go.RowKit
theorem catch_idle52 (p : Addr) (w : World) :
  CallsD Tryz.prog 52 #[.pointer (some p)] .returning w fun e u' w' => e = .returned (.tuple #[]) ∧ u' = .returning ∧ w' = w := by
 refine callsD_of_wpS Tryz.func52 rfl fun c₀ cs hu => ?_
 apply wpS_seq; apply wpS_region; simp [wpOpsS, go_sem, recoverD, hu, Tryz.ntmps52, Exit.thenS]; apply wpS_seq; apply wpS_region; simp [wpOpsS, go_sem, Exit.thenS]; refine wpS_cond (t := false) (by simp [Act.eval, Array.replicate]) ?_; simp only [Bool.false_eq_true, if_false]; refine wpS_of_wp (wp_skip ?_)
 cases c₀; simp_all [bodyPostS, results, Tryz.results52, Exit.thenS]
set_option maxRecDepth 100000 in
set_option maxHeartbeats 2000000 in
theorem set_is (w : World) (r m : Nat) (D : DataW Value) (k : ByteArray) (x : Value) (hM : w.ownsMap Tryz.prog 9 RV r m D) (hk : k.size ≠ 0) (hks : k.size ≤ 1000000) (hm : m ≤ 1000000) :
  Calls Tryz.prog 58 #[.map (some r), .string k, x] w fun e w' => e = .returned (.tuple #[]) ∧ w'.ownsMap Tryz.prog 9 RV r (m + 1) (D.put (.string k.data.toList) (.held x)) ∧ w.grownBy w' (some r) := by
 have HM := hid hM; have k1 : ((k.size : Int) == 0) = false := by rw [beq_eq_false_iff_ne]; omega
 have HksZ : k.size ≤ maxLen := by unfold maxLen; omega
 clear hM; go_enter Tryz.func58, Tryz.ntmps58
 go_wp2_with (at_mapUpdate; go_must (refine wpList_mapUpdate_own _ rfl _ _ _ 55 rfl 9 20 strKeyed Tryz.underlying55 RV r m D rfl HM.out (by unfold maxLen; omega) (.string k) _ (.string k.data.toList) rfl rfl (keyOf_str _ HksZ) (.held x) [] rfl ?_); intro w4 ho hg; have HO := hid ho; have HG := hid hg; clear ho hg)
 first | (refine bodyPost_ret (results_none rfl _ _ _) rfl ?_) | (refine bodyPost_end (results_none rfl _ _ _) rfl ?_)
 exact ⟨rfl, HO.out, HG.out⟩
end
end Go.Proofs.YtljaoopfomcaoaaGreatDoor
