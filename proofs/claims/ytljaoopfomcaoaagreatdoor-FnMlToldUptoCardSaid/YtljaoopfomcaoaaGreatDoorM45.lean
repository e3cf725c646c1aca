import Derived.Test.YtljaoopfomcaoaaGreatDoorM04
import Derived.Test.YtljaoopfomcaoaaGreatDoorM39
import Derived.Test.YtljaoopfomcaoaaGreatDoorM40
set_option linter.all false
open Go.Lib (hid)
namespace Go.Proofs.YtljaoopfomcaoaaGreatDoor
section
open Go.RowKit
theorem append_empty (w : World) (ty : TypeId) (p : Option Addr) (c : Nat) : (Builtin.append_ #[23, 23] ty #[.slice none 0 0, .slice p 0 c]).run Tryz.prog w = .ok (.slice none 0 0) w := by
 obtain ⟨i0, hi, hz0, hz1, hz2⟩ := info_parts info9; simp [Builtin.append_, run_underlying Tryz.underlying23, sizeOf, typeInfo, hi, Builtin.lenOf, Builtin.firstCells]
 cases p <;> simp [loadCells, go_sem]
theorem step_keys {ops : Array Oper} {o : Oper} {a : Act} {w : World} {Q : Exit → Act → World → Prop} {K : Act → World → Prop} {E : Prop} (hgd : o.guard = none) (s x : Operand) (ho : o.op = .call { callee := .builtin .append, args := #[s, x], argTypes := #[23, 23] })
  (ks : List ByteArray) (kp : Option Addr) (kc : Nat) (hk : StrsAt w kp ks) (hs : a.eval s = .slice none 0 0) (hx : a.eval x = .slice kp ks.length kc) (hle : ks.length ≤ 2000000)
  (h : ∀ (p' : Option Addr) (c' : Nat) w', KeysF (Made w w') w' ks p' → Kp [] w w' → K (a.put o.dst (.slice p' ks.length c')) w') :
  if Region.wanted o (yielded ops a.tmps) = true then Oper.wp Tryz.prog o a w K Q else E := by
 have hw : Region.wanted o (yielded ops a.tmps) = true := by simp [Region.wanted, hgd]
 rw [if_pos hw]; rcases Nat.eq_zero_or_pos ks.length with h0 | h0
 ·
  have hnil := List.length_eq_zero_iff.1 h0; subst hnil; have hr := append_empty w o.type kp kc; have hx' : a.eval x = .slice kp 0 kc := hx; unfold Oper.wp execOp; simp only [ho, resolve, invoke, builtin, Sem.run_bind, Sem.run_pure, Result.andThen_ok, List.map_toArray, List.map_cons, List.map_nil, hs, hx', hr]; exact h none 0 w (Or.inl rfl) (Kp.refl _ _)
 ·
  rcases hk with hk | ⟨g, og, rfl, hc⟩
  · rw [hk] at h0; simp at h0
  obtain ⟨i0, hi, hz0, hz1, hz2⟩ := info_parts info9; have hcell : ∀ j u, (ks.map Value.string)[j]? = some u → w.cell? ((⟨g, og, none⟩ : Addr).add j) = some u := fun j u hu => by
   have hj : j < ks.length := by have := (List.getElem?_eq_some_iff.1 hu).1; simpa using this
   have e : (⟨g, og, none⟩ : Addr).add j = ⟨g, og + j, none⟩ := by simp [Addr.add]
   rw [e, hc j hj]; rw [List.getElem?_map, List.getElem?_eq_getElem hj] at hu; exact hu
  obtain ⟨v', w', hr, h2, h3, h4⟩ := run_append_loc (w := w) w.heap.size 23 o.type 9 i0 _ 1 16 Tryz.underlying23 hi hz0 hz1 hz2 rfl (by decide) (.slice none 0 0) 0 [] ⟨rfl, Or.inl ⟨rfl, rfl⟩⟩ ⟨g, og, none⟩ ks.length kc h0 (ks.map Value.string) (by simp) hcell
   (by intro u hu; obtain ⟨q, _, rfl⟩ := List.mem_map.1 hu; rfl) (by unfold maxLen; omega) (by omega) (Nat.le_refl _)
  obtain ⟨p', n', c', rfl⟩ := own_form h2; rw [List.nil_append, Nat.zero_add] at h2; have hn : n' = ks.length := by
   rcases h2.2 with ⟨hv, hz⟩ | ⟨g2, cap, cur, hv, _⟩
   · omega
   · exact (Value.slice.inj hv).2.1
  subst hn; obtain ⟨hkf, _⟩ := keysF_own (F := Made w w') h2 (fun g h1 h2 => ⟨h1, h2⟩); unfold Oper.wp execOp; simp only [ho, resolve, invoke, builtin, Sem.run_bind, Sem.run_pure, Result.andThen_ok, List.map_toArray, List.map_cons, List.map_nil, hs, hx, hr]; exact h p' c' w' hkf ((Kp.refl [] w).grown h3 (fun k hk => by simp [Value.ownBlock] at hk))
def CopPost (n : Nat) (w : World) (v : JV) (e : Ending) (w' : World) : Prop :=
 ∃ (kp : Option Addr) (kc : Nat) (lp : Option Addr) (lc : Nat), e = .returned (valOf v kp kc lp lc) ∧ DeepF n (Made w w') w' v kp lp ∧ Kp [] w w'
def CopDoes (n : Nat) : Prop :=
 ∀ (m : Nat) (w0 w : World) (v : JV) (kp lp : Option Addr) (kc lc : Nat), Deep n w0 v kp lp → Fits m v → Kp [] w0 w → Calls Tryz.prog 14 #[valOf v kp kc lp lc] w (CopPost n w v)
def ListAt (n : Nat) (F : Nat → Prop) (w : World) (l : List JV) (lp : Option Addr) : Prop :=
 l = [] ∨ ∃ g o : Nat, lp = some ⟨g, o, none⟩ ∧ F g ∧ g < w.heap.size ∧ ∀ i (_ : i < l.length), ∃ kp' kc' lp' lc', At7 w g (o + i * 7) l[i] kp' kc' lp' lc' ∧ DeepF n F w l[i] kp' lp'
theorem ListAt.keep {n : Nat} {F F' : Nat → Prop} {w w' : World} {l : List JV} {lp : Option Addr} (h : ListAt n F w l lp) (hs : w.heap.size ≤ w'.heap.size) (hk : ∀ g, F g → g < w.heap.size → F' g ∧ w'.heap[g]? = w.heap[g]?) : ListAt n F' w' l lp := by
 rcases h with h2 | ⟨g, o, h3, h3b, h3c, h4⟩
 · exact Or.inl h2
 · refine Or.inr ⟨g, o, h3, (hk g h3b h3c).1, by omega, fun i hi => ?_⟩
   obtain ⟨a, b, c, d, h5, h6⟩ := h4 i hi; exact ⟨a, b, c, d, h5.block (hk g h3b h3c).2, DeepF.keep hs hk h6⟩
def CopsPost (n : Nat) (w : World) (l : List JV) (e : Ending) (w' : World) : Prop :=
 ∃ (p : Option Addr) (c : Nat), e = .returned (.slice p l.length c) ∧ ListAt n (Made w w') w' l p ∧ Kp [] w w'
structure CopI (n : Nat) (w : World) (l : List JV) (i : Nat) (lv : Value) (xs : List Value) (wr : World) : Prop where
 row : VRow (fun g => w.heap.size ≤ g) n w.heap.size l i lv xs wr
 kp' : Kp [] w wr
theorem CopI.next {n : Nat} {w : World} {l : List JV} {i : Nat} {lv lv' : Value} {xs : List Value} {wr w3 w4 w5 : World} {o : Obj} {kp : Option Addr} {kc : Nat} {lp : Option Addr} {lc : Nat} (h : CopI n w l i lv xs wr) (hi : i < l.length) (k3 : Kp [] wr w3) (k4 : Kp [] w3 w4)
  (hd : DeepF n (Made w3 w4) w4 l[i] kp lp) (ho : w5.ownsRow w.heap.size 26 7 lv' (i + 1) (xs ++ cells7 l[i] kp kc lp lc)) (hg : (w4.alloc o).grownBy w5 lv.ownBlock) (hl : lv'.ownBlock = lv.ownBlock ∨ lv'.ownBlock = some (w4.alloc o).heap.size) :
  CopI n w l (i + 1) lv' (xs ++ cells7 l[i] kp kc lp lc) w5 := by
 have s3 := k3.size; have s4 := k4.size; have sw := h.kp'.size; have hlo : ∀ g', lv.ownBlock = some g' → w.heap.size ≤ g' ∧ g' < wr.heap.size := fun g' e => h.row.own.lt g' e
 have hfx : DeepF n (Fx (fun g => w.heap.size ≤ g) w4 lv) w4 l[i] kp lp := by
  refine hd.keep (Nat.le_refl _) ?_; intro g hg _; have h1 := hg.1; refine ⟨⟨hg.2, ?_, ?_⟩, rfl⟩
  · intro e; have := (hlo g e.symm).2; omega
  · show w.heap.size ≤ g; omega
 exact ⟨(h.row.keep (k3.trans k4) (by simp)).step hi hfx ho hg hl, (((h.kp'.trans k3).trans k4).alloc o).grown hg fun k hk => (hlo k hk).1⟩
set_option maxRecDepth 100000 in
set_option maxHeartbeats 2000000 in
theorem copies_is (n : Nat) (IH : CopDoes n) (m : Nat) (w0 w : World) (l : List JV) (lp : Option Addr) (lc : Nat) (hl : l = [] ∨ ∃ g o : Nat, lp = some ⟨g, o, none⟩ ∧ ∀ i (h : i < l.length), ∃ kp' kc' lp' lc', At7 w0 g (o + i * 7) l[i] kp' kc' lp' lc' ∧ Deep n w0 l[i] kp' lp')
  (hF : ∀ x ∈ l, Fits m x) (hlen : l.length ≤ 2000000) (hk0 : Kp [] w0 w) : Calls Tryz.prog 30 #[.slice lp l.length lc] w (CopsPost n w l) := by
 have HDl := hid hl; have HFt := hid hF; have HIH := hid IH; have HK0 := hid hk0; have HSt : Hid (CopI n w l 0 (.slice none 0 0) [] w) := ⟨VRow.nil _ _ _ _ _, Kp.refl _ _⟩; clear hl hF IH hk0; obtain ⟨i0, hi0, hz0, hz1, hz2⟩ := info_parts info26; go_enter Tryz.func30, Tryz.ntmps30
 go_wp2_with fail
 go_loopw [3, 5, 8] (fun s3 _ s8 wx => ∃ (i : Nat) (p : Option Addr) (q c : Nat) (xs : List Value), s3 = .slice p q c ∧ s8 = .int .i64 (i : Int) ∧ i ≤ l.length ∧ CopI n w l i (.slice p q c) xs wx) (fun _ _ s8 _ => l.length - (intOf s8).toNat)
 case atStart => exact ⟨0, none, 0, 0, [], rfl, rfl, Nat.zero_le _, HSt.out⟩
 case round =>
  obtain ⟨i, p, q, c, xs, rfl, rfl, hi, hI⟩ := hrel; have HI := hid hI; clear hI HSt; by_cases hil : i < l.length
  ·
   have q1 : decide ((i : Int) < (l.length : Int)) = true := by rw [decide_eq_true_eq]; omega
   rcases HDl.out with h0 | ⟨g, o, hlp, hcs⟩
   · rw [h0] at hil; simp at hil
   obtain ⟨kp', kc', lp', lc', ⟨a0, a1, a2, a3, a4, a5, a6⟩, hdeep⟩ := hcs i hil; have hkw : Kp [] w0 wr := HK0.out.trans HI.out.kp'; have d0 := cell_kp a0 hkw; have d1 := cell_kp a1 hkw; have d2 := cell_kp a2 hkw; have d3 := cell_kp a3 hkw; have d4 := cell_kp a4 hkw; have d5 := cell_kp a5 hkw; have d6 := cell_kp a6 hkw; have HDeep := hid hdeep; have HKw := hid hkw; clear a0 a1 a2 a3 a4 a5 a6 hcs hdeep hkw; subst hlp; obtain ⟨x, hx⟩ : ∃ x, x = l[i] := ⟨_, rfl⟩; have HX := hid hx; rw [← hx] at d0 d1 d2 d3 d4 d5 d6 HDeep; clear hx
   go_upto_region 5 with (refine wpList_store_row rfl 26 _ _ rfl wr.heap.size #[.int .i64 x.kind, .bool x.b, .int .i64 x.i, .float .f64 x.f, .string x.t, .slice kp' x.ks.length kc', .slice lp' x.l.length lc'] ?_ ?_ 26 #[.int .i64 0, .bool false, .int .i64 0, .float .f64 0, .string ⟨#[]⟩, .slice none 0 0, .slice none 0 0] ?_ ?_ ?_ ?_ ?_; go_must (rfl); go_must (rfl); go_must (exact heap_alloc_new _ _); go_must (kernel_rfl); go_must (rfl); go_must (simp [Value.oneCell']))
   have hcopy := copy_kp' wr #[.int .i64 x.kind, .bool x.b, .int .i64 x.i, .float .f64 x.f, .string x.t, .slice kp' x.ks.length kc', .slice lp' x.l.length lc'] #[.int .i64 0, .bool false, .int .i64 0, .float .f64 0, .string ⟨#[]⟩, .slice none 0 0, .slice none 0 0]; have hbx2 : BxAt ((wr.alloc (.cells #[.int .i64 0, .bool false, .int .i64 0, .float .f64 0, .string ⟨#[]⟩, .slice none 0 0, .slice none 0 0] 26)).setRow wr.heap.size #[.int .i64 x.kind, .bool x.b, .int .i64 x.i, .float .f64 x.f, .string x.t, .slice kp' x.ks.length kc', .slice lp' x.l.length lc']) wr.heap.size x kp' kc' lp' lc' := setRow_heap _ _ _ _ 26 _ (heap_alloc_new _ _); generalize hW : World.setRow _ _ _ = w3 at *; have HCp := hid hcopy; have e0 := hbx2.c0; have e1 := hbx2.c1; have e2 := hbx2.c2; have e3 := hbx2.c3; have e4 := hbx2.c4; have e5 := hbx2.c5; have e6 := hbx2.c6
   have hc := HIH.out m w0 w3 x kp' lp' kc' lc' HDeep.out (by rw [HX.out]; exact HFt.out _ (List.getElem_mem hil)) (HKw.out.trans hcopy); have HC := hid hc; clear d0 d1 d2 d3 d4 d5 d6 hW hcopy hbx2 hc; go_wp2_with fail
   refine HC.out.mono ?_
   rintro e7 w4 ⟨kp2, kc2, lp2, lc2, rfl, hd4, hk4⟩
   have HD4 := hid hd4; have HK4 := hid hk4; have hr4 := HI.out.row.keep (HCp.out.trans hk4) (by simp); have HR4 := hid hr4.own; have HKw4 := hid ((HI.out.kp'.trans HCp.out).trans hk4); have hil63 : (i : Int) + 1 ≤ 3000000 := by omega
   clear e0 e1 e2 e3 e4 e5 e6 hd4 hk4 HC hr4; unfold valOf; go_wp2_with (at_builtin; go_must (refine wp_append_at rfl _ _ 24 rfl w [] 26 i0 _ 7 96 Tryz.underlying24 hi0 hz0 hz1 hz2 rfl (by decide) _ i xs rfl (HR4.out.alloc _) ⟨w4.heap.size, 0, none⟩ 1 _ (by decide) (cells7 x kp2 kc2 lp2 lc2) rfl rfl (cells7_new w4 x kp2 kc2 lp2 lc2 _ _ _ rfl) (cells7_one _ _ _ _ _) (by unfold maxLen; omega) (by omega) (HKw4.out.alloc _) ?_); intro l5 w5 ho5 hk5 hg5 hl5; have HO5 := hid ho5; have HG5 := hid hg5; have HL5 := hid hl5; clear ho5 hk5 hg5 hl5)
   obtain ⟨p5, q5, c5, rfl⟩ := own_form HO5.out; go_roundw
   case measure => simp [intOf]; omega
   case rel => exact ⟨i + 1, p5, q5, c5, xs ++ cells7 x kp2 kc2 lp2 lc2, rfl, by push_cast; rfl, by omega, by have h := HI.out.next (kc := kc2) (lc := lc2) (lv' := .slice p5 q5 c5) (w5 := w5) hil HCp.out HK4.out (by rw [← HX.out]; exact HD4.out) (by rw [← HX.out]; exact HO5.out) HG5.out HL5.out; rw [← HX.out] at h; exact h⟩
  ·
   obtain rfl : i = l.length := by omega
   have q1 : decide ((l.length : Int) < (l.length : Int)) = false := by simp
   obtain ⟨lp2, lc2, hlv, hlist⟩ := HI.out.row.done (F := Made w wr) (fun g h1 h2 => ⟨h1, h2⟩) (fun g h1 h2 => ⟨h1, h2⟩); have HLv := hid hlv; have HLs := hid hlist; clear hlv hlist; go_wp2_with fail
   go_ret; exact ⟨lp2, lc2, congrArg Ending.returned HLv.out, HLs.out, HI.out.kp'⟩
set_option maxRecDepth 100000 in
set_option maxHeartbeats 2000000 in
theorem cop_step (n : Nat) (IH : CopDoes n) : CopDoes (n + 1) := by
 intro m w0 w v kp lp kc lc hd hF hk0; obtain ⟨m, rfl⟩ : ∃ m', m = m' + 1 := by
  cases m with
  | zero => exact hF.elim
  | succ m => exact ⟨m, rfl⟩
 obtain ⟨hks0, hdl⟩ := hd; obtain ⟨⟨_, _, _, _, hkslen, hllen, _⟩, hft⟩ := hF; have hb0 : BxAt ((w.alloc (.cells #[.int .i64 v.kind, .bool v.b, .int .i64 v.i, .float .f64 v.f, .string v.t, .slice kp v.ks.length kc, .slice lp v.l.length lc] 26)).alloc (.cells #[.int .i64 0, .bool false, .int .i64 0, .float .f64 0, .string ⟨#[]⟩, .slice none 0 0, .slice none 0 0] 26)) w.heap.size v kp kc lp lc := (bxAt_fresh w v kp kc lp lc).keep (S := []) ((Kp.refl _ _).alloc _) (by simp)
 have hr0 : ((w.alloc (.cells #[.int .i64 v.kind, .bool v.b, .int .i64 v.i, .float .f64 v.f, .string v.t, .slice kp v.ks.length kc, .slice lp v.l.length lc] 26)).alloc (.cells #[.int .i64 0, .bool false, .int .i64 0, .float .f64 0, .string ⟨#[]⟩, .slice none 0 0, .slice none 0 0] 26)).heap[w.heap.size + 1]? = some (.cells #[.int .i64 0, .bool false, .int .i64 0, .float .f64 0, .string ⟨#[]⟩, .slice none 0 0, .slice none 0 0] 26 (0, 0)) := heap_alloc2_new _ _ _; have hk1 : Kp [] w ((w.alloc (.cells #[.int .i64 v.kind, .bool v.b, .int .i64 v.i, .float .f64 v.f, .string v.t, .slice kp v.ks.length kc, .slice lp v.l.length lc] 26)).alloc (.cells #[.int .i64 0, .bool false, .int .i64 0, .float .f64 0, .string ⟨#[]⟩, .slice none 0 0, .slice none 0 0] 26)) := ((Kp.refl _ _).alloc _).alloc _
 have hs1 : ((w.alloc (.cells #[.int .i64 v.kind, .bool v.b, .int .i64 v.i, .float .f64 v.f, .string v.t, .slice kp v.ks.length kc, .slice lp v.l.length lc] 26)).alloc (.cells #[.int .i64 0, .bool false, .int .i64 0, .float .f64 0, .string ⟨#[]⟩, .slice none 0 0, .slice none 0 0] 26)).heap.size = w.heap.size + 1 + 1 := by simp
 have HDl := hid hdl; have HKs := hid hks0; have HFt := hid hft; have HIH := hid IH; have HK0 := hid hk0; clear hks0 hdl hft IH hk0; unfold valOf; go_enter Tryz.func14, Tryz.ntmps14
 go_upto_region 1 with fail
 generalize hW : World.alloc _ _ = w1 at *; clear hW; generalize hb : w.heap.size = bx at *; generalize hrb : bx + 1 = rb at *; have HBs := hid (show w.heap.size = bx ∧ bx + 1 = rb ∧ w1.heap.size = rb + 1 by omega); have HB0 := hid hb0; have HR0 := hid hr0; have HK1 := hid hk1; clear hb0 hr0 hk1 hs1 hb hrb; have hk1d : Kp [] w0 w1.drew := (HK0.out.trans HK1.out).drew; have hksd := HKs.out.kp hk1d; have HKsd := hid hksd; have HK1d := hid hk1d; have hB1 : BxAt w1.drew bx v kp kc lp lc := HB0.out.keep (S := []) (Kp.refl _ _).drew (by simp); have HB1 := hid hB1; clear hk1d hksd hB1; refine region_T (fun _ => True) (fun w' => w'.cell? ⟨bx, 5, none⟩ = some (.slice kp v.ks.length kc) ∧ w'.cell? ⟨bx, 6, none⟩ = some (.slice lp v.l.length lc)) [7, 9] (by kernel_rfl) ?_
 refine AnyT.take0 (i := 0) (v := ?v0_1) rfl (by kernel_rfl) (fun _ _ _ h => h) (Or.inl ⟨by rfl, ?hy0_1⟩) trivial (fun _ => ⟨HB1.out.c5, HB1.out.c6⟩) ?_
 case hy0_1 => intro w'' hS''; clear hS''; go_simp; try (with_reducible rfl)
 (try simp only [Act.put, List.setIfInBounds_toArray, List.set_cons_zero, List.set_cons_succ]); refine AnyT.take (i := 1) (v := ?v1_2) rfl (by kernel_rfl) (fun _ _ _ h => h) (Or.inl ⟨by rfl, ?hy1_2⟩) trivial ⟨HB1.out.c5, HB1.out.c6⟩ ?_
 case hy1_2 => intro w'' hS''; (try dsimp only at hS''); go_split_ands; go_simp; try (with_reducible rfl)
 (try simp only [Act.put, List.setIfInBounds_toArray, List.set_cons_zero, List.set_cons_succ]); refine AnyT.take0 (i := 3) (v := ?v3_3) rfl (by kernel_rfl) (fun _ _ _ h => h) (Or.inl ⟨by rfl, ?hy3_3⟩) trivial (fun _ => ⟨HB1.out.c5, HB1.out.c6⟩) ?_
 case hy3_3 => intro w'' hS''; clear hS''; go_simp; try (with_reducible rfl)
 (try simp only [Act.put, List.setIfInBounds_toArray, List.set_cons_zero, List.set_cons_succ]); refine AnyT.take (i := 4) (v := ?v4_4) rfl (by kernel_rfl) (fun _ _ _ h => h) (Or.inl ⟨by rfl, ?hy4_4⟩) trivial ⟨HB1.out.c5, HB1.out.c6⟩ ?_
 case hy4_4 => intro w'' hS''; (try dsimp only at hS''); go_split_ands; go_simp; try (with_reducible rfl)
 (try simp only [Act.put, List.setIfInBounds_toArray, List.set_cons_zero, List.set_cons_succ]); refine AnyT.ready (rs := [2]) (by kernel_rfl) (by simp) (AllT.cons rfl (fun K hK => ?_) AllT.nil); refine step_keys rfl _ _ rfl v.ks kp kc HKsd.out (by simp [Act.eval, Act.put]) (by simp [Act.eval, Act.put]) hkslen ?_; intro p5 c5 w2 hkf hk2; have HKf := hid hkf; have HK2 := hid hk2; have HB2 := hid (HB1.out.keep hk2 (by simp)); clear hkf hk2; refine hK.out _ _ trivial (fun _ => ⟨HB2.out.c5, HB2.out.c6⟩) ?_; clear hK K; refine AnyT.take0 (i := 6) (v := ?v6_5) rfl (by kernel_rfl) (fun _ _ _ h => h) (Or.inl ⟨by rfl, ?hy6_5⟩) trivial (fun _ => ⟨HB2.out.c5, HB2.out.c6⟩) ?_
 case hy6_5 => intro w'' hS''; clear hS''; go_simp; try (with_reducible rfl)
 (try simp only [Act.put, List.setIfInBounds_toArray, List.set_cons_zero, List.set_cons_succ]); refine AnyT.ready (rs := [5]) (by kernel_rfl) (by simp) (AllT.cons rfl (fun K hK => ?_) AllT.nil); go_simp; go_at_call 30
 refine (copies_is n HIH.out m w0 w2 v.l lp lc HDl.out HFt.out (by omega) (HK1d.out.trans HK2.out)).mono ?_
 rintro e3 w3 ⟨p6, c6, rfl, hls, hk3⟩
 have HLs := hid hls; have HK3 := hid hk3; have HB3 := hid (HB2.out.keep hk3 (by simp)); clear hls hk3; refine hK.out _ _ trivial (fun _ => ⟨HB3.out.c5, HB3.out.c6⟩) ?_; clear hK K; have g5 : w3.frozen? ⟨bx, 5, none⟩ = false := by simp [World.frozen?, show w3.heap[bx]? = _ from HB3.out]
 have g6 : w3.frozen? ⟨bx, 6, none⟩ = false := by simp [World.frozen?, show w3.heap[bx]? = _ from HB3.out]
 have d5 := HB3.out.c5; have d6 := HB3.out.c6; refine AnyT.ready (rs := [7]) (by kernel_rfl) (by simp) (AllT.cons rfl (fun K hK => ?_) AllT.nil); go_simp; refine hK.out _ _ trivial (fun h => absurd (show false = true from h) (by decide)) ?_; clear hK K; refine AnyT.take0 (i := 8) (v := ?v8_6) rfl (by kernel_rfl) (fun _ _ _ h => h) (Or.inl ⟨by rfl, ?hy8_6⟩) trivial (fun h => absurd (show false = true from h) (by decide)) ?_
 case hy8_6 => intro w'' hS''; clear hS''; go_simp; try (with_reducible rfl)
 (try simp only [Act.put, List.setIfInBounds_toArray, List.set_cons_zero, List.set_cons_succ]); refine AnyT.ready (rs := [9]) (by kernel_rfl) (by simp) (AllT.cons rfl (fun K hK => ?_) AllT.nil); go_simp; refine hK.out _ _ trivial (fun h => absurd (show false = true from h) (by decide)) ?_; clear hK K; refine AnyT.done (by kernel_rfl) ?_ _; refine NoPanic.normal ?_; have hblk : ((w3.setCell ⟨bx, 5, none⟩ (.slice p5 v.ks.length c5)).setCell ⟨bx, 6, none⟩ (.slice p6 v.l.length c6)).heap[bx]? = some (.cells #[.int .i64 v.kind, .bool v.b, .int .i64 v.i, .float .f64 v.f, .string v.t, .slice p5 v.ks.length c5, .slice p6 v.l.length c6] 26 (0, 0)) := blk_setCell (blk_setCell HB3.out _) _; have hk4 : Kp [bx] w3 ((w3.setCell ⟨bx, 5, none⟩ (.slice p5 v.ks.length c5)).setCell ⟨bx, 6, none⟩ (.slice p6 v.l.length c6)) := ((Kp.refl _ _).setCell (Or.inl (by simp)) _).setCell (Or.inl (by simp)) _
 generalize hW4 : World.setCell _ _ _ = w4 at *; clear hW4 g5 g6 d5 d6; have hbs := HBs.out; have s2 := HK2.out.size; have s3 := HK3.out.size; have s4 := hk4.size; have sd : w1.drew.heap.size = w1.heap.size := rfl; have hr4 : w4.heap[rb]? = some (.cells #[.int .i64 0, .bool false, .int .i64 0, .float .f64 0, .string ⟨#[]⟩, .slice none 0 0, .slice none 0 0] 26 (0, 0)) := by rw [hk4.block rb (by omega) (by simp; omega), HK3.out.block rb (by omega) (by simp), HK2.out.block rb (by omega) (by simp)]; exact HR0.out
 have hE := kp_setRow w4 rb #[.int .i64 v.kind, .bool v.b, .int .i64 v.i, .float .f64 v.f, .string v.t, .slice p5 v.ks.length c5, .slice p6 v.l.length c6]; have s5 := hE.size; have hEh : (w4.setRow rb #[.int .i64 v.kind, .bool v.b, .int .i64 v.i, .float .f64 v.f, .string v.t, .slice p5 v.ks.length c5, .slice p6 v.l.length c6]).heap[rb]? = some (.cells #[.int .i64 v.kind, .bool v.b, .int .i64 v.i, .float .f64 v.f, .string v.t, .slice p5 v.ks.length c5, .slice p6 v.l.length c6] 26 (0, 0)) := setRow_heap _ _ _ _ 26 _ hr4; have hpost : CopPost (n + 1) w v (.returned (.agg #[.int .i64 v.kind, .bool v.b, .int .i64 v.i, .float .f64 v.f, .string v.t, .slice p5 v.ks.length c5, .slice p6 v.l.length c6])) (w4.setRow rb #[.int .i64 v.kind, .bool v.b, .int .i64 v.i, .float .f64 v.f, .string v.t, .slice p5 v.ks.length c5, .slice p6 v.l.length c6]) := by
  refine ⟨p5, c5, p6, c6, rfl, ⟨HKf.out.keep (by omega) fun g hg hgs => ⟨⟨by have := hg.1; omega, by have := hg.2; omega⟩, ?_⟩, ListAt.keep HLs.out (by omega) fun g hg hgs => ⟨⟨by have := hg.1; omega, by have := hg.2; omega⟩, ?_⟩⟩, ?_⟩
  · have := hg.1
    rw [hE.block g (by omega) (by simp; omega), hk4.block g (by omega) (by simp; omega), HK3.out.block g hgs (by simp)]
  · have := hg.1
    rw [hE.block g (by omega) (by simp; omega), hk4.block g (by omega) (by simp; omega)]
  · exact ((((HK1.out.drew).trans HK2.out).trans HK3.out).over hk4 (by simp; omega)).over hE (by simp; omega)
 have HPo := hid hpost; have HEh := hid hEh; have HR4 := hid hr4; have HBk := hid hblk; clear hblk hk4 hbs s2 s3 s4 s5 sd hr4 hE hEh hpost; go_wp2_with (first | (refine wpList_load_row rfl 26 _ rfl bx rfl 26 _ (0, 0) _ HBk.out Tryz.underlying26 rfl (by kernel_rfl) ?_) | (refine wpList_store_row rfl 26 _ _ rfl rb #[.int .i64 v.kind, .bool v.b, .int .i64 v.i, .float .f64 v.f, .string v.t, .slice p5 v.ks.length c5, .slice p6 v.l.length c6] ?_ ?_ 26 #[.int .i64 0, .bool false, .int .i64 0, .float .f64 0, .string ⟨#[]⟩, .slice none 0 0, .slice none 0 0] ?_ ?_ ?_ ?_ ?_; go_must (rfl); go_must (rfl); go_must (exact HR4.out); go_must (kernel_rfl); go_must (rfl); go_must (simp [Value.oneCell'])))
 refine bodyPost_ret (results_cell_row rfl _ _ rb 26 _ (0, 0) _ rfl HEh.out Tryz.underlying26 rfl (by kernel_rfl)) rfl ?_; exact HPo.out
theorem cop_does : ∀ n, CopDoes n
 | 0 => fun _ _ _ _ _ _ _ _ h => h.elim
 | n + 1 => cop_step n (cop_does n)
end
end Go.Proofs.YtljaoopfomcaoaaGreatDoor
