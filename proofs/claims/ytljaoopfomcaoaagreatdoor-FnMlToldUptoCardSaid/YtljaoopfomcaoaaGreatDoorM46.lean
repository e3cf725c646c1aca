import Derived.Test.YtljaoopfomcaoaaGreatDoorM45
set_option linter.all false
open Go.Lib (hid)
namespace Go.Proofs.YtljaoopfomcaoaaGreatDoor
section
open Go.RowKit
structure VG (G : Nat → Prop) (n : Nat) (W1 : World) (ob : Nat) (h : JV) (kv lv0 : Value) (ls : List JV) (i : Nat) (lv : Value) (xs : List Value) (w : World) : Prop where
 blk : w.heap[ob]? = some (.cells #[.int .i64 h.kind, .bool h.b, .int .i64 h.i, .float .f64 h.f, .string h.t, kv, lv0] 26 (0, 0))
 row : VRow G n W1.heap.size ls i lv xs w
 kp' : Kp [ob] W1 w
 lt : ob < W1.heap.size
 ng : ¬ G ob
section
variable {G : Nat → Prop} {n : Nat} {W1 w w' : World} {ob : Nat} {h0 : JV} {kv lv0 lv : Value} {ls : List JV} {i : Nat} {xs : List Value}
theorem VG.c6 (h : VG G n W1 ob h0 kv lv0 ls i lv xs w) : w.cell? ⟨ob, 6, none⟩ = some lv0 := by simp [World.cell?, h.blk]
theorem VG.fr (h : VG G n W1 ob h0 kv lv0 ls i lv xs w) (t : Nat) : w.frozen? ⟨ob, t, none⟩ = false := by simp [World.frozen?, h.blk]
theorem VG.own_ne (h : VG G n W1 ob h0 kv lv0 ls i lv xs w) : some ob ≠ lv.ownBlock := fun e => by
 have := (h.row.own.lt ob e.symm).1; have := h.lt; omega
theorem VG.kp (h : VG G n W1 ob h0 kv lv0 ls i lv xs w) (k : Kp [] w w') : VG G n W1 ob h0 kv lv0 ls i lv xs w' :=
 ⟨by rw [k.block ob (lt_of_block h.blk) (by simp)]; exact h.blk, h.row.keep k (by simp), h.kp'.over k (by simp), h.lt, h.ng⟩
theorem VG.store (h : VG G n W1 ob h0 kv lv0 ls i lv xs w) : VG G n W1 ob h0 kv lv ls i lv xs (w.setCell ⟨ob, 6, none⟩ lv) := by
 have hk : Kp [ob] w (w.setCell ⟨ob, 6, none⟩ lv) := (Kp.refl _ _).setCell (Or.inl (by simp)) _; refine ⟨blk_setCell h.blk _, h.row.keep hk (by
  intro x hx; simp at hx; subst hx; exact ⟨h.own_ne, h.ng⟩), h.kp'.trans hk, h.lt, h.ng⟩
theorem step_vg {ops : Array Oper} {o : Oper} {a : Act} {Q : Exit → Act → World → Prop} {K : Act → World → Prop} {E : Prop} (hgd : o.guard = none) (s x : Operand) (ho : o.op = .call { callee := .builtin .append, args := #[s, x], argTypes := #[24, 24] }) (hs : a.eval s = lv)
  (hV : VG G n W1 ob h0 kv lv0 ls i lv xs w) (xa : Array Value) (w0 : World) (hw0 : w0 = w.alloc (.cells xa 26)) (kp : Option Addr) (kc : Nat) (lp : Option Addr) (lc : Nat) (hil : i < ls.length) (y : JV) (hyl : y = ls[i]) (x7 : xa.toList = cells7 y kp kc lp lc) (c : Nat) (hx : a.eval x = .slice (some ⟨w.heap.size, 0, none⟩) 1 c)
  (hd : DeepF n (Fx G w lv) w y kp lp) (hle : i ≤ 2000000)
  (h : ∀ (p' : Option Addr) (n' c' : Nat) w', VG G n W1 ob h0 kv lv0 ls (i + 1) (.slice p' n' c') (xs ++ cells7 y kp kc lp lc) w' → (∀ g, g < w.heap.size → some g ≠ lv.ownBlock → w'.heap[g]? = w.heap[g]?) → K (a.put o.dst (.slice p' n' c')) w') :
  if Region.wanted o (yielded ops a.tmps) = true then Oper.wp Tryz.prog o a w0 K Q else E := by
 have hw : Region.wanted o (yielded ops a.tmps) = true := by simp [Region.wanted, hgd]
 rw [if_pos hw]; subst hw0; subst hyl; obtain ⟨i0, hi, hz0, hz1, hz2⟩ := info_parts info26; have hk1 : Kp [] w (w.alloc (.cells xa 26)) := (Kp.refl _ _).alloc _; have hV2 := hV.kp hk1; have hown := hV2.row.own; obtain ⟨v', w', hr, h2, h3, h4⟩ := run_append_loc (w := w.alloc (.cells xa 26)) W1.heap.size 24 o.type 26 i0 _ 7 96 Tryz.underlying24 hi hz0 hz1 hz2 rfl (by decide) lv i xs hown ⟨w.heap.size, 0, none⟩ 1 c (by decide) (cells7 ls[i] kp kc lp lc) rfl
  (cells7_new w ls[i] kp kc lp lc 26 (0, 0) xa x7) (cells7_one _ _ _ _ _) (by unfold maxLen; omega) (by omega) hV2.kp'.size
 have hVn : VG G n W1 ob h0 kv lv0 ls (i + 1) v' (xs ++ cells7 ls[i] kp kc lp lc) w' :=
  ⟨by rw [h3.block ob (lt_of_block hV2.blk) hV.own_ne]; exact hV2.blk, hV.row.step hil hd h2 h3 h4, hV2.kp'.grown h3 (fun k hk' => (hown.lt k hk').1), hV.lt, hV.ng⟩
 obtain ⟨p', n', c', rfl⟩ := own_form h2; unfold Oper.wp execOp; simp only [ho, resolve, invoke, builtin, Sem.run_bind, Sem.run_pure, Result.andThen_ok, List.map_toArray, List.map_cons, List.map_nil, hs, hx, hr]; exact h p' n' c' w' hVn fun g h1 h2 => by rw [h3.block g (by simp; omega) h2, Below.heap_alloc _ _ _ h1]
end
def MlfPost (n : Nat) (F0 : Nat → Prop) (w : World) (v : JV) (e : Ending) (w' : World) : Prop :=
 ∃ (kp : Option Addr) (kc : Nat) (lp : Option Addr) (lc : Nat), e = .returned (valOf (flo F64 n v) kp kc lp lc) ∧ DeepF n (fun g => F0 g ∨ Made w w' g) w' (flo F64 n v) kp lp ∧ Kp [] w w'
def MlfDoes (n : Nat) : Prop :=
 ∀ (F0 : Nat → Prop) (m : Nat) (w0 w : World) (v : JV) (kp lp : Option Addr) (kc lc : Nat), DeepF n F0 w0 v kp lp → (∀ g, F0 g → g < w0.heap.size) → Fits m v → Kp [] w0 w → Calls Tryz.prog 12 #[valOf v kp kc lp lc] w (MlfPost n F0 w v)
set_option maxRecDepth 100000 in
set_option maxHeartbeats 2000000 in
theorem mlf_int (n : Nat) (F0 : Nat → Prop) (w : World) (v : JV) (kp lp : Option Addr) (kc lc : Nat) (hk : v.kind = 2) : Calls Tryz.prog 12 #[valOf v kp kc lp lc] w (MlfPost (n + 1) F0 w v) := by
 have hb0 : BxAt ((w.alloc (.cells #[.int .i64 v.kind, .bool v.b, .int .i64 v.i, .float .f64 v.f, .string v.t, .slice kp v.ks.length kc, .slice lp v.l.length lc] 26)).alloc (.cells #[.int .i64 0, .bool false, .int .i64 0, .float .f64 0, .string ⟨#[]⟩, .slice none 0 0, .slice none 0 0] 26)) w.heap.size v kp kc lp lc := (bxAt_fresh w v kp kc lp lc).keep (S := []) ((Kp.refl _ _).alloc _) (by simp); have hr0 : ((w.alloc (.cells #[.int .i64 v.kind, .bool v.b, .int .i64 v.i, .float .f64 v.f, .string v.t, .slice kp v.ks.length kc, .slice lp v.l.length lc] 26)).alloc (.cells #[.int .i64 0, .bool false, .int .i64 0, .float .f64 0, .string ⟨#[]⟩, .slice none 0 0, .slice none 0 0] 26)).heap[w.heap.size + 1]? = some (.cells #[.int .i64 0, .bool false, .int .i64 0, .float .f64 0, .string ⟨#[]⟩, .slice none 0 0, .slice none 0 0] 26 (0, 0)) := heap_alloc2_new _ _ _
 have hk1 : Kp [] w ((w.alloc (.cells #[.int .i64 v.kind, .bool v.b, .int .i64 v.i, .float .f64 v.f, .string v.t, .slice kp v.ks.length kc, .slice lp v.l.length lc] 26)).alloc (.cells #[.int .i64 0, .bool false, .int .i64 0, .float .f64 0, .string ⟨#[]⟩, .slice none 0 0, .slice none 0 0] 26)) := ((Kp.refl _ _).alloc _).alloc _; have hs1 : ((w.alloc (.cells #[.int .i64 v.kind, .bool v.b, .int .i64 v.i, .float .f64 v.f, .string v.t, .slice kp v.ks.length kc, .slice lp v.l.length lc] 26)).alloc (.cells #[.int .i64 0, .bool false, .int .i64 0, .float .f64 0, .string ⟨#[]⟩, .slice none 0 0, .slice none 0 0] 26)).heap.size = w.heap.size + 1 + 1 := by simp
 have HKd := hid hk; clear hk; unfold valOf; go_enter Tryz.func12, Tryz.ntmps12
 go_upto_region 1 with fail
 generalize hW : World.alloc _ _ = w1 at *; clear hW; generalize hb : w.heap.size = bx at *; generalize hrb : bx + 1 = rb at *; have HBs := hid (show w.heap.size = bx ∧ bx + 1 = rb ∧ w1.heap.size = rb + 1 by omega); have HB0 := hid hb0; have HR0 := hid hr0; have HK1 := hid hk1; clear hb0 hr0 hk1 hs1 hb hrb; have b0 := HB0.out.c0; rw [HKd.out] at b0; have b2 := HB0.out.c2; have hE := kp_setRow w1 rb #[.int .i64 4, .bool false, .int .i64 0, .float .f64 (F64 v.i), .string ⟨#[]⟩, .slice none 0 0, .slice none 0 0]; have hEh : (w1.setRow rb #[.int .i64 4, .bool false, .int .i64 0, .float .f64 (F64 v.i), .string ⟨#[]⟩, .slice none 0 0, .slice none 0 0]).heap[rb]? = some (.cells #[.int .i64 4, .bool false, .int .i64 0, .float .f64 (F64 v.i), .string ⟨#[]⟩, .slice none 0 0, .slice none 0 0] 26 (0, 0)) := setRow_heap _ _ _ _ 26 _ HR0.out
 have hpost : MlfPost (n + 1) F0 w v (.returned (.agg #[.int .i64 4, .bool false, .int .i64 0, .float .f64 (F64 v.i), .string ⟨#[]⟩, .slice none 0 0, .slice none 0 0])) (w1.setRow rb #[.int .i64 4, .bool false, .int .i64 0, .float .f64 (F64 v.i), .string ⟨#[]⟩, .slice none 0 0, .slice none 0 0]) := by
  have e : flo F64 (n + 1) v = .mk 4 false 0 (F64 v.i) ⟨#[]⟩ [] [] := by rw [flo_eq, if_pos HKd.out]
  unfold MlfPost; rw [e]; exact ⟨none, 0, none, 0, rfl, ⟨Or.inl rfl, Or.inl rfl⟩, HK1.out.over hE (by have := HBs.out; simp; omega)⟩
 have HPo := hid hpost; have HEh := hid hEh; clear hE hEh hpost; go_wp2_with (refine wpList_store_row rfl 26 _ _ rfl rb #[.int .i64 4, .bool false, .int .i64 0, .float .f64 (F64 v.i), .string ⟨#[]⟩, .slice none 0 0, .slice none 0 0] ?_ ?_ 26 #[.int .i64 0, .bool false, .int .i64 0, .float .f64 0, .string ⟨#[]⟩, .slice none 0 0, .slice none 0 0] ?_ ?_ ?_ ?_ ?_; go_must (rfl); go_must (rfl); go_must (exact HR0.out); go_must (kernel_rfl); go_must (rfl); go_must (simp [Value.oneCell']))
 refine bodyPost_ret (results_cell_row rfl _ _ rb 26 _ (0, 0) _ rfl HEh.out Tryz.underlying26 rfl (by kernel_rfl)) rfl ?_; exact HPo.out
set_option maxRecDepth 100000 in
set_option maxHeartbeats 2000000 in
theorem mlf_step (n : Nat) (IH : MlfDoes n) (F0 : Nat → Prop) (m : Nat) (w0 w : World) (v : JV) (kp lp : Option Addr) (kc lc : Nat) (hd : DeepF (n + 1) F0 w0 v kp lp) (hF0 : ∀ g, F0 g → g < w0.heap.size) (hF : Fits (m + 1) v) (hk0 : Kp [] w0 w) (hk : v.kind ≠ 2) :
  Calls Tryz.prog 12 #[valOf v kp kc lp lc] w (MlfPost (n + 1) F0 w v) := by
 obtain ⟨hks0, hdl⟩ := hd; obtain ⟨⟨_, _, _, _, hkslen, hllen, _⟩, hft⟩ := hF; have hb0 : BxAt ((w.alloc (.cells #[.int .i64 v.kind, .bool v.b, .int .i64 v.i, .float .f64 v.f, .string v.t, .slice kp v.ks.length kc, .slice lp v.l.length lc] 26)).alloc (.cells #[.int .i64 0, .bool false, .int .i64 0, .float .f64 0, .string ⟨#[]⟩, .slice none 0 0, .slice none 0 0] 26)) w.heap.size v kp kc lp lc := (bxAt_fresh w v kp kc lp lc).keep (S := []) ((Kp.refl _ _).alloc _) (by simp)
 have hr0 : ((w.alloc (.cells #[.int .i64 v.kind, .bool v.b, .int .i64 v.i, .float .f64 v.f, .string v.t, .slice kp v.ks.length kc, .slice lp v.l.length lc] 26)).alloc (.cells #[.int .i64 0, .bool false, .int .i64 0, .float .f64 0, .string ⟨#[]⟩, .slice none 0 0, .slice none 0 0] 26)).heap[w.heap.size + 1]? = some (.cells #[.int .i64 0, .bool false, .int .i64 0, .float .f64 0, .string ⟨#[]⟩, .slice none 0 0, .slice none 0 0] 26 (0, 0)) := heap_alloc2_new _ _ _; have hk1 : Kp [] w ((w.alloc (.cells #[.int .i64 v.kind, .bool v.b, .int .i64 v.i, .float .f64 v.f, .string v.t, .slice kp v.ks.length kc, .slice lp v.l.length lc] 26)).alloc (.cells #[.int .i64 0, .bool false, .int .i64 0, .float .f64 0, .string ⟨#[]⟩, .slice none 0 0, .slice none 0 0] 26)) := ((Kp.refl _ _).alloc _).alloc _
 have hs1 : ((w.alloc (.cells #[.int .i64 v.kind, .bool v.b, .int .i64 v.i, .float .f64 v.f, .string v.t, .slice kp v.ks.length kc, .slice lp v.l.length lc] 26)).alloc (.cells #[.int .i64 0, .bool false, .int .i64 0, .float .f64 0, .string ⟨#[]⟩, .slice none 0 0, .slice none 0 0] 26)).heap.size = w.heap.size + 1 + 1 := by simp
 have s0 := hk0.size; have k2 : (v.kind == 2) = false := by simpa using hk
 have HKd := hid hk; have HDl := hid hdl; have HKs := hid hks0; have HFt := hid hft; have HIH := hid IH; have HK0 := hid hk0; have HF0 := hid hF0; clear hks0 hdl hft IH hk0 hF0 hk; unfold valOf; go_enter Tryz.func12, Tryz.ntmps12
 go_upto_region 1 with fail
 generalize hW : World.alloc _ _ = w1 at *; clear hW; generalize hb : w.heap.size = bx at *; generalize hrb : bx + 1 = rb at *; have HBs := hid (show w.heap.size = bx ∧ bx + 1 = rb ∧ w1.heap.size = rb + 1 by omega); have HB0 := hid hb0; have HR0 := hid hr0; have HK1 := hid hk1; clear hb0 hr0 hk1 hs1 hb hrb; have HS0 := hid (show w0.heap.size ≤ bx by have := HBs.out; omega); clear s0; have b0 := HB0.out.c0; have b6 := HB0.out.c6; have f6 : w1.frozen? ⟨bx, 6, none⟩ = false := by simp [World.frozen?, show w1.heap[bx]? = _ from HB0.out]
 have hst : VG (fun g => F0 g ∨ w1.heap.size ≤ g) n w1 bx v (.slice kp v.ks.length kc) (.slice none 0 0) (v.l.map (flo F64 n)) 0 (.slice none 0 0) [] (w1.setCell ⟨bx, 6, none⟩ (.slice none 0 0)) := by
  have hbs := HBs.out; refine ⟨blk_setCell HB0.out _, VRow.nil _ _ _ _ _, (Kp.refl _ _).setCell (Or.inl (by simp)) _, by omega, ?_⟩
  rintro (h | h)
  · have := HF0.out _ h; have := HS0.out; omega
  · omega
 have HSt := hid hst; clear hst; go_wp2_with fail
 generalize hw2 : World.setCell _ _ _ = w2 at *; clear hw2; go_loopw [5, 18] (fun _ s18 wx => ∃ (i : Nat) (p : Option Addr) (q c : Nat) (xs : List Value), s18 = .int .i64 (i : Int) ∧ i ≤ v.l.length ∧ VG (fun g => F0 g ∨ w1.heap.size ≤ g) n w1 bx v (.slice kp v.ks.length kc) (.slice p q c) (v.l.map (flo F64 n)) i (.slice p q c) xs wx) (fun _ s18 _ => v.l.length - (intOf s18).toNat)
 case atStart => exact ⟨0, none, 0, 0, [], rfl, Nat.zero_le _, HSt.out⟩
 case round =>
  obtain ⟨i, p, q, c, xs, rfl, hi, hI⟩ := hrel; have HI := hid hI; have hkw : Kp [] w wr := by
   have := HBs.out; exact HK1.out.over hI.kp' (by simp; omega)
  have HKw := hid hkw; clear hI HSt hkw b0 b6 f6; by_cases hil : i < v.l.length
  ·
   have q1 : decide ((i : Int) < (v.l.length : Int)) = true := by rw [decide_eq_true_eq]; omega
   rcases HDl.out with h0 | ⟨g, o, hlp, hFg, hg, hcs⟩
   · rw [h0] at hil; simp at hil
   obtain ⟨kp', kc', lp', lc', ⟨a0, a1, a2, a3, a4, a5, a6⟩, hdeep⟩ := hcs i hil; have hkw : Kp [] w0 wr := HK0.out.trans HKw.out; have d0 := cell_kp a0 hkw; have d1 := cell_kp a1 hkw; have d2 := cell_kp a2 hkw; have d3 := cell_kp a3 hkw; have d4 := cell_kp a4 hkw; have d5 := cell_kp a5 hkw; have d6 := cell_kp a6 hkw; have HDeep := hid hdeep; have HKw0 := hid hkw; clear a0 a1 a2 a3 a4 a5 a6 hcs hdeep hkw hFg; subst hlp; obtain ⟨x, hx⟩ : ∃ x, x = v.l[i] := ⟨_, rfl⟩; have HX := hid hx; rw [← hx] at d0 d1 d2 d3 d4 d5 d6 HDeep; clear hx
   go_upto_region 8 with (refine wpList_store_row rfl 26 _ _ rfl wr.heap.size #[.int .i64 x.kind, .bool x.b, .int .i64 x.i, .float .f64 x.f, .string x.t, .slice kp' x.ks.length kc', .slice lp' x.l.length lc'] ?_ ?_ 26 #[.int .i64 0, .bool false, .int .i64 0, .float .f64 0, .string ⟨#[]⟩, .slice none 0 0, .slice none 0 0] ?_ ?_ ?_ ?_ ?_; go_must (rfl); go_must (rfl); go_must (exact heap_alloc_new _ _); go_must (kernel_rfl); go_must (rfl); go_must (simp [Value.oneCell']))
   have hcopy := copy_kp' wr #[.int .i64 x.kind, .bool x.b, .int .i64 x.i, .float .f64 x.f, .string x.t, .slice kp' x.ks.length kc', .slice lp' x.l.length lc'] #[.int .i64 0, .bool false, .int .i64 0, .float .f64 0, .string ⟨#[]⟩, .slice none 0 0, .slice none 0 0]; have hbx2 : BxAt ((wr.alloc (.cells #[.int .i64 0, .bool false, .int .i64 0, .float .f64 0, .string ⟨#[]⟩, .slice none 0 0, .slice none 0 0] 26)).setRow wr.heap.size #[.int .i64 x.kind, .bool x.b, .int .i64 x.i, .float .f64 x.f, .string x.t, .slice kp' x.ks.length kc', .slice lp' x.l.length lc']) wr.heap.size x kp' kc' lp' lc' := setRow_heap _ _ _ _ 26 _ (heap_alloc_new _ _); generalize hW : World.setRow _ _ _ = w3 at *; generalize hxb : wr.heap.size = xb at *; have HXb := hid hxb; have HCp := hid hcopy.drew; have HX0 := hid (show BxAt w3.drew xb x kp' kc' lp' lc' from hbx2); have HV3 := hid (HI.out.kp hcopy.drew)
   have hc := HIH.out F0 m w0 w3.drew x kp' lp' kc' lc' HDeep.out HF0.out (by rw [HX.out]; exact HFt.out _ (List.getElem_mem hil)) (HKw0.out.trans hcopy.drew); unfold valOf at hc; have HC := hid hc; have hil63 : (i : Int) + 1 ≤ 3000000 := by omega
   clear d0 d1 d2 d3 d4 d5 d6 hW hcopy hbx2 hc hxb; refine region_T (fun w' => w'.cell? ⟨xb, 0, none⟩ = some (.int .i64 x.kind) ∧ w'.cell? ⟨xb, 1, none⟩ = some (.bool x.b) ∧ w'.cell? ⟨xb, 2, none⟩ = some (.int .i64 x.i) ∧ w'.cell? ⟨xb, 3, none⟩ = some (.float .f64 x.f) ∧ w'.cell? ⟨xb, 4, none⟩ = some (.string x.t) ∧ w'.cell? ⟨xb, 5, none⟩ = some (.slice kp' x.ks.length kc') ∧ w'.cell? ⟨xb, 6, none⟩ = some (.slice lp' x.l.length lc')) (fun w' => w'.cell? ⟨bx, 6, none⟩ = some (.slice p q c)) [7] (by kernel_rfl) ?_; refine AnyT.take0 (i := 0) (v := ?v0_1) rfl (by kernel_rfl) (fun _ _ _ h => h) (Or.inl ⟨by rfl, ?hy0_1⟩) ⟨HX0.out.c0, HX0.out.c1, HX0.out.c2, HX0.out.c3, HX0.out.c4, HX0.out.c5, HX0.out.c6⟩ (fun _ => HV3.out.c6) ?_
   case hy0_1 => intro w'' hS''; (try dsimp only at hS''); go_split_ands; go_simp; try (with_reducible rfl)
   (try simp only [Act.put, List.setIfInBounds_toArray, List.set_cons_zero, List.set_cons_succ]); refine AnyT.take (i := 1) (v := ?v1_2) rfl (by kernel_rfl) (fun _ _ _ h => h) (Or.inl ⟨by rfl, ?hy1_2⟩) ⟨HX0.out.c0, HX0.out.c1, HX0.out.c2, HX0.out.c3, HX0.out.c4, HX0.out.c5, HX0.out.c6⟩ HV3.out.c6 ?_
   case hy1_2 => intro w'' hS''; (try dsimp only at hS''); go_split_ands; go_simp; try (with_reducible rfl)
   (try simp only [Act.put, List.setIfInBounds_toArray, List.set_cons_zero, List.set_cons_succ]); refine AnyT.take0 (i := 2) (v := ?v2_3) rfl (by kernel_rfl) (fun _ _ _ h => h) (Or.inl ⟨by rfl, ?hy2_3⟩) ⟨HX0.out.c0, HX0.out.c1, HX0.out.c2, HX0.out.c3, HX0.out.c4, HX0.out.c5, HX0.out.c6⟩ (fun _ => HV3.out.c6) ?_
   case hy2_3 => intro w'' hS''; (try dsimp only at hS''); go_split_ands; go_simp; try (with_reducible rfl)
   (try simp only [Act.put, List.setIfInBounds_toArray, List.set_cons_zero, List.set_cons_succ]); refine AnyT.ready (rs := [3]) (by kernel_rfl) (by simp) (AllT.cons rfl (fun K hK => ?_) AllT.nil); go_simp; go_at_call 12
   refine HC.out.mono ?_
   rintro e7 w4 ⟨kp2, kc2, lp2, lc2, he, hd4, hk4⟩
   obtain ⟨y, hy⟩ : ∃ y, y = flo F64 n x := ⟨_, rfl⟩; rw [← hy] at he hd4; have HY := hid hy; unfold valOf at he; subst he; clear hy HC; have HX4 := hid (HX0.out.keep hk4 (by simp)); have HV4 := hid (HV3.out.kp hk4); have hdx : DeepF n (Fx (fun g => F0 g ∨ w1.heap.size ≤ g) w4 (.slice p q c)) w4 y kp2 lp2 := by
    refine hd4.keep (Nat.le_refl _) ?_; intro g hg hgs; have s3 := HCp.out.size; have hxb := HXb.out; have sI := HI.out.kp'.size; have hlo := fun e => HI.out.row.own.lt g e
    have hS := HS0.out; have hbs := HBs.out; refine ⟨⟨hgs, fun e => ?_, ?_⟩, rfl⟩
    · have := hlo e.symm
      rcases hg with hg | hg
      · have := HF0.out _ hg; omega
      · have := hg.1; omega
    · rcases hg with hg | hg
      · exact Or.inl hg
      · exact Or.inr (by have := hg.1; omega)
   have HDx := hid hdx; clear hdx hd4 hk4; refine hK.out _ _ ⟨HX4.out.c0, HX4.out.c1, HX4.out.c2, HX4.out.c3, HX4.out.c4, HX4.out.c5, HX4.out.c6⟩ (fun _ => HV4.out.c6) ?_; clear hK K; refine AnyT.ready (rs := [4]) (by kernel_rfl) (by simp) (AllT.cons rfl (fun K hK => ?_) AllT.nil); go_simp; have hil2 : i < (v.l.map (flo F64 n)).length := by rw [List.length_map]; exact hil
   have hyl : y = (v.l.map (flo F64 n))[i] := by rw [List.getElem_map, HY.out, HX.out]
   have HYl := hid hyl; clear hyl; have HX5 := hid (HX4.out.keep ((Kp.refl [] w4).alloc (.cells #[.int .i64 y.kind, .bool y.b, .int .i64 y.i, .float .f64 y.f, .string y.t, .slice kp2 y.ks.length kc2, .slice lp2 y.l.length lc2] 26)) (by simp)); have HV5 := hid (HV4.out.kp ((Kp.refl [] w4).alloc (.cells #[.int .i64 y.kind, .bool y.b, .int .i64 y.i, .float .f64 y.f, .string y.t, .slice kp2 y.ks.length kc2, .slice lp2 y.l.length lc2] 26))); refine hK.out _ _ ⟨HX5.out.c0, HX5.out.c1, HX5.out.c2, HX5.out.c3, HX5.out.c4, HX5.out.c5, HX5.out.c6⟩ (fun _ => HV5.out.c6) ?_; clear hK K; refine AnyT.ready (rs := [5]) (by kernel_rfl) (by simp) (AllT.cons rfl (fun K hK => ?_) AllT.nil); refine step_vg rfl _ _ rfl (by simp [Act.eval, Act.put]) HV4.out _ _ rfl kp2 kc2 lp2 lc2 hil2 y HYl.out rfl 1 (by simp [Act.eval, Act.put]) HDx.out (by omega) ?_; intro p5 n5 c5 w5 hv5 hb5
   have HV6 := hid hv5; have hx6 : BxAt w5 xb x kp' kc' lp' lc' := by
    have h4 := HX4.out.lt; have e := HXb.out; have hlo := fun e => HI.out.row.own.lt xb e
    unfold BxAt; rw [hb5 xb h4 (fun e => by have := hlo e.symm; omega)]; exact HX4.out
   have hbxx : bx ≠ xb := by have := HXb.out; have := HI.out.lt; have := HI.out.kp'.size; omega
   have HX6 := hid hx6; have HX7 := hid (hx6.keep (((Kp.refl [bx] w5).setCell (p := ⟨bx, 6, none⟩) (Or.inl (by simp)) (.slice p5 n5 c5))) (by simp; omega)); have f6 := hv5.fr 6; have c6 := hv5.c6; clear hv5 hx6 hb5; refine hK.out _ _ ⟨HX6.out.c0, HX6.out.c1, HX6.out.c2, HX6.out.c3, HX6.out.c4, HX6.out.c5, HX6.out.c6⟩ (fun _ => HV6.out.c6) ?_; clear hK K; refine AnyT.take0 (i := 6) (v := ?v6_4) rfl (by kernel_rfl) (fun _ _ _ h => h) (Or.inl ⟨by rfl, ?hy6_4⟩) ⟨HX6.out.c0, HX6.out.c1, HX6.out.c2, HX6.out.c3, HX6.out.c4, HX6.out.c5, HX6.out.c6⟩ (fun _ => HV6.out.c6) ?_
   case hy6_4 => intro w'' hS''; (try dsimp only at hS''); go_split_ands; go_simp; try (with_reducible rfl)
   (try simp only [Act.put, List.setIfInBounds_toArray, List.set_cons_zero, List.set_cons_succ]); refine AnyT.ready (rs := [7]) (by kernel_rfl) (by simp) (AllT.cons rfl (fun K hK => ?_) AllT.nil); go_simp; refine hK.out _ _ ⟨HX7.out.c0, HX7.out.c1, HX7.out.c2, HX7.out.c3, HX7.out.c4, HX7.out.c5, HX7.out.c6⟩ (fun h => absurd (show false = true from h) (by decide)) ?_; clear hK K; refine AnyT.done (by kernel_rfl) ?_ _; refine NoPanic.normal ?_; have HV8 := hid HV6.out.store; go_wp2_with fail
   go_roundw
   case measure => simp [intOf]; omega
   case rel => exact ⟨i + 1, p5, n5, c5, _, by push_cast; rfl, by omega, HV8.out⟩
  ·
   obtain rfl : i = v.l.length := by omega
   have q1 : decide ((v.l.length : Int) < (v.l.length : Int)) = false := by simp
   have hbs := HBs.out; have hS := HS0.out; have sI := HI.out.kp'.size; have hrb2 : wr.heap[rb]? = some (.cells #[.int .i64 0, .bool false, .int .i64 0, .float .f64 0, .string ⟨#[]⟩, .slice none 0 0, .slice none 0 0] 26 (0, 0)) := by rw [HI.out.kp'.block rb (by omega) (by simp; omega)]; exact HR0.out
   have hE := kp_setRow wr rb #[.int .i64 v.kind, .bool v.b, .int .i64 v.i, .float .f64 v.f, .string v.t, .slice kp v.ks.length kc, .slice p q c]; have s5 := hE.size; have hEh : (wr.setRow rb #[.int .i64 v.kind, .bool v.b, .int .i64 v.i, .float .f64 v.f, .string v.t, .slice kp v.ks.length kc, .slice p q c]).heap[rb]? = some (.cells #[.int .i64 v.kind, .bool v.b, .int .i64 v.i, .float .f64 v.f, .string v.t, .slice kp v.ks.length kc, .slice p q c] 26 (0, 0)) := setRow_heap _ _ _ _ 26 _ hrb2; have hrow := HI.out.row.keep hE (by
    intro z hz; simp at hz; subst hz; refine ⟨fun e => ?_, ?_⟩
    · have := (HI.out.row.own.lt z e.symm).1; omega
    · rintro (h | h)
      · have := HF0.out _ h; omega
      · omega)
   rw [show VRow (fun g => F0 g ∨ w1.heap.size ≤ g) n w1.heap.size (v.l.map (flo F64 n)) v.l.length = VRow (fun g => F0 g ∨ w1.heap.size ≤ g) n w1.heap.size (v.l.map (flo F64 n)) (v.l.map (flo F64 n)).length by rw [List.length_map]] at hrow; obtain ⟨lp2, lc2, hlv, hlist⟩ := hrow.done (F := fun g => F0 g ∨ Made w (wr.setRow rb #[.int .i64 v.kind, .bool v.b, .int .i64 v.i, .float .f64 v.f, .string v.t, .slice kp v.ks.length kc, .slice p q c]) g) (fun g h1 h2 => h1.elim Or.inl (fun h => Or.inr ⟨by omega, h2⟩)) (fun g h1 h2 => Or.inr ⟨by omega, h2⟩); have hkE : Kp [] w (wr.setRow rb #[.int .i64 v.kind, .bool v.b, .int .i64 v.i, .float .f64 v.f, .string v.t, .slice kp v.ks.length kc, .slice p q c]) := HKw.out.over hE (by simp; omega)
   have hpost : MlfPost (n + 1) F0 w v (.returned (.agg #[.int .i64 v.kind, .bool v.b, .int .i64 v.i, .float .f64 v.f, .string v.t, .slice kp v.ks.length kc, .slice p q c])) (wr.setRow rb #[.int .i64 v.kind, .bool v.b, .int .i64 v.i, .float .f64 v.f, .string v.t, .slice kp v.ks.length kc, .slice p q c]) := by
    have e : flo F64 (n + 1) v = .mk v.kind v.b v.i v.f v.t v.ks (v.l.map (flo F64 n)) := by rw [flo_eq, if_neg HKd.out]
    unfold MlfPost; rw [e]; refine ⟨kp, kc, lp2, lc2, ?_, ⟨?_, hlist⟩, hkE⟩
    · rw [hlv]; rfl
    · have hk00 := HK0.out.trans hkE
      exact HKs.out.keep hk00.size fun g h1 h2 => ⟨Or.inl h1, hk00.block g h2 (by simp)⟩
   have HPo := hid hpost; have HEh := hid hEh; have HRb2 := hid hrb2; have HBk := hid HI.out.blk; clear hbs hS sI hrb2 hE s5 hEh hrow hlv hlist hkE hpost; go_wp2_with (first | (refine wpList_load_row rfl 26 _ rfl bx rfl 26 _ (0, 0) _ HBk.out Tryz.underlying26 rfl (by kernel_rfl) ?_) | (refine wpList_store_row rfl 26 _ _ rfl rb #[.int .i64 v.kind, .bool v.b, .int .i64 v.i, .float .f64 v.f, .string v.t, .slice kp v.ks.length kc, .slice p q c] ?_ ?_ 26 #[.int .i64 0, .bool false, .int .i64 0, .float .f64 0, .string ⟨#[]⟩, .slice none 0 0, .slice none 0 0] ?_ ?_ ?_ ?_ ?_; go_must (rfl); go_must (rfl); go_must (exact HRb2.out); go_must (kernel_rfl); go_must (rfl); go_must (simp [Value.oneCell'])))
   refine bodyPost_ret (results_cell_row rfl _ _ rb 26 _ (0, 0) _ rfl HEh.out Tryz.underlying26 rfl (by kernel_rfl)) rfl ?_; exact HPo.out
theorem mlf_does : ∀ n, MlfDoes n
 | 0 => fun _ _ _ _ _ _ _ _ _ h => h.elim
 | n + 1 => by
  intro F0 m w0 w v kp lp kc lc hd hF0 hF hk0; obtain ⟨m, rfl⟩ : ∃ m', m = m' + 1 := by
   cases m with
   | zero => exact hF.elim
   | succ m => exact ⟨m, rfl⟩
  by_cases hk : v.kind = 2
  · exact mlf_int n F0 w v kp lp kc lc hk
  · exact mlf_step n (mlf_does n) F0 m w0 w v kp lp kc lc hd hF0 hF hk0 hk
end
end Go.Proofs.YtljaoopfomcaoaaGreatDoor
