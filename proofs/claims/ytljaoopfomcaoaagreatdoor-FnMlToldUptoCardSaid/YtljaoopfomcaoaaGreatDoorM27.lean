import Derived.Test.YtljaoopfomcaoaaGreatDoorRows
import Derived.SliceStrings
import Derived.ProofKit
import Derived.Lib.LaidIn
import Derived.Lib.LaidU8
import Derived.Test.YtljaoopfomcaoaaGreatDoorM04
import Derived.Test.YtljaoopfomcaoaaGreatDoorM26
set_option linter.all false
namespace Go.Proofs.YtljaoopfomcaoaaGreatDoor
section
open Go.ChangeShapes Go.WideShapes Go.ChangeAt Go.RowKit
set_option maxRecDepth 100000
section
variable {H : Type} {enc' : TypeId × Value → H}
theorem cells26 : Tryz.prog.cellsOf 26 = 7 := by kernel_rfl
theorem cells22 : Tryz.prog.cellsOf 22 = 1 := by kernel_rfl
theorem cells23 : Tryz.prog.cellsOf 23 = 1 := by kernel_rfl
theorem cells24 : Tryz.prog.cellsOf 24 = 1 := by kernel_rfl
theorem cells2 : Tryz.prog.cellsOf 2 = 1 := by kernel_rfl
theorem cells3 : Tryz.prog.cellsOf 3 = 1 := by kernel_rfl
theorem cells4 : Tryz.prog.cellsOf 4 = 1 := by kernel_rfl
theorem cells5 : Tryz.prog.cellsOf 5 = 1 := by kernel_rfl
theorem cells9 : Tryz.prog.cellsOf 9 = 1 := by kernel_rfl
theorem trod_f64 {P : Program} {w : World} {base fuel : Nat} {sp : Nat → Bool} {held : Bool} {t : TypeId} {cs : List Value} {x : DataW H × List MemPlace} (ht : P.underlying t = some (.float .f64)) (h : DataW.trod enc' P w base sp held fuel t cs = some x) :
  ∃ b, cs = [.float .f64 b] ∧ x = (.lit (.float .f64 b), []) ∧ b < 18446744073709551616 := by
 cases fuel with
 | zero => simp [DataW.trod] at h
 | succ n =>
  unfold DataW.trod at h; rw [ht] at h
  split at h <;> simp_all
  rename_i e
  subst e; obtain ⟨⟨rfl, hw⟩, hx⟩ := h; simpa [Lit.wf] using hw
theorem add_none (b o j : Nat) : (⟨b, o, none⟩ : Addr).add j = ⟨b, o + j, none⟩ := by
 by_cases h : j = 0 <;> simp [Addr.add, h]
theorem exists_list {α : Type} {Q : Nat → α → Prop} : ∀ n : Nat, (∀ i, i < n → ∃ x, Q i x) → ∃ xs : List α, xs.length = n ∧ ∀ i (h : i < xs.length), Q i xs[i]
 | 0, _ => ⟨[], rfl, fun i h => absurd h (Nat.not_lt_zero i)⟩
 | n + 1, hn => by
  obtain ⟨xs, h1, h2⟩ := exists_list n fun i hi => hn i (by omega)
  obtain ⟨x, hx⟩ := hn n (by omega); refine ⟨xs ++ [x], by simp [h1], fun i hi => ?_⟩; by_cases hin : i < xs.length
  · rw [List.getElem_append_left hin]; exact h2 i hin
  ·
   have hi' : i < xs.length + 1 := by simpa using hi
   have e : i = xs.length := by omega
   subst e; rw [List.getElem_append_right (Nat.le_refl _)]; simp only [Nat.sub_self, List.getElem_cons_zero]; rw [h1]; exact hx
theorem bulk_one (d : DataW H) : 1 ≤ Rows.uptoBulk d := by
 cases d with
 | lit l => cases l <;> simp [Rows.uptoBulk]
 | _ => simp [Rows.uptoBulk]
theorem bulk_len (l : List (DataW H)) : l.length ≤ Rows.uptoBulkAll l := by
 induction l with
 | nil => simp [Rows.uptoBulkAll]
 | cons x r ih => have := bulk_one x; simp only [Rows.uptoBulkAll, List.length_cons]; omega
theorem bulk_strs (l : List ByteArray) : Rows.uptoBulkAll (strs (H := H) l) = (l.map fun k => k.size + 1).sum := by
 induction l with
 | nil => rfl
 | cons x r ih =>
  show Rows.uptoBulk (DataW.lit (H := H) (.string x.data.toList)) + Rows.uptoBulkAll (strs r) = _
  rw [ih]; have e : x.data.toList.length = x.size := by rw [Array.length_toList]; rfl
  simp only [Rows.uptoBulk, List.map_cons, List.sum_cons, e]
theorem sum_le_bulk {f : JV → Nat} : ∀ (vs : List JV) (ds : List (DataW H)), vs.length = ds.length → (∀ i (h : i < vs.length) (h' : i < ds.length), f vs[i] ≤ 78 * Rows.uptoBulk ds[i]) → (vs.map f).sum ≤ 78 * Rows.uptoBulkAll ds
 | [], _, _, _ => by simp
 | v :: vs, [], h, _ => by simp at h
 | v :: vs, d :: ds, h, hp => by
  have h0 := hp 0 (by simp) (by simp); have ht := sum_le_bulk vs ds (by simpa using h) fun i h1 h2 => by
   have := hp (i + 1) (by simp; omega) (by simp; omega); simpa using this
  simp only [List.getElem_cons_zero] at h0; simp only [List.map_cons, List.sum_cons, Rows.uptoBulkAll]; omega
theorem keys_sum (ks : List ByteArray) : (ks.map fun k => 20 + 12 * k.size).sum ≤ 78 * (ks.map fun k => k.size + 1).sum := by
 induction ks with
 | nil => simp
 | cons x r ih => simp only [List.map_cons, List.sum_cons]; omega
theorem keys_len (ks : List ByteArray) : ks.length ≤ (ks.map fun k => k.size + 1).sum := by
 induction ks with
 | nil => simp
 | cons x r ih => simp only [List.map_cons, List.sum_cons, List.length_cons]; omega
theorem fits_up : ∀ {n m : Nat} {v : JV}, n ≤ m → Fits n v → Fits m v
 | 0, _, _, _, h => h.elim
 | n + 1, 0, _, hm, _ => absurd hm (by omega)
 | n + 1, m + 1, v, hm, ⟨h1, h2⟩ => ⟨h1, fun x hx => fits_up (by omega) (h2 x hx)⟩
theorem key_le {ks : List ByteArray} {q : ByteArray} (h : q ∈ ks) : q.size + 1 ≤ (ks.map fun k => k.size + 1).sum := by
 induction ks with
 | nil => cases h
 | cons x r ih =>
  simp only [List.map_cons, List.sum_cons]; rcases List.mem_cons.1 h with e | e
  · subst e; omega
  · have := ih e; omega
theorem bulk_get (ds : List (DataW H)) (i : Nat) (h : i < ds.length) : Rows.uptoBulk ds[i] ≤ Rows.uptoBulkAll ds := by
 induction ds generalizing i with
 | nil => simp at h
 | cons x r ih =>
  cases i with
  | zero => simp only [List.getElem_cons_zero, Rows.uptoBulkAll]; omega
  | succ i => simp only [List.getElem_cons_succ, Rows.uptoBulkAll]; have := ih i (by simpa using h); omega
theorem keys_of {W : World} {n : Nat} {c : Value} {y : DataW H × List MemPlace} (h : DataW.trod enc' Tryz.prog W 0 (fun _ => true) true n 23 [c] = some y) :
  ∃ (ks : List ByteArray) (kp : Option Addr) (kc : Nat), c = .slice kp ks.length kc ∧ StrsAt W kp ks ∧ 1 + (ks.map fun k => k.size + 1).sum ≤ Rows.uptoBulk y.1 := by
 rcases open_strings Tryz.underlying23 Tryz.underlying9 cells9 h with ⟨hcs, rfl⟩ | ⟨a, len, cap, ss, hcs, _, hl, _, hz, rfl, hcell, _⟩
 · simp only [List.cons.injEq, and_true] at hcs
   exact ⟨[], none, 0, hcs, Or.inl rfl, by simp [Rows.uptoBulk]⟩
 ·
  simp only [if_true] at hz; simp only [List.cons.injEq, and_true] at hcs; have hlen : (ss.take len).length = len := by simp; omega
  refine ⟨ss.take len, some a, cap, by rw [hlen]; exact hcs, ?_, ?_⟩
  ·
   rcases Nat.eq_zero_or_pos len with h0 | h0
   · subst h0; exact Or.inl rfl
   ·
    obtain ⟨b, off, spot⟩ := a; have hspot : spot = none := by simpa [Addr.add] using World.cell?_spot (hcell 0 (by omega))
    subst hspot; refine Or.inr ⟨b, off, rfl, fun i hi => ?_⟩; have hi' : i < len := by omega
    have hs : i < ss.length := by omega
    have := hcell i hs; rw [add_none] at this; rw [this, List.getElem_take]; simp [List.getD, hs]
  · simp only [Rows.uptoBulk, bulk_strs]
    omega
theorem tree_of (fuel : Nat) : ∀ (W : World) (cs : List Value) (x : DataW H × List MemPlace), DataW.trod enc' Tryz.prog W 0 (fun _ => true) true fuel 26 cs = some x → Rows.uptoBulk x.1 ≤ 1048576 →
  ∃ (v : JV) (kp : Option Addr) (kc : Nat) (lp : Option Addr) (lc : Nat), cs = [.int .i64 v.kind, .bool v.b, .int .i64 v.i, .float .f64 v.f, .string v.t, .slice kp v.ks.length kc, .slice lp v.l.length lc] ∧
   Deep fuel W v kp lp ∧ Fits fuel v ∧ ∀ k, 20 + wt k v ≤ 78 * Rows.uptoBulk x.1 := by
 induction fuel using Nat.strongRecOn with
 | ind fuel ih =>
  intro W cs x h hb; obtain ⟨xs, n, rfl, rfl, hl, hxl, hall⟩ := DataW.trod_struct Tryz.underlying26 h; rw [cells26] at hl; obtain ⟨c0, c1, c2, c3, c4, c5, c6, rfl⟩ : ∃ c0 c1 c2 c3 c4 c5 c6, cs = [c0, c1, c2, c3, c4, c5, c6] := by
   match cs, hl with
   | [c0, c1, c2, c3, c4, c5, c6], _ => exact ⟨c0, c1, c2, c3, c4, c5, c6, rfl⟩
  obtain ⟨y0, y1, y2, y3, y4, y5, y6, rfl⟩ : ∃ y0 y1 y2 y3 y4 y5 y6, xs = [y0, y1, y2, y3, y4, y5, y6] := by
   match xs, hxl with
   | [c0, c1, c2, c3, c4, c5, c6], _ => exact ⟨c0, c1, c2, c3, c4, c5, c6, rfl⟩
  have f0 : DataW.trod enc' Tryz.prog W 0 (fun _ => true) true n 3 (List.take (Tryz.prog.cellsOf 3) [c0, c1, c2, c3, c4, c5, c6]) = some y0 := hall 0 _ rfl; have f1 : DataW.trod enc' Tryz.prog W 0 (fun _ => true) true n 4 (List.take (Tryz.prog.cellsOf 4) [c1, c2, c3, c4, c5, c6]) = some y1 := hall 1 _ rfl; have f2 : DataW.trod enc' Tryz.prog W 0 (fun _ => true) true n 2 (List.take (Tryz.prog.cellsOf 2) [c2, c3, c4, c5, c6]) = some y2 := hall 2 _ rfl; have f3 : DataW.trod enc' Tryz.prog W 0 (fun _ => true) true n 22 (List.take (Tryz.prog.cellsOf 22) [c3, c4, c5, c6]) = some y3 := hall 3 _ rfl; have f4 : DataW.trod enc' Tryz.prog W 0 (fun _ => true) true n 9 (List.take (Tryz.prog.cellsOf 9) [c4, c5, c6]) = some y4 := hall 4 _ rfl; have f5 : DataW.trod enc' Tryz.prog W 0 (fun _ => true) true n 23 (List.take (Tryz.prog.cellsOf 23) [c5, c6]) = some y5 := hall 5 _ rfl
  have f6 : DataW.trod enc' Tryz.prog W 0 (fun _ => true) true n 24 (List.take (Tryz.prog.cellsOf 24) [c6]) = some y6 := hall 6 _ rfl; clear hall h; simp only [cells2, cells3, cells4, cells22, cells9, cells23, cells24, List.take_succ_cons, List.take_zero] at f0 f1 f2 f3 f4 f5 f6; obtain ⟨kind, e0, rfl, _⟩ := DataW.trod_int Tryz.underlying3 f0; obtain ⟨b, e1, rfl⟩ := DataW.trod_bool Tryz.underlying4 f1; obtain ⟨i, e2, rfl, wi⟩ := DataW.trod_int Tryz.underlying2 f2; obtain ⟨f, e3, rfl, wf⟩ := trod_f64 Tryz.underlying22 f3; obtain ⟨t, e4, rfl, _⟩ := DataW.trod_string Tryz.underlying9 f4; obtain ⟨ks, kp, kc, rfl, hks, bks⟩ := keys_of f5; simp only [List.cons.injEq, and_true] at e0 e1 e2 e3 e4; subst e0; subst e1; subst e2; subst e3; subst e4
  have hbulk : Rows.uptoBulk (DataW.agg (H := H) (List.map (·.1) [(DataW.lit (Lit.int .i64 kind), []), (DataW.lit (Lit.bool b), []), (DataW.lit (Lit.int .i64 i), []), (DataW.lit (Lit.float .f64 f), []), (DataW.lit (Lit.string t.data.toList), []), y5, y6])) = 6 + t.size + Rows.uptoBulk y5.1 + Rows.uptoBulk y6.1 := by
   have e : t.data.toList.length = t.size := by rw [Array.length_toList]; rfl
   simp only [Rows.uptoBulk, Rows.uptoBulkAll, List.map_cons, List.map_nil, e]; omega
  have hw : -9223372036854775808 ≤ i ∧ i ≤ 9223372036854775807 := by
   simp only [Lit.wf, Bool.and_eq_true, decide_eq_true_eq] at wi; exact wi
  rw [hbulk] at hb ⊢; clear hbulk f0 f1 f2 f3 f4 f5; have hkey : ∀ q ∈ ks, q.size ≤ 2000000 := fun q hq => by have := key_le hq; omega
  have hkl := keys_len ks; have hks2 := keys_sum ks
  suffices hs : ∃ (vs : List JV) (lp : Option Addr) (lc : Nat), c6 = .slice lp vs.length lc ∧ (vs = [] ∨ ∃ g o : Nat, lp = some ⟨g, o, none⟩ ∧ ∀ i (h : i < vs.length), ∃ kp' kc' lp' lc', At7 W g (o + i * 7) vs[i] kp' kc' lp' lc' ∧ Deep n W vs[i] kp' lp') ∧
    (∀ x ∈ vs, Fits n x) ∧ vs.length + 1 ≤ Rows.uptoBulk y6.1 ∧ ∀ k, 78 + (vs.map fun x => 20 + wt k x).sum ≤ 78 * Rows.uptoBulk y6.1 by
   obtain ⟨vs, lp, lc, rfl, h1, h2, h3, h4⟩ := hs; refine ⟨.mk kind b i f t ks vs, kp, kc, lp, lc, rfl, ⟨hks, h1⟩, ⟨⟨hw.1, hw.2, wf, ?_, ?_, ?_, hkey⟩, h2⟩, fun k => ?_⟩
   · show t.size ≤ _; omega
   · show ks.length ≤ _; omega
   · show vs.length ≤ _; omega
   ·
    cases k with
    | zero => rw [wt]; omega
    | succ k =>
     have h5 := h4 k; rw [wt_eq]
     show 20 + (600 + 12 * t.size + (ks.map fun k => 20 + 12 * k.size).sum + (vs.map fun x => 20 + wt k x).sum) ≤ _
     omega
  rcases DataW.trod_slice Tryz.underlying24 f6 with ⟨hcs, rfl⟩ | ⟨a, len, cap, elems, rest, m, _, hcs, rfl, _, hlc, _, hlen, hel, _, _⟩
  · simp only [List.cons.injEq, and_true] at hcs
    exact ⟨[], none, 0, hcs, Or.inl rfl, by simp, by simp [Rows.uptoBulk], by simp [Rows.uptoBulk]⟩
  ·
   simp only [List.cons.injEq, and_true] at hcs; obtain ⟨ab, ao, asp⟩ := a; have hsp0 : 0 < len → asp = none := fun h0 => by
    have h1 := hel 0 h0; rw [cells26, List.getElem?_eq_getElem (by omega), Option.bind_eq_some_iff] at h1; obtain ⟨cs', hc, hy⟩ := h1; obtain ⟨_, hl', hcell⟩ := World.cells?_some hc; have h2 := hcell 0 (by omega); rw [List.getElem?_eq_getElem (by omega)] at h2; simpa [Addr.add] using World.cell?_spot h2
   have each : ∀ i, i < len → ∃ v : JV, asp = none ∧ (∃ kp' kc' lp' lc', At7 W ab (ao + i * 7) v kp' kc' lp' lc' ∧ Deep n W v kp' lp') ∧ Fits n v ∧ ∃ hi : i < elems.length, ∀ k, 20 + wt k v ≤ 78 * Rows.uptoBulk elems[i].1 := by
    intro i hi; have hi' : i < elems.length := by omega
    have h1 := hel i hi; rw [cells26, List.getElem?_eq_getElem hi', Option.bind_eq_some_iff] at h1; obtain ⟨cs', hc, hy⟩ := h1; have hbi : Rows.uptoBulk elems[i].1 ≤ 1048576 := by
     have h2 := bulk_get (elems.map (·.1)) i (by simpa using hi')
     simp only [List.getElem_map] at h2; simp only [Rows.uptoBulk] at hb; omega
    obtain ⟨v, kp', kc', lp', lc', hcs', hd, hf, hw⟩ := ih m (by omega) W cs' _ hy hbi; obtain ⟨_, _, hcell⟩ := World.cells?_some hc; subst hcs'; have hspot := hsp0 (by omega); subst hspot; have cell : ∀ j, j < 7 → W.cell? ⟨ab, ao + i * 7 + j, none⟩ = [Value.int .i64 v.kind, .bool v.b, .int .i64 v.i, .float .f64 v.f, .string v.t, .slice kp' v.ks.length kc', .slice lp' v.l.length lc'][j]? := fun j hj => by
     have := hcell j hj; rw [add_none, add_none] at this; exact this
    exact ⟨v, rfl, ⟨kp', kc', lp', lc', ⟨cell 0 (by omega), cell 1 (by omega), cell 2 (by omega), cell 3 (by omega), cell 4 (by omega), cell 5 (by omega), cell 6 (by omega)⟩, hd.mono (by omega)⟩, fits_up (by omega) hf, hi', hw⟩
   obtain ⟨vs, hv1, hv2⟩ := exists_list len each; refine ⟨vs, some ⟨ab, ao, asp⟩, cap, by rw [hv1]; exact hcs, ?_, ?_, ?_, fun k => ?_⟩
   · rcases Nat.eq_zero_or_pos len with h0 | h0
     · exact Or.inl (List.length_eq_zero_iff.1 (hv1.trans h0))
     · have h1 := (hv2 0 (by omega)).1
       subst h1; exact Or.inr ⟨ab, ao, rfl, fun i hi => (hv2 i hi).2.1⟩
   · intro x hx
     obtain ⟨i, hi, rfl⟩ := List.getElem_of_mem hx; exact (hv2 i hi).2.2.1
   · have := bulk_len (elems.map (·.1))
     simp only [List.length_map] at this; simp only [Rows.uptoBulk]; omega
   · have h1 := sum_le_bulk (f := fun x => 20 + wt k x) vs (elems.map (·.1)) (by simp; omega) fun i h1 h2 => by
      obtain ⟨_, _, _, _, h5⟩ := hv2 i h1; simp only [List.getElem_map]; exact h5 k
     simp only [Rows.uptoBulk]; omega
end
end
section
open Go.ChangeShapes Go.WideShapes Go.ChangeAt Go.RowKit Go.Shelf Go.Lib
set_option maxRecDepth 100000
theorem firstEq : Rows.laid_unicode_utf8_first = Lib.firstData := by kernel_rfl
theorem acceptEq : Rows.laid_unicode_utf8_acceptRanges = Lib.acceptData := by kernel_rfl
theorem tenEq : Rows.laid_internal_strconv_uint64pow10 = Lib.tabData (H := Unit) .u64 Lib.pow10Tab := by kernel_rfl
theorem cells84 : Tryz.prog.cellsOf 84 = 1 := by kernel_rfl
theorem cells178 : Tryz.prog.cellsOf 178 = 20 := by kernel_rfl
theorem cells215 : Tryz.prog.cellsOf 215 = 2 := by kernel_rfl
theorem cells216 : Tryz.prog.cellsOf 216 = 1392 := by kernel_rfl
theorem cells70 : Tryz.prog.cellsOf 70 = 256 := by kernel_rfl
theorem cells72 : Tryz.prog.cellsOf 72 = 2 := by kernel_rfl
theorem gFst : Tryz.prog.globalNamed "unicode/utf8.first" = some 0 := by kernel_rfl
theorem gFstT : (Tryz.prog.globals[0]?).map (·.type) = some 70 := by kernel_rfl
theorem gAcc : Tryz.prog.globalNamed "unicode/utf8.acceptRanges" = some 1 := by kernel_rfl
theorem gAccT : (Tryz.prog.globals[1]?).map (·.type) = some 73 := by kernel_rfl
theorem gTen : Tryz.prog.globalNamed "internal/strconv.uint64pow10" = some 3 := by kernel_rfl
theorem gTenT : (Tryz.prog.globals[3]?).map (·.type) = some 178 := by kernel_rfl
theorem gPow : Tryz.prog.globalNamed "internal/strconv.pow10Tab" = some 4 := by kernel_rfl
theorem gPowT : (Tryz.prog.globals[4]?).map (·.type) = some 216 := by kernel_rfl
theorem powLen : Go.Pinned.pow10Rows.length = 696 := by decide +kernel
theorem met_of {W : World} (h : laidMetH Tryz.prog Rows.fnMlToldUptoRow.laid W) : laidMet Tryz.prog Rows.fnMlToldUptoRow.laid W := h
theorem size_of {W : World} (h : W.ShapedOpen Tryz.prog) : 11 ≤ W.heap.size := by
 have hs : 11 < (begin Tryz.prog (fun _ _ => 0) default).world.heap.size := of_decide_eq_true (by kernel_rfl); obtain ⟨o, _, h1, _⟩ := h.2 11 (of_decide_eq_true (by kernel_rfl)) hs; rcases Nat.lt_or_ge 11 W.heap.size with h' | h'
 · omega
 · rw [Array.getElem?_eq_none h'] at h1; cases h1
theorem env_of {W : World} (h : laidMet Tryz.prog Rows.fnMlToldUptoRow.laid W) (hs : 11 ≤ W.heap.size) : Env W := by
 refine ⟨hs, fun c hc => ?_, fun i hi => ?_⟩
 ·
  obtain ⟨g, t, cs, fuel, p, hg, hty, hvar, hd⟩ := laidMet.reads (n := "unicode/utf8.first") (d := Rows.laid_unicode_utf8_first) h (by simp [Rows.fnMlToldUptoRow]); obtain rfl := Option.some.inj (gFst.symm.trans hg); obtain rfl := Option.some.inj (gFstT.symm.trans hty); rw [firstEq] at hd; have hcs := cells_of_tab Tryz.underlying70 Tryz.underlying5 cells5 cells70 hd; have := World.var?_cell hg hvar c; rw [this, ← Array.getElem?_toList, hcs]; simp [firstTab, hc]
 ·
  obtain ⟨g, t, cs, fuel, p, hg, hty, hvar, hd⟩ := laidMet.reads (n := "unicode/utf8.acceptRanges") (d := Rows.laid_unicode_utf8_acceptRanges) h (by simp [Rows.fnMlToldUptoRow]); obtain rfl := Option.some.inj (gAcc.symm.trans hg); obtain rfl := Option.some.inj (gAccT.symm.trans hty); rw [acceptEq] at hd; obtain ⟨fuel', d, q, hdi, he⟩ := array_elem Tryz.underlying73 hd i hi; simp only [List.getElem?_map, List.getElem?_range hi, Option.map_some, Option.some.injEq] at hdi; subst hdi; rw [cells72] at he; have hcs := ints_of_struct Tryz.underlying72 (fun j f hj => by
   match j, hj with
   | 0, hj => simp at hj; subst hj; exact ⟨Tryz.underlying5, rfl, cells5⟩
   | 1, hj => simp at hj; subst hj; exact ⟨Tryz.underlying5, rfl, cells5⟩
   | j + 2, hj => simp at hj) (by rw [cells72]; rfl) he
  have e0 := congrArg (·[0]?) hcs
  have e1 := congrArg (·[1]?) hcs
  simp only [List.getElem?_take, List.getElem?_drop] at e0 e1; constructor
  · rw [World.var?_cell hg hvar (2 * i), ← Array.getElem?_toList]
    simpa [Nat.mul_comm] using e0
  · rw [World.var?_cell hg hvar (2 * i + 1), ← Array.getElem?_toList]
    simpa [Nat.mul_comm] using e1
theorem ten_of {W : World} (h : laidMet Tryz.prog Rows.fnMlToldUptoRow.laid W) : Lib.TabIs Tryz.prog W "internal/strconv.uint64pow10" .u64 Lib.pow10Tab := by
 obtain ⟨g, t, cs, fuel, p, hg, hty, hvar, hd⟩ := laidMet.reads (n := "internal/strconv.uint64pow10") (d := Rows.laid_internal_strconv_uint64pow10) h (by simp [Rows.fnMlToldUptoRow]); obtain rfl := Option.some.inj (gTen.symm.trans hg); obtain rfl := Option.some.inj (gTenT.symm.trans hty); rw [tenEq] at hd; unfold Lib.TabIs; rw [hvar, ← cells_of_tab Tryz.underlying178 Tryz.underlying84 cells84 cells178 hd]
theorem pow_of {W : World} (h : laidMet Tryz.prog Rows.fnMlToldUptoRow.laid W) : PowTab W := by
 obtain ⟨g, t, cs, fuel, p, hg, hty, hvar, hd⟩ := laidMet.reads (n := "internal/strconv.pow10Tab") (d := Rows.laid_internal_strconv_pow10Tab) h (by simp [Rows.fnMlToldUptoRow]); obtain rfl := Option.some.inj (gPow.symm.trans hg); obtain rfl := Option.some.inj (gPowT.symm.trans hty); have both : ∀ k, k < 696 → W.cell? ⟨4, 2 * k, none⟩ = some (.int .u64 ((Go.Pinned.pow10Rows.getD k (0, 0)).1 : Int)) ∧ W.cell? ⟨4, 2 * k + 1, none⟩ = some (.int .u64 ((Go.Pinned.pow10Rows.getD k (0, 0)).2 : Int)) := by
  intro k hk; obtain ⟨fuel', d, q, hdi, he⟩ := array_elem Tryz.underlying216 hd k hk; have hkl : k < Go.Pinned.pow10Rows.length := by rw [powLen]; exact hk
  rw [List.getElem?_map, List.getElem?_eq_getElem hkl, Option.map_some, Option.some.injEq] at hdi; have hrow : Go.Pinned.pow10Rows.getD k (0, 0) = Go.Pinned.pow10Rows[k] := by simp [List.getD, hkl]
  rw [hrow]; generalize Go.Pinned.pow10Rows[k] = r at hdi; subst hdi; rw [cells215] at he; have hcs := ints_of_struct (zs := [(r.1 : Int), (r.2 : Int)]) (k := .u64) Tryz.underlying215 (fun j f hj => by
   match j, hj with
   | 0, hj => simp at hj; subst hj; exact ⟨Tryz.underlying84, rfl, cells84⟩
   | 1, hj => simp at hj; subst hj; exact ⟨Tryz.underlying84, rfl, cells84⟩
   | j + 2, hj => simp at hj) (by rw [cells215]; rfl) he
  have e0 := congrArg (·[0]?) hcs
  have e1 := congrArg (·[1]?) hcs
  simp only [List.getElem?_take, List.getElem?_drop] at e0 e1; constructor
  · rw [World.var?_cell hg hvar (2 * k), ← Array.getElem?_toList]
    simpa [Nat.mul_comm] using e0
  · rw [World.var?_cell hg hvar (2 * k + 1), ← Array.getElem?_toList]
    simpa [Nat.mul_comm] using e1
 exact ⟨fun k hk => (both k hk).1, fun k hk => (both k hk).2⟩
end
end Go.Proofs.YtljaoopfomcaoaaGreatDoor
