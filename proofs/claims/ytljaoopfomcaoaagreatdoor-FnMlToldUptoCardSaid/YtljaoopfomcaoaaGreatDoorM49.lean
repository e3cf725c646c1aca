import Derived.Deep.DeepHandedRow
import Derived.Test.YtljaoopfomcaoaaGreatDoorM27
import Derived.Test.YtljaoopfomcaoaaGreatDoorM48
set_option linter.all false
namespace Go.Proofs.YtljaoopfomcaoaaGreatDoor
section
open Go.ChangeShapes Go.WideShapes Go.ChangeAt Go.RowKit
set_option maxRecDepth 100000
section
variable {H : Type} {enc' : TypeId × Value → H}
theorem laidOut : laidOutB Tryz.prog = true := by kernel_rfl
theorem open_table {W : World} {base : Nat} {v : Value} {d : DataW H} {p : List MemPlace} (hv : Value.okWide Tryz.prog W .any base 26 v) (h : DataW.Trod enc' Tryz.prog W 0 (fun _ => true) true 26 v d p) (hb : Rows.uptoBulk d ≤ 1048576) :
  ∃ (n : Nat) (t : JV) (kp : Option Addr) (kc : Nat) (lp : Option Addr) (lc : Nat), v = valOf t kp kc lp lc ∧ Deep n W t kp lp ∧ Fits n t ∧ ∀ k, wt k t ≤ 90000000 := by
 obtain ⟨cs, rfl, _⟩ := okWide_struct Tryz.underlying26 hv; obtain ⟨fuel, hf⟩ := h; obtain ⟨t, kp, kc, lp, lc, hcs, hd, hF, hw⟩ := tree_of fuel W _ _ hf hb; refine ⟨fuel, t, kp, kc, lp, lc, ?_, hd, hF, fun k => ?_⟩
 · have : cs.toList = [.int .i64 t.kind, .bool t.b, .int .i64 t.i, .float .f64 t.f, .string t.t, .slice kp t.ks.length kc, .slice lp t.l.length lc] := hcs
   have e : cs = #[.int .i64 t.kind, .bool t.b, .int .i64 t.i, .float .f64 t.f, .string t.t, .slice kp t.ks.length kc, .slice lp t.l.length lc] := by
    rw [← Array.toArray_toList (xs := cs), this]
   rw [e]; rfl
 · have := hw k
   simp only at this; omega
theorem open_bytes {W : World} {base : Nat} {v : Value} {d : DataW H} {p : List MemPlace} (hv : Value.okWide Tryz.prog W .any base 27 v) (h : DataW.Trod enc' Tryz.prog W 0 (fun _ => true) true 27 v d p) (hb : Rows.uptoBulk d ≤ 1048576) :
  ∃ (cp : Option Addr) (cn cc : Nat), v = .slice cp cn cc ∧ BytesAt W cp cn ∧ cn ≤ 2000000 ∧ cn ≤ cc := by
 obtain ⟨a, n, c, rfl⟩ := okWide_slice Tryz.underlying27 hv; obtain ⟨fuel, hf⟩ := h; refine ⟨a, n, c, rfl, ?_⟩; have hf' : DataW.trod enc' Tryz.prog W 0 (fun _ => true) true fuel 27 [.slice a n c] = some (d, p) := hf; rcases open_ints Tryz.underlying27 Tryz.underlying5 cells5 hf' with ⟨hcs, hx⟩ | ⟨a', len, cap, zs, hcs, _, hl, _, hz, hx, hcell, hwz⟩
 · simp only [List.cons.injEq, Value.slice.injEq, and_true] at hcs
   obtain ⟨rfl, rfl, rfl⟩ := hcs; exact ⟨fun i hi => absurd hi (Nat.not_lt_zero i), by omega, by omega⟩
 ·
  simp only [List.cons.injEq, Value.slice.injEq, and_true] at hcs; obtain ⟨rfl, rfl, rfl⟩ := hcs; simp only [if_true] at hz; simp only [Prod.mk.injEq] at hx; refine ⟨fun i hi => ?_, ?_, hl⟩
  ·
   obtain ⟨b, o, s⟩ := a'; have hs : s = none := by simpa [Addr.add] using World.cell?_spot (hcell 0 (by omega))
   subst hs; have h1 := hcell i (by omega); rw [add_none] at h1; have h2 := hwz (zs.getD i 0) (by rw [show zs.getD i 0 = zs[i]'(by omega) from by simp [List.getD, show i < zs.length from by omega]]; exact List.getElem_mem _); simp only [Lit.wf, Bool.and_eq_true, decide_eq_true_eq] at h2; obtain ⟨h3, h4⟩ := h2; have h3' : 0 ≤ zs.getD i 0 := h3; have h4' : zs.getD i 0 ≤ 255 := h4; refine ⟨b, o, (zs.getD i 0).toNat, rfl, by omega, ?_⟩; rw [h1, Int.toNat_of_nonneg h3']
  ·
   rw [hx.1] at hb; simp only [Rows.uptoBulk] at hb; have h5 := bulk_len (lits (H := H) .u8 (zs.take n)); simp only [lits, List.length_map, List.length_take] at h5; unfold lits at hb; omega
end
theorem contract (H : Type) (enc' : TypeId × Value → H) (F : Stop.Interp) (W : World) (base : Nat) (args : Array Value) (ds gs : List (DataW H)) (before : List MemPlace)
  (hval : ∀ (j : Nat) t v, Tryz.f3.params[j]? = some t → args[j]? = some v → Value.okWide Tryz.prog W .any base t v)
  (hW : DataW.Whole enc' Tryz.prog Tryz.f3.params.toList Rows.fnMlToldSpec.vars false W args.toList ds gs before) (hk : Rows.uptoSmall H (ds ++ gs) = true)
  (hL : laidMetH Tryz.prog Rows.fnMlToldUptoRow.laid W) (hsh : W.ShapedOpen Tryz.prog) :
  Calls Tryz.prog 3 args W fun e W' => ∃ v, e = .returned v ∧ Rows.fnMlToldSpec.post enc' Tryz.prog Tryz.f3 false true false false W args v W' := by
 have hW' := hW; obtain ⟨p, q, hA0, hV, rfl, hfz, hnd⟩ := hW; have hA : DataW.TrodAll enc' Tryz.prog W 0 (fun _ => true) true Tryz.f3.params.toList args.toList ds p := hA0; rw [Tryz.params3] at hA hval; obtain ⟨v0, vs0, d0, ds0, p0, q0, hargs, rfl, rfl, h0, r0⟩ := trodAll_cons hA; obtain ⟨v1, vs1, d1, ds1, p1, q1, rfl, rfl, rfl, h1, r1⟩ := trodAll_cons r0; obtain ⟨v2, vs2, d2, ds2, p2, q2, rfl, rfl, rfl, h2, r2⟩ := trodAll_cons r1; obtain ⟨rfl, rfl, rfl⟩ := trodAll_nil r2; obtain rfl : args = #[v0, v1, v2] := by cases args; simp_all
 obtain ⟨rfl, rfl⟩ := trodVars_none hV; clear hA0 hA r0 r1 r2; have hb : Rows.uptoBulk d0 + (Rows.uptoBulk d1 + (Rows.uptoBulk d2 + 0)) ≤ 1048576 := of_decide_eq_true hk; have hlt : ∀ x ∈ p0 ++ (p1 ++ (p2 ++ [])) ++ [], x.block < W.heap.size := fun x hx => by simpa using hW'.lt x hx
 have h0k := h0; have h1k := h1; have h2k := h2; obtain ⟨n0, t0, kp0, kc0, lp0, lc0, rfl, hd0, hF0, hw0⟩ := open_table (hval 0 26 v0 rfl rfl) h0 (by omega); obtain ⟨n1, t1, kp1, kc1, lp1, lc1, rfl, hd1, hF1, _⟩ := open_table (hval 1 26 v1 rfl rfl) h1 (by omega); obtain ⟨cp, cn, cc, rfl, hby, hcn, hcc⟩ := open_bytes (hval 2 27 v2 rfl rfl) h2 (by omega); have hm := met_of hL; have hs := size_of hsh; have hE := env_of hm hs; have hP : PenEnv W := ⟨pow_of hm, ten_of hm, hs⟩; have h01 : n0 ≤ n0 + n1 := by omega
 have h11 : n1 ≤ n0 + n1 := by omega
 refine (told_is (n0 + n1) (n0 + n1) W t0 kp0 kc0 lp0 lc0 t1 kp1 kc1 lp1 lc1 cp cn cc (hd0.mono h01) (hd1.mono h11) (fits_up h01 hF0) (fits_up h11 hF1) hE hP hby hcn hcc hw0).mono fun e W' ⟨he, hkp⟩ => ?_
 subst he; have bel : Below W.heap.size W W' := hkp.to_below (Nat.le_refl _) (fun k hk => by cases hk); have e1 : Rows.fnMlToldSpec.fn H ([d0, d1, d2] ++ []) = { results := [.lit (.bool true)], args := [d0, d1, d2] } := rfl; refine ⟨_, rfl, _, _, _, [], p0 ++ (p1 ++ (p2 ++ [])), [], hW', ?_, ?_, ?_, bel.frame _, fun h => by cases h⟩
 · rw [e1]; exact trodAll_cons_mk (shut_bool Tryz.underlying4 _) trodAll_mk0
 · rw [e1]
   exact trodAll_cons_mk (Below.trod laidOut (by kernel_rfl) (of_decide_eq_true (by kernel_rfl)) h0k bel (fun x hx => hlt x (by simp [hx])))
    (trodAll_cons_mk (Below.trod laidOut (by kernel_rfl) (of_decide_eq_true (by kernel_rfl)) h1k bel (fun x hx => hlt x (by simp [hx])))
     (trodAll_cons_mk (Below.trod laidOut (by kernel_rfl) (of_decide_eq_true (by kernel_rfl)) h2k bel (fun x hx => hlt x (by simp [hx]))) trodAll_mk0))
 · rw [e1]; rfl
end
end Go.Proofs.YtljaoopfomcaoaaGreatDoor
