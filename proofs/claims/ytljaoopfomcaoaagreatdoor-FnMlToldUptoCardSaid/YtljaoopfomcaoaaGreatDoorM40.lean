import Derived.Deep.RegionHeld3
import Derived.Test.YtljaoopfomcaoaaGreatDoorM03
set_option linter.all false
namespace Go.Proofs.YtljaoopfomcaoaaGreatDoor
section
open Go.RowKit
def cleanB (T : List Nat) (l : Array Bool) : Bool := T.all fun j => !l.getD j false
theorem clean_set {T : List Nat} {i : Nat} (h : T.contains i = false) (l : Array Bool) : cleanB T (l.setIfInBounds i true) = cleanB T l := by
 unfold cleanB; rw [Bool.eq_iff_iff, List.all_eq_true, List.all_eq_true]; refine forall_congr' fun j => ?_
 refine imp_congr_right fun hj => ?_
 have hne : i ≠ j := fun e => by subst e; simp [hj] at h
 rw [getD_set_ne false hne]
section
variable {P : Program} {ops : Array Oper} {Q : Exit → Act → World → Prop} {md : Region.Mode} {S0 S : World → Prop} {T : List Nat}
def AnyT (P : Program) (md : Region.Mode) (ops : Array Oper) (Q : Exit → Act → World → Prop) (S0 S : World → Prop) (T : List Nat) : Nat → Array Bool → Act → World → Prop
 | 0, l, a, w => Region.ready md ops l = [] ∧ Q .normal a w
 | k + 1, l, a, w => (Region.ready md ops l = [] → Q .normal a w) ∧ ∀ i ∈ Region.ready md ops l,
   wpOp P ops Q i (fun a' w' => S0 w' ∧ (cleanB T (l.setIfInBounds i true) = true → S w') ∧ AnyT P md ops Q S0 S T k (l.setIfInBounds i true) a' w') a w
theorem AnyT.any : ∀ (k : Nat) (l : Array Bool) (a : Act) (w : World), AnyT P md ops Q S0 S T k l a w → wpAny P md ops Q k l a w
 | 0, _, _, _, h => h
 | k + 1, _, _, _, h => ⟨h.1, fun i hi => wpOp_mono (fun a' w' h' => AnyT.any k _ a' w' h'.2.2) (h.2 i hi)⟩
def lateB (md : Region.Mode) (ops : Array Oper) (T : List Nat) (i : Nat) : Bool :=
 T.all fun j => match ops[j]? with | some o => o.after.any fun e => Region.binds md e && e.on == i | none => false
theorem late_spec {i : Nat} (h : lateB md ops T i = true) (j : Nat) (o : Oper) (ho : ops[j]? = some o) (hT : T.contains j = true) : ∃ e ∈ o.after, Region.binds md e = true ∧ e.on = i := by
 have h1 := List.all_eq_true.1 h j (by simpa using hT); rw [ho] at h1; have h2 : (o.after.any fun e => Region.binds md e && e.on == i) = true := h1; obtain ⟨e, he, hb⟩ := Array.any_eq_true'.1 h2; simp only [Bool.and_eq_true, beq_iff_eq] at hb; exact ⟨e, he, hb.1, hb.2⟩
theorem not_wait {i j : Nat} {oj : Oper} {l : Array Bool} (hr : i ∈ Region.ready md ops l) (hall : ∀ e ∈ oj.after, Region.binds md e = true → l.getD e.on false = true) : ∀ e ∈ oj.after, Region.binds md e = true → e.on ≠ i := by
 rintro e he hb rfl
 have h1 := hall e he hb; have h0 := (mem_ready.1 hr).1; by_cases hlt : e.on < l.size
 · simp [hlt] at h0 h1; rw [h0] at h1; cases h1
 · simp [hlt] at h0
theorem AnyT.first {i : Nat} {oi : Oper} {v : Value} (hi : ops[i]? = some oi) (hs : Region.noSelect ops = true) (hT : T.contains i = false) (hl : lateB md ops T i = true) (hQ : ∀ c a w, Q (.panic c) (a.put oi.dst v) w → Q (.panic c) a w) :
  ∀ (k : Nat) (l : Array Bool) (a : Act) (w : World),
   (∀ j oj, ops[j]? = some oj → j ≠ i → l.getD j true = false → (∀ e ∈ oj.after, Region.binds md e = true → e.on ≠ i) → oi.apart ops oj = true) →
   i ∈ Region.ready md ops l → YieldsIf P ops S oi v a → S0 w → S w → AnyT P md ops Q S0 S T k (l.setIfInBounds i true) (a.put oi.dst v) w → cleanB T l = true → AnyT P md ops Q S0 S T (k + 1) l a w
 | 0, l, a, w, _, hr, hy, h0, hS, H, _ => by
  refine ⟨fun h => absurd hr (by rw [h]; simp), fun j hj => ?_⟩; rcases Decidable.em (j = i) with rfl | hne
  · exact hy.wpOp hi hS ⟨h0, fun _ => hS, H⟩
  · have := ready_mono hj hne
    rw [H.1] at this; simp at this
 | k + 1, l, a, w, hfree, hr, hy, h0, hS, H, hc => by
  refine ⟨fun h => absurd hr (by rw [h]; simp), fun j hj => ?_⟩; rcases Decidable.em (j = i) with rfl | hne
  · exact hy.wpOp hi hS ⟨h0, fun _ => hS, H⟩
  ·
   obtain ⟨hju, oj, hoj, hall⟩ := mem_ready.1 hj; have hw := not_wait (j := j) hr hall; have hTj : T.contains j = false := by
    rcases hTj : T.contains j with _ | _
    · rfl
    · obtain ⟨e, he, hb, hon⟩ := late_spec hl j oj hoj hTj
      exact absurd hon (hw e he hb)
   have hsel := Region.noSelect_spec hs; have h2 := wpOp_putIf hoj (hfree j oj hoj hne hju hw) (fun cs b => hsel i oi cs b hi) (fun cs b => hsel j oj cs b hoj) hQ hy (H.2 j (ready_mono hj hne)); have hcj : cleanB T (l.setIfInBounds j true) = true := by rw [clean_set hTj]; exact hc
   have hcij : cleanB T ((l.setIfInBounds i true).setIfInBounds j true) = true := by rw [clean_set hTj, clean_set hT]; exact hc
   refine wpOp_mono (fun a' w' h3 => ⟨h3.2.1, fun _ => h3.2.2.1 hcij, ?_⟩) h2; refine AnyT.first hi hs hT hl hQ k _ a' w' (fun q oq hq hqi hun hno => hfree q oq hq hqi ?_ hno) (ready_mono hr (Ne.symm hne)) h3.1 h3.2.1 (h3.2.2.1 hcij) (by rw [Array.setIfInBounds_comm _ _ hne]; exact h3.2.2.2) hcj
   rcases Decidable.em (j = q) with rfl | hjq
   · exact hju
   · rwa [getD_set_ne true hjq] at hun
theorem AnyT.first0 {i : Nat} {oi : Oper} {v : Value} (hi : ops[i]? = some oi) (hs : Region.noSelect ops = true) (hT : T.contains i = false) (hQ : ∀ c a w, Q (.panic c) (a.put oi.dst v) w → Q (.panic c) a w) :
  ∀ (k : Nat) (l : Array Bool) (a : Act) (w : World),
   (∀ j oj, ops[j]? = some oj → j ≠ i → l.getD j true = false → (∀ e ∈ oj.after, Region.binds md e = true → e.on ≠ i) → oi.apart ops oj = true) →
   i ∈ Region.ready md ops l → YieldsIf P ops S0 oi v a → S0 w → (cleanB T l = true → S w) → AnyT P md ops Q S0 S T k (l.setIfInBounds i true) (a.put oi.dst v) w → AnyT P md ops Q S0 S T (k + 1) l a w
 | 0, l, a, w, _, hr, hy, h0, hS, H => by
  refine ⟨fun h => absurd hr (by rw [h]; simp), fun j hj => ?_⟩; rcases Decidable.em (j = i) with rfl | hne
  · exact hy.wpOp hi h0 ⟨h0, fun h => hS (by rwa [clean_set hT] at h), H⟩
  · have := ready_mono hj hne
    rw [H.1] at this; simp at this
 | k + 1, l, a, w, hfree, hr, hy, h0, hS, H => by
  refine ⟨fun h => absurd hr (by rw [h]; simp), fun j hj => ?_⟩; rcases Decidable.em (j = i) with rfl | hne
  · exact hy.wpOp hi h0 ⟨h0, fun h => hS (by rwa [clean_set hT] at h), H⟩
  ·
   obtain ⟨hju, oj, hoj, hall⟩ := mem_ready.1 hj; have hw := not_wait (j := j) hr hall; have hsel := Region.noSelect_spec hs; have h2 := wpOp_putIf hoj (hfree j oj hoj hne hju hw) (fun cs b => hsel i oi cs b hi) (fun cs b => hsel j oj cs b hoj) hQ hy (H.2 j (ready_mono hj hne)); have hcc : cleanB T ((l.setIfInBounds i true).setIfInBounds j true) = cleanB T (l.setIfInBounds j true) := by
    rw [Array.setIfInBounds_comm _ _ (Ne.symm hne), clean_set hT]
   refine wpOp_mono (fun a' w' h3 => ⟨h3.2.1, fun h => h3.2.2.1 (hcc.trans h), ?_⟩) h2; refine AnyT.first0 hi hs hT hQ k _ a' w' (fun q oq hq hqi hun hno => hfree q oq hq hqi ?_ hno) (ready_mono hr (Ne.symm hne)) h3.1 h3.2.1 (fun h => h3.2.2.1 (hcc.trans h)) (by rw [Array.setIfInBounds_comm _ _ hne]; exact h3.2.2.2); rcases Decidable.em (j = q) with rfl | hjq
   · exact hju
   · rwa [getD_set_ne true hjq] at hun
theorem AnyT.take {i : Nat} {oi : Oper} {v : Value} {k : Nat} {l : Array Bool} {a : Act} {w : World} (hi : ops[i]? = some oi) (hs : (Region.noSelect ops && !T.contains i && lateB md ops T i && Region.free md ops l i && (Region.ready md ops l).contains i && cleanB T l) = true)
  (hQ : ∀ c a w, Q (.panic c) (a.put oi.dst v) w → Q (.panic c) a w) (hy : YieldsIf P ops S oi v a) (h0 : S0 w) (hS : S w) (h : AnyT P md ops Q S0 S T k (l.setIfInBounds i true) (a.put oi.dst v) w) : AnyT P md ops Q S0 S T (k + 1) l a w := by
 simp only [Bool.and_eq_true, Bool.not_eq_true'] at hs; obtain ⟨⟨⟨⟨⟨h1, h2⟩, h3⟩, h4⟩, h5⟩, h6⟩ := hs; exact AnyT.first hi h1 h2 h3 hQ k l a w (Region.free_spec hi h4) (by simpa using h5) hy h0 hS h h6
theorem AnyT.take0 {i : Nat} {oi : Oper} {v : Value} {k : Nat} {l : Array Bool} {a : Act} {w : World} (hi : ops[i]? = some oi) (hs : (Region.noSelect ops && !T.contains i && Region.free md ops l i && (Region.ready md ops l).contains i) = true)
  (hQ : ∀ c a w, Q (.panic c) (a.put oi.dst v) w → Q (.panic c) a w) (hy : YieldsIf P ops S0 oi v a) (h0 : S0 w) (hS : cleanB T l = true → S w) (h : AnyT P md ops Q S0 S T k (l.setIfInBounds i true) (a.put oi.dst v) w) : AnyT P md ops Q S0 S T (k + 1) l a w := by
 simp only [Bool.and_eq_true, Bool.not_eq_true'] at hs; obtain ⟨⟨⟨h1, h2⟩, h4⟩, h5⟩ := hs; exact AnyT.first0 hi h1 h2 hQ k l a w (Region.free_spec hi h4) (by simpa using h5) hy h0 hS h
def AllT (P : Program) (md : Region.Mode) (ops : Array Oper) (Q : Exit → Act → World → Prop) (S0 S : World → Prop) (T : List Nat) (k : Nat) (l : Array Bool) (a : Act) (w : World) (rs : List Nat) : Prop :=
 ∀ i ∈ rs, wpOp P ops Q i (fun a' w' => S0 w' ∧ (cleanB T (l.setIfInBounds i true) = true → S w') ∧ AnyT P md ops Q S0 S T k (l.setIfInBounds i true) a' w') a w
theorem AllT.nil {k : Nat} {l : Array Bool} {a : Act} {w : World} : AllT P md ops Q S0 S T k l a w [] := fun _ h => by cases h
theorem AllT.cons {k : Nat} {l : Array Bool} {a : Act} {w : World} {i : Nat} {o : Oper} {rs : List Nat} (ho : ops[i]? = some o)
  (h : ∀ K : Act → World → Prop, Shut (∀ a w, S0 w → (cleanB T (l.setIfInBounds i true) = true → S w) → AnyT P md ops Q S0 S T k (l.setIfInBounds i true) a w → K a w) → if Region.wanted o (yielded ops a.tmps) = true then Oper.wp P o a w K Q else K (a.put o.dst undef) w)
  (hs : AllT P md ops Q S0 S T k l a w rs) : AllT P md ops Q S0 S T k l a w (i :: rs) := fun j hj => by
 rcases List.mem_cons.1 hj with rfl | hj
 · exact wpOp_step ho fun K hK => h K fun a w h1 h2 h3 => hK a w ⟨h1, h2, h3⟩
 · exact hs j hj
theorem AnyT.ready {rs : List Nat} {k : Nat} {l : Array Bool} {a : Act} {w : World} (hr : Region.ready md ops l = rs) (hne : rs ≠ []) (h : AllT P md ops Q S0 S T k l a w rs) : AnyT P md ops Q S0 S T (k + 1) l a w :=
 ⟨fun h0 => absurd (hr ▸ h0) hne, hr ▸ h⟩
theorem AnyT.done {l : Array Bool} {a : Act} {w : World} (hr : Region.ready md ops l = []) (h : Q .normal a w) : ∀ k, AnyT P md ops Q S0 S T k l a w
 | 0 => ⟨hr, h⟩
 | _ + 1 => ⟨fun _ => h, by rw [hr]; simp⟩
theorem region_T {id : Nat} {a : Act} {w : World} (S0 S : World → Prop) (T : List Nat) (hm : P.follows .mixedOrders = true) (h : AnyT P .any ops (NoPanic Q) S0 S T ops.size (Array.replicate ops.size false) a w.drew) : (Code.region id ops true).wp P Q a w :=
 wp_region_noPanic (wp_region_any hm (AnyT.any _ _ _ _ h))
end
end
end Go.Proofs.YtljaoopfomcaoaaGreatDoor
