import Derived.Maps.Own
import Derived.Test.YtljaoopfomcaoaaGreatDoorM08
set_option linter.all false
namespace Go.Proofs.YtljaoopfomcaoaaGreatDoor
section
open Go.RowKit
open Go.Maps (Keyed)
theorem strKeyed : Keyed Tryz.prog 9 := Go.Maps.string_keyed Tryz.underlying9
def RV (v : Value) : Option (DataW Value × List MemPlace) := some (.held v, [])
def entry (p : ByteArray × Value) : Lit × DataW Value := (.string p.1.data.toList, .held p.2)
def MapIs (w : World) (r : Nat) (n : Nat) (es : List (ByteArray × Value)) : Prop := w.ownsMap Tryz.prog 9 RV r n (.map (es.map entry))
theorem bytesBefore_lexB : ∀ a b, Go.bytesBefore a b = lexB a b
 | [], [] => rfl
 | _ :: _, [] => rfl
 | [], _ :: _ => rfl
 | a :: r, b :: s => by rw [Go.bytesBefore, lexB, bytesBefore_lexB r s]
theorem insert_last (x : Lit × DataW Value) : ∀ l : List (Lit × DataW Value), (∀ y ∈ l, x.1.before y.1 = false) → DataW.insert x l = l ++ [x]
 | [], _ => rfl
 | y :: r, h => by
  rw [DataW.insert, if_neg (by rw [h y (by simp)]; simp), insert_last x r fun z hz => h z (by simp [hz])]; rfl
theorem put_last (es : List (ByteArray × Value)) (k : ByteArray) (v : Value) (h : ∀ p ∈ es, lexB p.1.data.toList k.data.toList = true) :
  (DataW.map (es.map entry)).put (.string k.data.toList) (.held v) = .map ((es ++ [(k, v)]).map entry) := by
 unfold DataW.put; simp only []
 congr 1
 have e1 : (es.map entry).filter (fun p => !p.1.sameKey (.string k.data.toList)) = es.map entry := by
  rw [List.filter_eq_self]; intro p hp; obtain ⟨q, hq, rfl⟩ := List.mem_map.1 hp; have := h q hq; simp only [entry, Lit.sameKey, Bool.not_eq_true', beq_eq_false_iff_ne, ne_eq]; intro c; rw [c, lexB_irrefl] at this
  cases this
 rw [e1, insert_last]
 · simp [entry]
 · intro y hy
   obtain ⟨q, hq, rfl⟩ := List.mem_map.1 hy; simp only [entry, Lit.before, bytesBefore_lexB]; exact lexB_asymm _ _ (h q hq)
def AnyRep : Nat → (Nat → Prop) → World → Value → JV → Prop
 | 0, _, _, _, _ => False
 | n + 1, F, w, v, j =>
  (j.kind = 0 ∧ v = .nilIface) ∨ (j.kind = 1 ∧ v = .iface 4 (.bool j.b)) ∨ (j.kind = 2 ∧ v = .iface 2 (.int .i64 j.i)) ∨ (j.kind = 4 ∧ v = .iface 22 (.float .f64 j.f)) ∨
  (j.kind = 5 ∧ v = .iface 9 (.string j.t)) ∨
  (j.kind = 6 ∧ ∃ a cap, v = .iface 85 (.slice a j.l.length cap) ∧ (j.l = [] ∨ ∃ g, a = some ⟨g, 0, none⟩ ∧ F g ∧ g < w.heap.size ∧
   ∀ k (h : k < j.l.length), ∃ x, w.cell? ⟨g, k, none⟩ = some x ∧ AnyRep n F w x j.l[k])) ∨
  (j.kind = 7 ∧ ∃ r m es, v = .iface 55 (.map (some r)) ∧ F r ∧ r < w.heap.size ∧ MapIs w r m es ∧ es.map (·.1) = j.ks ∧ es.length = j.l.length ∧
   ∀ k (h : k < j.l.length) (h' : k < es.length), AnyRep n F w es[k].2 j.l[k])
theorem MapIs.heap {w w' : World} {r n : Nat} {es : List (ByteArray × Value)} (h : MapIs w r n es) (e : w'.heap[r]? = w.heap[r]?) : MapIs w' r n es := by
 obtain ⟨a, c, h1, h2⟩ := h; exact ⟨a, c, by rw [e]; exact h1, h2⟩
theorem AnyRep.keep : ∀ {n : Nat} {F F' : Nat → Prop} {w w' : World} {v : Value} {j : JV}, AnyRep n F w v j → w.heap.size ≤ w'.heap.size →
  (∀ g, F g → g < w.heap.size → F' g ∧ w'.heap[g]? = w.heap[g]?) → AnyRep n F' w' v j
 | 0, _, _, _, _, _, _, h, _, _ => absurd h (by simp [AnyRep])
 | n + 1, F, F', w, w', v, j, h, hs, hk => by
  rcases h with h | h | h | h | h | ⟨h1, a, cap, h2, h3⟩ | ⟨h1, r, m, es, h2, h3, h4, h5, h6, h7, h8⟩
  · exact Or.inl h
  · exact Or.inr (Or.inl h)
  · exact Or.inr (Or.inr (Or.inl h))
  · exact Or.inr (Or.inr (Or.inr (Or.inl h)))
  · exact Or.inr (Or.inr (Or.inr (Or.inr (Or.inl h))))
  ·
   refine Or.inr (Or.inr (Or.inr (Or.inr (Or.inr (Or.inl ⟨h1, a, cap, h2, ?_⟩))))); rcases h3 with h3 | ⟨g, h3, h4, h5, h6⟩
   · exact Or.inl h3
   · refine Or.inr ⟨g, h3, (hk g h4 h5).1, by omega, fun k h => ?_⟩
     obtain ⟨x, hx, hr⟩ := h6 k h; exact ⟨x, by rw [cell_of_heap (w := w) (p := ⟨g, k, none⟩) (hk g h4 h5).2]; exact hx, hr.keep hs hk⟩
  · exact Or.inr (Or.inr (Or.inr (Or.inr (Or.inr (Or.inr ⟨h1, r, m, es, h2, (hk r h3 h4).1, by omega, h5.heap (hk r h3 h4).2, h6, h7, fun k a b => (h8 k a b).keep hs hk⟩)))))
end
end Go.Proofs.YtljaoopfomcaoaaGreatDoor
