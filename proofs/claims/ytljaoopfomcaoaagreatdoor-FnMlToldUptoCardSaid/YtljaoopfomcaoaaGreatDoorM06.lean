import Derived.Lib.IndexBytes
import Derived.Test.YtljaoopfomcaoaaGreatDoorM01
import Derived.Test.YtljaoopfomcaoaaGreatDoorM05
set_option linter.all false
namespace Go.Proofs.YtljaoopfomcaoaaGreatDoor
section
open Go.RowKit
theorem bt_extract (s : ByteArray) (a b k : Nat) (h : a + k < b) : bt (s.extract a b) k = bt s (a + k) := by
 unfold bt; rw [Lib.extract_data, List.getD_eq_getElem?_getD, List.getD_eq_getElem?_getD, List.getElem?_take, if_pos (by omega), List.getElem?_drop]
theorem size_extract (s : ByteArray) (a b : Nat) (h : b ≤ s.size) : (s.extract a b).size = b - a := by
 rw [ByteArray.size_extract]; omega
theorem get!_bt (s : ByteArray) (k : Nat) : (s.get! k).toNat = bt s k := by
 unfold bt; obtain ⟨d⟩ := s
 show (d[k]!).toNat = _
 rw [List.getD_eq_getElem?_getD, Array.getElem?_toList]; rcases Nat.lt_or_ge k d.size with h | h
 · rw [Array.getElem?_eq_getElem h, getElem!_pos d k h]; rfl
 · rw [Array.getElem?_eq_none h, getElem!_neg d k (by omega)]; rfl
theorem decodeN_utf8 (r n b0 b1 b2 b3 : Nat) (hr : scalar r) (hn : (utf8 r).length ≤ n) (h0 : b0 = (utf8 r).getD 0 0)
  (h1 : 1 < (utf8 r).length → b1 = (utf8 r).getD 1 0) (h2 : 2 < (utf8 r).length → b2 = (utf8 r).getD 2 0) (h3 : 3 < (utf8 r).length → b3 = (utf8 r).getD 3 0) :
  Lib.decodeN n b0 b1 b2 b3 = (r, (utf8 r).length) := by
 unfold scalar at hr; unfold utf8 at *; by_cases c1 : r < 128
 ·
  simp only [if_pos c1] at *; simp at h0; unfold Lib.decodeN; rw [if_pos (by omega)]; simp [h0]
 ·
  by_cases c2 : r < 2048
  · simp only [if_neg c1, if_pos c2] at *
    simp at h0 h1 hn; unfold Lib.decodeN; rw [if_neg (by omega), if_pos (by omega), if_pos (by omega)]; simp; omega
  ·
   by_cases c3 : r < 65536
   · simp only [if_neg c1, if_neg c2, if_pos c3] at *
     simp at h0 h1 h2 hn; unfold Lib.decodeN; rw [if_neg (by omega), if_neg (by omega), if_pos (by omega), if_pos (by omega)]; simp; omega
   · simp only [if_neg c1, if_neg c2, if_neg c3] at *
     simp at h0 h1 h2 h3 hn; unfold Lib.decodeN; rw [if_neg (by omega), if_neg (by omega), if_neg (by omega), if_pos (by omega), if_pos (by omega)]; simp; omega
theorem decode_utf8 (s : ByteArray) (i r : Nat) (hr : scalar r) (h : At (bt s) i (utf8 r)) (hs : i + (utf8 r).length ≤ s.size) :
  Lib.decodeGo (s.extract i s.size) = (r, (utf8 r).length) := by
 have hl := utf8_len r; have hz : (s.extract i s.size).size = s.size - i := size_extract s i s.size (Nat.le_refl _); unfold Lib.decodeGo; rw [if_neg (by omega), Lib.decode_at]; simp only [get!_bt]; refine decodeN_utf8 r _ _ _ _ _ hr (by omega) ?_ ?_ ?_ ?_
 · rw [bt_extract _ _ _ _ (by omega)]; exact h 0 (by omega)
 all_goals
  intro hk; rw [bt_extract _ _ _ _ (by omega), Nat.zero_add]; exact h _ hk
theorem runeCells_utf8 (r : Nat) (hr : scalar r) : Lib.runeCells (r : Int) = (utf8 r).map fun (b : Nat) => Value.int .u8 (b : Int) := by
 unfold scalar at hr; unfold Lib.runeCells utf8; by_cases c1 : r < 128
 · rw [if_pos c1, Lib.encodeRuneZ_one (by omega) (by omega)]; rfl
 ·
  rw [if_neg c1]; by_cases c2 : r < 2048
  · rw [if_pos c2, Lib.encodeRuneZ_two (by omega) (by omega)]
    simp [List.map]
  ·
   rw [if_neg c2]; by_cases c3 : r < 65536
   · rw [if_pos c3, Lib.encodeRuneZ_three (by omega)]
     simp [List.map]
   · rw [if_neg c3, Lib.encodeRuneZ_four (by omega) (by omega)]
     simp [List.map]
theorem runeCells_len (r : Nat) (hr : scalar r) : (Lib.runeCells (r : Int)).length = (utf8 r).length := by rw [runeCells_utf8 r hr]; simp
structure Env (w : World) : Prop where
 size : 11 ≤ w.heap.size
 u8 : Lib.Utf8Tabs 0 1 w
theorem cell_of_heap {w w' : World} {p : Addr} (h : w'.heap[p.block]? = w.heap[p.block]?) : w'.cell? p = w.cell? p := World.cell?_of_block (w := w) h
theorem Env.heap {w w' : World} (h : Env w) (hs : 11 ≤ w'.heap.size) (hb : ∀ k, k < 11 → w'.heap[k]? = w.heap[k]?) : Env w' :=
 ⟨hs, ⟨fun c hc => by rw [cell_of_heap (hb 0 (by omega))]; exact h.u8.1 c hc,
  fun i hi => by rw [cell_of_heap (p := ⟨1, 2 * i, none⟩) (hb 1 (by omega)), cell_of_heap (p := ⟨1, 2 * i + 1, none⟩) (hb 1 (by omega))]; exact h.u8.2 i hi⟩⟩
theorem Env.hp {w w' : World} (h : Env w) (e : w'.heap = w.heap) : Env w' := h.heap (by rw [e]; exact h.size) fun k _ => by rw [e]
theorem Env.kp {S : List Nat} {w w' : World} (h : Env w) (k : Kp S w w') (hs : ∀ x, x ∈ S → 11 ≤ x) : Env w' :=
 h.heap (Nat.le_trans h.size k.size) fun j hj => k.block j (by have := h.size; omega) (fun c => by have := hs j c; omega)
end
end Go.Proofs.YtljaoopfomcaoaaGreatDoor
