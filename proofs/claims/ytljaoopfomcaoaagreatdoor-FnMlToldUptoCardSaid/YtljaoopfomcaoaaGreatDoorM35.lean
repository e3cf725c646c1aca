import Derived.Test.YtljaoopfomcaoaaGreatDoorM12
import Derived.Test.YtljaoopfomcaoaaGreatDoorM34
set_option linter.all false
open Go.Lib (hid)
namespace Go.Proofs.YtljaoopfomcaoaaGreatDoor
section
def SameD (g g' : Nat → Nat) (o i j : Nat) : Prop := o ≤ i ∧ ∀ k, i ≤ k → k < j → g' (k - o) = g k
theorem SameD.sub {g g' : Nat → Nat} {o i j i' j' : Nat} (h : SameD g g' o i j) (h1 : i ≤ i') (h2 : j' ≤ j) : SameD g g' o i' j' := ⟨Nat.le_trans h.1 h1, fun k a b => h.2 k (by omega) (by omega)⟩
theorem Ws.dn {g g' : Nat → Nat} {o i j : Nat} (h : Ws g i j) (hs : SameD g g' o i j) : Ws g' (i - o) (j - o) := by
 have ho := hs.1; refine ⟨by have := h.1; omega, fun k h1 h2 => ?_⟩; have := hs.2 (k + o) (by omega) (by omega); rw [show k + o - o = k by omega] at this; rw [this]; exact h.2 _ (by omega) (by omega)
theorem At.dn {g g' : Nat → Nat} {o i : Nat} {l : List Nat} (h : At g i l) (hs : SameD g g' o i (i + l.length)) : At g' (i - o) l := by
 have ho := hs.1; intro k hk; rw [← h k hk, ← hs.2 (i + k) (by omega) (by omega)]
 congr 1; omega
theorem Unit4.dn {g g' : Nat → Nat} {o i u : Nat} (h : Unit4 g i u) (hs : SameD g g' o i (i + 6)) : Unit4 g' (i - o) u := by
 have ho := hs.1; obtain ⟨h1, h2, a, b, c, d, h3, h4, h5, h6, h7⟩ := h; have e : ∀ m, m < 6 → g' (i - o + m) = g (i + m) := fun m hm => by
  rw [← hs.2 (i + m) (by omega) (by omega)]; congr 1; omega
 refine ⟨?_, ?_, a, b, c, d, ?_, ?_, ?_, ?_, h7⟩
 · rw [show i - o = i - o + 0 from rfl, e 0 (by omega)]; exact h1
 · rw [e 1 (by omega)]; exact h2
 · rw [e 2 (by omega)]; exact h3
 · rw [e 3 (by omega)]; exact h4
 · rw [e 4 (by omega)]; exact h5
 · rw [e 5 (by omega)]; exact h6
theorem Piece.dn {g g' : Nat → Nat} {o i j r : Nat} (h : Piece g i j r) (hs : SameD g g' o i j) : Piece g' (i - o) (j - o) r := by
 have ho := hs.1; rcases h with ⟨h1, h2, h3, h4, h5, h6⟩ | ⟨h1, h2, h3⟩ | ⟨h1, h2, h3⟩ | ⟨u, v, h1, h2, h3, h4⟩
 · exact Or.inl ⟨h1, h2, h3, h4, h5.dn (hs.sub (Nat.le_refl _) (by omega)), by omega⟩
 · have e1 := hs.2 i (Nat.le_refl _) (by omega)
   have e2 := hs.2 (i + 1) (by omega) (by omega); rw [show i + 1 - o = i - o + 1 by omega] at e2; exact Or.inr (Or.inl ⟨by rw [e1]; exact h1, by omega, by rw [e2]; exact h3⟩)
 · exact Or.inr (Or.inr (Or.inl ⟨h1.dn (hs.sub (Nat.le_refl _) (by omega)), by omega, h3⟩))
 · refine Or.inr (Or.inr (Or.inr ⟨u, v, h1.dn (hs.sub (Nat.le_refl _) (by omega)), ?_, by omega, h4⟩))
   rw [show i - o + 6 = i + 6 - o by omega]; exact h2.dn (hs.sub (by omega) (by omega))
theorem StrBody.dn {g g' : Nat → Nat} {o j : Nat} : ∀ {rs : List Nat} {i : Nat}, StrBody g i j rs → SameD g g' o i j → StrBody g' (i - o) (j - o) rs
 | [], i, h, _ => by have : i = j := h; subst this; exact rfl
 | r :: rs, i, ⟨a, h1, h2⟩, hs => ⟨a - o, h1.dn (hs.sub (Nat.le_refl _) h2.le), h2.dn (hs.sub (Nat.le_of_lt h1.lt) (Nat.le_refl _))⟩
theorem StrAt.dn {g g' : Nat → Nat} {o i j : Nat} {rs : List Nat} (h : StrAt g i j rs) (hs : SameD g g' o i j) : StrAt g' (i - o) (j - o) rs := by
 have ho := hs.1; obtain ⟨h1, e, h2, h3, h4⟩ := h; have := h2.le; refine ⟨by rw [hs.2 i (Nat.le_refl _) (by omega)]; exact h1, e - o, ?_, by rw [hs.2 e (by omega) (by omega)]; exact h3, by omega⟩; rw [show i - o + 1 = i + 1 - o by omega]; exact h2.dn (hs.sub (by omega) (by omega))
theorem Elems.dn {g g' : Nat → Nat} {o : Nat} {T T' : Nat → Nat → JV → Prop} (hT : ∀ a b v, T a b v → a < b) (hdn : ∀ a b v, T a b v → SameD g g' o a b → T' (a - o) (b - o) v) :
  ∀ {vs : List JV} {i j : Nat}, Elems g T i j vs → SameD g g' o i j → Elems g' T' (i - o) (j - o) vs
 | [], _, _, h, _ => absurd h (by simp [Elems])
 | [v], i, j, ⟨a, b, h1, h2, h3⟩, hs => by
  have ho := hs.1; have := h1.1; have := h3.1; have := hT _ _ _ h2; exact ⟨a - o, b - o, h1.dn (hs.sub (by omega) (by omega)), hdn _ _ _ h2 (hs.sub (by omega) (by omega)), h3.dn (hs.sub (by omega) (by omega))⟩
 | v :: u :: vs, i, j, ⟨a, b, c, h1, h2, h3, h4, h5⟩, hs => by
  have ho := hs.1; have := h1.1; have := h3.1; have := hT _ _ _ h2; have hle := Elems.le hT h5; refine ⟨a - o, b - o, c - o, h1.dn (hs.sub (by omega) (by omega)), hdn _ _ _ h2 (hs.sub (by omega) (by omega)), h3.dn (hs.sub (by omega) (by omega)), ?_, ?_⟩
  · rw [hs.2 c (by omega) (by omega)]; exact h4
  · rw [show c - o + 1 = c + 1 - o by omega]
    exact Elems.dn hT hdn h5 (hs.sub (by omega) (by omega))
theorem Membs.dn {g g' : Nat → Nat} {o : Nat} {T T' : Nat → Nat → JV → Prop} (hT : ∀ a b v, T a b v → a < b) (hdn : ∀ a b v, T a b v → SameD g g' o a b → T' (a - o) (b - o) v) :
  ∀ (ks : List ByteArray) {vs : List JV} {i j : Nat}, Membs g T i j ks vs → SameD g g' o i j → Membs g' T' (i - o) (j - o) ks vs
 | [], vs, i, j, h, _ => absurd h (by cases vs <;> simp [Membs])
 | [k], [], i, j, h, _ => absurd h (by simp [Membs])
 | k :: k2 :: ks, [], i, j, h, _ => absurd h (by simp [Membs])
 | [k], [v], i, j, ⟨a, b, c, d, e, rs, h1, h2, h3, h4, h5, h6, h7, h8⟩, hs => by
  have ho := hs.1; have := h1.1; have := h2.lt; have := h4.1; have := h6.1; have := hT _ _ _ h7; have := h8.1; refine ⟨a - o, b - o, c - o, d - o, e - o, rs, h1.dn (hs.sub (by omega) (by omega)), h2.dn (hs.sub (by omega) (by omega)), h3, h4.dn (hs.sub (by omega) (by omega)), ?_, ?_,
   hdn _ _ _ h7 (hs.sub (by omega) (by omega)), h8.dn (hs.sub (by omega) (by omega))⟩
  · rw [hs.2 c (by omega) (by omega)]; exact h5
  · rw [show c - o + 1 = c + 1 - o by omega]
    exact h6.dn (hs.sub (by omega) (by omega))
 | [k], v :: u :: vs, i, j, ⟨a, b, c, d, e, f, rs, h1, h2, h3, h4, h5, h6, h7, h8, h9, h10⟩, hs => absurd h10 (by simp [Membs])
 | k :: k2 :: ks, [v], i, j, ⟨a, b, c, d, e, f, rs, h1, h2, h3, h4, h5, h6, h7, h8, h9, h10⟩, hs => absurd h10 (by cases ks <;> simp [Membs])
 | k :: k2 :: ks, v :: u :: vs, i, j, ⟨a, b, c, d, e, f, rs, h1, h2, h3, h4, h5, h6, h7, h8, h9, h10⟩, hs => by
  have ho := hs.1; have := h1.1; have := h2.lt; have := h4.1; have := h6.1; have := hT _ _ _ h7; have := h8.1; have hle := Membs.le hT h10; refine ⟨a - o, b - o, c - o, d - o, e - o, f - o, rs, h1.dn (hs.sub (by omega) (by omega)), h2.dn (hs.sub (by omega) (by omega)), h3, h4.dn (hs.sub (by omega) (by omega)), ?_, ?_,
   hdn _ _ _ h7 (hs.sub (by omega) (by omega)), h8.dn (hs.sub (by omega) (by omega)), ?_, ?_⟩
  · rw [hs.2 c (by omega) (by omega)]; exact h5
  · rw [show c - o + 1 = c + 1 - o by omega]
    exact h6.dn (hs.sub (by omega) (by omega))
  · rw [hs.2 f (by omega) (by omega)]; exact h9
  · rw [show f - o + 1 = f + 1 - o by omega]
    exact Membs.dn hT hdn (k2 :: ks) h10 (hs.sub (by omega) (by omega))
theorem Tx.dn {S : NumSem} {g g' : Nat → Nat} {o : Nat} : ∀ {n i j : Nat} {v : JV}, Tx S g n i j v → SameD g g' o i j → Tx S g' n (i - o) (j - o) v
 | 0, _, _, _, h, _ => absurd h (by simp [Tx])
 | n + 1, i, j, v, h, hs => by
  have ho := hs.1; have hT : ∀ a b w, Tx S g n a b w → a < b := fun a b w hw => (Tx.start hw).1
  have hdn : ∀ a b w, Tx S g n a b w → SameD g g' o a b → Tx S g' n (a - o) (b - o) w := fun a b w hw h => Tx.dn hw h
  rcases h with ⟨h, e, q⟩ | ⟨h, e, q⟩ | ⟨h, e, q⟩ | ⟨m, hm, h, e, gS, q⟩ | ⟨rs, h, gt, q⟩ | ⟨e, h1, h2, h3, h4, h5⟩ | ⟨e, h1, h2, h3, h4, h5⟩
  · exact Or.inl ⟨h.dn (hs.sub (by omega) (by simp; omega)), by omega, q⟩
  · exact Or.inr (Or.inl ⟨h.dn (hs.sub (by omega) (by simp; omega)), by omega, q⟩)
  · exact Or.inr (Or.inr (Or.inl ⟨h.dn (hs.sub (by omega) (by simp; omega)), by omega, q⟩))
  · exact Or.inr (Or.inr (Or.inr (Or.inl ⟨m, hm, h.dn (hs.sub (by omega) (by omega)), by omega, gS, q⟩)))
  · exact Or.inr (Or.inr (Or.inr (Or.inr (Or.inl ⟨rs, h.dn hs, gt, q⟩))))
  ·
   have hie : i + 1 ≤ e := by
    rcases h4 with ⟨_, h⟩ | h
    · exact h.1
    · exact Nat.le_of_lt (h.le hT)
   refine Or.inr (Or.inr (Or.inr (Or.inr (Or.inr (Or.inl ⟨e - o, by rw [hs.2 i (by omega) (by omega)]; exact h1, by rw [hs.2 e (by omega) (by omega)]; exact h2, by omega, ?_, h5⟩))))); rw [show i - o + 1 = i + 1 - o by omega]; rcases h4 with ⟨h4, h6⟩ | h4
   · exact Or.inl ⟨h4, h6.dn (hs.sub (by omega) (by omega))⟩
   · exact Or.inr (Elems.dn hT hdn h4 (hs.sub (by omega) (by omega)))
  ·
   have hie : i + 1 ≤ e := by
    rcases h4 with ⟨_, _, h⟩ | h
    · exact h.1
    · exact Nat.le_of_lt (h.le hT)
   refine Or.inr (Or.inr (Or.inr (Or.inr (Or.inr (Or.inr ⟨e - o, by rw [hs.2 i (by omega) (by omega)]; exact h1, by rw [hs.2 e (by omega) (by omega)]; exact h2, by omega, ?_, h5⟩))))); rw [show i - o + 1 = i + 1 - o by omega]; rcases h4 with ⟨h4, h4b, h6⟩ | h4
   · exact Or.inl ⟨h4, h4b, h6.dn (hs.sub (by omega) (by omega))⟩
   · exact Or.inr (Membs.dn hT hdn _ h4 (hs.sub (by omega) (by omega)))
end
section
open Go.RowKit
theorem ownsMap_blk {w w' : World} {r m : Nat} {D : DataW Value} (h : w.ownsMap Tryz.prog 9 RV r m D) (e : w'.heap[r]? = w.heap[r]?) : w'.ownsMap Tryz.prog 9 RV r m D := by
 obtain ⟨a, c, h1, h2⟩ := h; exact ⟨a, c, by rw [e]; exact h1, h2⟩
theorem ownsMap_lt {w : World} {r m : Nat} {D : DataW Value} (h : w.ownsMap Tryz.prog 9 RV r m D) : r < w.heap.size := by
 obtain ⟨a, c, h1, h2⟩ := h; exact lt_of_block h1
theorem ownsMap_kp {w w' : World} {r m : Nat} {D : DataW Value} {S : List Nat} (h : w.ownsMap Tryz.prog 9 RV r m D) (k : Kp S w w') (hs : r ∉ S) : w'.ownsMap Tryz.prog 9 RV r m D :=
 ownsMap_blk h (k.block r (ownsMap_lt h) hs)
def nxt (s : ByteArray) (j : Nat) : Nat := if j < s.size then j + 1 else j
def KeyPost (n : Nat) (w : World) (bb r m : Nat) (D : DataW Value) (k : ByteArray) (v : JV) (s : ByteArray) (j : Nat) (e : Ending) (w' : World) : Prop :=
 ∃ (x : Value) (y : Int), e = .returned .nilIface ∧ BufAt w' bb s ((nxt s j : Nat) : Int) y ∧ w'.ownsMap Tryz.prog 9 RV r (m + 1) (D.put (.string k.data.toList) (.held x)) ∧ AnyRep n (Made w w') w' x v ∧ Kp [bb, r] w w'
theorem tx_first {S : NumSem} {g : Nat → Nat} {n i j : Nat} {v : JV} (h : Tx S g n i j v) : 33 ≤ g i ∧ g i < 128 ∧ g i ≠ 44 := by
 cases n with
 | zero => exact h.elim
 | succ n =>
  rcases h with ⟨h, _⟩ | ⟨h, _⟩ | ⟨h, _⟩ | ⟨m, hm, h, _⟩ | ⟨rs, h, _⟩ | ⟨e, h, _⟩ | ⟨e, h, _⟩
  · have := (At_cons.1 h).1; omega
  · have := (At_cons.1 h).1; omega
  · have := (At_cons.1 h).1; omega
  · have := Num.start hm h
    omega
  · have := h.1; omega
  · omega
  · omega
theorem scal_of {g : Nat → Nat} {j : Nat} : ∀ {rs : List Nat} {i : Nat}, KeyAt g i j rs → ∀ r ∈ rs, scalar r
 | [], _, _, r, h => by simp at h
 | x :: rs, i, ⟨a, h1, h2⟩, r, h => by
  rcases List.mem_cons.1 h with rfl | h
  · exact h1.1
  · exact scal_of h2 r h
theorem own_but {w w' : World} {B n ab : Nat} {v : Value} {xs : List Value} {c : Array Value} {f : Nat × Nat} (h : w.ownsRow B 21 1 v n xs) (hab : w.heap[ab]? = some (.cells c 20 f)) (k : Kp [ab] w w') : w'.ownsRow B 21 1 v n xs := by
 obtain ⟨h1, h2⟩ := h; refine ⟨h1, ?_⟩; rcases h2 with h2 | ⟨g, cap, cur, hv, hg, hh, r⟩
 · exact Or.inl h2
 ·
  refine Or.inr ⟨g, cap, cur, hv, hg, ?_, r⟩; rw [k.block g (lt_of_block hh) (by
   simp
   rintro rfl
   rw [hab] at hh
   injection hh with hh
   injection hh with _ e _
   exact absurd e (by decide))]
  exact hh
theorem hmf (fn : Fn) (first cap : Array Value) (w : World) : (Instr.makeFunc fn first cap).run Tryz.prog w = .ok (.func fn first cap) w := rfl
set_option maxRecDepth 100000 in
set_option maxHeartbeats 400000 in
theorem key_is (n : Nat) (w : World) (p bb r m : Nat) (D : DataW Value) (k : ByteArray) (v : JV) (s : ByteArray) (i j : Nat) (y : Int) (hn : n ≤ 10000) (hpar : ParAt w p bb (.map (some r))) (hpb : p ≠ bb) (hpr : p ≠ r) (hbr : bb ≠ r) (h11 : 11 ≤ bb) (hr11 : 11 ≤ r)
  (hb : BufAt w bb s i y) (hs : s.size ≤ 1000000) (hE : Env w) (hM : w.ownsMap Tryz.prog 9 RV r m D) (hm : m ≤ 900000) (hP : PairAt numSem (bt s) n i j k v) (hk0 : k.size ≠ 0) (hks : k.size ≤ 1000000) (hj : j ≤ s.size) (hend : j = s.size ∨ bt s j = 44) :
  Calls Tryz.prog 46 #[.pointer (some ⟨p, 0, none⟩), .map (some r), .int .i64 0] w (KeyPost n w bb r m D k v s j) := by
 obtain ⟨a, b, c, rs, hkey, hke, ha, hw1, htx, hw2⟩ := hP; have l1 := hkey.le; have l2 := hw1.1; have l3 := (Tx.start htx).1; have l4 := hw2.1; have HKey := hid hkey; have HKe := hid hke; have HA := hid ha; have HW1 := hid hw1; have HTx := hid htx; have HW2 := hid hw2; have HPa := hid hpar; have HB := hid hb; have HE := hid hE; have HM := hid hM; have HEnd := hid hend; have hpw := hpar.lt; have hbw := hb.lt; have hrw := ownsMap_lt hM; clear hkey hke ha hw1 htx hw2 hpar hb hE hM hend; have hxsz : (s.extract b s.size).size = s.size - b := size_extract s b s.size (Nat.le_refl _); have htx' : Tx numSem (bt (s.extract b s.size)) n 0 (c - b) v := by
  have := Tx.dn HTx.out (g' := bt (s.extract b s.size)) (o := b) ⟨Nat.le_refl _, fun k h1 h2 => by rw [bt_extract _ _ _ _ (by omega)]; congr 1; omega⟩; rwa [Nat.sub_self] at this
 have hns : NumStop (s.extract b s.size) (c - b) := by
  unfold NumStop; by_cases hcs : c < s.size
  ·
   right
   rw [bt_extract _ _ _ _ (by omega), show b + (c - b) = c from by omega]; by_cases hcj : c < j
   · have := HW2.out.2 c (Nat.le_refl _) hcj
     simp [ws] at this; unfold dig; refine ⟨?_, by omega, by omega, by omega⟩; simp; omega
   ·
    have hcj' : c = j := by omega
    have h44 : bt s c = 44 := by
     rcases HEnd.out with h | h
     · omega
     · rw [hcj']; exact h
    rw [h44]; exact ⟨by decide, by decide, by decide, by decide⟩
  · left; omega
 have HTx' := hid htx'; have HNs := hid hns; have HXsz := hid hxsz; clear htx' hns hxsz; have hmf' := hmf; go_enter_defers Tryz.func46, Tryz.ntmps46
 go_wp2_with fail
 have hs0 : ((w.alloc (.cells #[.nilIface] 60)).alloc (.cells #[.int .i32 61, .int .i32 91, .int .i32 44, .int .i32 46] 21)).heap.size = w.heap.size + 1 + 1 := by simp
 have hrb0 : ((w.alloc (.cells #[.nilIface] 60)).alloc (.cells #[.int .i32 61, .int .i32 91, .int .i32 44, .int .i32 46] 21)).heap[w.heap.size]? = some (.cells #[.nilIface] 60 (0, 0)) := by
  show ((w.heap.push _).push _)[w.heap.size]? = _
  rw [Array.getElem?_push]; simp
 have hk2 : Kp [] w ((w.alloc (.cells #[.nilIface] 60)).alloc (.cells #[.int .i32 61, .int .i32 91, .int .i32 44, .int .i32 46] 21)) := ((Kp.refl _ _).alloc _).alloc _; have hrs : ∀ q, ((w.alloc (.cells #[.nilIface] 60)).alloc (.cells #[.int .i32 61, .int .i32 91, .int .i32 44, .int .i32 46] 21)).cell? ⟨w.heap.size + 1, q, none⟩ = (#[.int .i32 61, .int .i32 91, .int .i32 44, .int .i32 46] : Array Value)[q]? := fun q => by
  have := cell_fresh (w.alloc (.cells #[.nilIface] 60)) #[.int .i32 61, .int .i32 91, .int .i32 44, .int .i32 46] 21 (0, 0) q; rw [show (w.alloc (.cells #[.nilIface] 60)).heap.size = w.heap.size + 1 from by simp] at this; exact this
 generalize hW2 : (w.alloc (.cells #[.nilIface] 60)).alloc (.cells #[.int .i32 61, .int .i32 91, .int .i32 44, .int .i32 46] 21) = w2 at *; refine (runeSet_is w2 (w.heap.size + 1) 4 (hrs 0) (hrs 1) (hrs 2) (hrs 3)).mono ?_
 rintro e1 w3 ⟨rfl, hset, hk3⟩
 have HK3 := hid (hk2.trans hk3); have HSet := hid hset; have hrb3 : w3.heap[w.heap.size]? = some (.cells #[.nilIface] 60 (0, 0)) := by rw [hk3.block _ (by omega) (by simp)]; exact hrb0
 have HRb3 := hid hrb3; have hst : w.heap.size + 2 ≤ w2.heap.size := by omega
 clear hk2 hrs hrb0 hW2 hset hk3 hrb3; clear hs0; generalize hsz2 : w2.heap.size = st at *; clear hsz2; have hP3 := HPa.out.kp HK3.out (by simp); have HB3 := hid (HB.out.kp HK3.out (by simp)); have HM3 := hid (ownsMap_kp HM.out HK3.out (by simp)); have HE3 := hid (HE.out.kp HK3.out (by simp)); have c0 := hP3.c0; have HP3 := hid hP3; have hst3 := HSet.out.lt; clear hP3 HB HM HE; have hcall := (runesUntil_is w3 bb st s i a y rs HSet.out (by omega) h11 HB3.out hs HE3.out HKey.out HA.out (by omega)); have HC := hid hcall; clear hcall; go_wp2_with fail
 go_loopw [] (fun wx => wx = w3) (fun _ => 0)
 case atStart => exact rfl
 case round =>
  have hrel' := hrel.symm; subst hrel'; clear hrel; go_wp2_with fail
  refine HC.out.mono ?_
  rintro e2 w4 ⟨v1, rfl, hb4, ho4, hk4⟩
  have HB4 := hid hb4; have HO4 := hid ho4; have HK4 := hid ((HK3.out.mono (S' := [bb, r]) (fun _ _ h => by simp at h)).trans (hk4.mono (S' := [bb, r]) (fun _ _ h => by simp at h; simp [h]))); clear HSet c0; have hP4 := HP3.out.kp hk4 (by simp; omega); have HM4 := hid (ownsMap_kp HM3.out hk4 (by simp; omega)); have HE4 := hid (HE3.out.kp hk4 (by simp; omega)); have HRb4 := hid (show w4.heap[w.heap.size]? = some (.cells #[.nilIface] 60 (0, 0)) from by rw [hk4.block _ (by have := HK3.out.size; omega) (by simp; omega)]; exact HRb3.out); have HP4 := hid hP4; have c3 := hP4.c3; have hc := emptyVal_is w4 p bb (.map (some r)) s (a + 1) b 1 HP4.out hpb h11 HB4.out hs HE4.out HW1.out (by omega) (Or.inr ⟨by omega, Or.inr ⟨(tx_first HTx.out).1, (tx_first HTx.out).2.1⟩⟩); have HC2 := hid hc; clear hb4 ho4 hk4 hP4 HM3 HE3 HRb3 HP3 HB3 HC hc; go_wp2_with fail
  refine HC2.out.mono ?_
  rintro e3 w5 ⟨b5, x5, y5, rfl, hb5, hk5, h5⟩
  have hb44 := (tx_first HTx.out).2.2; obtain ⟨rfl, hbx⟩ : b5 = false ∧ b = x5 := by
   rcases h5 with ⟨h, _⟩ | ⟨_, h, _⟩ | ⟨_, _, h1, h2⟩
   · omega
   · exact absurd h hb44
   · exact ⟨h1, h2.symm⟩
  subst hbx; have hs56 : w4.heap.size ≤ w5.heap.size := hk5.size; have hwsz : w.heap.size + 1 ≤ w5.heap.size := by have := lt_of_block HRb4.out; omega
  have hk6 : Kp [] w5 (w5.alloc (.cells #[.nilIface] 20)) := (Kp.refl _ _).alloc _; have hab6 : (w5.alloc (.cells #[.nilIface] 20)).heap[w5.heap.size]? = some (.cells #[.nilIface] 20 (0, 0)) := by
   show (w5.heap.push _)[w5.heap.size]? = _; simp
  have hsz6 : (w5.alloc (.cells #[.nilIface] 20)).heap.size = w5.heap.size + 1 := by simp
  have hP6 := (HP4.out.kp hk5 (by simp; omega)).kp hk6 (by simp); have HB6 := hid (BufAt.kp (S := []) hb5 hk6 (by simp)); have HM6 := hid (ownsMap_kp (ownsMap_kp HM4.out hk5 (by simp; omega)) hk6 (by simp)); have HE6 := hid ((HE4.out.kp hk5 (by simp; omega)).kp hk6 (by simp)); have HRb6 := hid (show (w5.alloc (.cells #[.nilIface] 20)).heap[w.heap.size]? = some (.cells #[.nilIface] 60 (0, 0)) from by rw [hk6.block _ (by omega) (by simp), hk5.block _ (lt_of_block HRb4.out) (by simp; omega)]; exact HRb4.out); have HO6 := hid (own_kp (own_kp HO4.out hk5 (by simp; omega)) hk6 (by simp)); have HK6 := hid ((HK4.out.trans (hk5.mono (S' := [bb, r]) (fun _ _ h => by simp at h; simp [h]))).trans (hk6.mono (S' := [bb, r]) (fun _ _ h => by simp at h))); have c0 := hP6.c0; have HP6 := hid hP6; clear hb5 hk5 h5 hb44 hk6 hP6 HB4 HM4 HE4 HRb4 HO4 HK4 HP4 c3 HC2 hs56
  go_wp2_with fail
  generalize hw6 : w5.alloc (.cells #[.nilIface] 20) = w6 at *; generalize hab : w5.heap.size = ab at *; clear hw6 hab; refine (rest_is w6 bb s b y5 HB6.out (by omega) hs).mono ?_
  rintro e4 w7 ⟨rfl, hh7, hk7⟩
  have hh7' := hid hh7; clear hh7; go_wp2_with fail
  have hab7 : w7.heap[ab]? = some (.cells #[.nilIface] 20 (0, 0)) := by rw [hh7'.out]; exact hab6
  have hP7 := HP6.out.kp hk7 (by simp); have HB7 := hid (HB6.out.kp hk7 (by simp)); have HM7 := hid (ownsMap_kp HM6.out hk7 (by simp)); have HE7 := hid (HE6.out.kp hk7 (by simp)); have HRb7 := hid (show w7.heap[w.heap.size]? = some (.cells #[.nilIface] 60 (0, 0)) from by rw [hh7'.out]; exact HRb6.out); have HO7 := hid (own_kp HO6.out hk7 (by simp)); have HK7 := hid (HK6.out.trans (hk7.mono (S' := [bb, r]) (fun _ _ h => by simp at h))); have hw7s : w7.heap.size = ab + 1 := by rw [hh7'.out]; exact hsz6
  have HP7 := hid hP7; have hc := first_is numSem num_reads n w7 (s.extract b s.size) 0 (c - b) ab .nilIface v (by rw [HXsz.out]; omega) HE7.out (by omega) hab7 ⟨Nat.le_refl _, fun q h1 h2 => absurd h1 (by omega)⟩ HTx'.out (by rw [HXsz.out]; omega) HNs.out hn; have HC3 := hid hc; have HAb7 := hid hab7; clear c0 hP7 hk7 hh7' hab6 hab7 hsz6 HB6 HM6 HE6 HRb6 HO6 HK6 HP6 hc; refine HC3.out.mono ?_
  rintro e5 w8 ⟨x, rfl, hx, hk8, hx8⟩
  have hP8 := HP7.out.kp hk8 (by simp; omega); have HB8 := hid (HB7.out.kp hk8 (by simp; omega)); have HM8 := hid (ownsMap_kp HM7.out hk8 (by simp; omega)); have HE8 := hid (HE7.out.kp hk8 (by simp; omega)); have HRb8 := hid (show w8.heap[w.heap.size]? = some (.cells #[.nilIface] 60 (0, 0)) from by rw [hk8.block _ (by omega) (by simp; omega)]; exact HRb7.out); have HK8 := hid (HK7.out.over hk8 (by simp; omega)); have hcv := conv_key w8 _ v1 rs k (own_but HO7.out HAb7.out hk8) HKe.out (scal_of HKey.out); have c20 : w8.cell? ⟨ab, 0, none⟩ = some x := by simp [World.cell?, hx8]
  have HX := hid hx; have HK78 := hid hk8; have HP8 := hid hP8; have hc := set_is w8 r m D k x HM8.out hk0 hks (by omega); have HC4 := hid hc; clear hx hk8 hx8 hP8 HP7 HB7 HM7 HE7 HRb7 HO7 HK7 HC3 hc; go_wp2_with fail
  refine HC4.out.mono ?_
  rintro e6 w9 ⟨rfl, ho9, hg9⟩
  have hP9 : ParAt w9 p bb (.map (some r)) := by unfold ParAt; rw [hg9.block p HP8.out.lt (by simp; exact hpr)]; exact HP8.out
  have HB9 := hid (show BufAt w9 bb s b y5 from by unfold BufAt; rw [hg9.block bb HB8.out.lt (by simp; exact hbr)]; exact HB8.out); have HE9 := hid (HE8.out.heap (Nat.le_trans HE8.out.size hg9.size) (fun q hq => hg9.block q (by have := HE8.out.size; omega) (by simp; omega))); have HRb9 := hid (show w9.heap[w.heap.size]? = some (.cells #[.nilIface] 60 (0, 0)) from by rw [hg9.block _ (lt_of_block HRb8.out) (by simp; omega)]; exact HRb8.out); have HK89 := hid (show Kp [r] w8 w9 from ⟨hg9.os, hg9.tape, hg9.output, hg9.size, fun q h1 h2 => hg9.block q h1 (by simp at h2; simp; exact h2)⟩); have HM9 := hid ho9; have HP9 := hid hP9; have c0 := hP9.c0; have hc := skip_is w9 bb s b (c - b) y5 HB9.out (by omega); have HC5 := hid hc; clear ho9 hg9 hP9 HP8 HB8 HM8 HE8 HRb8 HC4 hc hcv c20; go_wp2_with fail
  refine HC5.out.mono ?_
  rintro e7 w10 ⟨rfl, hb10, hk10⟩
  rw [show b + (c - b) = c from by omega] at hb10; have hP10 := HP9.out.kp hk10 (by simp; omega); have HE10 := hid (HE9.out.kp hk10 (by simp; omega)); have HRb10 := hid (show w10.heap[w.heap.size]? = some (.cells #[.nilIface] 60 (0, 0)) from by rw [hk10.block _ (lt_of_block HRb9.out) (by simp; omega)]; exact HRb9.out); have HM10 := hid (ownsMap_kp HM9.out hk10 (by simp; omega)); have HK10 := hid hk10; have HP10 := hid hP10; have hc := emptyVal_is w10 p bb (.map (some r)) s c j 0 HP10.out hpb h11 hb10 hs HE10.out HW2.out hj (by rcases HEnd.out with h | h; exact Or.inl h; exact (by by_cases hjs : j < s.size; exact Or.inr ⟨hjs, Or.inl h⟩; exact Or.inl (by omega))); have HC6 := hid hc; clear c0 hb10 hk10 hP10 HB9 HE9 HRb9 HM9 HP9 HC5 hc; go_wp2_with fail
  refine HC6.out.mono ?_
  rintro e8 w11 ⟨b11, x11, y11, rfl, hb11, hk11, h11'⟩
  have hrb11 : w11.heap[w.heap.size]? = some (.cells #[.nilIface] 60 (0, 0)) := by rw [hk11.block _ (lt_of_block HRb10.out) (by simp; omega)]; exact HRb10.out
  have HB11 := hid hb11; have HK11 := hid hk11; have H11 := hid h11'; have HRb11 := hid hrb11; have d0 : w11.cell? ⟨w.heap.size, 0, none⟩ = some .nilIface := by simp [World.cell?, hrb11]
  have g0 : w11.frozen? ⟨w.heap.size, 0, none⟩ = false := by simp [World.frozen?, hrb11]
  clear hb11 hk11 h11' hrb11 HC6; go_wp2_with fail
  have hrb12 : (w11.setCell ⟨w.heap.size, 0, none⟩ .nilIface).heap[w.heap.size]? = some (.cells #[.nilIface] 60 (0, 0)) := blk_setCell HRb11.out _; have hk12 : Kp [w.heap.size] w11 (w11.setCell ⟨w.heap.size, 0, none⟩ .nilIface) := (Kp.refl _ _).setCell (by simp) _; generalize hw12 : World.setCell _ _ _ = w12 at *; have HK12 := hid hk12; have c12 : w12.cell? ⟨w.heap.size, 0, none⟩ = some .nilIface := by simp [World.cell?, hrb12]
  clear hk12 hw12 hrb12 d0 g0; have hpost : KeyPost n w bb r m D k v s j (.returned .nilIface) w12 := by
   have s7 := HK78.out.size; have s8 := HK89.out.size; have s10 := HK10.out.size; have s11 := HK11.out.size; have s12 := HK12.out.size; have hx11 : x11 = nxt s j := by
    unfold nxt; rcases H11.out with ⟨h1, _, h2⟩ | ⟨h1, _, _, h2⟩ | ⟨h1, h2, _, _⟩
    · rw [if_neg (by omega)]; exact h2
    · rw [if_pos h1]; exact h2
    · rcases HEnd.out with h | h
      · omega
      · exact absurd h h2
   refine ⟨x, y11, rfl, ?_, ?_, ?_, ?_⟩
   · rw [← hx11]; exact HB11.out.kp HK12.out (by simp; omega)
   · exact ownsMap_kp (ownsMap_kp HM10.out HK11.out (by simp; omega)) HK12.out (by simp; omega)
   · refine HX.out.keep (by omega) ?_
     rintro g ⟨g1, g2⟩ g3
     refine ⟨⟨by omega, by omega⟩, ?_⟩; rw [HK12.out.block g (by omega) (by simp; omega), HK11.out.block g (by omega) (by simp; omega), HK10.out.block g (by omega) (by simp; omega), HK89.out.block g (by omega) (by simp; omega)]
   · exact (((HK8.out.trans (HK89.out.mono (S' := [bb, r]) (fun _ _ h => by simp at h; simp [h]))).trans (HK10.out.mono (S' := [bb, r]) (fun _ _ h => by simp at h; simp [h]))).trans (HK11.out.mono (S' := [bb, r]) (fun _ _ h => by simp at h; simp [h]))).over HK12.out (by simp)
  refine leaves_cons (f := 52) (args := #[.pointer (some ⟨w.heap.size, 0, none⟩)]) (by simp) (by simp [go_sem]) ?_; refine (catch_idle52 _ _).mono ?_
  rintro e9 u9 w13 ⟨rfl, rfl, rfl⟩
  have HPost := hid hpost; clear hpost; simp [Leaves, settle, results, Tryz.results46, go_sem, c12]; exact HPost.out
end
section
open Go.RowKit
set_option maxRecDepth 100000 in
set_option maxHeartbeats 1000000 in
theorem runesUntil_end (w : World) (bb st : Nat) (s : ByteArray) (y : Int) (h11 : 11 ≤ bb) (h : BufAt w bb s s.size y) (hs : s.size ≤ 1000000) :
  Calls Tryz.prog 55 #[.pointer (some ⟨bb, 0, none⟩), .map (some st)] w fun e w' => e = .returned (.tuple #[.slice (some ⟨w.heap.size, 0, none⟩) 0 0, .int .i32 0, EndErr]) ∧ Kp [bb] w w' := by
 have HB := hid h; have hbw := h.lt; clear h; go_enter Tryz.func55, Tryz.ntmps55
 go_wp2_with fail
 have hb1 := hid (HB.out.kp ((Kp.refl [] w).alloc (.cells #[] 21)) (by simp)); have hk1 := hid ((Kp.refl [bb] w).alloc (.cells #[] 21)); generalize hw1 : w.alloc (.cells #[] 21) = w1 at *; clear hw1; go_loopw [7] (fun v7 wx => v7 = .slice (some ⟨w.heap.size, 0, none⟩) 0 0 ∧ wx = w1) (fun _ _ => 0)
 case atStart => exact ⟨rfl, rfl⟩
 case round =>
  obtain ⟨rfl, hrel⟩ := hrel; have hrel' := hrel.symm; subst hrel'; clear hrel; go_wp2_with fail
  refine (read_end w1 bb s y hb1.out hs).mono ?_
  rintro e1 w2 ⟨rfl, hb2, hk2⟩
  have HK2 := hid (hk1.out.trans hk2); clear hb2 hk2; go_wp2_with fail
  go_ret3
  exact ⟨rfl, HK2.out⟩
set_option maxRecDepth 100000 in
set_option maxHeartbeats 1000000 in
theorem key_end (w : World) (p bb r : Nat) (s : ByteArray) (y : Int) (hpar : ParAt w p bb (.map (some r))) (hpb : p ≠ bb) (h11 : 11 ≤ bb) (hb : BufAt w bb s s.size y) (hs : s.size ≤ 1000000) :
  Calls Tryz.prog 46 #[.pointer (some ⟨p, 0, none⟩), .map (some r), .int .i64 0] w fun e w' => e = .returned EndErr ∧ Kp [bb] w w' := by
 have HPa := hid hpar; have HB := hid hb; have hpw := hpar.lt; have hbw := hb.lt; clear hpar hb; have hmf' := hmf; go_enter_defers Tryz.func46, Tryz.ntmps46
 go_wp2_with fail
 have hs0 : ((w.alloc (.cells #[.nilIface] 60)).alloc (.cells #[.int .i32 61, .int .i32 91, .int .i32 44, .int .i32 46] 21)).heap.size = w.heap.size + 1 + 1 := by simp
 have hrb0 : ((w.alloc (.cells #[.nilIface] 60)).alloc (.cells #[.int .i32 61, .int .i32 91, .int .i32 44, .int .i32 46] 21)).heap[w.heap.size]? = some (.cells #[.nilIface] 60 (0, 0)) := by
  show ((w.heap.push _).push _)[w.heap.size]? = _
  rw [Array.getElem?_push]; simp
 have hk2 : Kp [] w ((w.alloc (.cells #[.nilIface] 60)).alloc (.cells #[.int .i32 61, .int .i32 91, .int .i32 44, .int .i32 46] 21)) := ((Kp.refl _ _).alloc _).alloc _; have hrs : ∀ q, ((w.alloc (.cells #[.nilIface] 60)).alloc (.cells #[.int .i32 61, .int .i32 91, .int .i32 44, .int .i32 46] 21)).cell? ⟨w.heap.size + 1, q, none⟩ = (#[.int .i32 61, .int .i32 91, .int .i32 44, .int .i32 46] : Array Value)[q]? := fun q => by
  have := cell_fresh (w.alloc (.cells #[.nilIface] 60)) #[.int .i32 61, .int .i32 91, .int .i32 44, .int .i32 46] 21 (0, 0) q; rw [show (w.alloc (.cells #[.nilIface] 60)).heap.size = w.heap.size + 1 from by simp] at this; exact this
 generalize hW2 : (w.alloc (.cells #[.nilIface] 60)).alloc (.cells #[.int .i32 61, .int .i32 91, .int .i32 44, .int .i32 46] 21) = w2 at *; refine (runeSet_is w2 (w.heap.size + 1) 4 (hrs 0) (hrs 1) (hrs 2) (hrs 3)).mono ?_
 rintro e1 w3 ⟨rfl, hset, hk3⟩
 have HK3 := hid (hk2.trans hk3); have HSet := hid hset; have hrb3 : w3.heap[w.heap.size]? = some (.cells #[.nilIface] 60 (0, 0)) := by rw [hk3.block _ (by omega) (by simp)]; exact hrb0
 have HRb3 := hid hrb3; have hst : w.heap.size + 2 ≤ w2.heap.size := by omega
 clear hk2 hrs hrb0 hW2 hset hk3 hrb3; clear hs0; generalize hsz2 : w2.heap.size = st at *; clear hsz2; have hP3 := HPa.out.kp HK3.out (by simp); have HB3 := hid (HB.out.kp HK3.out (by simp)); have c0 := hP3.c0; have HP3 := hid hP3; have hst3 := HSet.out.lt; clear hP3 HB; have hcall := runesUntil_end w3 bb st s y h11 HB3.out hs; have HC := hid hcall; clear hcall; go_wp2_with fail
 go_loopw [] (fun wx => wx = w3) (fun _ => 0)
 case atStart => exact rfl
 case round =>
  have hrel' := hrel.symm; subst hrel'; clear hrel; go_wp2_with fail
  refine HC.out.mono ?_
  rintro e2 w4 ⟨rfl, hk4⟩
  have hrb4 : w4.heap[w.heap.size]? = some (.cells #[.nilIface] 60 (0, 0)) := by rw [hk4.block _ (by have := HK3.out.size; omega) (by simp; omega)]; exact HRb3.out
  have HK4 := hid ((HK3.out.mono (S' := [bb]) (fun _ _ h => by simp at h)).trans hk4); have HRb4 := hid hrb4; have d0 : w4.cell? ⟨w.heap.size, 0, none⟩ = some .nilIface := by simp [World.cell?, hrb4]
  have g0 : w4.frozen? ⟨w.heap.size, 0, none⟩ = false := by simp [World.frozen?, hrb4]
  clear c0 hk4 hrb4 HC; go_wp2_with fail
  have hrb12 : (w4.setCell ⟨w.heap.size, 0, none⟩ EndErr).heap[w.heap.size]? = some (.cells #[EndErr] 60 (0, 0)) := blk_setCell HRb4.out _; have hk12 : Kp [bb] w (w4.setCell ⟨w.heap.size, 0, none⟩ EndErr) := HK4.out.setCell (Or.inr (Nat.le_refl _)) _; generalize hw12 : World.setCell _ _ _ = w12 at *; have HK12 := hid hk12; have c12 : w12.cell? ⟨w.heap.size, 0, none⟩ = some EndErr := by simp [World.cell?, hrb12]
  clear hk12 hw12 hrb12 d0 g0; refine leaves_cons (f := 52) (args := #[.pointer (some ⟨w.heap.size, 0, none⟩)]) (by simp) (by simp [go_sem]) ?_; refine (catch_idle52 _ _).mono ?_
  rintro e9 u9 w13 ⟨rfl, rfl, rfl⟩
  simp [Leaves, settle, results, Tryz.results46, go_sem, c12]; exact HK12.out
end
section
open Go.RowKit
def insK {α : Type} : List (ByteArray × α) → ByteArray → α → List (ByteArray × α)
 | [], k, x => [(k, x)]
 | (k', y) :: r, k, x => if kb k' k then (k', y) :: insK r k x else if kb k k' then (k, x) :: (k', y) :: r else (k, x) :: r
def RiseP {α : Type} (l : List (ByteArray × α)) : Prop := l.Pairwise fun a b => kb a.1 b.1 = true
theorem insK_key {α : Type} (k : ByteArray) (x : α) : ∀ (l : List (ByteArray × α)) (p : ByteArray × α), p ∈ insK l k x → p = (k, x) ∨ p ∈ l
 | [], p, h => by simp [insK] at h; exact Or.inl h
 | (k', y) :: r, p, h => by
  unfold insK at h
  split at h
  · rcases List.mem_cons.1 h with h | h
    · exact Or.inr (by simp [h])
    · rcases insK_key k x r p h with h | h
      · exact Or.inl h
      · exact Or.inr (by simp [h])
  ·
   split at h
   · rcases List.mem_cons.1 h with h | h
     · exact Or.inl h
     · exact Or.inr h
   · rcases List.mem_cons.1 h with h | h
     · exact Or.inl h
     · exact Or.inr (by simp [h])
theorem insK_rise {α : Type} (k : ByteArray) (x : α) : ∀ (l : List (ByteArray × α)), RiseP l → RiseP (insK l k x)
 | [], _ => by simp [insK, RiseP]
 | (k', y) :: r, h => by
  obtain ⟨h1, h2⟩ := List.pairwise_cons.1 h; unfold insK
  split
  · rename_i hk
    refine List.pairwise_cons.2 ⟨fun p hp => ?_, insK_rise k x r h2⟩; rcases insK_key k x r p hp with rfl | hp
    · exact hk
    · exact h1 p hp
  ·
   rename_i hk
   split
   · rename_i hk2
     refine List.pairwise_cons.2 ⟨fun p hp => ?_, h⟩; rcases List.mem_cons.1 hp with rfl | hp
     · exact hk2
     · exact kb_trans hk2 (h1 p hp)
   · rename_i hk2
     have e := kb_total (by simpa using hk) (by simpa using hk2); subst e; exact List.pairwise_cons.2 ⟨fun p hp => h1 p hp, h2⟩
theorem insK_len {α : Type} (k : ByteArray) (x : α) : ∀ (l : List (ByteArray × α)), (insK l k x).length ≤ l.length + 1
 | [] => by simp [insK]
 | (k', y) :: r => by
  unfold insK
  split
  · have := insK_len k x r; simp; omega
  · split <;> simp
def P2 {α β : Type} (R : α → β → Prop) : List (ByteArray × α) → List (ByteArray × β) → Prop
 | [], [] => True
 | a :: r, b :: s => a.1 = b.1 ∧ R a.2 b.2 ∧ P2 R r s
 | _, _ => False
theorem P2.ins {α β : Type} {R : α → β → Prop} {k : ByteArray} {x : α} {v : β} (hR : R x v) : ∀ {l : List (ByteArray × α)} {m : List (ByteArray × β)}, P2 R l m → P2 R (insK l k x) (insK m k v)
 | [], [], _ => ⟨rfl, hR, trivial⟩
 | [], _ :: _, h => h.elim
 | _ :: _, [], h => h.elim
 | (a, y) :: r, (b, z) :: s, ⟨h1, h2, h3⟩ => by
  have h1 : a = b := h1; subst h1; unfold insK
  split
  · exact ⟨rfl, h2, P2.ins hR h3⟩
  · split
    · exact ⟨rfl, hR, rfl, h2, h3⟩
    · exact ⟨rfl, hR, h3⟩
theorem P2.imp {α β : Type} {R R' : α → β → Prop} (hR : ∀ x v, R x v → R' x v) : ∀ {l : List (ByteArray × α)} {m : List (ByteArray × β)}, P2 R l m → P2 R' l m
 | [], [], _ => trivial
 | [], _ :: _, h => h.elim
 | _ :: _, [], h => h.elim
 | _ :: _, _ :: _, ⟨h1, h2, h3⟩ => ⟨h1, hR _ _ h2, P2.imp hR h3⟩
theorem P2.rise {α β : Type} {R : α → β → Prop} {l : List (ByteArray × α)} {m : List (ByteArray × β)} (h : P2 R l m) : l.map (·.1) = m.map (·.1) := by
 induction l generalizing m with
 | nil => cases m with
  | nil => rfl
  | cons _ _ => exact h.elim
 | cons a r ih => cases m with
  | nil => exact h.elim
  | cons b s => simp [h.1, ih h.2.2]
theorem riseP_iff {α : Type} (l : List (ByteArray × α)) : RiseP l ↔ Rise (l.map (·.1)) := by
 unfold RiseP Rise kb; rw [List.pairwise_map]
theorem put_ins (k : ByteArray) (x : Value) (es : List (ByteArray × Value)) (h : RiseP es) : (DataW.map (es.map entry)).put (.string k.data.toList) (.held x) = .map ((insK es k x).map entry) := by
 unfold DataW.put; simp only []
 congr 1
 induction es with
 | nil => rfl
 | cons p r ih =>
  obtain ⟨k', y⟩ := p; obtain ⟨h1, h2⟩ := List.pairwise_cons.1 h; have ih := ih h2; have hsame : ∀ (q : ByteArray), Lit.sameKey (.string q.data.toList) (.string k.data.toList) = true ↔ q = k := fun q => by
   simp only [Lit.sameKey, beq_iff_eq]; constructor
   · intro e
     have e' : q.data.toList = k.data.toList := by first | exact e | exact Lit.string.inj e
     obtain ⟨⟨q⟩⟩ := q; obtain ⟨⟨k⟩⟩ := k; have e2 : q = k := e'; rw [e2]
   · rintro rfl; rfl
  have hbef : ∀ (q : ByteArray), Lit.before (.string k.data.toList) (.string q.data.toList) = kb k q := fun q => by
   simp only [Lit.before, bytesBefore_lexB]; rfl
  have hno : ∀ (hk : kb k k' = true ∨ k = k'), (r.map entry).filter (fun p => !p.1.sameKey (.string k.data.toList)) = r.map entry := by
   intro hk; rw [List.filter_eq_self]; intro z hz; obtain ⟨q, hq, rfl⟩ := List.mem_map.1 hz; have h3 := h1 q hq; simp only [entry, Bool.not_eq_true']; rw [Bool.eq_false_iff]; intro c; have e := (hsame q.1).1 c; rw [e] at h3; rcases hk with hk | hk
   · rw [kb_asymm hk] at h3; cases h3
   · rw [hk, kb_irrefl] at h3; cases h3
  unfold insK; rw [List.map_cons, List.filter_cons]; by_cases hk : kb k' k = true
  ·
   rw [if_pos hk]; have hne : k' ≠ k := fun e => by rw [e, kb_irrefl] at hk; cases hk
   have hs : Lit.sameKey (.string k'.data.toList) (.string k.data.toList) = false := by
    rw [Bool.eq_false_iff]; intro c; exact hne ((hsame k').1 c)
   rw [if_pos (by simp only [entry, hs]; rfl), DataW.insert, if_neg (by simp only [entry, hbef, kb_asymm hk]; simp), List.map_cons]; rw [ih]
  ·
   rw [if_neg hk]; by_cases hk2 : kb k k' = true
   · rw [if_pos hk2]
     have hne : k' ≠ k := fun e => by rw [e, kb_irrefl] at hk2; cases hk2
     have hs : Lit.sameKey (.string k'.data.toList) (.string k.data.toList) = false := by
      rw [Bool.eq_false_iff]; intro c; exact hne ((hsame k').1 c)
     rw [if_pos (by simp only [entry, hs]; rfl), hno (Or.inl hk2), DataW.insert, if_pos (by simp only [entry, hbef, hk2])]; rfl
   ·
    rw [if_neg hk2]; have e := kb_total (by simpa using hk) (by simpa using hk2); subst e; have hs : Lit.sameKey (.string k'.data.toList) (.string k'.data.toList) = true := (hsame k').2 rfl; rw [if_neg (by simp only [entry, hs]; simp), hno (Or.inr rfl)]
    cases r with
    | nil => rfl
    | cons q r =>
     rw [List.map_cons, DataW.insert, if_pos (by
      have := h1 q (by simp); simp only [entry, hbef]; exact this)]
     rfl
end
section
open Go.RowKit
theorem AnyRep.mono {F : Nat → Prop} {w : World} : ∀ {n m : Nat} {x : Value} {v : JV}, n ≤ m → AnyRep n F w x v → AnyRep m F w x v
 | 0, _, _, _, _, h => h.elim
 | n + 1, 0, _, _, h, _ => absurd h (by omega)
 | n + 1, m + 1, x, v, hm, h => by
  rcases h with h | h | h | h | h | ⟨h1, a, cap, h2, h3⟩ | ⟨h1, r, q, es, h2, h3, h4, h5, h6, h7, h8⟩
  · exact Or.inl h
  · exact Or.inr (Or.inl h)
  · exact Or.inr (Or.inr (Or.inl h))
  · exact Or.inr (Or.inr (Or.inr (Or.inl h)))
  · exact Or.inr (Or.inr (Or.inr (Or.inr (Or.inl h))))
  ·
   refine Or.inr (Or.inr (Or.inr (Or.inr (Or.inr (Or.inl ⟨h1, a, cap, h2, ?_⟩))))); rcases h3 with h3 | ⟨g, e, hF, hg, hk⟩
   · exact Or.inl h3
   · refine Or.inr ⟨g, e, hF, hg, fun k hk' => ?_⟩
     obtain ⟨y, h4, h5⟩ := hk k hk'; exact ⟨y, h4, AnyRep.mono (by omega) h5⟩
  · exact Or.inr (Or.inr (Or.inr (Or.inr (Or.inr (Or.inr ⟨h1, r, q, es, h2, h3, h4, h5, h6, h7, fun k a b => AnyRep.mono (by omega) (h8 k a b)⟩)))))
def TabAt (w : World) (r m N : Nat) (F : Nat → Prop) (kvs : List (ByteArray × JV)) : Prop :=
 ∃ es : List (ByteArray × Value), w.ownsMap Tryz.prog 9 RV r m (.map (es.map entry)) ∧ RiseP es ∧ P2 (fun x v => AnyRep N F w x v) es kvs
def putAll (kvs ps : List (ByteArray × JV)) : List (ByteArray × JV) := ps.foldl (fun acc p => insK acc p.1 p.2) kvs
theorem TabAt.keep {w w' : World} {r m N : Nat} {F F' : Nat → Prop} {kvs : List (ByteArray × JV)} (h : TabAt w r m N F kvs) (hr : w'.heap[r]? = w.heap[r]?) (hs : w.heap.size ≤ w'.heap.size)
  (hF : ∀ g, F g → g < w.heap.size → F' g ∧ w'.heap[g]? = w.heap[g]?) : TabAt w' r m N F' kvs := by
 obtain ⟨es, h1, h2, h3⟩ := h; exact ⟨es, ownsMap_blk h1 hr, h2, h3.imp (fun x v h => h.keep hs hF)⟩
theorem LineAt.head {S : NumSem} {g : Nat → Nat} {n i e : Nat} {p : ByteArray × JV} {rest : List (ByteArray × JV)} (h : LineAt S g n i e (p :: rest)) :
  ∃ c, PairAt S g n i c p.1 p.2 ∧ ((rest = [] ∧ c = e) ∨ (rest ≠ [] ∧ g c = 44 ∧ c + 1 ≤ e ∧ LineAt S g n (c + 1) e rest)) := by
 cases rest with
 | nil => exact ⟨e, h, Or.inl ⟨rfl, rfl⟩⟩
 | cons q r =>
  obtain ⟨c, h1, h2, h3⟩ := h; exact ⟨c, h1, Or.inr ⟨by simp, h2, h3.le, h3⟩⟩
def ParsePost (w : World) (bb r m N : Nat) (kvs ps : List (ByteArray × JV)) (e : Ending) (w' : World) : Prop :=
 ∃ m' : Nat, e = .returned .nilIface ∧ TabAt w' r m' N (fun g => g ≠ r ∧ g ≠ bb) (putAll kvs ps) ∧ Kp [bb, r] w w' ∧ m' ≤ m + ps.length
set_option maxRecDepth 100000 in
set_option maxHeartbeats 2000000 in
theorem parse_is (n N : Nat) (w : World) (p bb r m : Nat) (kvs ps : List (ByteArray × JV)) (s : ByteArray) (i : Nat) (y : Int) (hn : n ≤ 10000) (hnN : n ≤ N) (hpar : ParAt w p bb (.map (some r))) (hpb : p ≠ bb) (hpr : p ≠ r) (hbr : bb ≠ r) (h11 : 11 ≤ bb) (hr11 : 11 ≤ r)
  (hb : BufAt w bb s i y) (hs : s.size ≤ 1000000) (hE : Env w) (hT : TabAt w r m N (fun g => g ≠ r ∧ g ≠ bb) kvs) (hm : m + ps.length ≤ 900000) (hL : LineAt numSem (bt s) n i s.size ps) (hks : ∀ q ∈ ps, q.1.size ≠ 0 ∧ q.1.size ≤ 1000000) :
  Calls Tryz.prog 40 #[.pointer (some ⟨p, 0, none⟩)] w (ParsePost w bb r m N kvs ps) := by
 have HPa := hid hpar; have HB := hid hb; have HE := hid hE; have HT := hid hT; have HL := hid hL; have HKs := hid hks; clear hpar hb hE hT hL hks; go_enter Tryz.func40, Tryz.ntmps40
 go_wp2_with fail
 go_loopg [3] ps.length (fun gf s3 wx => ∃ (i : Nat) (rest acc : List (ByteArray × JV)) (m' : Nat) (y : Int), putAll acc rest = putAll kvs ps ∧ rest.length ≤ gf ∧ LineAt numSem (bt s) n i s.size rest ∧ (∀ q ∈ rest, q.1.size ≠ 0 ∧ q.1.size ≤ 1000000) ∧
  BufAt wx bb s i y ∧ TabAt wx r m' N (fun g => g ≠ r ∧ g ≠ bb) acc ∧ Kp [bb, r] w wx ∧ m' + rest.length ≤ m + ps.length)
 case atStart => exact ⟨i, ps, kvs, m, y, rfl, Nat.le_refl _, HL.out, HKs.out, HB.out, HT.out, Kp.refl _ _, Nat.le_refl _⟩
 case round =>
  obtain ⟨k, rest, acc, m', y', hput, hgf, hL, hks, hB, hT, hK, hmm⟩ := hrel; have hP2 := HPa.out.kp hK (by simp; omega); have HE2 := hid (HE.out.kp hK (by simp; omega)); have c1 := hP2.c1; have HP2 := hid hP2; have HPut := hid hput; have HL2 := hid hL; have HKs2 := hid hks; clear HB HT HL HKs; have HB := hid hB; have HT := hid hT; have HK := hid hK; clear hP2 hput hL hks hB hT hK
  cases rest with
  | nil =>
   have hk : k = s.size := HL2.out; have hB := HB.out; rw [hk] at hB; have hc := key_end wr p bb r s y' HP2.out hpb h11 hB hs; have HC := hid hc; clear hc hk hB; go_wp2_with fail
   refine HC.out.mono ?_
   rintro e1 w1 ⟨rfl, hk1⟩
   have HK1 := hid hk1; clear hk1 c1 HC; go_wp2_with fail
   refine (isEnd_yes w1).mono ?_
   rintro e2 w2 ⟨rfl, hk2⟩
   have HK2 := hid hk2; clear hk2; go_wp2_with fail
   go_ret; have hrlt : r < wr.heap.size := by
    obtain ⟨es, h1, _⟩ := HT.out; exact ownsMap_lt h1
   refine ⟨m', rfl, ?_, (HK.out.trans (HK1.out.mono (S' := [bb, r]) (fun _ _ h => by simp at h; simp [h]))).trans (HK2.out.mono (fun _ _ h => by simp at h)), by simpa using hmm⟩; have hput : acc = putAll kvs ps := HPut.out; rw [← hput]; have s1 := HK1.out.size; have s2 := HK2.out.size; refine HT.out.keep ?_ (by omega) ?_
   · rw [HK2.out.block r (by omega) (by simp), HK1.out.block r hrlt (by simp; omega)]
   · rintro g ⟨g1, g2⟩ g3
     exact ⟨⟨g1, g2⟩, by rw [HK2.out.block g (by omega) (by simp), HK1.out.block g g3 (by simp; omega)]⟩
  | cons q rest =>
   obtain ⟨g', rfl⟩ : ∃ g', gk = g' + 1 := ⟨gk - 1, by simp at hgf; omega⟩; obtain ⟨c, hpair, hnext⟩ := HL2.out.head; have hcs : c ≤ s.size := by
    rcases hnext with ⟨_, h⟩ | ⟨_, _, h, _⟩ <;> omega
   obtain ⟨hq1, hq2⟩ := HKs2.out q (by simp); have HNx := hid hnext; obtain ⟨es, hM, hR, hP⟩ := HT.out; have hlen : m' ≤ 900000 := by omega
   have hc := key_is n wr p bb r m' (.map (es.map entry)) q.1 q.2 s k c y' hn HP2.out hpb hpr hbr h11 hr11 HB.out hs HE2.out hM hlen hpair hq1 hq2 hcs (by
    rcases hnext with ⟨_, h⟩ | ⟨_, h, _, _⟩
    · exact Or.inl h
    · exact Or.inr h)
   have HC := hid hc; have HM := hid hM; have HR := hid hR; have HP := hid hP; clear hc hpair hnext hM hR hP; go_wp2_with fail
   refine HC.out.mono ?_
   rintro e1 w1 ⟨x, y1, rfl, hb1, ho1, hx1, hk1⟩
   have HB1 := hid hb1; have HO1 := hid ho1; have HX1 := hid hx1; have HK1 := hid hk1; clear hb1 ho1 hx1 hk1 c1 HC; go_wp2_with fail
   go_roundg g'
   case measure => omega
   case rel =>
    have hrlt := ownsMap_lt HM.out; have s1 := HK1.out.size; have hbw := HB.out.lt; refine ⟨nxt s c, rest, insK acc q.1 q.2, m' + 1, y1, HPut.out, by simp at hgf; omega, ?_, fun z hz => HKs2.out z (by simp [hz]), HB1.out, ⟨insK es q.1 x, ?_, insK_rise _ _ _ HR.out, ?_⟩, HK.out.trans HK1.out, by simp at hmm; omega⟩
    · unfold nxt
      rcases HNx.out with ⟨h, e⟩ | ⟨_, _, h1, h2⟩
      · subst h
        rw [if_neg (by omega), e]; exact rfl
      · rw [if_pos (by omega)]; exact h2
    · have := HO1.out
      rw [put_ins _ _ _ HR.out] at this; exact this
    ·
     refine P2.ins ?_ (HP.out.imp ?_)
     · refine AnyRep.mono hnN (HX1.out.keep (Nat.le_refl _) ?_)
       rintro g ⟨g1, g2⟩ g3
       exact ⟨⟨by omega, by omega⟩, rfl⟩
     · intro x v h
       refine h.keep s1 ?_
       rintro g ⟨g1, g2⟩ g3
       exact ⟨⟨g1, g2⟩, HK1.out.block g g3 (by simp; omega)⟩
end
section
open Go.RowKit
def PjPost (w : World) (r m N : Nat) (kvs ps : List (ByteArray × JV)) (e : Ending) (w' : World) : Prop :=
 ∃ m' : Nat, e = .returned .nilIface ∧ TabAt w' r m' N (fun g => g ≠ r) (putAll kvs ps) ∧ Kp [r] w w' ∧ m' ≤ m + ps.length
set_option maxRecDepth 100000 in
set_option maxHeartbeats 400000 in
theorem parseJSON_is (n N : Nat) (w : World) (r m : Nat) (kvs ps : List (ByteArray × JV)) (s : ByteArray) (hn : n ≤ 10000) (hnN : n ≤ N) (hr11 : 11 ≤ r)
  (hs : s.size ≤ 1000000) (hE : Env w) (hT : TabAt w r m N (fun g => g ≠ r) kvs) (hm : m + ps.length ≤ 900000) (hL : LineAt numSem (bt s) n 0 s.size ps) (hks : ∀ q ∈ ps, q.1.size ≠ 0 ∧ q.1.size ≤ 1000000) :
  Calls Tryz.prog 28 #[.string s, .map (some r)] w (PjPost w r m N kvs ps) := by
 have HE := hid hE; have HT := hid hT; have HL := hid hL; have HKs := hid hks; have hrw : r < w.heap.size := by
  obtain ⟨es, h, _⟩ := hT; exact ownsMap_lt h
 have h11 := hE.size; clear hE hT hL hks; go_enter Tryz.func28, Tryz.ntmps28
 go_wp2_with fail
 refine (newBuffer_is w s).mono ?_
 rintro e1 w1 ⟨rfl, hb1, hk1, hs1⟩
 have HB1 := hid hb1; have HK1 := hid hk1; generalize hbb : w.heap.size = bb at *; have HBb := hid hbb; have hbb1 : bb < w1.heap.size := by omega
 clear hb1 hk1 hbb hs1; go_wp2_with fail
 refine (newParser_is w1 bb (.map (some r)) ⟨_, rfl⟩).mono ?_
 rintro e2 w2 ⟨rfl, hp2, hk2, hs2⟩
 have HP2 := hid hp2; have HK2 := hid hk2; clear hp2 hk2 hs2; generalize hpp : w1.heap.size = p at *; have HPp := hid hpp; clear hpp; have hT2 : TabAt w2 r m N (fun g => g ≠ r ∧ g ≠ bb) kvs := by
  have s1 := HK1.out.size; have e1 := HBb.out; have e2 := HPp.out; have s2 := HK2.out.size; refine HT.out.keep ?_ (by omega) ?_
  · rw [HK2.out.block r (by omega) (by simp), HK1.out.block r (by omega) (by simp)]
  · intro g g1 g2
    exact ⟨⟨g1, by omega⟩, by rw [HK2.out.block g (by omega) (by simp), HK1.out.block g g2 (by simp)]⟩
 have hc := parse_is n N w2 p bb r m kvs ps s 0 0 hn hnN HP2.out (by omega) (by omega) (by omega) (by omega) hr11 (HB1.out.kp HK2.out (by simp)) hs ((HE.out.kp HK1.out (by simp)).kp HK2.out (by simp)) hT2 hm HL.out HKs.out; have HC := hid hc; clear hc hT2; go_wp2_with fail
 refine HC.out.mono ?_
 rintro e3 w3 ⟨m', rfl, hT3, hk3, hm3⟩
 have HT3 := hid hT3; have HK3 := hid hk3; clear hT3 hk3 HC; go_wp2_with fail
 go_ret; refine ⟨m', rfl, HT3.out.keep rfl (Nat.le_refl _) (fun g ⟨g1, _⟩ _ => ⟨g1, rfl⟩), ?_, hm3⟩; have h12 := HK1.out.trans HK2.out; have e1 := HBb.out; have e2 := HPp.out; refine ⟨HK3.out.os.trans h12.os, HK3.out.tape.trans h12.tape, HK3.out.output.trans h12.output, Nat.le_trans h12.size HK3.out.size, fun q h1 h2 => ?_⟩; have := h12.size; rw [HK3.out.block q (by omega) (by simp at h2; simp; omega), h12.block q h1 (by simp)]
end
section
open Go.RowKit
def AnyPost (n : Nat) (w : World) (nb : Nat) (k c : Nat) (v : JV) (e : Ending) (w' : World) : Prop :=
 ∃ x : Value, e = .returned (.tuple #[x, .bool true]) ∧ AnyRep n (Made w w') w' x v ∧ CntAt w' nb ((k + c : Nat) : Int) ∧ Kp [nb] w w'
def Short : Nat → JV → Prop
 | 0, _ => False
 | n + 1, v => (∀ q ∈ v.ks, q.size ≤ 100000000) ∧ ∀ x ∈ v.l, Short n x
def AnyDoes (n : Nat) : Prop :=
 ∀ (d : Nat) (w0 w : World) (nb k c dep : Nat) (v : JV) (kp lp : Option Addr) (kc lc : Nat), RightC n v c → Short n v → Deep d w0 v kp lp → Kp [] w0 w → w0.heap.size ≤ nb → CntAt w nb k → k + c ≤ 2000 → dep + n ≤ 61 →
  Calls Tryz.prog 37 #[valOf v kp kc lp lc, .int .i64 dep, .pointer (some ⟨nb, 0, none⟩)] w (AnyPost n w nb k c v)
set_option maxRecDepth 100000 in
set_option maxHeartbeats 2000000 in
theorem any_scalar (n : Nat) (w : World) (nb k dep : Nat) (v : JV) (kp lp : Option Addr) (kc lc : Nat) (hk : v.kind = 0 ∨ v.kind = 1 ∨ v.kind = 2 ∨ v.kind = 4 ∨ v.kind = 5) (hc : CntAt w nb k) (hk2 : k + 1 ≤ 2000) (hdep : dep ≤ 60) :
  Calls Tryz.prog 37 #[valOf v kp kc lp lc, .int .i64 dep, .pointer (some ⟨nb, 0, none⟩)] w (AnyPost (n + 1) w nb k 1 v) := by
 have k1 : decide ((dep : Int) > 60) = false := by rw [decide_eq_false_iff_not]; omega
 have k2 : decide ((k : Int) + 1 > 2000) = false := by rw [decide_eq_false_iff_not]; omega
 have hlt := hc.lt; have HIn := hid (any_in w nb k v kp kc lp lc hc); have hc1 : CntAt (w.alloc (.cells #[.int .i64 v.kind, .bool v.b, .int .i64 v.i, .float .f64 v.f, .string v.t, .slice kp v.ks.length kc, .slice lp v.l.length lc] 26)) nb k := hc.kp (S := []) ((Kp.refl _ _).alloc _) (by simp); have c0 := hc1.c0; have f0 := hc1.fr; clear hc1 hc; unfold valOf; generalize hvk : v.kind = K at *; have HKd := hid hvk; clear hvk; rcases hk with rfl | rfl | rfl | rfl | rfl; all_goals
  go_enter Tryz.func37, Tryz.ntmps37
  go_upto_region 2 with fail
  generalize hW : World.alloc (World.setCell _ _ _) _ = w1 at *; clear c0 f0 hW; have c0 := HIn.out.cnt.c0; have b0 := HIn.out.box.c0; rw [HKd.out] at b0; have b1 := HIn.out.box.c1; have b2 := HIn.out.box.c2; have b3 := HIn.out.box.c3; have b4 := HIn.out.box.c4; go_wp2_with fail
  go_ret2
  refine ⟨_, rfl, ?_, ?_, HIn.out.kp'⟩
  ·
   first
    | exact Or.inl ⟨HKd.out, rfl⟩
    | exact Or.inr (Or.inl ⟨HKd.out, rfl⟩)
    | exact Or.inr (Or.inr (Or.inl ⟨HKd.out, rfl⟩))
    | exact Or.inr (Or.inr (Or.inr (Or.inl ⟨HKd.out, rfl⟩)))
    | exact Or.inr (Or.inr (Or.inr (Or.inr (Or.inl ⟨HKd.out, rfl⟩))))
  · have h := HIn.out.cnt
    rw [show ((k + 1 : Nat) : Int) = (k : Int) + 1 from by push_cast; rfl]; exact h
end
end Go.Proofs.YtljaoopfomcaoaaGreatDoor
