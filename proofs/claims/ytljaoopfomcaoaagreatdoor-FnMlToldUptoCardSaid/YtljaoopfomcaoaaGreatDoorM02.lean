import Derived.Test.YtljaoopfomcaoaaGreatDoorM01
set_option linter.all false
namespace Go.Proofs.YtljaoopfomcaoaaGreatDoor
section
def Same (g g' : Nat → Nat) (o i j : Nat) : Prop := ∀ k, i ≤ k → k < j → g' (k + o) = g k
theorem Same.sub {g g' : Nat → Nat} {o i j i' j' : Nat} (h : Same g g' o i j) (h1 : i ≤ i') (h2 : j' ≤ j) : Same g g' o i' j' := fun k a b => h k (by omega) (by omega)
theorem Ws.up {g g' : Nat → Nat} {o i j : Nat} (h : Ws g i j) (hs : Same g g' o i j) : Ws g' (i + o) (j + o) := by
 refine ⟨by have := h.1; omega, fun k h1 h2 => ?_⟩; have := hs (k - o) (by omega) (by omega); rw [show k - o + o = k by omega] at this; rw [this]; exact h.2 _ (by omega) (by omega)
theorem At.up {g g' : Nat → Nat} {o i : Nat} {l : List Nat} (h : At g i l) (hs : Same g g' o i (i + l.length)) : At g' (i + o) l := by
 intro k hk; rw [← h k hk, ← hs (i + k) (by omega) (by omega)]
 congr 1; omega
theorem Unit4.up {g g' : Nat → Nat} {o i u : Nat} (h : Unit4 g i u) (hs : Same g g' o i (i + 6)) : Unit4 g' (i + o) u := by
 obtain ⟨h1, h2, a, b, c, d, h3, h4, h5, h6, h7⟩ := h; have e : ∀ m, m < 6 → g' (i + o + m) = g (i + m) := fun m hm => by
  rw [← hs (i + m) (by omega) (by omega)]; congr 1; omega
 refine ⟨?_, ?_, a, b, c, d, ?_, ?_, ?_, ?_, h7⟩
 · rw [show i + o = i + o + 0 from rfl, e 0 (by omega)]; exact h1
 · rw [e 1 (by omega)]; exact h2
 · rw [e 2 (by omega)]; exact h3
 · rw [e 3 (by omega)]; exact h4
 · rw [e 4 (by omega)]; exact h5
 · rw [e 5 (by omega)]; exact h6
theorem Piece.up {g g' : Nat → Nat} {o i j r : Nat} (h : Piece g i j r) (hs : Same g g' o i j) : Piece g' (i + o) (j + o) r := by
 rcases h with ⟨h1, h2, h3, h4, h5, h6⟩ | ⟨h1, h2, h3⟩ | ⟨h1, h2, h3⟩ | ⟨u, v, h1, h2, h3, h4⟩
 · exact Or.inl ⟨h1, h2, h3, h4, h5.up (hs.sub (Nat.le_refl _) (by omega)), by omega⟩
 · have e1 := hs i (Nat.le_refl _) (by omega)
   have e2 := hs (i + 1) (by omega) (by omega); rw [show i + 1 + o = i + o + 1 by omega] at e2; exact Or.inr (Or.inl ⟨by rw [e1]; exact h1, by omega, by rw [e2]; exact h3⟩)
 · exact Or.inr (Or.inr (Or.inl ⟨h1.up (hs.sub (Nat.le_refl _) (by omega)), by omega, h3⟩))
 · refine Or.inr (Or.inr (Or.inr ⟨u, v, h1.up (hs.sub (Nat.le_refl _) (by omega)), ?_, by omega, h4⟩))
   rw [show i + o + 6 = i + 6 + o by omega]; exact h2.up (hs.sub (by omega) (by omega))
theorem StrBody.le {g : Nat → Nat} {j : Nat} {rs : List Nat} {i : Nat} (h : StrBody g i j rs) : i ≤ j := by
 induction rs generalizing i with
 | nil => exact Nat.le_of_eq h
 | cons r rs ih =>
  obtain ⟨a, h1, h2⟩ := h; have := ih h2; have := utf8_len r; rcases h1 with ⟨_, _, _, _, _, h⟩ | ⟨_, h, _⟩ | ⟨_, h, _⟩ | ⟨_, _, _, _, h, _⟩ <;> omega
theorem Piece.lt {g : Nat → Nat} {i j r : Nat} (h : Piece g i j r) : i < j := by
 have := utf8_len r; rcases h with ⟨_, _, _, _, _, h⟩ | ⟨_, h, _⟩ | ⟨_, h, _⟩ | ⟨_, _, _, _, h, _⟩ <;> omega
theorem StrBody.up {g g' : Nat → Nat} {o j : Nat} : ∀ {rs : List Nat} {i : Nat}, StrBody g i j rs → Same g g' o i j → StrBody g' (i + o) (j + o) rs
 | [], i, h, _ => by have : i = j := h; subst this; exact rfl
 | r :: rs, i, ⟨a, h1, h2⟩, hs => ⟨a + o, h1.up (hs.sub (Nat.le_refl _) h2.le), h2.up (hs.sub (Nat.le_of_lt h1.lt) (Nat.le_refl _))⟩
theorem StrAt.up {g g' : Nat → Nat} {o i j : Nat} {rs : List Nat} (h : StrAt g i j rs) (hs : Same g g' o i j) : StrAt g' (i + o) (j + o) rs := by
 obtain ⟨h1, e, h2, h3, h4⟩ := h; have := h2.le; refine ⟨by rw [hs i (Nat.le_refl _) (by omega)]; exact h1, e + o, ?_, by rw [hs e (by omega) (by omega)]; exact h3, by omega⟩; rw [show i + o + 1 = i + 1 + o by omega]; exact h2.up (hs.sub (by omega) (by omega))
theorem StrAt.lt {g : Nat → Nat} {i j : Nat} {rs : List Nat} (h : StrAt g i j rs) : i < j := by
 obtain ⟨h1, e, h2, h3, h4⟩ := h; have := h2.le; omega
theorem Elems.up {g g' : Nat → Nat} {o : Nat} {T T' : Nat → Nat → JV → Prop} (hT : ∀ a b v, T a b v → a < b) (hup : ∀ a b v, T a b v → Same g g' o a b → T' (a + o) (b + o) v) :
  ∀ {vs : List JV} {i j : Nat}, Elems g T i j vs → Same g g' o i j → Elems g' T' (i + o) (j + o) vs
 | [], _, _, h, _ => absurd h (by simp [Elems])
 | [v], i, j, ⟨a, b, h1, h2, h3⟩, hs => by
  have := h1.1; have := h3.1; have := hT _ _ _ h2; exact ⟨a + o, b + o, h1.up (hs.sub (by omega) (by omega)), hup _ _ _ h2 (hs.sub (by omega) (by omega)), h3.up (hs.sub (by omega) (by omega))⟩
 | v :: u :: vs, i, j, ⟨a, b, c, h1, h2, h3, h4, h5⟩, hs => by
  have := h1.1; have := h3.1; have := hT _ _ _ h2; have hle := Elems.le hT h5; refine ⟨a + o, b + o, c + o, h1.up (hs.sub (by omega) (by omega)), hup _ _ _ h2 (hs.sub (by omega) (by omega)), h3.up (hs.sub (by omega) (by omega)), ?_, ?_⟩
  · rw [hs c (by omega) (by omega)]; exact h4
  · rw [show c + o + 1 = c + 1 + o by omega]
    exact Elems.up hT hup h5 (hs.sub (by omega) (by omega))
theorem Membs.up {g g' : Nat → Nat} {o : Nat} {T T' : Nat → Nat → JV → Prop} (hT : ∀ a b v, T a b v → a < b) (hup : ∀ a b v, T a b v → Same g g' o a b → T' (a + o) (b + o) v) :
  ∀ (ks : List ByteArray) {vs : List JV} {i j : Nat}, Membs g T i j ks vs → Same g g' o i j → Membs g' T' (i + o) (j + o) ks vs
 | [], vs, i, j, h, _ => absurd h (by cases vs <;> simp [Membs])
 | [k], [], i, j, h, _ => absurd h (by simp [Membs])
 | k :: k2 :: ks, [], i, j, h, _ => absurd h (by simp [Membs])
 | [k], [v], i, j, ⟨a, b, c, d, e, rs, h1, h2, h3, h4, h5, h6, h7, h8⟩, hs => by
  have := h1.1; have := h2.lt; have := h4.1; have := h6.1; have := hT _ _ _ h7; have := h8.1; refine ⟨a + o, b + o, c + o, d + o, e + o, rs, h1.up (hs.sub (by omega) (by omega)), h2.up (hs.sub (by omega) (by omega)), h3, h4.up (hs.sub (by omega) (by omega)), ?_, ?_,
   hup _ _ _ h7 (hs.sub (by omega) (by omega)), h8.up (hs.sub (by omega) (by omega))⟩
  · rw [hs c (by omega) (by omega)]; exact h5
  · rw [show c + o + 1 = c + 1 + o by omega]
    exact h6.up (hs.sub (by omega) (by omega))
 | [k], v :: u :: vs, i, j, ⟨a, b, c, d, e, f, rs, h1, h2, h3, h4, h5, h6, h7, h8, h9, h10⟩, hs => absurd h10 (by simp [Membs])
 | k :: k2 :: ks, [v], i, j, ⟨a, b, c, d, e, f, rs, h1, h2, h3, h4, h5, h6, h7, h8, h9, h10⟩, hs => absurd h10 (by cases ks <;> simp [Membs])
 | k :: k2 :: ks, v :: u :: vs, i, j, ⟨a, b, c, d, e, f, rs, h1, h2, h3, h4, h5, h6, h7, h8, h9, h10⟩, hs => by
  have := h1.1; have := h2.lt; have := h4.1; have := h6.1; have := hT _ _ _ h7; have := h8.1; have hle := Membs.le hT h10; refine ⟨a + o, b + o, c + o, d + o, e + o, f + o, rs, h1.up (hs.sub (by omega) (by omega)), h2.up (hs.sub (by omega) (by omega)), h3, h4.up (hs.sub (by omega) (by omega)), ?_, ?_,
   hup _ _ _ h7 (hs.sub (by omega) (by omega)), h8.up (hs.sub (by omega) (by omega)), ?_, ?_⟩
  · rw [hs c (by omega) (by omega)]; exact h5
  · rw [show c + o + 1 = c + 1 + o by omega]
    exact h6.up (hs.sub (by omega) (by omega))
  · rw [hs f (by omega) (by omega)]; exact h9
  · rw [show f + o + 1 = f + 1 + o by omega]
    exact Membs.up hT hup (k2 :: ks) h10 (hs.sub (by omega) (by omega))
theorem Tx.up {S : NumSem} {g g' : Nat → Nat} {o : Nat} : ∀ {n i j : Nat} {v : JV}, Tx S g n i j v → Same g g' o i j → Tx S g' n (i + o) (j + o) v
 | 0, _, _, _, h, _ => absurd h (by simp [Tx])
 | n + 1, i, j, v, h, hs => by
  have hT : ∀ a b w, Tx S g n a b w → a < b := fun a b w hw => (Tx.start hw).1
  have hup : ∀ a b w, Tx S g n a b w → Same g g' o a b → Tx S g' n (a + o) (b + o) w := fun a b w hw h => Tx.up hw h
  rcases h with ⟨h, e, q⟩ | ⟨h, e, q⟩ | ⟨h, e, q⟩ | ⟨m, hm, h, e, gS, q⟩ | ⟨rs, h, gt, q⟩ | ⟨e, h1, h2, h3, h4, h5⟩ | ⟨e, h1, h2, h3, h4, h5⟩
  · exact Or.inl ⟨h.up (hs.sub (by omega) (by simp; omega)), by omega, q⟩
  · exact Or.inr (Or.inl ⟨h.up (hs.sub (by omega) (by simp; omega)), by omega, q⟩)
  · exact Or.inr (Or.inr (Or.inl ⟨h.up (hs.sub (by omega) (by simp; omega)), by omega, q⟩))
  · exact Or.inr (Or.inr (Or.inr (Or.inl ⟨m, hm, h.up (hs.sub (by omega) (by omega)), by omega, gS, q⟩)))
  · exact Or.inr (Or.inr (Or.inr (Or.inr (Or.inl ⟨rs, h.up hs, gt, q⟩))))
  ·
   have hie : i + 1 ≤ e := by
    rcases h4 with ⟨_, h⟩ | h
    · exact h.1
    · exact Nat.le_of_lt (h.le hT)
   refine Or.inr (Or.inr (Or.inr (Or.inr (Or.inr (Or.inl ⟨e + o, by rw [hs i (by omega) (by omega)]; exact h1, by rw [hs e (by omega) (by omega)]; exact h2, by omega, ?_, h5⟩))))); rw [show i + o + 1 = i + 1 + o by omega]; rcases h4 with ⟨h4, h6⟩ | h4
   · exact Or.inl ⟨h4, h6.up (hs.sub (by omega) (by omega))⟩
   · exact Or.inr (Elems.up hT hup h4 (hs.sub (by omega) (by omega)))
  ·
   have hie : i + 1 ≤ e := by
    rcases h4 with ⟨_, _, h⟩ | h
    · exact h.1
    · exact Nat.le_of_lt (h.le hT)
   refine Or.inr (Or.inr (Or.inr (Or.inr (Or.inr (Or.inr ⟨e + o, by rw [hs i (by omega) (by omega)]; exact h1, by rw [hs e (by omega) (by omega)]; exact h2, by omega, ?_, h5⟩))))); rw [show i + o + 1 = i + 1 + o by omega]; rcases h4 with ⟨h4, h4b, h6⟩ | h4
   · exact Or.inl ⟨h4, h4b, h6.up (hs.sub (by omega) (by omega))⟩
   · exact Or.inr (Membs.up hT hup _ h4 (hs.sub (by omega) (by omega)))
end
section
def gl (l : List Nat) : Nat → Nat := fun k => l.getD k 0
theorem gl_left (a b : List Nat) : Same (gl a) (gl (a ++ b)) 0 0 a.length := fun k _ h => by
 unfold gl; rw [List.getD_eq_getElem?_getD, List.getD_eq_getElem?_getD, Nat.add_zero, List.getElem?_append_left h]
theorem gl_right (a b : List Nat) (j : Nat) : Same (gl b) (gl (a ++ b)) a.length 0 j := fun k _ h => by
 unfold gl; rw [List.getD_eq_getElem?_getD, List.getD_eq_getElem?_getD, List.getElem?_append_right (by omega), Nat.add_sub_cancel]
theorem gl_at (a b : List Nat) : At (gl (a ++ b)) a.length b := fun k hk => by
 unfold gl; rw [List.getD_eq_getElem?_getD, List.getElem?_append_right (by omega), Nat.add_sub_cancel_left, ← List.getD_eq_getElem?_getD]
theorem gl_at0 (b : List Nat) : At (gl b) 0 b := by have := gl_at [] b; simpa using this
theorem gl_mid (a : List Nat) (x : Nat) (b : List Nat) : gl (a ++ x :: b) a.length = x := by
 unfold gl; rw [List.getD_eq_getElem?_getD, List.getElem?_append_right (by omega), Nat.sub_self]; rfl
theorem StrBody.snoc {g : Nat → Nat} {j k r : Nat} : ∀ {rs : List Nat} {i : Nat}, StrBody g i j rs → Piece g j k r → StrBody g i k (rs ++ [r])
 | [], i, h, hp => by
  have h' : i = j := h; subst h'; exact ⟨k, hp, rfl⟩
 | r' :: rs, i, ⟨a, h1, h2⟩, hp => ⟨a, h1, StrBody.snoc h2 hp⟩
def Body (t : List Nat) (rs : List Nat) : Prop := StrBody (gl t) 0 t.length rs
theorem Body.nil : Body [] [] := rfl
theorem Body.snoc {t u rs : List Nat} {r : Nat} (h : Body t rs) (hp : Piece (gl u) 0 u.length r) : Body (t ++ u) (rs ++ [r]) := by
 unfold Body at *; have h1 := StrBody.up h (gl_left t u); have h2 := Piece.up hp (gl_right t u u.length); rw [Nat.add_zero] at h1; rw [Nat.zero_add] at h2; rw [List.length_append, Nat.add_comm t.length]; exact StrBody.snoc h1 h2
theorem Body.str {t rs : List Nat} (h : Body t rs) : StrAt (gl (34 :: t ++ [34])) 0 (34 :: t ++ [34]).length rs := by
 unfold Body at h; have h1 := StrBody.up h (gl_right [34] t t.length); have h2 := StrBody.up h1 (g' := gl ([34] ++ t ++ [34])) (o := 0) ((gl_left ([34] ++ t) [34]).sub (by simp) (by simp)); simp only [List.length_cons, List.length_nil, Nat.zero_add, Nat.add_zero] at h2; have e : [34] ++ t ++ [34] = 34 :: t ++ [34] := rfl; rw [e] at h2; refine ⟨by simp [gl], t.length + 1, h2, ?_, by simp⟩; rw [show (34 :: t ++ [34] : List Nat) = (34 :: t) ++ 34 :: [] from rfl]; have := gl_mid (34 :: t) 34 []; simpa using this
theorem piece_raw {r : Nat} (h : scalar r) (h1 : 32 ≤ r) (h2 : r ≠ 34) (h3 : r ≠ 92) : Piece (gl (utf8 r)) 0 (utf8 r).length r :=
 Or.inl ⟨h, h1, h2, h3, gl_at0 _, by omega⟩
theorem piece_n : Piece (gl [92, 110]) 0 [92, 110].length 10 := Or.inr (Or.inl ⟨rfl, rfl, Or.inr (Or.inr (Or.inr ⟨rfl, rfl⟩))⟩)
theorem piece_sl {r : Nat} (h : r = 34 ∨ r = 92 ∨ r = 47) : Piece (gl [92, r]) 0 [92, r].length r := by
 refine Or.inr (Or.inl ⟨rfl, rfl, ?_⟩); rcases h with rfl | rfl | rfl
 · exact Or.inl ⟨rfl, rfl⟩
 · exact Or.inr (Or.inl ⟨rfl, rfl⟩)
 · exact Or.inr (Or.inr (Or.inl ⟨rfl, rfl⟩))
def Six (u : Nat) (t : List Nat) : Prop := t.length = 6 ∧ Unit4 (gl t) 0 u
theorem piece_four {u : Nat} {t : List Nat} (h : Six u t) (hs : scalar u) : Piece (gl t) 0 t.length u :=
 Or.inr (Or.inr (Or.inl ⟨h.2, h.1, hs⟩))
theorem piece_pair {u v r : Nat} {t s : List Nat} (h : Six u t) (k : Six v s) (h1 : 55296 ≤ u) (h2 : u < 56320) (h3 : 56320 ≤ v) (h4 : v < 57344)
  (e : r = (u - 55296) * 1024 + (v - 56320) + 65536) : Piece (gl (t ++ s)) 0 (t ++ s).length r := by
 have a := Unit4.up h.2 ((gl_left t s).sub (Nat.le_refl _) (by rw [h.1]; exact Nat.le_refl _)); have b := Unit4.up k.2 (gl_right t s 6); rw [Nat.add_zero] at a; rw [h.1] at b; exact Or.inr (Or.inr (Or.inr ⟨u, v, a, b, by rw [List.length_append, h.1, k.1], h1, h2, h3, h4, e⟩))
theorem six_of {a b c d u x y z q : Nat} (ha : hexv a = some x) (hb : hexv b = some y) (hc : hexv c = some z) (hd : hexv d = some q) (e : u = ((x * 16 + y) * 16 + z) * 16 + q) :
  Six u [92, 117, a, b, c, d] := ⟨rfl, rfl, rfl, x, y, z, q, ha, hb, hc, hd, e⟩
def HexOf (x c : Nat) : Prop := hexv c = some x
def Wh (t : List Nat) : Prop := ∀ x ∈ t, ws x = true
theorem Wh.nil : Wh [] := fun _ h => by simp at h
theorem Wh.app {a b : List Nat} (h : Wh a) (k : Wh b) : Wh (a ++ b) := fun x hx => by
 rcases List.mem_append.1 hx with h' | h'
 · exact h x h'
 · exact k x h'
theorem Wh.ws {t : List Nat} (h : Wh t) : Ws (gl t) 0 t.length := ⟨Nat.zero_le _, fun k _ hk => h _ (by
 unfold gl; rw [List.getD_eq_getElem?_getD, List.getElem?_eq_getElem hk, Option.getD_some]; exact List.getElem_mem hk)⟩
theorem Wh.behind {t u : List Nat} (h : Wh u) : Ws (gl (t ++ u)) t.length (t ++ u).length := by
 have := Ws.up h.ws (gl_right t u u.length); rw [Nat.zero_add] at this; rw [List.length_append, Nat.add_comm t.length]; exact this
theorem Elems.snoc {g : Nat → Nat} {T : Nat → Nat → JV → Prop} {j a b e : Nat} {v : JV} : ∀ {vs : List JV} {i : Nat}, Elems g T i j vs → g j = 44 → Ws g (j + 1) a → T a b v → Ws g b e → Elems g T i e (vs ++ [v])
 | [], _, h, _, _, _, _ => h.elim
 | [x], i, ⟨a', b', h1, h2, h3⟩, hc, hw, hT, he => ⟨a', b', j, h1, h2, h3, hc, ⟨a, b, hw, hT, he⟩⟩
 | x :: y :: vs, i, ⟨a', b', c', h1, h2, h3, h4, h5⟩, hc, hw, hT, he => ⟨a', b', c', h1, h2, h3, h4, Elems.snoc h5 hc hw hT he⟩
theorem Elems.one {g : Nat → Nat} {T : Nat → Nat → JV → Prop} {i a b e : Nat} {v : JV} (hw : Ws g i a) (hT : T a b v) (he : Ws g b e) : Elems g T i e [v] := ⟨a, b, hw, hT, he⟩
theorem Membs.snoc {g : Nat → Nat} {T : Nat → Nat → JV → Prop} {j a b c d e f : Nat} {k : ByteArray} {v : JV} {rs : List Nat} : ∀ {ks : List ByteArray} {vs : List JV} {i : Nat}, Membs g T i j ks vs → g j = 44 →
  Ws g (j + 1) a → StrAt g a b rs → bytesOf k = enc rs → Ws g b c → g c = 58 → Ws g (c + 1) d → T d e v → Ws g e f → Membs g T i f (ks ++ [k]) (vs ++ [v])
 | [], [], _, h, _, _, _, _, _, _, _, _, _ => h.elim
 | [], _ :: _, _, h, _, _, _, _, _, _, _, _, _ => h.elim
 | _ :: _, [], _, h, _, _, _, _, _, _, _, _, _ => by simp [Membs] at h
 | [k'], [x], i, ⟨a', b', c', d', e', rs', h1, h2, h3, h4, h5, h6, h7, h8⟩, hc, q1, q2, q3, q4, q5, q6, q7, q8 =>
  ⟨a', b', c', d', e', j, rs', h1, h2, h3, h4, h5, h6, h7, h8, hc, ⟨a, b, c, d, e, rs, q1, q2, q3, q4, q5, q6, q7, q8⟩⟩
 | [_], _ :: _ :: _, _, h, _, _, _, _, _, _, _, _, _ => by
  obtain ⟨_, _, _, _, _, _, _, _, _, _, _, _, _, _, _, _, h⟩ := h; simp [Membs] at h
 | _ :: _ :: _, [_], _, h, _, _, _, _, _, _, _, _, _ => by
  obtain ⟨_, _, _, _, _, _, _, _, _, _, _, _, _, _, _, _, h⟩ := h; simp [Membs] at h
 | k' :: k2 :: ks, x :: x2 :: vs, i, ⟨a', b', c', d', e', f', rs', h1, h2, h3, h4, h5, h6, h7, h8, h9, h10⟩, hc, q1, q2, q3, q4, q5, q6, q7, q8 =>
  ⟨a', b', c', d', e', f', rs', h1, h2, h3, h4, h5, h6, h7, h8, h9, Membs.snoc h10 hc q1 q2 q3 q4 q5 q6 q7 q8⟩
theorem Membs.one {g : Nat → Nat} {T : Nat → Nat → JV → Prop} {i a b c d e f : Nat} {k : ByteArray} {v : JV} {rs : List Nat} (q1 : Ws g i a) (q2 : StrAt g a b rs) (q3 : bytesOf k = enc rs) (q4 : Ws g b c) (q5 : g c = 58) (q6 : Ws g (c + 1) d)
  (q7 : T d e v) (q8 : Ws g e f) : Membs g T i f [k] [v] := ⟨a, b, c, d, e, rs, q1, q2, q3, q4, q5, q6, q7, q8⟩
end
section
def KChar (g : Nat → Nat) (i j r : Nat) : Prop :=
 scalar r ∧ ((r ≠ 61 ∧ r ≠ 91 ∧ r ≠ 44 ∧ r ≠ 46 ∧ r ≠ 92 ∧ At g i (utf8 r) ∧ j = i + (utf8 r).length) ∨ (g i = 92 ∧ At g (i + 1) (utf8 r) ∧ j = i + 1 + (utf8 r).length))
def KeyAt (g : Nat → Nat) : Nat → Nat → List Nat → Prop
 | i, j, [] => i = j
 | i, j, r :: rs => ∃ a, KChar g i a r ∧ KeyAt g a j rs
theorem KChar.lt {g : Nat → Nat} {i j r : Nat} (h : KChar g i j r) : i < j := by
 have := (utf8_len r).1; rcases h.2 with ⟨_, _, _, _, _, _, e⟩ | ⟨_, _, e⟩ <;> omega
theorem KChar.up {g g' : Nat → Nat} {o i j r : Nat} (h : KChar g i j r) (hs : Same g g' o i j) : KChar g' (i + o) (j + o) r := by
 have hl := (utf8_len r).1; refine ⟨h.1, ?_⟩; rcases h.2 with ⟨h1, h2, h3, h4, h5, h6, e⟩ | ⟨h1, h2, e⟩
 · exact Or.inl ⟨h1, h2, h3, h4, h5, h6.up (hs.sub (by omega) (by omega)), by omega⟩
 · refine Or.inr ⟨by rw [hs i (by omega) (by omega)]; exact h1, ?_, by omega⟩
   rw [show i + o + 1 = i + 1 + o from by omega]; exact h2.up (hs.sub (by omega) (by omega))
theorem KeyAt.le {g : Nat → Nat} {j : Nat} : ∀ {rs : List Nat} {i : Nat}, KeyAt g i j rs → i ≤ j
 | [], i, h => Nat.le_of_eq h
 | r :: rs, i, ⟨a, h1, h2⟩ => by have := h1.lt; have := KeyAt.le h2; omega
theorem KeyAt.up {g g' : Nat → Nat} {o j : Nat} : ∀ {rs : List Nat} {i : Nat}, KeyAt g i j rs → Same g g' o i j → KeyAt g' (i + o) (j + o) rs
 | [], i, h, _ => by show i + o = j + o; rw [show i = j from h]
 | r :: rs, i, ⟨a, h1, h2⟩, hs => by
  have l1 := h1.lt; have l2 := h2.le; exact ⟨a + o, h1.up (hs.sub (Nat.le_refl _) (by omega)), KeyAt.up h2 (hs.sub (by omega) (Nat.le_refl _))⟩
theorem KeyAt.snoc {g : Nat → Nat} {j k r : Nat} : ∀ {rs : List Nat} {i : Nat}, KeyAt g i j rs → KChar g j k r → KeyAt g i k (rs ++ [r])
 | [], i, h, hp => by
  have h' : i = j := h; subst h'; exact ⟨k, hp, rfl⟩
 | r' :: rs, i, ⟨a, h1, h2⟩, hp => ⟨a, h1, KeyAt.snoc h2 hp⟩
def KBody (t : List Nat) (rs : List Nat) : Prop := KeyAt (gl t) 0 t.length rs
theorem KBody.nil : KBody [] [] := rfl
theorem KBody.snoc {t u rs : List Nat} {r : Nat} (h : KBody t rs) (hp : KChar (gl u) 0 u.length r) : KBody (t ++ u) (rs ++ [r]) := by
 unfold KBody at *; have h1 := KeyAt.up h (gl_left t u); have h2 := KChar.up hp (gl_right t u u.length); rw [Nat.add_zero] at h1; rw [Nat.zero_add] at h2; rw [List.length_append, Nat.add_comm t.length]; exact KeyAt.snoc h1 h2
theorem kchar_raw {r : Nat} (h : scalar r) (h1 : r ≠ 61 ∧ r ≠ 91 ∧ r ≠ 44 ∧ r ≠ 46 ∧ r ≠ 92) : KChar (gl (utf8 r)) 0 (utf8 r).length r :=
 ⟨h, Or.inl ⟨h1.1, h1.2.1, h1.2.2.1, h1.2.2.2.1, h1.2.2.2.2, gl_at0 _, by omega⟩⟩
theorem kchar_esc {r : Nat} (h : scalar r) : KChar (gl (92 :: utf8 r)) 0 (92 :: utf8 r).length r :=
 ⟨h, Or.inr ⟨rfl, gl_at [92] (utf8 r), by simp; omega⟩⟩
def PairAt (S : NumSem) (g : Nat → Nat) (n i j : Nat) (k : ByteArray) (v : JV) : Prop :=
 ∃ a b c rs, KeyAt g i a rs ∧ bytesOf k = enc rs ∧ g a = 61 ∧ Ws g (a + 1) b ∧ Tx S g n b c v ∧ Ws g c j
def LineAt (S : NumSem) (g : Nat → Nat) (n : Nat) : Nat → Nat → List (ByteArray × JV) → Prop
 | i, j, [] => i = j
 | i, j, [p] => PairAt S g n i j p.1 p.2
 | i, j, p :: q :: r => ∃ c, PairAt S g n i c p.1 p.2 ∧ g c = 44 ∧ LineAt S g n (c + 1) j (q :: r)
theorem PairAt.lt {S : NumSem} {g : Nat → Nat} {n i j : Nat} {k : ByteArray} {v : JV} (h : PairAt S g n i j k v) : i < j := by
 obtain ⟨a, b, c, rs, h1, _, _, h2, h3, h4⟩ := h; have := h1.le; have := h2.1; have := (Tx.start h3).1; have := h4.1; omega
theorem PairAt.up {S : NumSem} {g g' : Nat → Nat} {o n i j : Nat} {k : ByteArray} {v : JV} (h : PairAt S g n i j k v) (hs : Same g g' o i j) : PairAt S g' n (i + o) (j + o) k v := by
 obtain ⟨a, b, c, rs, h1, hk, he, h2, h3, h4⟩ := h; have l1 := h1.le; have l2 := h2.1; have l3 := (Tx.start h3).1; have l4 := h4.1; refine ⟨a + o, b + o, c + o, rs, h1.up (hs.sub (by omega) (by omega)), hk, by rw [hs a (by omega) (by omega)]; exact he, ?_, h3.up (hs.sub (by omega) (by omega)), h4.up (hs.sub (by omega) (by omega))⟩; rw [show a + o + 1 = a + 1 + o from by omega]; exact h2.up (hs.sub (by omega) (by omega))
theorem LineAt.le {S : NumSem} {g : Nat → Nat} {n j : Nat} : ∀ {l : List (ByteArray × JV)} {i : Nat}, LineAt S g n i j l → i ≤ j
 | [], i, h => Nat.le_of_eq h
 | [p], i, h => Nat.le_of_lt (PairAt.lt h)
 | p :: q :: r, i, ⟨c, h1, _, h2⟩ => by have := h1.lt; have := LineAt.le h2; omega
theorem LineAt.up {S : NumSem} {g g' : Nat → Nat} {o n j : Nat} : ∀ {l : List (ByteArray × JV)} {i : Nat}, LineAt S g n i j l → Same g g' o i j → LineAt S g' n (i + o) (j + o) l
 | [], i, h, _ => by show i + o = j + o; rw [show i = j from h]
 | [p], i, h, hs => PairAt.up h hs
 | p :: q :: r, i, ⟨c, h1, h2, h3⟩, hs => by
  have l1 := h1.lt; have l2 := h3.le; refine ⟨c + o, h1.up (hs.sub (by omega) (by omega)), by rw [hs c (by omega) (by omega)]; exact h2, ?_⟩; rw [show c + o + 1 = c + 1 + o from by omega]; exact LineAt.up h3 (hs.sub (by omega) (by omega))
theorem LineAt.snoc {S : NumSem} {g : Nat → Nat} {n j e : Nat} {p : ByteArray × JV} : ∀ {l : List (ByteArray × JV)} {i : Nat}, l ≠ [] → LineAt S g n i j l → g j = 44 → PairAt S g n (j + 1) e p.1 p.2 → LineAt S g n i e (l ++ [p])
 | [], _, h, _, _, _ => absurd rfl h
 | [q], i, _, h, hc, hp => ⟨j, h, hc, hp⟩
 | q :: q' :: r, i, _, ⟨c, h1, h2, h3⟩, hc, hp => ⟨c, h1, h2, LineAt.snoc (by simp) h3 hc hp⟩
theorem PairAt.of {S : NumSem} {n : Nat} {k : ByteArray} {v : JV} {rs tk w1 tv w2 : List Nat} (hk : KBody tk rs) (hb : bytesOf k = enc rs) (h1 : Wh w1) (hv : Tx S (gl tv) n 0 tv.length v) (h2 : Wh w2) :
  PairAt S (gl (tk ++ [61] ++ w1 ++ tv ++ w2)) n 0 (tk ++ [61] ++ w1 ++ tv ++ w2).length k v := by
 refine ⟨tk.length, (tk ++ [61] ++ w1).length, (tk ++ [61] ++ w1 ++ tv).length, rs, ?_, hb, ?_, ?_, ?_, ?_⟩
 · have := KeyAt.up hk (gl_left tk ([61] ++ w1 ++ tv ++ w2))
   simpa using this
 · have := gl_mid tk 61 (w1 ++ tv ++ w2)
   simpa using this
 · have := Wh.behind (t := tk ++ [61]) h1
   have h := Ws.up this ((gl_left (tk ++ [61] ++ w1) (tv ++ w2)).sub (Nat.zero_le _) (Nat.le_refl _)); simpa using h
 · have := Tx.up hv (gl_right (tk ++ [61] ++ w1) tv tv.length)
   have h := Tx.up this (g' := gl (tk ++ [61] ++ w1 ++ tv ++ w2)) (o := 0) ((gl_left (tk ++ [61] ++ w1 ++ tv) w2).sub (Nat.zero_le _) (by simp; omega)); rw [Nat.zero_add, Nat.add_zero, Nat.add_zero, Nat.add_comm tv.length, ← List.length_append] at h; exact h
 · exact Wh.behind h2
theorem LineAt.next {S : NumSem} {n : Nat} {l : List (ByteArray × JV)} {p : ByteArray × JV} {t u : List Nat} (h : LineAt S (gl t) n 0 t.length l) (hl : l ≠ []) (hp : PairAt S (gl u) n 0 u.length p.1 p.2) :
  LineAt S (gl (t ++ [44] ++ u)) n 0 (t ++ [44] ++ u).length (l ++ [p]) := by
 have h1 := LineAt.up h (gl_left t ([44] ++ u)); rw [Nat.add_zero, Nat.add_zero, ← List.append_assoc] at h1; have h2 := PairAt.up hp (gl_right (t ++ [44]) u u.length); refine LineAt.snoc hl h1 ?_ ?_
 · have := gl_mid t 44 u
   simpa using this
 · simp only [List.length_append, List.length_cons, List.length_nil, Nat.zero_add] at h2 ⊢
   rw [Nat.add_comm (t.length + 1)]; exact h2
end
section
def Fin64 (f : Nat) : Prop := f < 18446744073709551616 ∧ f / 4503599627370496 % 2048 < 2047
def FinE (f : Nat) : Prop := f / 4503599627370496 % 2048 < 2047
def Utf (t : ByteArray) : Prop := ∃ rs, bytesOf t = enc rs ∧ ∀ r ∈ rs, scalar r
def RightL (T : JV → Nat → Prop) : List JV → Nat → Prop
 | [], c => c = 0
 | x :: r, c => ∃ a b, T x a ∧ RightL T r b ∧ c = a + b
def RightC : Nat → JV → Nat → Prop
 | 0, _, _ => False
 | n + 1, v, c => (v.kind < 6 → v.l = []) ∧ (v.kind ≠ 7 → v.ks = []) ∧
  (((v.kind = 0 ∨ v.kind = 1 ∨ v.kind = 2 ∨ v.kind = 5) ∧ c = 1) ∨ (v.kind = 4 ∧ FinE v.f ∧ c = 1) ∨
   ((v.kind = 6 ∨ (v.kind = 7 ∧ Rise v.ks ∧ v.ks.length = v.l.length)) ∧ ∃ m, c = 1 + m ∧ RightL (RightC n) v.l m))
def Clear : Nat → JV → Prop
 | 0, _ => False
 | n + 1, v => (∀ k ∈ v.ks, Utf k) ∧ Utf v.t ∧ ∀ x ∈ v.l, Clear n x
def Good : Nat → JV → Prop
 | 0, _ => False
 | n + 1, v => v.kind = 0 ∨ v.kind = 1 ∨ (v.kind = 2 ∧ -9223372036854775808 ≤ v.i ∧ v.i ≤ 9223372036854775807) ∨ (v.kind = 4 ∧ Fin64 v.f) ∨ (v.kind = 5 ∧ Utf v.t) ∨
  (v.kind = 6 ∧ ∀ x ∈ v.l, Good n x) ∨ (v.kind = 7 ∧ Rise v.ks ∧ v.ks.length = v.l.length ∧ (∀ k ∈ v.ks, Utf k) ∧ ∀ x ∈ v.l, Good n x)
theorem RightL.mem {T : JV → Nat → Prop} : ∀ {l : List JV} {c : Nat}, RightL T l c → ∀ x ∈ l, ∃ a, T x a ∧ a ≤ c
 | [], _, _, x, hx => by simp at hx
 | y :: r, c, ⟨a, b, h1, h2, e⟩, x, hx => by
  rcases List.mem_cons.1 hx with rfl | hx
  · exact ⟨a, h1, by omega⟩
  · obtain ⟨a', h3, h4⟩ := RightL.mem h2 x hx
    exact ⟨a', h3, by omega⟩
def Ints : Nat → JV → Prop
 | 0, _ => False
 | n + 1, v => (-9223372036854775808 ≤ v.i ∧ v.i ≤ 9223372036854775807 ∧ v.f < 18446744073709551616) ∧ ∀ x ∈ v.l, Ints n x
theorem good_of : ∀ {n m k c : Nat} {v : JV}, RightC n v c → Clear m v → Ints k v → Good n v
 | 0, _, _, _, _, h, _, _ => h.elim
 | n + 1, 0, _, _, _, _, h, _ => h.elim
 | n + 1, m + 1, 0, _, _, _, _, h => h.elim
 | n + 1, m + 1, k + 1, c, v, ⟨_, _, h⟩, ⟨q1, q2, q3⟩, ⟨i1, i2⟩ => by
  rcases h with ⟨h | h | h | h, _⟩ | ⟨h, hf, _⟩ | ⟨h | ⟨h, h2, h3⟩, m', _, hl⟩
  · exact Or.inl h
  · exact Or.inr (Or.inl h)
  · exact Or.inr (Or.inr (Or.inl ⟨h, i1.1, i1.2.1⟩))
  · exact Or.inr (Or.inr (Or.inr (Or.inr (Or.inl ⟨h, q2⟩))))
  · exact Or.inr (Or.inr (Or.inr (Or.inl ⟨h, i1.2.2, hf⟩)))
  · refine Or.inr (Or.inr (Or.inr (Or.inr (Or.inr (Or.inl ⟨h, fun x hx => ?_⟩)))))
    obtain ⟨a, h4, _⟩ := hl.mem x hx; exact good_of h4 (q3 x hx) (i2 x hx)
  · refine Or.inr (Or.inr (Or.inr (Or.inr (Or.inr (Or.inr ⟨h, h2, h3, q1, fun x hx => ?_⟩)))))
    obtain ⟨a, h4, _⟩ := hl.mem x hx; exact good_of h4 (q3 x hx) (i2 x hx)
def wt : Nat → JV → Nat
 | 0, _ => 0
 | n + 1, v => 600 + 12 * v.t.size + (v.ks.map (fun k => 20 + 12 * k.size)).sum + (v.l.map (fun x => 20 + wt n x)).sum
def flo (F : Int → Nat) : Nat → JV → JV
 | 0, v => v
 | n + 1, v => if v.kind = 2 then .mk 4 false 0 (F v.i) ⟨#[]⟩ [] [] else .mk v.kind v.b v.i v.f v.t v.ks (v.l.map (flo F n))
theorem wt_eq (n : Nat) (v : JV) : wt (n + 1) v = 600 + 12 * v.t.size + (v.ks.map (fun k => 20 + 12 * k.size)).sum + (v.l.map (fun x => 20 + wt n x)).sum := by rw [wt]
theorem flo_eq (F : Int → Nat) (n : Nat) (v : JV) : flo F (n + 1) v = if v.kind = 2 then .mk 4 false 0 (F v.i) ⟨#[]⟩ [] [] else .mk v.kind v.b v.i v.f v.t v.ks (v.l.map (flo F n)) := by rw [flo]
def JSame : Nat → JV → JV → Prop
 | 0, _, _ => False
 | n + 1, a, b => a.kind = b.kind ∧ (a.kind = 1 → a.b = b.b) ∧ (a.kind = 2 → a.i = b.i) ∧ (a.kind = 4 → a.f = b.f ∧ FinE a.f) ∧ (a.kind = 5 → a.t = b.t) ∧
  (a.kind = 7 → a.ks = b.ks) ∧ (6 ≤ a.kind → a.l.length = b.l.length ∧ ∀ i (h : i < a.l.length) (h' : i < b.l.length), JSame n a.l[i] b.l[i])
end
section
open Go.RowKit
def RowAt (w : World) (g o : Nat) (k b i f t ks l : Value) : Prop :=
 w.cell? ⟨g, o, none⟩ = some k ∧ w.cell? ⟨g, o + 1, none⟩ = some b ∧ w.cell? ⟨g, o + 2, none⟩ = some i ∧ w.cell? ⟨g, o + 3, none⟩ = some f ∧ w.cell? ⟨g, o + 4, none⟩ = some t ∧
 w.cell? ⟨g, o + 5, none⟩ = some ks ∧ w.cell? ⟨g, o + 6, none⟩ = some l
def StrsAt (w : World) (p : Option Addr) (ks : List ByteArray) : Prop := ks = [] ∨ ∃ g o : Nat, p = some ⟨g, o, none⟩ ∧ ∀ i (h : i < ks.length), w.cell? ⟨g, o + i, none⟩ = some (.string ks[i])
def valOf (v : JV) (kp : Option Addr) (kc : Nat) (lp : Option Addr) (lc : Nat) : Value :=
 .agg #[.int .i64 v.kind, .bool v.b, .int .i64 v.i, .float .f64 v.f, .string v.t, .slice kp v.ks.length kc, .slice lp v.l.length lc]
def At7 (w : World) (g o : Nat) (v : JV) (kp : Option Addr) (kc : Nat) (lp : Option Addr) (lc : Nat) : Prop :=
 RowAt w g o (.int .i64 v.kind) (.bool v.b) (.int .i64 v.i) (.float .f64 v.f) (.string v.t) (.slice kp v.ks.length kc) (.slice lp v.l.length lc)
def Deep : Nat → World → JV → Option Addr → Option Addr → Prop
 | 0, _, _, _, _ => False
 | n + 1, w, v, kp, lp => StrsAt w kp v.ks ∧ (v.l = [] ∨ ∃ g o : Nat, lp = some ⟨g, o, none⟩ ∧ ∀ i (h : i < v.l.length), ∃ kp' kc' lp' lc', At7 w g (o + i * 7) v.l[i] kp' kc' lp' lc' ∧ Deep n w v.l[i] kp' lp')
def VAt (n : Nat) (w : World) (x : Value) (v : JV) : Prop := ∃ kp kc lp lc, x = valOf v kp kc lp lc ∧ Deep n w v kp lp
theorem cell_lt {w : World} {g o : Nat} {x : Value} (h : w.cell? ⟨g, o, none⟩ = some x) : g < w.heap.size := by
 rcases Nat.lt_or_ge g w.heap.size with h' | h'
 · exact h'
 · simp [World.cell?, Array.getElem?_eq_none h'] at h
theorem cell_kp {w w' : World} {g o : Nat} {x : Value} (h : w.cell? ⟨g, o, none⟩ = some x) (k : Kp [] w w') : w'.cell? ⟨g, o, none⟩ = some x := by
 rw [k.cell (p := ⟨g, o, none⟩) (cell_lt h) (by simp)]; exact h
theorem StrsAt.kp {w w' : World} {p : Option Addr} {ks : List ByteArray} (h : StrsAt w p ks) (k : Kp [] w w') : StrsAt w' p ks := by
 rcases h with h | ⟨g, o, h1, h2⟩
 · exact Or.inl h
 · exact Or.inr ⟨g, o, h1, fun i hi => cell_kp (h2 i hi) k⟩
theorem At7.kp {w w' : World} {g o : Nat} {v : JV} {kp : Option Addr} {kc : Nat} {lp : Option Addr} {lc : Nat} (h : At7 w g o v kp kc lp lc) (k : Kp [] w w') : At7 w' g o v kp kc lp lc := by
 obtain ⟨h0, h1, h2, h3, h4, h5, h6⟩ := h; exact ⟨cell_kp h0 k, cell_kp h1 k, cell_kp h2 k, cell_kp h3 k, cell_kp h4 k, cell_kp h5 k, cell_kp h6 k⟩
theorem Deep.kp {w w' : World} (k : Kp [] w w') : ∀ {n : Nat} {v : JV} {kp lp : Option Addr}, Deep n w v kp lp → Deep n w' v kp lp
 | 0, _, _, _, h => h.elim
 | n + 1, v, kp, lp, ⟨h1, h2⟩ => by
  refine ⟨h1.kp k, ?_⟩; rcases h2 with h2 | ⟨g, o, h3, h4⟩
  · exact Or.inl h2
  · refine Or.inr ⟨g, o, h3, fun i hi => ?_⟩
    obtain ⟨a, b, c, d, h5, h6⟩ := h4 i hi; exact ⟨a, b, c, d, h5.kp k, Deep.kp k h6⟩
theorem VAt.kp {w w' : World} {n : Nat} {x : Value} {v : JV} (h : VAt n w x v) (k : Kp [] w w') : VAt n w' x v := by
 obtain ⟨a, b, c, d, h1, h2⟩ := h; exact ⟨a, b, c, d, h1, h2.kp k⟩
theorem Deep.mono {w : World} : ∀ {n m : Nat} {v : JV} {kp lp : Option Addr}, n ≤ m → Deep n w v kp lp → Deep m w v kp lp
 | 0, _, _, _, _, _, h => h.elim
 | n + 1, 0, _, _, _, hm, _ => absurd hm (by omega)
 | n + 1, m + 1, v, kp, lp, hm, ⟨h1, h2⟩ => by
  refine ⟨h1, ?_⟩; rcases h2 with h2 | ⟨g, o, h3, h4⟩
  · exact Or.inl h2
  · refine Or.inr ⟨g, o, h3, fun i hi => ?_⟩
    obtain ⟨a, b, c, d, h5, h6⟩ := h4 i hi; exact ⟨a, b, c, d, h5, Deep.mono (by omega) h6⟩
theorem VAt.mono {w : World} {n m : Nat} {x : Value} {v : JV} (h : VAt n w x v) (hm : n ≤ m) : VAt m w x v := by
 obtain ⟨a, b, c, d, h1, h2⟩ := h; exact ⟨a, b, c, d, h1, h2.mono hm⟩
theorem cell_fresh (w : World) (xs : Array Value) (t : TypeId) (f : Nat × Nat) (j : Nat) : (w.alloc (.cells xs t f)).cell? ⟨w.heap.size, j, none⟩ = xs[j]? := by
 simp only [World.cell?]
 show (match (w.heap.push (Obj.cells xs t f))[w.heap.size]? with | some (.cells c _ _) => if (none : Option Nat).isSome then none else c[j]? | _ => none) = _
 rw [Array.getElem?_push_size]; rfl
end
end Go.Proofs.YtljaoopfomcaoaaGreatDoor
