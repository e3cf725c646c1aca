import Derived.Test.YtljaoopfomcaoaaGreatDoorM13
import Derived.Test.YtljaoopfomcaoaaGreatDoorM23
set_option linter.all false
open Go.Lib (hid)
namespace Go.Proofs.YtljaoopfomcaoaaGreatDoor
section
open Go.RowKit
def gapTxt (r : Nat) : ByteArray := ((#[⟨#[]⟩, ⟨#[]⟩, ⟨#[]⟩, ⟨#[]⟩, ⟨#[32]⟩, ⟨#[10]⟩, ⟨#[9, 32]⟩, ⟨#[13]⟩] : Array ByteArray)[r]?).getD ⟨#[]⟩
theorem gap_sel (r : Nat) (h : r < 8) : (#[.string ⟨#[]⟩, .string ⟨#[]⟩, .string ⟨#[]⟩, .string ⟨#[]⟩, .string ⟨#[32]⟩, .string ⟨#[10]⟩, .string ⟨#[9, 32]⟩, .string ⟨#[13]⟩] : Array Value)[r]? = some (.string (gapTxt r)) := by
 rcases (show r = 0 ∨ r = 1 ∨ r = 2 ∨ r = 3 ∨ r = 4 ∨ r = 5 ∨ r = 6 ∨ r = 7 from by omega) with rfl | rfl | rfl | rfl | rfl | rfl | rfl | rfl <;> rfl
theorem gap_cell {w w' : World} {pb r : Nat} {t : TypeId} {f : Nat × Nat} (h : r < 8) (k : Kp [pb] (w.alloc (.cells #[.string ⟨#[]⟩, .string ⟨#[]⟩, .string ⟨#[]⟩, .string ⟨#[]⟩, .string ⟨#[32]⟩, .string ⟨#[10]⟩, .string ⟨#[9, 32]⟩, .string ⟨#[13]⟩] t f)).drew w') (hb : pb < w.heap.size) : w'.cell? ⟨w.heap.size, r, none⟩ = some (.string (gapTxt r)) := by
 rw [k.cell (p := ⟨w.heap.size, r, none⟩) (by simp) (by simp; omega)]
 show World.cell? (w.alloc _) _ = _
 rw [cells_new]; exact gap_sel r h
theorem gap_get (r : Nat) (h : r < 8) (h' : r < 8) : ([.string ⟨#[]⟩, .string ⟨#[]⟩, .string ⟨#[]⟩, .string ⟨#[]⟩, .string ⟨#[32]⟩, .string ⟨#[10]⟩, .string ⟨#[9, 32]⟩, .string ⟨#[13]⟩] : List Value)[r]'(h') = .string (gapTxt r) := by
 rcases (show r = 0 ∨ r = 1 ∨ r = 2 ∨ r = 3 ∨ r = 4 ∨ r = 5 ∨ r = 6 ∨ r = 7 from by omega) with rfl | rfl | rfl | rfl | rfl | rfl | rfl | rfl <;> rfl
def Gap (t : List Nat) : Prop := Wh t ∧ t.length ≤ 2
theorem gap_txt (r : Nat) (h : r < 8) : Gap (bytesOf (gapTxt r)) ∧ (gapTxt r).size ≤ 2 := by
 rcases (show r = 0 ∨ r = 1 ∨ r = 2 ∨ r = 3 ∨ r = 4 ∨ r = 5 ∨ r = 6 ∨ r = 7 from by omega) with rfl | rfl | rfl | rfl | rfl | rfl | rfl | rfl <;>
  exact ⟨⟨by unfold Wh; decide, by decide⟩, by decide⟩
set_option maxRecDepth 100000 in
set_option maxHeartbeats 2000000 in
theorem gap_is (w0 w : World) (pw pb : Nat) (v : Value) (l : List Nat) (h : PenAt w0 w pw pb v l) (hl : l.length ≤ 100000000) :
  Calls Tryz.prog 21 #[.pointer (some ⟨pw, 0, none⟩)] w (PenPost w0 w pw pb l Gap) := by
 have HP := hid h; have HK := hid (Kx.refl [pw, pb] w); have c0 := h.c0; have c1 := h.c1; have f1 := h.fr 1; have hlt := h.lt; have hltb := h.ltb; clear h; go_enter Tryz.func21, Tryz.ntmps21
 go_region_law (first | (refine step_pen_str rfl _ _ rfl w0 w pw pb v v l (by simp [Act.eval, Act.put]) (by first | exact HP9.out | exact HP9.out.alloc _) (by first | exact HK9.out | exact HK9.out.alloc _) (gapTxt r) (by simp [Act.eval, Act.put] <;> exact gap_get r hr hr) (by omega) (by omega) ?_; intro p2 n2 c2 w2 hP2 hK2; have d1 := hP2.c1; have g1 := hP2.fr 1; have hT := (gap_txt r hr).1; have HPQ := hid hP2.store; have HKQ := hid (hK2.setCell (p := ⟨pw, 1, none⟩) (by simp) (.slice p2 n2 c2)); clear hP2 hK2) | (go_simp; go_at_call 19; refine (pen_pick w0 _ pw pb v v l 8 _ (by rfl) (by omega) (by omega) (by first | exact HP.out.drew | exact (HP.out.alloc _).drew)).mono ?_; rintro e9 w9 ⟨r, rfl, hr, hp9, hk9⟩; have d1 := hp9.c1; have g1 := hp9.fr 1; have hlt9 := hp9.lt; have hr8 : (r : Int) < 8 := (by omega); have hsz := (gap_txt r hr).2; (first | have d2 := gap_cell hr hk9 hltb | have d3 := gap_sel r hr); have HP9 := hid hp9; (first | have HK9 := hid (HK.out.drew.kp hk9 (by simp)) | have HK9 := hid ((HK.out.alloc _).drew.kp hk9 (by simp))); clear hp9 hk9))
 all_goals
  generalize hw3 : World.setCell _ _ _ = w4 at *; clear hw3; first | (refine bodyPost_ret (results_none rfl _ _ _) rfl ?_) | (refine bodyPost_end (results_none rfl _ _ _) rfl ?_)
  exact ⟨rfl, _, _, hT, HPQ.out, HKQ.out⟩
end
section
variable {S : NumSem} {n : Nat}
def TxT (S : NumSem) (n : Nat) (t : List Nat) (v : JV) : Prop := Tx S (gl t) n 0 t.length v
theorem TxT.in {t a b : List Nat} {v : JV} (h : TxT S n t v) : Tx S (gl (a ++ t ++ b)) n a.length (a ++ t).length v := by
 have h1 := Tx.up h (gl_right a t t.length); have h2 := Tx.up h1 (g' := gl (a ++ t ++ b)) (o := 0) ((gl_left (a ++ t) b).sub (Nat.zero_le _) (by simp; omega)); simpa [Nat.add_comm] using h2
theorem StrAt.in {t a b rs : List Nat} (h : StrAt (gl t) 0 t.length rs) : StrAt (gl (a ++ t ++ b)) a.length (a ++ t).length rs := by
 have h1 := StrAt.up h (gl_right a t t.length); have h2 := StrAt.up h1 (g' := gl (a ++ t ++ b)) (o := 0) ((gl_left (a ++ t) b).sub (Nat.zero_le _) (by simp; omega)); simpa [Nat.add_comm] using h2
theorem Wh.in {t a b : List Nat} (h : Wh t) : Ws (gl (a ++ t ++ b)) a.length (a ++ t).length := by
 have h1 := Ws.up h.ws (gl_right a t t.length); have h2 := Ws.up h1 (g' := gl (a ++ t ++ b)) (o := 0) ((gl_left (a ++ t) b).sub (Nat.zero_le _) (by simp; omega)); simpa [Nat.add_comm] using h2
theorem gl_in {x : Nat} {a b : List Nat} : gl (a ++ [x] ++ b) a.length = x := by
 have := gl_mid a x b; simpa using this
theorem tx_lt {n a b : Nat} {g : Nat → Nat} {v : JV} (h : Tx S g n a b v) : a < b := (Tx.start h).1
def EPart (S : NumSem) (n : Nat) (t : List Nat) (vs : List JV) : Prop := (vs = [] ∧ Wh t) ∨ Elems (gl t) (fun a b x => Tx S (gl t) n a b x) 0 t.length vs
def EReady (S : NumSem) (n : Nat) (t : List Nat) (vs : List JV) : Prop := (vs = [] ∧ Wh t) ∨ ∃ c, Elems (gl t) (fun a b x => Tx S (gl t) n a b x) 0 c vs ∧ gl t c = 44 ∧ Ws (gl t) (c + 1) t.length ∧ c < t.length
theorem elems_left {t u : List Nat} {c : Nat} {vs : List JV} (hc : c ≤ t.length) (h : Elems (gl t) (fun a b x => Tx S (gl t) n a b x) 0 c vs) : Elems (gl (t ++ u)) (fun a b x => Tx S (gl (t ++ u)) n a b x) 0 c vs :=
 Elems.up (g' := gl (t ++ u)) (o := 0) (T' := fun a b x => Tx S (gl (t ++ u)) n a b x) (fun _ _ _ => tx_lt) (fun _ _ _ h k => Tx.up h k) h ((gl_left t u).sub (Nat.zero_le _) hc)
theorem EPart.ready {t g1 : List Nat} {vs : List JV} (h : EPart S n t vs) (hv : vs ≠ []) (hg : Wh g1) : EReady S n (t ++ [44] ++ g1) vs := by
 rcases h with ⟨h, _⟩ | h
 · exact absurd h hv
 ·
  refine Or.inr ⟨t.length, ?_, gl_in, ?_, by simp⟩
  · have := elems_left (u := [44] ++ g1) (Nat.le_refl _) h
    rwa [← List.append_assoc] at this
  · have := Wh.behind (t := t ++ [44]) hg
    simpa using this
theorem EReady.of {t : List Nat} {vs : List JV} (hv : vs = []) (h : EPart S n t vs) : EReady S n t vs := by
 rcases h with h | h
 · exact Or.inl h
 · subst hv; exact h.elim
theorem EReady.next {t tv g2 : List Nat} {vs : List JV} {v : JV} (h : EReady S n t vs) (hv : TxT S n tv v) (hg : Wh g2) : EPart S n (t ++ tv ++ g2) (vs ++ [v]) := by
 have h1 : Tx S (gl (t ++ tv ++ g2)) n t.length (t ++ tv).length v := hv.in; have h2 := Wh.behind (t := t ++ tv) hg; rcases h with ⟨rfl, h⟩ | ⟨c, h3, h4, h5, h6⟩
 · refine Or.inr (Elems.one (a := t.length) ?_ h1 h2)
   have := Ws.up h.ws (g' := gl (t ++ tv ++ g2)) (o := 0) (by rw [List.append_assoc]; exact gl_left t (tv ++ g2)); simpa using this
 ·
  refine Or.inr (Elems.snoc (j := c) ?_ ?_ ?_ h1 h2)
  · have := elems_left (u := tv ++ g2) (Nat.le_of_lt h6) h3
    rwa [← List.append_assoc] at this
  · rw [List.append_assoc]; exact (gl_left t (tv ++ g2) c (Nat.zero_le _) h6).trans h4
  · have := Ws.up h5 (g' := gl (t ++ tv ++ g2)) (o := 0) (by rw [List.append_assoc]; exact (gl_left t (tv ++ g2)).sub (Nat.zero_le _) (Nat.le_refl _))
    simpa using this
theorem EPart.whole {t : List Nat} {v : JV} (h : EPart S n t v.l) (hk : v.kind = 6) : TxT S (n + 1) ([91] ++ t ++ [93]) v := by
 have hs : Same (gl t) (gl ([91] ++ t ++ [93])) 1 0 t.length := fun k h1 h2 => by
  have := gl_right [91] t t.length k h1 h2; rw [← this]; exact gl_left ([91] ++ t) [93] (k + [91].length) (Nat.zero_le _) (by simp; omega)
 refine Or.inr (Or.inr (Or.inr (Or.inr (Or.inr (Or.inl ⟨t.length + 1, rfl, ?_, by simp, ?_, hk⟩)))))
 · have := gl_mid ([91] ++ t) 93 []
   simpa using this
 ·
  rcases h with ⟨h1, h2⟩ | h
  · refine Or.inl ⟨h1, ?_⟩
    have := Ws.up h2.ws hs; simpa using this
  · refine Or.inr ?_
    have := Elems.up (T' := fun a b x => Tx S (gl ([91] ++ t ++ [93])) n a b x) (fun _ _ _ => tx_lt) (fun _ _ _ h k => Tx.up h k) h hs; simpa using this
def MPart (S : NumSem) (n : Nat) (t : List Nat) (ks : List ByteArray) (vs : List JV) : Prop := (ks = [] ∧ vs = [] ∧ Wh t) ∨ Membs (gl t) (fun a b x => Tx S (gl t) n a b x) 0 t.length ks vs
def MReady (S : NumSem) (n : Nat) (t : List Nat) (ks : List ByteArray) (vs : List JV) : Prop := (ks = [] ∧ vs = [] ∧ Wh t) ∨ ∃ c, Membs (gl t) (fun a b x => Tx S (gl t) n a b x) 0 c ks vs ∧ gl t c = 44 ∧ Ws (gl t) (c + 1) t.length ∧ c < t.length
theorem membs_left {t u : List Nat} {c : Nat} {ks : List ByteArray} {vs : List JV} (hc : c ≤ t.length) (h : Membs (gl t) (fun a b x => Tx S (gl t) n a b x) 0 c ks vs) : Membs (gl (t ++ u)) (fun a b x => Tx S (gl (t ++ u)) n a b x) 0 c ks vs :=
 Membs.up (g' := gl (t ++ u)) (o := 0) (T' := fun a b x => Tx S (gl (t ++ u)) n a b x) (fun _ _ _ => tx_lt) (fun _ _ _ h k => Tx.up h k) _ h ((gl_left t u).sub (Nat.zero_le _) hc)
theorem MPart.ready {t g1 : List Nat} {ks : List ByteArray} {vs : List JV} (h : MPart S n t ks vs) (hv : vs ≠ []) (hg : Wh g1) : MReady S n (t ++ [44] ++ g1) ks vs := by
 rcases h with ⟨_, h, _⟩ | h
 · exact absurd h hv
 ·
  refine Or.inr ⟨t.length, ?_, gl_in, ?_, by simp⟩
  · have := membs_left (u := [44] ++ g1) (Nat.le_refl _) h
    rwa [← List.append_assoc] at this
  · have := Wh.behind (t := t ++ [44]) hg
    simpa using this
theorem MReady.of {t : List Nat} {ks : List ByteArray} {vs : List JV} (hv : vs = []) (h : MPart S n t ks vs) : MReady S n t ks vs := by
 rcases h with h | h
 · exact Or.inl h
 · subst hv
   cases ks with
   | nil => exact h.elim
   | cons k ks => simp [Membs] at h
theorem MReady.next {t tk g1 g2 tv g3 rs : List Nat} {ks : List ByteArray} {vs : List JV} {k : ByteArray} {v : JV} (h : MReady S n t ks vs) (hk : StrAt (gl tk) 0 tk.length rs) (hb : bytesOf k = enc rs) (hg1 : Wh g1) (hg2 : Wh g2) (hv : TxT S n tv v) (hg3 : Wh g3) :
  MPart S n (t ++ tk ++ g1 ++ [58] ++ g2 ++ tv ++ g3) (ks ++ [k]) (vs ++ [v]) := by
 have q1 : StrAt (gl (t ++ tk ++ g1 ++ [58] ++ g2 ++ tv ++ g3)) t.length (t ++ tk).length rs := by
  have := StrAt.in (a := t) (b := g1 ++ [58] ++ g2 ++ tv ++ g3) hk; simpa using this
 have q2 : Ws (gl (t ++ tk ++ g1 ++ [58] ++ g2 ++ tv ++ g3)) (t ++ tk).length (t ++ tk ++ g1).length := by
  have := Wh.in (a := t ++ tk) (b := [58] ++ g2 ++ tv ++ g3) hg1; simpa using this
 have q3 : gl (t ++ tk ++ g1 ++ [58] ++ g2 ++ tv ++ g3) (t ++ tk ++ g1).length = 58 := by
  have := gl_in (x := 58) (a := t ++ tk ++ g1) (b := g2 ++ tv ++ g3); simpa using this
 have q4 : Ws (gl (t ++ tk ++ g1 ++ [58] ++ g2 ++ tv ++ g3)) ((t ++ tk ++ g1).length + 1) (t ++ tk ++ g1 ++ [58] ++ g2).length := by
  have := Wh.in (a := t ++ tk ++ g1 ++ [58]) (b := tv ++ g3) hg2; rw [show (t ++ tk ++ g1).length + 1 = (t ++ tk ++ g1 ++ [58]).length from by simp; omega]; simpa using this
 have q5 : Tx S (gl (t ++ tk ++ g1 ++ [58] ++ g2 ++ tv ++ g3)) n (t ++ tk ++ g1 ++ [58] ++ g2).length (t ++ tk ++ g1 ++ [58] ++ g2 ++ tv).length v := hv.in; have q6 := Wh.behind (t := t ++ tk ++ g1 ++ [58] ++ g2 ++ tv) hg3; have hl : ∀ j, Same (gl t) (gl (t ++ tk ++ g1 ++ [58] ++ g2 ++ tv ++ g3)) 0 j t.length := fun j => by
  have := (gl_left t (tk ++ g1 ++ [58] ++ g2 ++ tv ++ g3)).sub (Nat.zero_le j) (Nat.le_refl _); simpa using this
 rcases h with ⟨rfl, rfl, h⟩ | ⟨c, h3, h4, h5, h6⟩
 · refine Or.inr (Membs.one (a := t.length) ?_ q1 hb q2 q3 q4 q5 q6)
   have := Ws.up h.ws (hl 0); simpa using this
 ·
  refine Or.inr (Membs.snoc (j := c) ?_ ?_ ?_ q1 hb q2 q3 q4 q5 q6)
  · have := membs_left (u := tk ++ g1 ++ [58] ++ g2 ++ tv ++ g3) (Nat.le_of_lt h6) h3
    simpa using this
  · exact (hl 0 c (Nat.zero_le _) h6).trans h4
  · have := Ws.up h5 (hl (c + 1))
    simpa using this
theorem MPart.whole {t : List Nat} {v : JV} (h : MPart S n t v.ks v.l) (hk : v.kind = 7) (hr : Rise v.ks) : TxT S (n + 1) ([123] ++ t ++ [125]) v := by
 have hs : Same (gl t) (gl ([123] ++ t ++ [125])) 1 0 t.length := fun k h1 h2 => by
  have := gl_right [123] t t.length k h1 h2; rw [← this]; exact gl_left ([123] ++ t) [125] (k + [123].length) (Nat.zero_le _) (by simp; omega)
 refine Or.inr (Or.inr (Or.inr (Or.inr (Or.inr (Or.inr ⟨t.length + 1, rfl, ?_, by simp, ?_, hk, hr⟩)))))
 · have := gl_mid ([123] ++ t) 125 []
   simpa using this
 ·
  rcases h with ⟨h0, h1, h2⟩ | h
  · refine Or.inl ⟨h1, h0, ?_⟩
    have := Ws.up h2.ws hs; simpa using this
  · refine Or.inr ?_
    have := Membs.up (T' := fun a b x => Tx S (gl ([123] ++ t ++ [125])) n a b x) (fun _ _ _ => tx_lt) (fun _ _ _ h k => Tx.up h k) _ h hs; simpa using this
end
section
open Go.RowKit
theorem appendFloat_is (w0 w : World) (S : List Nat) (v : Value) (l : List Nat) (f mant e0 fr : Nat) (E : Int) (neg : Bool) (fm : Nat) (hO : Out w0 S w v l) (hl : l.length ≤ 100000000) (hP : Parts f neg mant E e0 fr) (hfm : fm = 103 ∨ fm = 101 ∨ fm = 69)
  (hT : PowTab w) (hTb : Lib.TabIs Tryz.prog w "internal/strconv.uint64pow10" .u64 Lib.pow10Tab) (hw : 5 ≤ w.heap.size) :
  Calls Tryz.prog 34 #[v, .float .f64 f, .int .u8 fm, .int .i64 (-1), .int .i64 64] w fun e w' => ∃ v' m, e = .returned v' ∧ Num.Ok m ∧ numSem m f ∧ Out w0 S w' v' (l ++ m.text) ∧ Kt w w' := by
 have hin : Calls Tryz.prog 44 #[v, .float .f64 f, .int .u8 fm, .int .i64 (-1), .int .i64 64] w fun e w' => ∃ v' m, e = .returned v' ∧ Num.Ok m ∧ numSem m f ∧ Out w0 S w' v' (l ++ m.text) ∧ Kt w w' := by
  have hc := hid (ftoa_is w0 w S v l f mant e0 fr E neg fm hO hl hP hfm hT hTb hw); clear hO hP hfm hT hTb; go_enter Tryz.func44, Tryz.ntmps44
  go_wp2_with fail
  refine hc.out.mono ?_
  rintro e w' ⟨v', m, rfl, h1, h2, h3, h4⟩
  have h := hid (show Num.Ok m ∧ numSem m f ∧ Out w0 S w' v' (l ++ m.text) ∧ Kt w w' from ⟨h1, h2, h3, h4⟩); clear h1 h2 h3 h4; go_wp2_with fail
  go_ret; exact ⟨v', m, rfl, h.out⟩
 have hc := hid hin; clear hO hP hfm hT hTb hin; go_enter Tryz.func34, Tryz.ntmps34
 go_wp2_with fail
 refine hc.out.mono ?_
 rintro e w' ⟨v', m, rfl, h1, h2, h3, h4⟩
 have h := hid (show Num.Ok m ∧ numSem m f ∧ Out w0 S w' v' (l ++ m.text) ∧ Kt w w' from ⟨h1, h2, h3, h4⟩); clear h1 h2 h3 h4; go_wp2_with fail
 go_ret; exact ⟨v', m, rfl, h.out⟩
end
section
open Go.RowKit
theorem appendBool_in (w0 w : World) (S : List Nat) (v : Value) (l : List Nat) (b : Bool) (hO : Out w0 S w v l) (hl : l.length ≤ 100000000) :
  Calls Tryz.prog 42 #[v, .bool b] w fun e w' => ∃ v', e = .returned v' ∧ Out w0 S w' v' (l ++ (if b then [116, 114, 117, 101] else [102, 97, 108, 115, 101])) ∧ Kt w w' := by
 have HO := hid hO; clear hO
 cases b with
 | true =>
  go_enter Tryz.func42, Tryz.ntmps42
  go_wp2_with (at_builtin; go_must (refine wp_out_str rfl _ _ rfl w0 S _ _ rfl HO.out _ rfl (by omega) (by decide) ?_); intro v2 w2 hO2 hK2 hP2; have HO2 := hid hO2; have HK2 := hid hK2; clear hO2 hK2 hP2)
  go_ret; exact ⟨_, rfl, HO2.out, HK2.out⟩
 | false =>
  go_enter Tryz.func42, Tryz.ntmps42
  go_wp2_with (at_builtin; go_must (refine wp_out_str rfl _ _ rfl w0 S _ _ rfl HO.out _ rfl (by omega) (by decide) ?_); intro v2 w2 hO2 hK2 hP2; have HO2 := hid hO2; have HK2 := hid hK2; clear hO2 hK2 hP2)
  go_ret; exact ⟨_, rfl, HO2.out, HK2.out⟩
theorem appendBool_is (w0 w : World) (S : List Nat) (v : Value) (l : List Nat) (b : Bool) (hO : Out w0 S w v l) (hl : l.length ≤ 100000000) :
  Calls Tryz.prog 32 #[v, .bool b] w fun e w' => ∃ v', e = .returned v' ∧ Out w0 S w' v' (l ++ (if b then [116, 114, 117, 101] else [102, 97, 108, 115, 101])) ∧ Kt w w' := by
 have hc := hid (appendBool_in w0 w S v l b hO hl); obtain ⟨t, ht⟩ : ∃ t, t = l ++ (if b then [116, 114, 117, 101] else [102, 97, 108, 115, 101]) := ⟨_, rfl⟩; rw [← ht] at hc ⊢; clear hO ht; go_enter Tryz.func32, Tryz.ntmps32
 go_wp2_with fail
 refine hc.out.mono ?_
 rintro e w' ⟨v', rfl, h1, h2⟩
 have h := hid (show Out w0 S w' v' t ∧ Kt w w' from ⟨h1, h2⟩); clear h1 h2; go_wp2_with fail
 go_ret; exact ⟨v', rfl, h.out⟩
theorem tab_at {w w' : World} {k : IntKind} {zs : List Int} (h : Lib.TabIs Tryz.prog w "internal/strconv.uint64pow10" k zs) (hb : w'.heap[3]? = w.heap[3]?) : Lib.TabIs Tryz.prog w' "internal/strconv.uint64pow10" k zs := by
 unfold Lib.TabIs World.var? at *; have hg : Tryz.prog.globalNamed "internal/strconv.uint64pow10" = some 3 := by kernel_rfl
 simp only [hg, Option.bind_some] at h ⊢; rw [hb]; exact h
theorem decDigits_tens (u : Nat) : (Lib.decDigits u).map UInt8.toNat = (tens (Lib.nDigits u) u).map (48 + ·) := by
 apply List.ext_getElem?; intro i; rw [Lib.decDigits_eq, List.map_map, List.getElem?_map, List.getElem?_map]; by_cases hi : i < Lib.nDigits u
 ·
  rw [List.getElem?_range hi]; have h1 := tens_get (Lib.nDigits u) u i hi; unfold dg at h1; rw [List.getD_eq_getElem?_getD] at h1; rw [List.getElem?_eq_getElem (by rw [tens_len]; exact hi)] at h1 ⊢; simp only [Option.map_some, Option.getD_some, Function.comp] at h1 ⊢; rw [h1]
  congr 1
  unfold Lib.dg; rw [UInt8.toNat_ofNat']; have := Nat.mod_lt (u / 10 ^ (Lib.nDigits u - 1 - i)) (by omega : 0 < 10); omega
 · rw [List.getElem?_eq_none (by simp; omega), List.getElem?_eq_none (by rw [tens_len]; omega)]; rfl
theorem appendInt_is (w0 w : World) (S : List Nat) (v : Value) (l : List Nat) (n : Int) (h0 : -9223372036854775808 ≤ n) (h1 : n ≤ 9223372036854775807) (hO : Out w0 S w v l) (hl : l.length ≤ 100000000)
  (hTb : Lib.TabIs Tryz.prog w "internal/strconv.uint64pow10" .u64 Lib.pow10Tab) (hw0 : 4 ≤ w0.heap.size) :
  Calls Tryz.prog 33 #[v, .int .i64 n, .int .i64 10] w fun e w' => ∃ v' m, e = .returned v' ∧ Num.Ok m ∧ numSem m (floatOfInt .f64 n) ∧ Out w0 S w' v' (l ++ m.text) ∧ Kt w w' := by
 have hsz := hO.kp.size; refine (Tryz.strconv_AppendInt_10 w0.heap.size l.length n h0 h1 v (cellsOf l) w hO.own hsz (by omega) (fun w' hb => tab_at hTb (hb.block 3 (by omega)))).mono ?_
 rintro e w' ⟨v', rfl, hown, hbel, hoth⟩
 have hnd := Lib.nDigits_pos n.natAbs; have hlen : (tens (Lib.nDigits n.natAbs) n.natAbs).length = Lib.nDigits n.natAbs := tens_len _ _; have hhead : (tens (Lib.nDigits n.natAbs) n.natAbs).length = 1 ∨ (tens (Lib.nDigits n.natAbs) n.natAbs).headD 0 ≠ 0 := by
  by_cases hz : n.natAbs < 10
  · left; rw [hlen, Lib.nDigits_small hz]
  ·
   right
   have hlow := nd_low n.natAbs (by omega); have hg := tens_get (Lib.nDigits n.natAbs) n.natAbs 0 (by omega); have hup := Lib.lt_pow_nDigits n.natAbs; have h4 : 1 ≤ n.natAbs / 10 ^ (Lib.nDigits n.natAbs - 1) := (Nat.le_div_iff_mul_le (pow10_pos _)).2 (by rw [Nat.one_mul]; exact hlow); have h5 : n.natAbs / 10 ^ (Lib.nDigits n.natAbs - 1) < 10 := by
    refine Nat.div_lt_of_lt_mul ?_; rw [← Nat.pow_succ, show (Lib.nDigits n.natAbs - 1).succ = Lib.nDigits n.natAbs from by omega]; exact hup
   rw [Nat.sub_zero, Nat.mod_eq_of_lt h5] at hg
   cases ht : tens (Lib.nDigits n.natAbs) n.natAbs with
   | nil => rw [ht] at hlen; simp at hlen; omega
   | cons a r =>
    rw [ht] at hg; simp [dg] at hg; simp; omega
 obtain ⟨m, q1, q2, q3⟩ := i_form n (by omega) (tens (Lib.nDigits n.natAbs) n.natAbs) (tens_small _ _) (num_tens _ _ (Lib.lt_pow_nDigits _)) (by rw [hlen]; exact Lib.nDigits_le20 _ (by omega)) (by
  intro c; rw [c] at hlen; simp at hlen; omega) hhead
 have htext : m.text = (Lib.itoa n).map UInt8.toNat := by
  rw [q3]; unfold Lib.itoa; by_cases hn : n < 0
  · rw [if_pos hn, if_pos hn, List.map_cons, decDigits_tens]; rfl
  · rw [if_neg hn, if_neg hn, decDigits_tens, show n.toNat = n.natAbs from by omega]; rfl
 refine ⟨v', m, rfl, q1, q2, ⟨?_, hO.kp.below hbel (Nat.le_refl _)⟩, fun b o hb ho => hoth b o hb (by simp) ho⟩; rw [htext, List.length_append, List.length_map, cellsOf_append, ← byteCells_of]; exact hown
end
section
open Go.RowKit
structure PenEnv (w : World) : Prop where
 pow : PowTab w
 ten : Lib.TabIs Tryz.prog w "internal/strconv.uint64pow10" .u64 Lib.pow10Tab
 size : 11 ≤ w.heap.size
theorem PenEnv.kp {w w' : World} (h : PenEnv w) (k : Kp [] w w') : PenEnv w' :=
 ⟨h.pow.heap (k.block 4 (by have := h.size; omega) (by simp)), tab_at h.ten (k.block 3 (by have := h.size; omega) (by simp)), Nat.le_trans h.size k.size⟩
abbrev F64 (i : Int) : Nat := floatOfInt .f64 i
def ValueDoes (n : Nat) : Prop :=
 ∀ (d : Nat) (w0 w : World) (pw pb : Nat) (u : Value) (l : List Nat) (v : JV) (kp lp : Option Addr) (kc lc : Nat), Good n v → Deep d w0 v kp lp → PenEnv w0 → PenAt w0 w pw pb u l → l.length + wt n v ≤ 90000000 →
  Calls Tryz.prog 22 #[.pointer (some ⟨pw, 0, none⟩), valOf v kp kc lp lc] w (PenPost w0 w pw pb l (fun t => TxT numSem n t (flo F64 n v) ∧ t.length ≤ wt n v))
theorem PenM.kp0 {w0 w w' : World} {pw pb : Nat} {v0 v : Value} {l : List Nat} (h : PenM w0 w pw pb v0 v l) (k : Kp [] w w') : PenM w0 w' pw pb v0 v l := by
 obtain ⟨p, n, cap, q, h1, h2⟩ := h.pk; have hk2 := h.out.kp.trans (Kp.mono k (fun _ _ h => by simp at h)); exact ⟨by rw [k.block pw h.lt (by simp)]; exact h.pen, h.out.step k, ⟨p, n, cap, q, h1.move h2 (k.block pb h.ltb (by simp)) h.out.kp hk2, h2⟩, h.hw, h.hb, h.ne⟩
theorem Kx.kp0 {S : List Nat} {a w w' : World} (h : Kx S a w) (k : Kp [] w w') : Kx S a w' := h.kp k (by simp)
def BoxAt (w : World) (b : Nat) (v : JV) (kp : Option Addr) (kc : Nat) (lp : Option Addr) (lc : Nat) : Prop :=
 w.heap[b]? = some (.cells #[.int .i64 v.kind, .bool v.b, .int .i64 v.i, .float .f64 v.f, .string v.t, .slice kp v.ks.length kc, .slice lp v.l.length lc] 26 (0, 0))
theorem BoxAt.kx {S : List Nat} {w w' : World} {b : Nat} {v : JV} {kp : Option Addr} {kc : Nat} {lp : Option Addr} {lc : Nat} (h : BoxAt w b v kp kc lp lc) (k : Kx S w w') (hb : b ∉ S) : BoxAt w' b v kp kc lp lc :=
 k b _ h hb (fun c f e => by injection e with _ e _; exact absurd e (by decide))
theorem BoxAt.kp {w w' : World} {b : Nat} {v : JV} {kp : Option Addr} {kc : Nat} {lp : Option Addr} {lc : Nat} (h : BoxAt w b v kp kc lp lc) (k : Kp [] w w') : BoxAt w' b v kp kc lp lc := by
 unfold BoxAt at *; rw [k.block b (lt_of_block h) (by simp)]; exact h
theorem boxAt_fresh (w : World) (v : JV) (kp : Option Addr) (kc : Nat) (lp : Option Addr) (lc : Nat) :
  BoxAt (w.alloc (.cells #[.int .i64 v.kind, .bool v.b, .int .i64 v.i, .float .f64 v.f, .string v.t, .slice kp v.ks.length kc, .slice lp v.l.length lc] 26)) w.heap.size v kp kc lp lc := by
 show (w.heap.push _)[w.heap.size]? = _
 simp
section
variable {w : World} {b : Nat} {v : JV} {kp : Option Addr} {kc : Nat} {lp : Option Addr} {lc : Nat}
theorem BoxAt.c0 (h : BoxAt w b v kp kc lp lc) : w.cell? ⟨b, 0, none⟩ = some (.int .i64 v.kind) := by simp [World.cell?, show w.heap[b]? = _ from h]
theorem BoxAt.c1 (h : BoxAt w b v kp kc lp lc) : w.cell? ⟨b, 1, none⟩ = some (.bool v.b) := by simp [World.cell?, show w.heap[b]? = _ from h]
theorem BoxAt.c2 (h : BoxAt w b v kp kc lp lc) : w.cell? ⟨b, 2, none⟩ = some (.int .i64 v.i) := by simp [World.cell?, show w.heap[b]? = _ from h]
theorem BoxAt.c3 (h : BoxAt w b v kp kc lp lc) : w.cell? ⟨b, 3, none⟩ = some (.float .f64 v.f) := by simp [World.cell?, show w.heap[b]? = _ from h]
theorem BoxAt.c4 (h : BoxAt w b v kp kc lp lc) : w.cell? ⟨b, 4, none⟩ = some (.string v.t) := by simp [World.cell?, show w.heap[b]? = _ from h]
theorem BoxAt.c5 (h : BoxAt w b v kp kc lp lc) : w.cell? ⟨b, 5, none⟩ = some (.slice kp v.ks.length kc) := by simp [World.cell?, show w.heap[b]? = _ from h]
theorem BoxAt.c6 (h : BoxAt w b v kp kc lp lc) : w.cell? ⟨b, 6, none⟩ = some (.slice lp v.l.length lc) := by simp [World.cell?, show w.heap[b]? = _ from h]
end
theorem sum_take {α : Type} (f : α → Nat) : ∀ (l : List α) (i : Nat) (h : i < l.length), ((l.take (i + 1)).map f).sum = ((l.take i).map f).sum + f l[i] := fun l i h => by
 rw [← List.take_append_getElem h, List.map_append, List.sum_append]; simp
theorem sum_take_le {α : Type} (f : α → Nat) (l : List α) (i : Nat) : ((l.take i).map f).sum ≤ (l.map f).sum := by
 conv => rhs; rw [← List.take_append_drop i l, List.map_append, List.sum_append]
 omega
theorem sum_ge {α : Type} (f : α → Nat) : ∀ (l : List α), (∀ x, 20 ≤ f x) → 20 * l.length ≤ (l.map f).sum
 | [], _ => by simp
 | x :: l, h => by
  have := sum_ge f l h; have := h x; simp only [List.map_cons, List.sum_cons, List.length_cons]; omega
theorem flo_take (F : Int → Nat) (n : Nat) (l : List JV) (i : Nat) (h : i < l.length) : (l.map (flo F n)).take (i + 1) = (l.map (flo F n)).take i ++ [flo F n l[i]] := by
 rw [← List.take_append_getElem (by simpa using h)]; simp
theorem copy_kp (w : World) (xs zs : Array Value) : Kp [] w ((w.alloc (.cells zs 26)).setRow w.heap.size xs) := by
 have h1 : Kp [] w (w.alloc (.cells zs 26)) := (Kp.refl _ _).alloc _; exact ⟨h1.os, h1.tape, h1.output, by rw [setRow_size]; exact h1.size, fun k hk hs => by rw [setRow_other _ _ _ _ (by omega)]; exact h1.block k hk hs⟩
end
section
open Go.RowKit
structure LInv7 (n : Nat) (w0 w : World) (pw pb bx : Nat) (l : List Nat) (v : JV) (kp : Option Addr) (kc : Nat) (lp : Option Addr) (lc : Nat) (i : Nat) (t : List Nat) (u : Value) (wr : World) : Prop where
 part : MPart numSem n t (v.ks.take i) ((v.l.map (flo F64 n)).take i)
 len : t.length ≤ 2 + ((v.l.take i).map (fun x => 20 + wt n x)).sum + ((v.ks.take i).map (fun k => 20 + 12 * k.size)).sum
 pen : PenAt w0 wr pw pb u (l ++ [123] ++ t)
 kx : Kx [pw, pb] w wr
 box : BoxAt wr bx v kp kc lp lc
set_option maxRecDepth 100000 in
set_option maxHeartbeats 8000000 in
theorem value_7 (n : Nat) (IH : ValueDoes n) (d : Nat) (w0 w : World) (pw pb : Nat) (u : Value) (l : List Nat) (v : JV) (kp lp : Option Addr) (kc lc : Nat) (hk : v.kind = 7) (hrise : Rise v.ks) (hkl : v.ks.length = v.l.length) (hut : ∀ k ∈ v.ks, Utf k) (hg : ∀ x ∈ v.l, Good n x) (hd : Deep (d + 1) w0 v kp lp) (hE : PenEnv w0) (h : PenAt w0 w pw pb u l) (hl : l.length + wt (n + 1) v ≤ 90000000) :
  Calls Tryz.prog 22 #[.pointer (some ⟨pw, 0, none⟩), valOf v kp kc lp lc] w (PenPost w0 w pw pb l (fun t => TxT numSem (n + 1) t (flo F64 (n + 1) v) ∧ t.length ≤ wt (n + 1) v)) := by
 have hwt : 40 + (v.ks.map (fun k => 20 + 12 * k.size)).sum + (v.l.map (fun x => 20 + wt n x)).sum ≤ wt (n + 1) v := by rw [wt]; omega
 have hflo : flo F64 (n + 1) v = .mk v.kind v.b v.i v.f v.t v.ks (v.l.map (flo F64 n)) := by rw [flo, if_neg (by rw [hk]; decide)]
 have hcnt := sum_ge (fun x => 20 + wt n x) v.l (fun x => by omega); have hcount : v.l.length ≤ 90000000 := by omega
 obtain ⟨hks, hdl⟩ := hd; have HDl := hid hdl; have HKs := hid hks; have HRise := hid hrise; have HUt := hid hut; have HKl := hid hkl; clear hrise hut hkl; have HG := hid hg; have HFlo := hid hflo; have HIH := hid IH; have HEn := hid hE; have HBx := hid (boxAt_fresh w v kp kc lp lc); have HP := hid (h.alloc (.cells #[.int .i64 v.kind, .bool v.b, .int .i64 v.i, .float .f64 v.f, .string v.t, .slice kp v.ks.length kc, .slice lp v.l.length lc] 26)); have HK := hid ((Kx.refl [pw, pb] w).alloc (.cells #[.int .i64 v.kind, .bool v.b, .int .i64 v.i, .float .f64 v.f, .string v.t, .slice kp v.ks.length kc, .slice lp v.l.length lc] 26)); have hbx1 : w.heap.size ≠ pw := by have := h.lt; omega
 have hbx2 : w.heap.size ≠ pb := by have := h.ltb; omega
 have hbx : Hid (w.heap.size ∉ [pw, pb]) := by intro hm; simp at hm; omega
 clear hks hdl hg hflo IH hE h; generalize hpf : PenPost w0 w pw pb l (fun t => TxT numSem (n + 1) t (flo F64 (n + 1) v) ∧ t.length ≤ wt (n + 1) v) = PF at *; have HPF := hid hpf; clear hpf; unfold valOf; generalize hvk : v.kind = K at *; have HKd := hid hvk; clear hvk; subst hk; go_enter Tryz.func22, Tryz.ntmps22
 go_upto_region 16 with fail
 generalize hW1 : w.alloc (.cells #[.int .i64 7, .bool v.b, .int .i64 v.i, .float .f64 v.f, .string v.t, .slice kp v.ks.length kc, .slice lp v.l.length lc] 26) = w1 at *; clear hW1; have c1 := HP.out.c1; have f1 := HP.out.fr 1; have hlt := HP.out.lt; go_cut [] (fun wx => ∃ u', PenAt w0 wx pw pb u' (l ++ [123]) ∧ Kx [pw, pb] w wx ∧ BoxAt wx w.heap.size v kp kc lp lc)
 case first =>
  go_region_law (refine step_pen_int rfl _ _ rfl w0 w1 pw pb u u _ (by simp [Act.eval, Act.put]) (by first | exact (HP.out.alloc _).drew | exact HP.out.drew.alloc _) ((Kx.refl _ _).alloc _).drew ⟨w1.heap.size, 0, none⟩ 1 _ (by simp [Act.eval, Act.put]) (by show World.cell? (World.alloc _ _) _ = _; rw [cells_new]; rfl) (by omega) (by omega) ?_; intro p2 n2 c2 w2 hP2 hK2; have e1 := hP2.c1; have g1 := hP2.fr 1; have HP2 := hid hP2.store; have HK2 := hid (hK2.setCell (p := ⟨pw, 1, none⟩) (by simp) (.slice p2 n2 c2)); clear hP2 hK2)
  all_goals
   go_wp2_with fail
   go_meet; exact ⟨_, HP2.out, HK.out.trans HK2.out, HBx.out.kx HK2.out hbx.out⟩
 case rest =>
  obtain ⟨u1, hP1, hK1, hB1⟩ := hcut; clear c1 f1 hlt HP HK HBx; have HP := hid hP1; have HK := hid hK1; have HB := hid hB1; clear hP1 hK1 hB1; go_wp2_with fail
  refine (gap_is w0 _ pw pb _ _ HP.out (by simp; omega)).mono ?_
  rintro e2 w2 ⟨rfl, u2, t0, hg0, hP2, hK2⟩
  have HB2 := hid (HB.out.kx hK2 hbx.out); have HK3 := hid (HK.out.trans hK2); have HG0 := hid hg0; clear HP HK HB hg0; have HP := hid hP2; have HK := hid HK3.out; have HB := hid HB2.out; have b6 := HB.out.c6; clear hP2 hK2 HB2 HK3; go_wp2_with fail
  go_loopw [5, 6, 89] (fun v5 v6 v89 wr => ∃ (i : Nat) (t : List Nat) (u : Value), v89 = .int .i64 (i : Int) ∧ i ≤ v.l.length ∧ LInv7 n w0 w pw pb w.heap.size l v kp kc lp lc i t u wr) (fun _ _ v89 _ => v.l.length - (intOf v89).toNat)
  case atStart => exact ⟨0, t0, u2, rfl, Nat.zero_le _, ⟨Or.inl ⟨by simp, by simp, HG0.out.1⟩, by have := HG0.out.2; omega, HP.out, HK.out, HB.out⟩⟩
  case round =>
   obtain ⟨i, t, u, rfl, hi, hinv⟩ := hrel; have HI := hid hinv; clear hinv HP HK HB b6 HG0; by_cases hlt : i < v.l.length
   ·
    have k1 : decide ((i : Int) < (v.l.length : Int)) = true := by rw [decide_eq_true_eq]; omega
    rcases HDl.out with h0 | ⟨g, o, hlp, hcs⟩
    · rw [h0] at hlt; simp at hlt
    obtain ⟨kp', kc', lp', lc', ⟨a0, a1, a2, a3, a4, a5, a6⟩, hdeep⟩ := hcs i hlt; have hkp0 := HI.out.pen.out.kp; have d0 := cell_kp a0 hkp0; have d1 := cell_kp a1 hkp0; have d2 := cell_kp a2 hkp0; have d3 := cell_kp a3 hkp0; have d4 := cell_kp a4 hkp0; have d5 := cell_kp a5 hkp0; have d6 := cell_kp a6 hkp0; have HDeep := hid hdeep; have HKp0 := hid hkp0; clear a0 a1 a2 a3 a4 a5 a6 hcs hdeep hkp0; subst hlp; obtain ⟨x, hx⟩ : ∃ x, x = v.l[i] := ⟨_, rfl⟩; have HX := hid hx; rw [← hx] at d0 d1 d2 d3 d4 d5 d6 HDeep; clear hx
    go_upto_if 95 with (refine wpList_store_row rfl 26 _ _ rfl wr.heap.size #[.int .i64 x.kind, .bool x.b, .int .i64 x.i, .float .f64 x.f, .string x.t, .slice kp' x.ks.length kc', .slice lp' x.l.length lc'] ?_ ?_ 26 #[.int .i64 0, .bool false, .int .i64 0, .float .f64 0, .string ⟨#[]⟩, .slice none 0 0, .slice none 0 0] ?_ ?_ ?_ ?_ ?_; go_must (rfl); go_must (rfl); go_must (exact heap_alloc_new _ _); go_must (kernel_rfl); go_must (rfl); go_must (simp [Value.oneCell']))
    have hcopy := copy_kp wr #[.int .i64 x.kind, .bool x.b, .int .i64 x.i, .float .f64 x.f, .string x.t, .slice kp' x.ks.length kc', .slice lp' x.l.length lc'] #[.int .i64 0, .bool false, .int .i64 0, .float .f64 0, .string ⟨#[]⟩, .slice none 0 0, .slice none 0 0]; have hbx2 : BoxAt ((wr.alloc (.cells #[.int .i64 0, .bool false, .int .i64 0, .float .f64 0, .string ⟨#[]⟩, .slice none 0 0, .slice none 0 0] 26)).setRow wr.heap.size #[.int .i64 x.kind, .bool x.b, .int .i64 x.i, .float .f64 x.f, .string x.t, .slice kp' x.ks.length kc', .slice lp' x.l.length lc']) wr.heap.size x kp' kc' lp' lc' := setRow_heap _ _ _ _ 26 _ (heap_alloc_new _ _); generalize hW : World.setRow _ _ _ = w3 at *; have HCp := hid hcopy; have HBx := hid hbx2; have hxw : wr.heap.size ≠ pw := by have := HI.out.pen.lt; omega
    have hxb : wr.heap.size ≠ pb := by have := HI.out.pen.ltb; omega
    have hxn : Hid (wr.heap.size ∉ [pw, pb]) := by intro hm; simp at hm; omega
    generalize hxs : wr.heap.size = xb at *; have HP := hid (HI.out.pen.kp0 hcopy); have HK := hid (HI.out.kx.kp0 hcopy); have HB := hid (HI.out.box.kp hcopy); have hilen := HI.out.len; have c1 := HP.out.c1; have f1 := HP.out.fr 1; have htk := sum_take (fun x => 20 + wt n x) v.l i hlt; have htl := sum_take_le (fun x => 20 + wt n x) v.l (i + 1); have hik : i < v.ks.length := by have := HKl.out; omega
    have hsk := sum_take (fun k => 20 + 12 * k.size) v.ks i hik; have hskl := sum_take_le (fun k => 20 + 12 * k.size) v.ks (i + 1); clear hW hcopy hbx2 d0 d1 d2 d3 d4 d5 d6 hxs; go_cut [] (fun wx => ∃ (t1 : List Nat) (u1 : Value), MReady numSem n t1 (v.ks.take i) ((v.l.map (flo F64 n)).take i) ∧ t1.length ≤ t.length + 3 ∧ PenAt w0 wx pw pb u1 (l ++ [123] ++ t1) ∧ Kx [pw, pb] w wx ∧ BoxAt wx w.heap.size v kp kc (some ⟨g, o, none⟩) lc ∧ BoxAt wx xb x kp' kc' lp' lc')
    case first =>
     by_cases hi0 : i = 0
     · subst hi0
       go_wp2_with fail
       go_meet; exact ⟨t, u, MReady.of (by simp) HI.out.part, by omega, HP.out, HK.out, HB.out, HBx.out⟩
     ·
      have k2 : decide ((i : Int) > 0) = true := by rw [decide_eq_true_eq]; omega
      go_wp2_with (at_builtin; go_must (refine wp_pen_int rfl _ _ rfl w0 w3 pw pb _ _ _ rfl (HP.out.alloc _) ((Kx.refl _ _).alloc _) _ _ _ rfl (cell_new _ _ _ _) ?_ ?_ ?_); go_must (omega); go_must (simp only [List.length_append, List.length_cons, List.length_nil]; omega); intro p2 n2 c2 w2 hP2 hK2; have c1 := hP2.c1; have f1 := hP2.fr 1; clear HP; have HP := hid hP2.store; have HK2 := hid (hK2.setCell (p := ⟨pw, 1, none⟩) (by simp) (.slice p2 n2 c2)); clear hP2 hK2)
      generalize hw5 : World.setCell _ _ _ = w5 at *; clear hw5 c1 f1; refine (gap_is w0 _ pw pb _ _ HP.out (by simp only [List.length_append, List.length_cons, List.length_nil]; omega)).mono ?_
      rintro e3 w6 ⟨rfl, u3, g3, hg3, hP3, hK3⟩
      have HG3 := hid hg3; have HP3 := hid hP3; have HK4 := hid (HK2.out.trans hK3); clear hg3 hP3 hK3; go_wp2_with fail
      go_meet; exact ⟨t ++ [44] ++ g3, u3, HI.out.part.ready (by intro h; have := congrArg List.length h; rw [List.length_take, List.length_map, List.length_nil] at this; omega) HG3.out.1, by have := HG3.out.2; simp; omega, by have h := HP3.out; simpa using h, HK.out.trans HK4.out, HB.out.kx HK4.out hbx.out, HBx.out.kx HK4.out hxn.out⟩
    case rest =>
     obtain ⟨t1, u1, hr1, hl1, hP1, hK1, hB1, hX1⟩ := hcut; have HR1 := hid hr1; clear c1 f1 HP HK HB HBx hr1; have HP := hid hP1; have HK := hid hK1; have HB := hid hB1; have HBx := hid hX1; have b0 := hB1.c0; rw [HKd.out] at b0; have b5 := hB1.c5; rcases HKs.out with hk0 | ⟨gk, ok, hkp, hkc⟩
     · rw [hk0] at hik; simp at hik
     have q0 := cell_kp (hkc i hik) hP1.out.kp; have HKp := hid hkp; rw [hkp] at b5; obtain ⟨kk, hkk⟩ : ∃ kk, kk = v.ks[i] := ⟨_, rfl⟩; have HKk := hid hkk; rw [← hkk] at q0; have hsk2 : ((v.ks.take (i + 1)).map (fun k => 20 + 12 * k.size)).sum = ((v.ks.take i).map (fun k => 20 + 12 * k.size)).sum + (20 + 12 * kk.size) := by rw [hkk]; exact hsk
     obtain ⟨rs, hrs1, hrs2⟩ := HUt.out _ (List.getElem_mem hik); rw [← hkk] at hrs1; have HRs1 := hid hrs1; have hk1 : (i : Int) < (v.ks.length : Int) := by omega
     clear hkc hkk hkp hrs1; have e0 := hX1.c0; have e1 := hX1.c1; have e2 := hX1.c2; have e3 := hX1.c3; have e4 := hX1.c4; have e5 := hX1.c5; have e6 := hX1.c6; clear hP1 hK1 hB1 hX1; have hwx : 20 + wt n x = 20 + wt n v.l[i] := by rw [HX.out]
     go_wp2_with fail
     refine (text_is w0 _ pw pb _ _ kk rs HRs1.out hrs2 HP.out (by simp only [List.length_append, List.length_cons, List.length_nil]; omega)).mono ?_
     rintro r1 w4 ⟨rfl, u4, tk, htk, hP4, hK4⟩
     have HTk := hid htk.1; have htkl := htk.2; have HK5 := hid (HK.out.trans hK4); have HB5 := hid (HB.out.kx hK4 hbx.out); have HX5 := hid (HBx.out.kx hK4 hxn.out); clear HP HK HB HBx b0 b5 q0 e0 e1 e2 e3 e4 e5 e6 htk; have HP := hid hP4; have HK := hid HK5.out; have HB := hid HB5.out; have HBx := hid HX5.out; clear hP4 hK4 HK5 HB5 HX5; go_wp2_with fail
     refine (gap_is w0 _ pw pb _ _ HP.out (by simp only [List.length_append, List.length_cons, List.length_nil]; omega)).mono ?_
     rintro r2 w6 ⟨rfl, u6, ga, hga, hP6, hK6⟩
     have HGa := hid hga; have hgal := hga.2; have HK5 := hid (HK.out.trans hK6); have HB5 := hid (HB.out.kx hK6 hbx.out); have HX5 := hid (HBx.out.kx hK6 hxn.out); clear HP HK HB HBx hga; have HP := hid hP6; have HK := hid HK5.out; have HB := hid HB5.out; have HBx := hid HX5.out; have c1 := hP6.c1; have f1 := hP6.fr 1; clear hP6 hK6 HK5 HB5 HX5; go_wp2_with (at_builtin; go_must (refine wp_pen_int rfl _ _ rfl w0 w6 pw pb _ _ _ rfl (HP.out.alloc _) ((Kx.refl _ _).alloc _) _ _ _ rfl (cell_new _ _ _ _) ?_ ?_ ?_); go_must (omega); go_must (simp only [List.length_append, List.length_cons, List.length_nil]; omega); intro p2 n2 c2 w2 hP2 hK2; have c1 := hP2.c1; have f1 := hP2.fr 1; clear HP; have HP := hid hP2.store; have HK2 := hid (hK2.setCell (p := ⟨pw, 1, none⟩) (by simp) (.slice p2 n2 c2)); clear hP2 hK2)
     generalize hw7 : World.setCell _ _ _ = w7 at *; clear hw7 c1 f1; refine (gap_is w0 _ pw pb _ _ HP.out (by simp only [List.length_append, List.length_cons, List.length_nil]; omega)).mono ?_
     rintro r3 w8 ⟨rfl, u8, gb, hgb, hP8, hK8⟩
     have HGb := hid hgb; have hgbl := hgb.2; have HK6 := hid (HK2.out.trans hK8); have HK5 := hid (HK.out.trans HK6.out); have HB5 := hid (HB.out.kx HK6.out hbx.out); have HX5 := hid (HBx.out.kx HK6.out hxn.out); clear HP HK HB HBx hgb; have HP := hid hP8; have HK := hid HK5.out; have HB := hid HB5.out; have HBx := hid HX5.out; have e0 := HX5.out.c0; have e1 := HX5.out.c1; have e2 := HX5.out.c2; have e3 := HX5.out.c3; have e4 := HX5.out.c4; have e5 := HX5.out.c5; have e6 := HX5.out.c6; clear hP8 hK8 HK5 HK6 HB5 HX5; go_wp2_with fail
     refine (HIH.out d w0 _ pw pb _ _ x kp' lp' kc' lc' (by rw [HX.out]; exact HG.out _ (List.getElem_mem hlt)) HDeep.out HEn.out HP.out (by simp only [List.length_append, List.length_cons, List.length_nil]; omega)).mono ?_
     rintro e7 w4 ⟨rfl, u4, tv, htv, hP4, hK4⟩
     have HTv := hid htv; have hltv := htv.2; have HK5 := hid (HK.out.trans hK4); have HB5 := hid (HB.out.kx hK4 hbx.out); clear HP HK HB HBx e0 e1 e2 e3 e4 e5 e6 htv; have HP := hid hP4; have HK := hid HK5.out; have HB := hid HB5.out; clear hP4 hK4 HK5 HB5; go_wp2_with fail
     refine (gap_is w0 _ pw pb _ _ HP.out (by simp only [List.length_append, List.length_cons, List.length_nil]; omega)).mono ?_
     rintro e8 w5 ⟨rfl, u5, g5, hg5, hP5, hK5⟩
     have HG5 := hid hg5; have HP5 := hid hP5; have HK5 := hid (HK.out.trans hK5); have HB5 := hid (HB.out.kx hK5 hbx.out); clear hg5 hP5 hK5; go_wp2_with fail
     go_roundw
     case measure => simp [intOf]; omega
     case rel =>
      refine ⟨i + 1, t1 ++ tk ++ ga ++ [58] ++ gb ++ tv ++ g5, u5, by push_cast; rfl, by omega, ⟨?_, ?_, ?_, HK5.out, HB5.out⟩⟩
      · rw [flo_take F64 n v.l i hlt]
        have h := HTv.out.1; rw [HX.out] at h; have e := List.take_append_getElem hik; rw [← HKk.out] at e; rw [← e]; exact HR1.out.next HTk.out HRs1.out HGa.out.1 HGb.out.1 h HG5.out.1
      · have := HG5.out.2
        simp only [List.length_append, List.length_cons, List.length_nil]; omega
      · have h := HP5.out
        simpa using h
   ·
    have k1 : decide ((i : Int) < (v.l.length : Int)) = false := by rw [decide_eq_false_iff_not]; omega
    have c1 := HI.out.pen.c1; have f1 := HI.out.pen.fr 1; have hlt2 := HI.out.pen.lt; have hlen := HI.out.len; have htl := sum_take_le (fun x => 20 + wt n x) v.l i; have hskl := sum_take_le (fun k => 20 + 12 * k.size) v.ks i; go_upto_region 32 with fail
    go_region_law (refine step_pen_int rfl _ _ rfl w0 wr pw pb u u _ (by simp [Act.eval, Act.put]) (by first | exact (HI.out.pen.alloc _).drew | exact HI.out.pen.drew.alloc _) ((Kx.refl _ _).alloc _).drew ⟨wr.heap.size, 0, none⟩ 1 _ (by simp [Act.eval, Act.put]) (by show World.cell? (World.alloc _ _) _ = _; rw [cells_new]; rfl) (by omega) (by simp only [List.length_append, List.length_cons, List.length_nil]; omega) ?_; intro p2 n2 c2 w2 hP2 hK2; have e1 := hP2.c1; have g1 := hP2.fr 1; have HP2 := hid hP2.store; have HK2 := hid (hK2.setCell (p := ⟨pw, 1, none⟩) (by simp) (.slice p2 n2 c2)); clear hP2 hK2)
    all_goals
     generalize hw5 : World.setCell _ _ _ = w5 at *; clear hw5 e1 g1; go_wp2_with fail
     first | (refine bodyPost_ret (results_none rfl _ _ _) rfl ?_) | (refine bodyPost_end (results_none rfl _ _ _) rfl ?_)
     rw [← HPF.out]; have hfin : PenAt w0 w5 pw pb (.slice p2 n2 c2) (l ++ [123] ++ t ++ [125]) := HP2.out; refine ⟨rfl, _, [123] ++ t ++ [125], ⟨?_, ?_⟩, by simpa only [List.append_assoc] using hfin, HI.out.kx.trans HK2.out⟩
     · rw [HFlo.out]
       refine MPart.whole ?_ rfl HRise.out; have h := HI.out.part; rw [List.take_of_length_le (by have := HKl.out; omega), List.take_of_length_le (by simp; omega)] at h; exact h
     · simp only [List.length_append, List.length_cons, List.length_nil]
       omega
end
end Go.Proofs.YtljaoopfomcaoaaGreatDoor
