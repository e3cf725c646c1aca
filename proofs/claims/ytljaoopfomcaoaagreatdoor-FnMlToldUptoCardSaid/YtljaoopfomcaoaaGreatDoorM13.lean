import Derived.Deep.RegionWith
import Derived.Deep.RegionHeld3
import Derived.Deep.RegionLaw
import Derived.Deep.LoopGhost
import Derived.Test.YtljaoopfomcaoaaGreatDoorM12
set_option linter.all false
open Go.Lib (hid)
namespace Go.Proofs.YtljaoopfomcaoaaGreatDoor
section
open Go.RowKit
def HexD (c : Nat) (ds : List Nat) (j : Nat) : Prop := ds.length = j ∧ ∀ i, i < j → HexOf (c / 2 ^ (12 - 4 * i) % 16) (ds.getD i 0)
theorem HexD.six {c : Nat} {ds : List Nat} (h : HexD c ds 4) (hc : c < 65536) : Six c (92 :: 117 :: ds) := by
 obtain ⟨h1, h2⟩ := h
 match ds, h1, h2 with
 | [a, b, d, e], _, h2 =>
  refine six_of (h2 0 (by omega)) (h2 1 (by omega)) (h2 2 (by omega)) (h2 3 (by omega)) ?_; simp only [Nat.mul_zero, Nat.sub_zero, Nat.mul_one, show 12 - 4 = 8 from rfl, show 12 - 4 * 2 = 4 from rfl, show 12 - 4 * 3 = 0 from rfl, show (2:Nat) ^ 12 = 4096 from rfl, show (2:Nat) ^ 8 = 256 from rfl, show (2:Nat) ^ 4 = 16 from rfl, show (2:Nat) ^ 0 = 1 from rfl]; omega
theorem HexD.snoc {c : Nat} {ds : List Nat} {j x : Nat} (h : HexD c ds j) (hx : HexOf (c / 2 ^ (12 - 4 * j) % 16) x) : HexD c (ds ++ [x]) (j + 1) := by
 obtain ⟨h1, h2⟩ := h; refine ⟨by simp [h1], fun i hi => ?_⟩; rw [List.getD_eq_getElem?_getD]; rcases Nat.lt_or_ge i j with h' | h'
 · rw [List.getElem?_append_left (by omega), ← List.getD_eq_getElem?_getD]; exact h2 i h'
 · obtain rfl : i = j := by omega
   rw [List.getElem?_append_right (by omega), h1, Nat.sub_self]; exact hx
theorem and_i32 (a b : Nat) (ha : a < 2147483648) (hb : b < 2147483648) : bits .and .i32 (a : Int) (b : Int) = ((a &&& b : Nat) : Int) := by
 have hx : a &&& b < 2 ^ 31 := Nat.and_lt_two_pow _ (by omega); have h1 : (BitVec.ofInt 32 (a : Int)).toNat = a := by
  rw [BitVec.ofInt_natCast, BitVec.toNat_ofNat]; exact Nat.mod_eq_of_lt (by omega)
 have h2 : (BitVec.ofInt 32 (b : Int)).toNat = b := by
  rw [BitVec.ofInt_natCast, BitVec.toNat_ofNat]; exact Nat.mod_eq_of_lt (by omega)
 show IntKind.i32.wrap ((BitVec.ofInt 32 (a : Int) &&& BitVec.ofInt 32 (b : Int)).toNat : Int) = _
 rw [BitVec.toNat_and, h1, h2, IntKind.wrap_i32]; omega
theorem nib (c j : Nat) (hc : c < 65536) (hj : j < 4) : bits .and .i32 ((c : Int) / 2 ^ (12 - 4 * (j : Int)).toNat) 15 = ((c / 2 ^ (12 - 4 * j) % 16 : Nat) : Int) := by
 have e1 : (12 - 4 * (j : Int)).toNat = 12 - 4 * j := by omega
 have e2 : ((c : Int) / 2 ^ (12 - 4 * j)) = ((c / 2 ^ (12 - 4 * j) : Nat) : Int) := by push_cast; rfl
 have h : c / 2 ^ (12 - 4 * j) ≤ c := Nat.div_le_self _ _; rw [e1, e2, show (15 : Int) = ((15 : Nat) : Int) from rfl, and_i32 _ _ (by omega) (by omega), show (15 : Nat) = 2 ^ 4 - 1 from rfl, Nat.and_two_pow_sub_one_eq_mod]
set_option maxRecDepth 100000 in
set_option maxHeartbeats 2000000 in
theorem four_is (w0 w : World) (pw pb : Nat) (v : Value) (l : List Nat) (c : Nat) (hc : c < 65536) (h : PenAt w0 w pw pb v l) (hl : l.length ≤ 100000000) :
  Calls Tryz.prog 45 #[.pointer (some ⟨pw, 0, none⟩), .int .i32 c] w (PenPost w0 w pw pb l (Six c)) := by
 have HP := hid h; have HK := hid (Kx.refl [pw, pb] w); have c1 := h.c1; have f1 := h.fr 1; clear h; go_enter Tryz.func45, Tryz.ntmps45
 go_wp2_with (at_builtin; go_must (refine wp_pen_two rfl _ _ rfl w0 w pw pb _ _ _ rfl (HP.out.alloc _) (HK.out.alloc _) _ _ _ _ rfl (by rw [cells_new]; rfl) (by rw [cells_new]; rfl) ?_ ?_ ?_ ?_); go_must (omega); go_must (omega); go_must (omega); intro p2 n2 c2 w2 hP2 hK2; have c1 := hP2.c1; have f1 := hP2.fr 1; clear HP HK; have HP := hid hP2.store; have HK := hid (hK2.setCell (p := ⟨pw, 1, none⟩) (by simp) (.slice p2 n2 c2)); clear hP2 hK2)
 generalize hw3 : w2.setCell ⟨pw, 1, none⟩ (.slice p2 n2 c2) = w3 at *; clear hw3 c1 f1; go_loopw [4, 5] (fun v4 v5 wr => ∃ (j : Nat) (ds : List Nat) (u : Value), v4 = .int .i64 (12 - 4 * (j : Int)) ∧ j ≤ 4 ∧ HexD c ds j ∧ PenAt w0 wr pw pb u (l ++ 92 :: 117 :: ds) ∧ Kx [pw, pb] w wr) (fun v4 _ _ => (intOf v4 + 4).toNat)
 case atStart => exact ⟨0, [], _, rfl, by omega, ⟨rfl, fun i hi => absurd hi (Nat.not_lt_zero i)⟩, by simpa using HP.out, HK.out⟩
 case round =>
  obtain ⟨j, ds, u, rfl, hj, hd, hp, hk⟩ := hrel; clear HP HK; have HP := hid hp; have HK := hid hk; have HD := hid hd; have c0 := hp.c0; have c1 := hp.c1; have f1 := hp.fr 1; have hlen : ds.length = j := hd.1; clear hp hk hd; by_cases h4 : j = 4
  · subst h4
    go_wp2_with fail
    first | (refine bodyPost_ret (results_none rfl _ _ _) rfl ?_) | (refine bodyPost_end (results_none rfl _ _ _) rfl ?_)
    exact ⟨rfl, u, _, HD.out.six hc, HP.out, HK.out⟩
  ·
   have k1 : decide (12 - 4 * (j : Int) ≥ 0) = true := by rw [decide_eq_true_eq]; omega
   have HLn := hid hlen; clear hlen; have hX := nib c j hc (by omega); obtain ⟨q, hq⟩ : ∃ q, q = c / 2 ^ (12 - 4 * j) % 16 := ⟨_, rfl⟩; rw [← hq] at hX; have hq16 : q < 16 := by omega
   have hqa : (0 : Int) ≤ (q : Int) := by omega
   have hqb : (q : Int) < 16 := by omega
   have hlo : ∀ h, HexOf q ((⟨#[48, 49, 50, 51, 52, 53, 54, 55, 56, 57, 97, 98, 99, 100, 101, 102]⟩ : ByteArray)[q]'h).toNat := fun h => by
    rcases (show q = 0 ∨ q = 1 ∨ q = 2 ∨ q = 3 ∨ q = 4 ∨ q = 5 ∨ q = 6 ∨ q = 7 ∨ q = 8 ∨ q = 9 ∨ q = 10 ∨ q = 11 ∨ q = 12 ∨ q = 13 ∨ q = 14 ∨ q = 15 from by omega) with rfl | rfl | rfl | rfl | rfl | rfl | rfl | rfl | rfl | rfl | rfl | rfl | rfl | rfl | rfl | rfl <;> rfl
   have hup : ∀ h, HexOf q ((⟨#[48, 49, 50, 51, 52, 53, 54, 55, 56, 57, 65, 66, 67, 68, 69, 70]⟩ : ByteArray)[q]'h).toNat := fun h => by
    rcases (show q = 0 ∨ q = 1 ∨ q = 2 ∨ q = 3 ∨ q = 4 ∨ q = 5 ∨ q = 6 ∨ q = 7 ∨ q = 8 ∨ q = 9 ∨ q = 10 ∨ q = 11 ∨ q = 12 ∨ q = 13 ∨ q = 14 ∨ q = 15 from by omega) with rfl | rfl | rfl | rfl | rfl | rfl | rfl | rfl | rfl | rfl | rfl | rfl | rfl | rfl | rfl | rfl <;> rfl
   have HLo := hid hlo; have HUp := hid hup; have HQ := hid hq; clear hq hlo hup; go_wp2_with (go_at_call 19; refine (pen_pick w0 _ pw pb _ _ _ 2 _ (by rfl) (by omega) (by omega) HP.out).mono ?_; rintro e9 w9 ⟨r, rfl, hr, hp9, hk9⟩; have c1 := hp9.c1; have f1 := hp9.fr 1; have HK9 := hid (HK.out.kp hk9 (by simp)); clear HP HK; have HP := hid hp9; have HK := hid HK9.out; clear hp9 hk9 HK9)
   all_goals (clear c0)
   all_goals (have hlt9 := HP.out.lt)
   all_goals (go_region_law (refine step_pen_int rfl _ _ rfl w0 w pw pb u u _ (by simp [Act.eval, Act.put]) (HP.out.alloc _).drew (HK.out.alloc _).drew ⟨w9.heap.size, 0, none⟩ 1 _ (by simp [Act.eval, Act.put]) (by show World.cell? (w9.alloc _) _ = _; rw [cells_new]; rfl) (by omega) (by simp only [List.length_append, List.length_cons, HLn.out]; omega) ?_; intro p2 n2 c2 w2 hP2 hK2; have c1 := hP2.c1; have f1 := hP2.fr 1; clear HP HK; have HP := hid hP2.store; have HK := hid (hK2.setCell (p := ⟨pw, 1, none⟩) (by simp) (.slice p2 n2 c2)); clear hP2 hK2))
   all_goals
    generalize hw3 : World.setCell _ _ _ = w4 at *; clear hw3 c1 f1; go_wp2_with fail
    go_roundw
    case measure => simp [intOf]; omega
    case rel =>
     have h := HP.out; rw [List.append_assoc, Int.toNat_natCast, List.cons_append, List.cons_append] at h; refine ⟨j + 1, ds ++ [_], .slice p2 n2 c2, ?_, by omega, ?_, h, HK.out⟩
     · push_cast; congr 1; omega
     · refine HD.out.snoc ?_
       rw [← HQ.out]; first | exact HLo.out hq16 | exact HUp.out hq16
end
section
open Go.RowKit
theorem pen_rune (w0 w : World) (pw pb : Nat) (v0 v : Value) (l : List Nat) (r : Nat) (x : Int) (hx : x = (r : Int)) (hr : scalar r) (h : PenM w0 w pw pb v0 v l) (hl : l.length ≤ 1000000000) :
  Calls Tryz.prog 20 #[v, .int .i32 x] w fun e w' => ∃ (p : Option Addr) (n c : Nat), e = .returned (.slice p n c) ∧ PenM w0 w' pw pb v0 (.slice p n c) (l ++ utf8 r) ∧ Kt w w' := by
 subst hx; have hr2 : r < 1114112 := by unfold scalar at hr; omega
 have hown := h.out.own; have hk := h.out.kp; refine (Tryz.utf8_AppendRune_plain w0.heap.size v l.length (cellsOf l) r (by omega) (by omega) w hown (by omega) hk.size).mono fun e w' h' => ?_
 obtain ⟨v', rfl, ho, o, hg⟩ := h'; have hrow : ∀ k, v.ownBlock = some k → w0.heap.size ≤ k := fun k hk' => (hown.lt k hk').1
 have hO : Out w0 [] w' v' (l ++ utf8 r) := ⟨by
  rw [List.length_append, cellsOf_append]; rw [runeCells_len r hr, runeCells_utf8 r hr] at ho; exact ho, (hk.alloc o).grown hg hrow⟩
 have hKt : Kt w w' := (Kt.alloc w o).trans (Kt.grown (hown.alloc o) hg); obtain ⟨p, n, c, rfl⟩ := hO.form; exact ⟨p, n, c, rfl, h.grow hKt hO, hKt⟩
theorem four_int (w0 w : World) (pw pb : Nat) (v : Value) (l : List Nat) (c : Nat) (x : Int) (hx : x = (c : Int)) (hc : c < 65536) (h : PenAt w0 w pw pb v l) (hl : l.length ≤ 100000000) :
  Calls Tryz.prog 45 #[.pointer (some ⟨pw, 0, none⟩), .int .i32 x] w (PenPost w0 w pw pb l (Six c)) := by subst hx; exact four_is w0 w pw pb v l c hc h hl
theorem and_1023 (r : Nat) (h : 65536 ≤ r) (h' : r < 1114112) : bits .and .i32 ((r : Int) - 65536) 1023 = (((r - 65536) % 1024 : Nat) : Int) := by
 rw [show (r : Int) - 65536 = ((r - 65536 : Nat) : Int) from by omega, show (1023 : Int) = ((1023 : Nat) : Int) from rfl, and_i32 _ _ (by omega) (by omega), show (1023 : Nat) = 2 ^ 10 - 1 from rfl, Nat.and_two_pow_sub_one_eq_mod]
theorem decode_here (s : ByteArray) (i r : Nat) (hr : scalar r) (h : At (bt s) i (utf8 r)) (hs : i + (utf8 r).length ≤ s.size) : Utf8.decode s i = (r, (utf8 r).length) := by
 have hl := utf8_len r; rw [Lib.decode_at]; refine decodeN_utf8 r _ _ _ _ _ hr (by omega) ?_ ?_ ?_ ?_
 · rw [get!_bt]; have := h 0 (by omega); simpa using this
 · intro h1; rw [get!_bt]; exact h 1 h1
 · intro h1; rw [get!_bt]; exact h 2 h1
 · intro h1; rw [get!_bt]; exact h 3 h1
theorem bytes_at (s : ByteArray) (l : List Nat) (h : bytesOf s = l) : At (bt s) 0 l ∧ l.length = s.size := by
 subst h; constructor
 ·
  intro k hk; unfold bt bytesOf; rw [Nat.zero_add, List.getD_eq_getElem?_getD, List.getD_eq_getElem?_getD, List.getElem?_map]; unfold bytesOf at hk; rw [List.length_map] at hk; rw [List.getElem?_eq_getElem hk]; rfl
 · simp [bytesOf]
structure TInv (w0 w : World) (pw pb it : Nat) (l : List Nat) (s : ByteArray) (done rest t : List Nat) (u : Value) (wr : World) : Prop where
 at' : At (bt s) (enc done).length (enc rest)
 sz : (enc done).length + (enc rest).length = s.size
 sc : ∀ r ∈ rest, scalar r
 body : Body t done
 len : t.length ≤ 12 * (enc done).length
 pen : PenAt w0 wr pw pb u (l ++ 34 :: t)
 kx : Kx [pw, pb] w wr
 itr : wr.heap[it]? = some (.stringIter s (enc done).length)
theorem enc_snoc : ∀ (a : List Nat) (r : Nat), enc (a ++ [r]) = enc a ++ utf8 r
 | [], r => by simp [enc]
 | x :: a, r => by rw [List.cons_append, enc, enc_snoc a r, enc, List.append_assoc]
theorem TInv.next {w0 w wr w' : World} {pw pb it : Nat} {l : List Nat} {s : ByteArray} {done rest t t' : List Nat} {u u' : Value} {r : Nat} (h : TInv w0 w pw pb it l s done (r :: rest) t u wr)
  (hp : Piece (gl t') 0 t'.length r) (ht : t'.length ≤ 12 * (utf8 r).length) (pen : PenAt w0 w' pw pb u' (l ++ 34 :: t ++ t')) (kx : Kx [pw, pb] w w') (itr : w'.heap[it]? = some (.stringIter s ((enc done).length + (utf8 r).length))) :
  TInv w0 w pw pb it l s (done ++ [r]) rest (t ++ t') u' w' := by
 have hl : (enc (done ++ [r])).length = (enc done).length + (utf8 r).length := by rw [enc_snoc, List.length_append]
 have h1 := h.at'; have h2 := h.sz; rw [enc, At_append] at h1; rw [enc, List.length_append] at h2; refine ⟨by rw [hl]; exact h1.2, by rw [hl]; omega, fun x hx => h.sc x (by simp [hx]), h.body.snoc hp, ?_, by rw [List.append_assoc] at pen; exact pen, kx, by rw [hl]; exact itr⟩; have := h.len; rw [List.length_append, hl]; omega
set_option maxRecDepth 100000 in
set_option maxHeartbeats 4000000 in
theorem text_is (w0 w : World) (pw pb : Nat) (v : Value) (l : List Nat) (s : ByteArray) (rs : List Nat) (he : bytesOf s = enc rs) (hsc : ∀ r ∈ rs, scalar r) (h : PenAt w0 w pw pb v l) (hl : l.length + 12 * s.size ≤ 99999000) :
  Calls Tryz.prog 35 #[.pointer (some ⟨pw, 0, none⟩), .string s] w (PenPost w0 w pw pb l (fun t => StrAt (gl t) 0 t.length rs ∧ t.length ≤ 12 * s.size + 2)) := by
 have HP := hid h; have HK := hid (Kx.refl [pw, pb] w); have c1 := h.c1; have f1 := h.fr 1; have hB := hid (bytes_at s _ he); have HSc := hid hsc; clear h hsc he; go_enter Tryz.func35, Tryz.ntmps35
 go_wp2_with (at_builtin; go_must (refine wp_pen_int rfl _ _ rfl w0 w pw pb _ _ _ rfl (HP.out.alloc _) (HK.out.alloc _) _ _ _ rfl (cell_new _ _ _ _) ?_ ?_ ?_); go_must (omega); go_must (omega); intro p2 n2 c2 w2 hP2 hK2; have c1 := hP2.c1; have f1 := hP2.fr 1; clear HP HK; have HP := hid hP2.store; have HK := hid (hK2.setCell (p := ⟨pw, 1, none⟩) (by simp) (.slice p2 n2 c2)); clear hP2 hK2)
 have hsz3 : (w2.setCell ⟨pw, 1, none⟩ (.slice p2 n2 c2)).heap.size = w2.heap.size := by simp [World.setCell]
 generalize hw3 : World.setCell _ _ _ = w3 at *; generalize hit : w2.heap.size = it at *; clear hw3 c1 f1; go_loopg [5, 6] rs.length (fun gf s5 s6 wx => ∃ (done rest t : List Nat) (u : Value), done ++ rest = rs ∧ rest.length ≤ gf ∧ TInv w0 w pw pb it l s done rest t u wx)
 case atStart => exact ⟨[], rs, [], _, rfl, Nat.le_refl _, ⟨hB.out.1, by have := hB.out.2; simp [enc]; exact this, HSc.out, Body.nil, by simp, HP.out.alloc _, HK.out.alloc _, by rw [← hsz3]; exact World.iter_heap w3 s 0⟩⟩
 case round =>
  obtain ⟨done, rest, t, u, hrs, hgf, hinv⟩ := hrel; have HRs := hid hrs; have HI := hid hinv; clear hrs hinv; have hw3 : w0.heap.size ≤ it := by rw [← hsz3]; exact HP.out.out.kp.size
  have hw3w : Hid (∀ b o, w.heap[b]? = some o → b ∉ [pw, pb] → (∀ c f, o ≠ Obj.cells c 5 f) → b < it) := fun b o h1 h2 h3 => hsz3 ▸ lt_of_block (HK.out b o h1 h2 h3)
  clear HP HK
  cases rest with
  | nil =>
   have hsz : (enc done).length = s.size := by have := HI.out.sz; simpa [enc] using this
   have hit := HI.out.itr; rw [hsz] at hit; have hnx : ∀ ty, (Instr.next (.pointer (some ⟨it, 0, none⟩)) true ty).run Tryz.prog wr = _ := fun ty => Lib.run_next_end_at wr it s s.size ty hit (by omega)
   have c1 := HI.out.pen.c1; have f1 := HI.out.pen.fr 1; have hlen := HI.out.len; have HP := hid HI.out.pen; have HK := hid HI.out.kx; rw [hsz] at hlen; clear hit hsz; go_wp2_with (at_builtin; go_must (refine wp_pen_int rfl _ _ rfl w0 w pw pb _ _ _ rfl (HP.out.alloc _) (HK.out.alloc _) _ _ _ rfl (cell_new _ _ _ _) ?_ ?_ ?_); go_must (omega); go_must (simp only [List.length_append, List.length_cons]; omega); intro p2 n2 c2 w2 hP2 hK2; have c1 := hP2.c1; have f1 := hP2.fr 1; clear HP HK; have HP := hid hP2.store; have HK := hid (hK2.setCell (p := ⟨pw, 1, none⟩) (by simp) (.slice p2 n2 c2)); clear hP2 hK2)
   generalize hw4 : World.setCell _ _ _ = w4 at *; clear hw4 c1 f1; first | (refine bodyPost_ret (results_none rfl _ _ _) rfl ?_) | (refine bodyPost_end (results_none rfl _ _ _) rfl ?_)
   have hds : done = rs := by have := HRs.out; simpa using this
   have hbd := HI.out.body; rw [hds] at hbd; refine ⟨rfl, .slice p2 n2 c2, 34 :: t ++ [34], ⟨hbd.str, by simp; omega⟩, ?_, HK.out⟩; have := HP.out; rw [List.append_assoc] at this; exact this
  | cons r rest =>
   obtain ⟨g', rfl⟩ : ∃ g', gk = g' + 1 := ⟨gk - 1, by simp at hgf; omega⟩; have hr : scalar r := HI.out.sc r (by simp); have hr2 : r < 1114112 := by unfold scalar at hr; omega
   have hul := utf8_len r; have hdec : Utf8.decode s (enc done).length = (r, (utf8 r).length) := by
    have h1 := HI.out.at'; have h2 := HI.out.sz; rw [enc, At_append] at h1; rw [enc, List.length_append] at h2; exact decode_here s _ r hr h1.1 (by omega)
   have hlt : (enc done).length < s.size := by
    have h2 := HI.out.sz; rw [enc, List.length_append] at h2; omega
   have hnx : ∀ ty, (Instr.next (.pointer (some ⟨it, 0, none⟩)) true ty).run Tryz.prog wr = _ := fun ty => Lib.run_next_any_at wr it s (enc done).length ty HI.out.itr hlt
   rw [hdec] at hnx; have hit2 := Lib.iterAt_heap wr it s _ ((enc done).length + (utf8 r).length) HI.out.itr; have hP2 := HI.out.pen.iterAt HI.out.itr ((enc done).length + (utf8 r).length) hw3; have hK2 : Kx [pw, pb] w (wr.iterAt it s ((enc done).length + (utf8 r).length)) := fun b o h1 h2 h3 => by
    rw [Lib.iterAt_other _ _ _ _ _ (fun e => by have := hw3w.out b o h1 h2 h3; omega)]; exact HI.out.kx b o h1 h2 h3
   have hlen := HI.out.len; obtain ⟨W, hWd⟩ : ∃ W, wr.iterAt it s ((enc done).length + (utf8 r).length) = W := ⟨_, rfl⟩; rw [hWd] at hnx hit2 hP2 hK2; have HP := hid hP2; have HK := hid hK2; have HIt := hid hit2; have c0 := hP2.c0; have HScr := hid hr; clear hP2 hK2 hit2 hWd hdec hr; generalize hpos : (enc done).length = pos at *; have HPos := hid hpos; clear hpos; go_wp2_with fail
   refine (pen_pick w0 _ pw pb _ _ _ 8 _ (by rfl) (by omega) (by omega) HP.out).mono ?_
   rintro e9 w9 ⟨f, rfl, hf, hp9, hk9⟩
   have c1 := hp9.c1; have f1 := hp9.fr 1; have hit9 : w9.heap[it]? = some (.stringIter s (pos + (utf8 r).length)) := by
    have hne : it ≠ pb := fun e => by
     obtain ⟨_, _, _, _, h1, _⟩ := HP.out.pk; have h2 := h1.blk; rw [← e, HIt.out] at h2; exact absurd h2 (by simp)
    rw [hk9.block _ (lt_of_block HIt.out) (by simp; exact hne)]; exact HIt.out
   have HK9 := hid (HK.out.kp hk9 (by simp)); clear HP HK HIt c0 hnx; have HP := hid hp9; have HK := hid HK9.out; have HIt := hid hit9; clear hp9 hk9 hit9 HK9; have hnit : Hid (it ∉ [pw, pb]) := by
    intro hm; simp at hm; rcases hm with hm | hm
    · have h1 := HP.out.pen
      rw [← hm, HIt.out] at h1; exact absurd h1 (by simp)
    · obtain ⟨_, _, _, _, h1, _⟩ := HP.out.pk
      have h2 := h1.blk; rw [← hm, HIt.out] at h2; exact absurd h2 (by simp)
   by_cases h10 : r = 10
   ·
    subst h10; by_cases h6 : f < 6
    ·
     have kl6 : decide ((f : Int) < 6) = true := by rw [decide_eq_true_eq]; omega
     go_wp2_with ((at_builtin; go_must (refine wp_pen_two rfl _ _ rfl w0 w9 pw pb _ _ _ rfl (HP.out.alloc _) ((Kx.refl _ w9).alloc _) _ _ _ _ rfl (by rw [cells_new]; rfl) (by rw [cells_new]; rfl) ?_ ?_ ?_ ?_); go_must (omega); go_must (omega); go_must (simp only [List.length_append, List.length_cons]; omega); intro p2 n2 c2 w2 hP2 hK2; have c1 := hP2.c1; have f1 := hP2.fr 1; have HP2 := hid hP2.store; have HK2 := hid (hK2.setCell (p := ⟨pw, 1, none⟩) (by simp) (.slice p2 n2 c2)); clear hP2 hK2))
     generalize hw4 : World.setCell _ _ _ = w4 at *; clear hw4 c1 f1; go_roundg g'
     case measure => omega
     case rel => exact ⟨done ++ [10], rest, t ++ ([92, 110]), _, by rw [List.append_assoc]; exact HRs.out, by simp at hgf; omega, HI.out.next piece_n (by first | (have := HS.out.1; omega) | (have := HS.out.1; have := HS2.out.1; simp only [List.length_append]; omega) | omega | (simp; omega) | (simp only [List.length_cons, List.length_nil]; omega)) HP2.out (HK.out.trans HK2.out) (by rw [HPos.out]; exact HK2.out _ _ HIt.out hnit.out (fun _ _ e => by cases e))⟩
    ·
     have kl6 : decide ((f : Int) < 6) = false := by rw [decide_eq_false_iff_not]; omega
     go_wp2_with (go_at_call 45; refine (four_int w0 _ pw pb _ _ 10 _ (by rfl) (by omega) HP.out (by simp only [List.length_append, List.length_cons]; omega)).mono ?_; rintro e2 w2 ⟨rfl, v2, t2, h6, hP2, hK2⟩; have HP2 := hid hP2; have HK2 := hid hK2; have HS := hid h6; clear hP2 hK2 h6)
     go_roundg g'
     case measure => omega
     case rel => exact ⟨done ++ [10], rest, t ++ (_), _, by rw [List.append_assoc]; exact HRs.out, by simp at hgf; omega, HI.out.next (piece_four HS.out HScr.out) (by first | (have := HS.out.1; omega) | (have := HS.out.1; have := HS2.out.1; simp only [List.length_append]; omega) | omega | (simp; omega) | (simp only [List.length_cons, List.length_nil]; omega)) HP2.out (HK.out.trans HK2.out) (by rw [HPos.out]; exact HK2.out _ _ HIt.out hnit.out (fun _ _ e => by cases e))⟩
   by_cases h34 : r = 34
   ·
    subst h34; by_cases h7 : f < 7
    ·
     have kl7 : decide ((f : Int) < 7) = true := by rw [decide_eq_true_eq]; omega
     go_wp2_with ((at_builtin; go_must (refine wp_pen_two rfl _ _ rfl w0 w9 pw pb _ _ _ rfl (HP.out.alloc _) ((Kx.refl _ w9).alloc _) _ _ _ _ rfl (by rw [cells_new]; rfl) (by rw [cells_new]; rfl) ?_ ?_ ?_ ?_); go_must (omega); go_must (omega); go_must (simp only [List.length_append, List.length_cons]; omega); intro p2 n2 c2 w2 hP2 hK2; have c1 := hP2.c1; have f1 := hP2.fr 1; have HP2 := hid hP2.store; have HK2 := hid (hK2.setCell (p := ⟨pw, 1, none⟩) (by simp) (.slice p2 n2 c2)); clear hP2 hK2))
     generalize hw4 : World.setCell _ _ _ = w4 at *; clear hw4 c1 f1; go_roundg g'
     case measure => omega
     case rel => exact ⟨done ++ [34], rest, t ++ ([92, 34]), _, by rw [List.append_assoc]; exact HRs.out, by simp at hgf; omega, HI.out.next (piece_sl (by omega)) (by first | (have := HS.out.1; omega) | (have := HS.out.1; have := HS2.out.1; simp only [List.length_append]; omega) | omega | (simp; omega) | (simp only [List.length_cons, List.length_nil]; omega)) HP2.out (HK.out.trans HK2.out) (by rw [HPos.out]; exact HK2.out _ _ HIt.out hnit.out (fun _ _ e => by cases e))⟩
    ·
     have kl7 : decide ((f : Int) < 7) = false := by rw [decide_eq_false_iff_not]; omega
     have kf7 : ((f : Int) == 7) = true := by rw [beq_iff_eq]; omega
     go_wp2_with (go_at_call 45; refine (four_int w0 _ pw pb _ _ 34 _ (by rfl) (by omega) HP.out (by simp only [List.length_append, List.length_cons]; omega)).mono ?_; rintro e2 w2 ⟨rfl, v2, t2, h6, hP2, hK2⟩; have HP2 := hid hP2; have HK2 := hid hK2; have HS := hid h6; clear hP2 hK2 h6)
     go_roundg g'
     case measure => omega
     case rel => exact ⟨done ++ [34], rest, t ++ (_), _, by rw [List.append_assoc]; exact HRs.out, by simp at hgf; omega, HI.out.next (piece_four HS.out HScr.out) (by first | (have := HS.out.1; omega) | (have := HS.out.1; have := HS2.out.1; simp only [List.length_append]; omega) | omega | (simp; omega) | (simp only [List.length_cons, List.length_nil]; omega)) HP2.out (HK.out.trans HK2.out) (by rw [HPos.out]; exact HK2.out _ _ HIt.out hnit.out (fun _ _ e => by cases e))⟩
   by_cases h92 : r = 92
   ·
    subst h92; by_cases h7 : f < 7
    ·
     have kl7 : decide ((f : Int) < 7) = true := by rw [decide_eq_true_eq]; omega
     go_wp2_with ((at_builtin; go_must (refine wp_pen_two rfl _ _ rfl w0 w9 pw pb _ _ _ rfl (HP.out.alloc _) ((Kx.refl _ w9).alloc _) _ _ _ _ rfl (by rw [cells_new]; rfl) (by rw [cells_new]; rfl) ?_ ?_ ?_ ?_); go_must (omega); go_must (omega); go_must (simp only [List.length_append, List.length_cons]; omega); intro p2 n2 c2 w2 hP2 hK2; have c1 := hP2.c1; have f1 := hP2.fr 1; have HP2 := hid hP2.store; have HK2 := hid (hK2.setCell (p := ⟨pw, 1, none⟩) (by simp) (.slice p2 n2 c2)); clear hP2 hK2))
     generalize hw4 : World.setCell _ _ _ = w4 at *; clear hw4 c1 f1; go_roundg g'
     case measure => omega
     case rel => exact ⟨done ++ [92], rest, t ++ ([92, 92]), _, by rw [List.append_assoc]; exact HRs.out, by simp at hgf; omega, HI.out.next (piece_sl (by omega)) (by first | (have := HS.out.1; omega) | (have := HS.out.1; have := HS2.out.1; simp only [List.length_append]; omega) | omega | (simp; omega) | (simp only [List.length_cons, List.length_nil]; omega)) HP2.out (HK.out.trans HK2.out) (by rw [HPos.out]; exact HK2.out _ _ HIt.out hnit.out (fun _ _ e => by cases e))⟩
    ·
     have kl7 : decide ((f : Int) < 7) = false := by rw [decide_eq_false_iff_not]; omega
     have kf7 : ((f : Int) == 7) = true := by rw [beq_iff_eq]; omega
     go_wp2_with (go_at_call 45; refine (four_int w0 _ pw pb _ _ 92 _ (by rfl) (by omega) HP.out (by simp only [List.length_append, List.length_cons]; omega)).mono ?_; rintro e2 w2 ⟨rfl, v2, t2, h6, hP2, hK2⟩; have HP2 := hid hP2; have HK2 := hid hK2; have HS := hid h6; clear hP2 hK2 h6)
     go_roundg g'
     case measure => omega
     case rel => exact ⟨done ++ [92], rest, t ++ (_), _, by rw [List.append_assoc]; exact HRs.out, by simp at hgf; omega, HI.out.next (piece_four HS.out HScr.out) (by first | (have := HS.out.1; omega) | (have := HS.out.1; have := HS2.out.1; simp only [List.length_append]; omega) | omega | (simp; omega) | (simp only [List.length_cons, List.length_nil]; omega)) HP2.out (HK.out.trans HK2.out) (by rw [HPos.out]; exact HK2.out _ _ HIt.out hnit.out (fun _ _ e => by cases e))⟩
   by_cases h47 : r = 47
   ·
    subst h47; by_cases h6 : f = 6
    ·
     have kf6 : ((f : Int) == 6) = true := by rw [beq_iff_eq]; omega
     have kl7 : decide ((f : Int) < 7) = true := by rw [decide_eq_true_eq]; omega
     go_wp2_with ((at_builtin; go_must (refine wp_pen_two rfl _ _ rfl w0 w9 pw pb _ _ _ rfl (HP.out.alloc _) ((Kx.refl _ w9).alloc _) _ _ _ _ rfl (by rw [cells_new]; rfl) (by rw [cells_new]; rfl) ?_ ?_ ?_ ?_); go_must (omega); go_must (omega); go_must (simp only [List.length_append, List.length_cons]; omega); intro p2 n2 c2 w2 hP2 hK2; have c1 := hP2.c1; have f1 := hP2.fr 1; have HP2 := hid hP2.store; have HK2 := hid (hK2.setCell (p := ⟨pw, 1, none⟩) (by simp) (.slice p2 n2 c2)); clear hP2 hK2))
     generalize hw4 : World.setCell _ _ _ = w4 at *; clear hw4 c1 f1; go_roundg g'
     case measure => omega
     case rel => exact ⟨done ++ [47], rest, t ++ ([92, 47]), _, by rw [List.append_assoc]; exact HRs.out, by simp at hgf; omega, HI.out.next (piece_sl (by omega)) (by first | (have := HS.out.1; omega) | (have := HS.out.1; have := HS2.out.1; simp only [List.length_append]; omega) | omega | (simp; omega) | (simp only [List.length_cons, List.length_nil]; omega)) HP2.out (HK.out.trans HK2.out) (by rw [HPos.out]; exact HK2.out _ _ HIt.out hnit.out (fun _ _ e => by cases e))⟩
    ·
     by_cases h7 : f = 7
     ·
      have kf6 : ((f : Int) == 6) = false := by rw [beq_eq_false_iff_ne]; omega
      have kf7 : ((f : Int) == 7) = true := by rw [beq_iff_eq]; omega
      have kl7 : decide ((f : Int) < 7) = false := by rw [decide_eq_false_iff_not]; omega
      go_wp2_with (go_at_call 45; refine (four_int w0 _ pw pb _ _ 47 _ (by rfl) (by omega) HP.out (by simp only [List.length_append, List.length_cons]; omega)).mono ?_; rintro e2 w2 ⟨rfl, v2, t2, h6, hP2, hK2⟩; have HP2 := hid hP2; have HK2 := hid hK2; have HS := hid h6; clear hP2 hK2 h6)
      go_roundg g'
      case measure => omega
      case rel => exact ⟨done ++ [47], rest, t ++ (_), _, by rw [List.append_assoc]; exact HRs.out, by simp at hgf; omega, HI.out.next (piece_four HS.out HScr.out) (by first | (have := HS.out.1; omega) | (have := HS.out.1; have := HS2.out.1; simp only [List.length_append]; omega) | omega | (simp; omega) | (simp only [List.length_cons, List.length_nil]; omega)) HP2.out (HK.out.trans HK2.out) (by rw [HPos.out]; exact HK2.out _ _ HIt.out hnit.out (fun _ _ e => by cases e))⟩
     ·
      have kf6 : ((f : Int) == 6) = false := by rw [beq_eq_false_iff_ne]; omega
      have kf7 : ((f : Int) == 7) = false := by rw [beq_eq_false_iff_ne]; omega
      have kl7 : decide ((f : Int) < 7) = true := by rw [decide_eq_true_eq]; omega
      go_wp2_with (go_at_call 20; refine (pen_rune w0 _ pw pb _ _ _ 47 _ (by rfl) HScr.out HP.out (by simp only [List.length_append, List.length_cons]; omega)).mono ?_; rintro e2 w2 ⟨p2, n2, c2, rfl, hP2, hK2⟩; have c1 := hP2.c1; have f1 := hP2.fr 1; have HP2 := hid hP2.store; have HK2 := hid (((Kx.refl [pw, pb] w9).kt hK2).setCell (p := ⟨pw, 1, none⟩) (by simp) (.slice p2 n2 c2)); clear hP2 hK2)
      generalize hw4 : World.setCell _ _ _ = w4 at *; clear hw4 c1 f1; go_roundg g'
      case measure => omega
      case rel => exact ⟨done ++ [47], rest, t ++ (utf8 47), _, by rw [List.append_assoc]; exact HRs.out, by simp at hgf; omega, HI.out.next (piece_raw HScr.out (by omega) (by omega) (by omega)) (by first | (have := HS.out.1; omega) | (have := HS.out.1; have := HS2.out.1; simp only [List.length_append]; omega) | omega | (simp; omega) | (simp only [List.length_cons, List.length_nil]; omega)) HP2.out (HK.out.trans HK2.out) (by rw [HPos.out]; exact HK2.out _ _ HIt.out hnit.out (fun _ _ e => by cases e))⟩
   by_cases h32 : r < 32
   ·
    have ke10 : ((r : Int) == 10) = false := by rw [beq_eq_false_iff_ne]; omega
    have ke34 : ((r : Int) == 34) = false := by rw [beq_eq_false_iff_ne]; omega
    have ke92 : ((r : Int) == 92) = false := by rw [beq_eq_false_iff_ne]; omega
    have ke47 : ((r : Int) == 47) = false := by rw [beq_eq_false_iff_ne]; omega
    have kl32 : decide ((r : Int) < 32) = true := by rw [decide_eq_true_eq]; omega
    go_wp2_with (go_at_call 45; refine (four_int w0 _ pw pb _ _ r _ (by rfl) (by omega) HP.out (by simp only [List.length_append, List.length_cons]; omega)).mono ?_; rintro e2 w2 ⟨rfl, v2, t2, h6, hP2, hK2⟩; have HP2 := hid hP2; have HK2 := hid hK2; have HS := hid h6; clear hP2 hK2 h6)
    go_roundg g'
    case measure => omega
    case rel => exact ⟨done ++ [r], rest, t ++ (_), _, by rw [List.append_assoc]; exact HRs.out, by simp at hgf; omega, HI.out.next (piece_four HS.out HScr.out) (by first | (have := HS.out.1; omega) | (have := HS.out.1; have := HS2.out.1; simp only [List.length_append]; omega) | omega | (simp; omega) | (simp only [List.length_cons, List.length_nil]; omega)) HP2.out (HK.out.trans HK2.out) (by rw [HPos.out]; exact HK2.out _ _ HIt.out hnit.out (fun _ _ e => by cases e))⟩
   by_cases h7 : f = 7
   ·
    by_cases h64 : r < 65536
    ·
     have ke10 : ((r : Int) == 10) = false := by rw [beq_eq_false_iff_ne]; omega
     have ke34 : ((r : Int) == 34) = false := by rw [beq_eq_false_iff_ne]; omega
     have ke92 : ((r : Int) == 92) = false := by rw [beq_eq_false_iff_ne]; omega
     have ke47 : ((r : Int) == 47) = false := by rw [beq_eq_false_iff_ne]; omega
     have kl32 : decide ((r : Int) < 32) = false := by rw [decide_eq_false_iff_not]; omega
     have kf7 : ((f : Int) == 7) = true := by rw [beq_iff_eq]; omega
     have kl64 : decide ((r : Int) < 65536) = true := by rw [decide_eq_true_eq]; omega
     go_wp2_with (go_at_call 45; refine (four_int w0 _ pw pb _ _ r _ (by rfl) (by omega) HP.out (by simp only [List.length_append, List.length_cons]; omega)).mono ?_; rintro e2 w2 ⟨rfl, v2, t2, h6, hP2, hK2⟩; have HP2 := hid hP2; have HK2 := hid hK2; have HS := hid h6; clear hP2 hK2 h6)
     go_roundg g'
     case measure => omega
     case rel => exact ⟨done ++ [r], rest, t ++ (_), _, by rw [List.append_assoc]; exact HRs.out, by simp at hgf; omega, HI.out.next (piece_four HS.out HScr.out) (by first | (have := HS.out.1; omega) | (have := HS.out.1; have := HS2.out.1; simp only [List.length_append]; omega) | omega | (simp; omega) | (simp only [List.length_cons, List.length_nil]; omega)) HP2.out (HK.out.trans HK2.out) (by rw [HPos.out]; exact HK2.out _ _ HIt.out hnit.out (fun _ _ e => by cases e))⟩
    ·
     have ke10 : ((r : Int) == 10) = false := by rw [beq_eq_false_iff_ne]; omega
     have ke34 : ((r : Int) == 34) = false := by rw [beq_eq_false_iff_ne]; omega
     have ke92 : ((r : Int) == 92) = false := by rw [beq_eq_false_iff_ne]; omega
     have ke47 : ((r : Int) == 47) = false := by rw [beq_eq_false_iff_ne]; omega
     have kl32 : decide ((r : Int) < 32) = false := by rw [decide_eq_false_iff_not]; omega
     have kf7 : ((f : Int) == 7) = true := by rw [beq_iff_eq]; omega
     have kl64 : decide ((r : Int) < 65536) = false := by rw [decide_eq_false_iff_not]; omega
     have hand := and_1023 r (by omega) hr2; go_wp2_with fail
     refine (four_int w0 _ pw pb _ _ (55296 + (r - 65536) / 1024) _ (by first | omega | (simp; omega)) (by omega) HP.out (by simp only [List.length_append, List.length_cons]; omega)).mono ?_
     rintro e2 w2 ⟨rfl, v2, t2, h6, hP2, hK2⟩
     have h6l := h6.1; have HPa := hid hP2; have HKa := hid hK2; have HS := hid h6; clear hP2 hK2 h6; go_wp2_with fail
     refine (four_int w0 _ pw pb _ _ (56320 + (r - 65536) % 1024) _ (by first | omega | (simp; omega)) (by omega) HPa.out (by simp only [List.length_append, List.length_cons]; omega)).mono ?_
     rintro e3 w4 ⟨rfl, v4, t4, h7, hP3, hK3⟩
     have HP2 := hid hP3; have HK2 := hid (HKa.out.trans hK3); have HS2 := hid h7; clear hP3 hK3 h7; go_wp2_with fail
     go_roundg g'
     case measure => omega
     case rel => exact ⟨done ++ [r], rest, t ++ ((t2 ++ t4)), _, by rw [List.append_assoc]; exact HRs.out, by simp at hgf; omega, HI.out.next (piece_pair HS.out HS2.out (by omega) (by omega) (by omega) (by omega) (by omega)) (by first | (have := HS.out.1; omega) | (have := HS.out.1; have := HS2.out.1; simp only [List.length_append]; omega) | omega | (simp; omega) | (simp only [List.length_cons, List.length_nil]; omega)) (by have := HP2.out; rw [List.append_assoc (l ++ 34 :: t)] at this; exact this) (HK.out.trans HK2.out) (by rw [HPos.out]; exact HK2.out _ _ HIt.out hnit.out (fun _ _ e => by cases e))⟩
   ·
    have ke10 : ((r : Int) == 10) = false := by rw [beq_eq_false_iff_ne]; omega
    have ke34 : ((r : Int) == 34) = false := by rw [beq_eq_false_iff_ne]; omega
    have ke92 : ((r : Int) == 92) = false := by rw [beq_eq_false_iff_ne]; omega
    have ke47 : ((r : Int) == 47) = false := by rw [beq_eq_false_iff_ne]; omega
    have kl32 : decide ((r : Int) < 32) = false := by rw [decide_eq_false_iff_not]; omega
    have kf7 : ((f : Int) == 7) = false := by rw [beq_eq_false_iff_ne]; omega
    go_wp2_with (go_at_call 20; refine (pen_rune w0 _ pw pb _ _ _ r _ (by rfl) HScr.out HP.out (by simp only [List.length_append, List.length_cons]; omega)).mono ?_; rintro e2 w2 ⟨p2, n2, c2, rfl, hP2, hK2⟩; have c1 := hP2.c1; have f1 := hP2.fr 1; have HP2 := hid hP2.store; have HK2 := hid (((Kx.refl [pw, pb] w9).kt hK2).setCell (p := ⟨pw, 1, none⟩) (by simp) (.slice p2 n2 c2)); clear hP2 hK2)
    generalize hw4 : World.setCell _ _ _ = w4 at *; clear hw4 c1 f1; go_roundg g'
    case measure => omega
    case rel => exact ⟨done ++ [r], rest, t ++ (utf8 r), _, by rw [List.append_assoc]; exact HRs.out, by simp at hgf; omega, HI.out.next (piece_raw HScr.out (by omega) (by omega) (by omega)) (by first | (have := HS.out.1; omega) | (have := HS.out.1; have := HS2.out.1; simp only [List.length_append]; omega) | omega | (simp; omega) | (simp only [List.length_cons, List.length_nil]; omega)) HP2.out (HK.out.trans HK2.out) (by rw [HPos.out]; exact HK2.out _ _ HIt.out hnit.out (fun _ _ e => by cases e))⟩
end
end Go.Proofs.YtljaoopfomcaoaaGreatDoor
