import Derived.Test.YtljaoopfomcaoaaGreatDoorM26
import Derived.Test.YtljaoopfomcaoaaGreatDoorM38
set_option linter.all false
open Go.Lib (hid)
namespace Go.Proofs.YtljaoopfomcaoaaGreatDoor
section
open Go.RowKit
def tabJV (kvs : List (ByteArray × JV)) : JV := .mk 7 false 0 0 ⟨#[]⟩ (kvs.map (·.1)) (kvs.map (·.2))
theorem P2.len {α β : Type} {R : α → β → Prop} : ∀ {l : List (ByteArray × α)} {m : List (ByteArray × β)}, P2 R l m → l.length = m.length
 | [], [], _ => rfl
 | [], _ :: _, h => h.elim
 | _ :: _, [], h => h.elim
 | _ :: r, _ :: s, ⟨_, _, h⟩ => by simp [P2.len h]
theorem P2.get {α β : Type} {R : α → β → Prop} : ∀ {l : List (ByteArray × α)} {m : List (ByteArray × β)}, P2 R l m → ∀ i (h : i < l.length) (h' : i < m.length), R l[i].2 m[i].2
 | [], [], _, i, h, _ => absurd h (Nat.not_lt_zero i)
 | [], _ :: _, h, _, _, _ => h.elim
 | _ :: _, [], h, _, _, _ => h.elim
 | _ :: r, _ :: s, ⟨_, h1, h2⟩, 0, _, _ => h1
 | _ :: r, _ :: s, ⟨_, h1, h2⟩, i + 1, h, h' => P2.get h2 i (by simpa using h) (by simpa using h')
theorem TabAt.rep {w : World} {r m N : Nat} {F : Nat → Prop} {kvs : List (ByteArray × JV)} (h : TabAt w r m N F kvs) : AnyRep (N + 1) (fun _ => True) w (.iface 55 (.map (some r))) (tabJV kvs) := by
 obtain ⟨es, h1, h2, h3⟩ := h; refine Or.inr (Or.inr (Or.inr (Or.inr (Or.inr (Or.inr ⟨rfl, r, m, es, rfl, trivial, ownsMap_lt h1, h1, h3.rise, ?_, fun k hk hk' => ?_⟩)))))
 · show es.length = (kvs.map (·.2)).length
   rw [List.length_map]; exact h3.len
 ·
  have hk2 : k < kvs.length := by have := h3.len; omega
  have := h3.get k hk' hk2; have e : (tabJV kvs).l[k]'hk = kvs[k].2 := by simp [tabJV, JV.l]
  rw [e]; exact this.keep (Nat.le_refl _) fun g _ _ => ⟨trivial, rfl⟩
theorem TabAt.mono {w : World} {r m n N : Nat} {F : Nat → Prop} {kvs : List (ByteArray × JV)} (h : TabAt w r m n F kvs) (hn : n ≤ N) : TabAt w r m N F kvs := by
 obtain ⟨es, h1, h2, h3⟩ := h; exact ⟨es, h1, h2, h3.imp fun _ _ h => AnyRep.mono hn h⟩
theorem rightL_of {T : JV → Nat → Prop} {A : Nat} : ∀ {l : List JV}, (∀ x ∈ l, ∃ a, a ≤ A ∧ T x a) → ∃ c, RightL T l c ∧ c ≤ A * l.length
 | [], _ => ⟨0, rfl, by simp⟩
 | x :: r, h => by
  obtain ⟨a, h1, h2⟩ := h x (by simp); obtain ⟨c, h3, h4⟩ := rightL_of (l := r) fun y hy => h y (by simp [hy])
  refine ⟨a + c, ⟨a, c, h2, h3, rfl⟩, ?_⟩; rw [List.length_cons, Nat.mul_succ]; omega
theorem right_table (N A : Nat) (kvs : List (ByteArray × JV)) (hr : RiseP kvs) (h : ∀ q ∈ kvs, ∃ a, a ≤ A ∧ RightC N q.2 a) : ∃ c, RightC (N + 1) (tabJV kvs) c ∧ c ≤ 1 + A * kvs.length := by
 obtain ⟨c, h1, h2⟩ := rightL_of (T := RightC N) (A := A) (l := kvs.map (·.2)) fun x hx => by
  obtain ⟨q, hq, rfl⟩ := List.mem_map.1 hx; exact h q hq
 rw [List.length_map] at h2; refine ⟨1 + c, ⟨fun h => absurd h (by show ¬ ((7 : Int) < 6); decide), fun h => absurd rfl h, Or.inr (Or.inr ⟨Or.inr ⟨rfl, (riseP_iff kvs).1 hr, by simp [tabJV, JV.ks, JV.l]⟩, c, rfl, h1⟩)⟩, by omega⟩
theorem putAll_mem : ∀ (ps kvs : List (ByteArray × JV)) (q : ByteArray × JV), q ∈ putAll kvs ps → q ∈ kvs ∨ q ∈ ps
 | [], kvs, q, h => Or.inl h
 | p :: ps, kvs, q, h => by
  rcases putAll_mem ps (insK kvs p.1 p.2) q h with h | h
  · rcases insK_key p.1 p.2 kvs q h with rfl | h
    · exact Or.inr (by simp)
    · exact Or.inl h
  · exact Or.inr (by simp [h])
theorem putAll_rise : ∀ (ps kvs : List (ByteArray × JV)), RiseP kvs → RiseP (putAll kvs ps)
 | [], kvs, h => h
 | p :: ps, kvs, h => putAll_rise ps _ (insK_rise p.1 p.2 kvs h)
theorem putAll_len : ∀ (ps kvs : List (ByteArray × JV)), (putAll kvs ps).length ≤ kvs.length + ps.length
 | [], kvs => by simp [putAll]
 | p :: ps, kvs => by
  have h1 := putAll_len ps (insK kvs p.1 p.2); have h2 := insK_len p.1 p.2 kvs; have e : putAll kvs (p :: ps) = putAll (insK kvs p.1 p.2) ps := rfl; rw [e, List.length_cons]; omega
end
section
open Go.RowKit
theorem catch_idle25 (p q : Addr) (w : World) :
  CallsD Tryz.prog 25 #[.pointer (some p), .pointer (some q)] .returning w fun e u' w' => e = .returned (.tuple #[]) ∧ u' = .returning ∧ w' = w := by
 refine callsD_of_wpS Tryz.func25 rfl fun c₀ cs hu => ?_
 apply wpS_seq; apply wpS_region; simp [wpOpsS, go_sem, recoverD, hu, Tryz.ntmps25, Exit.thenS]; refine wpS_cond (t := false) (by simp [Act.eval, Array.replicate]) ?_; simp only [Bool.false_eq_true, if_false]; refine wpS_of_wp (wp_skip ?_)
 cases c₀; simp_all [bodyPostS, results, Tryz.results25, Exit.thenS]
theorem step_store_row {ops : Array Oper} {o : Oper} {a : Act} {w : World} {Q : Exit → Act → World → Prop} {K : Act → World → Prop} {E : Prop} (hgd : o.guard = none) (p x : Operand) (ho : o.op = .store 26 p x) (g : Nat) (y : JV) (kp : Option Addr) (kc : Nat) (lp : Option Addr) (lc : Nat)
  (hp : a.eval p = .pointer (some ⟨g, 0, none⟩)) (hx : a.eval x = .agg #[.int .i64 y.kind, .bool y.b, .int .i64 y.i, .float .f64 y.f, .string y.t, .slice kp y.ks.length kc, .slice lp y.l.length lc]) (old : Array Value) (hh : w.heap[g]? = some (.cells old 26 (0, 0))) (hos : old.size = 7)
  (h : ∀ w', BxAt w' g y kp kc lp lc → Kp [g] w w' → K (a.put o.dst undef) w') :
  if Region.wanted o (yielded ops a.tmps) = true then Oper.wp Tryz.prog o a w K Q else E := by
 have hw : Region.wanted o (yielded ops a.tmps) = true := by simp [Region.wanted, hgd]
 rw [if_pos hw]; refine wp_store_row 26 p x ho g _ hp hx 26 old hh (by kernel_rfl) hos (by simp [Value.oneCell']) (h _ ?_ (kp_setRow _ _ _)); exact setRow_heap _ _ _ _ 26 _ hh
def PjQ (N : Nat) (w : World) (fb rb : Nat) (jv : JV) (a : Act) (w' : World) : Prop :=
 (a.tmps.getD 4 undef = .pointer (some ⟨rb, 0, none⟩) ∧ a.tmps.getD 5 undef = .pointer (some ⟨fb, 0, none⟩) ∧ a.defers = [{ target := .fn (.func 25) #[.pointer (some ⟨rb, 0, none⟩), .pointer (some ⟨fb, 0, none⟩)], args := #[] }]) ∧ w'.heap[fb]? = some (.cells #[.int .i64 0] 3 (0, 0)) ∧
 ∃ (kp : Option Addr) (kc : Nat) (lp : Option Addr) (lc : Nat), BxAt w' rb jv kp kc lp lc ∧ DeepF (N + 1) (Made w w') w' jv kp lp ∧ Kp [] w w'
theorem pjq_of {N : Nat} {w w2 w3 wx w4 w5 : World} {fb rb r : Nat} {jv : JV} {a : Act} {kp lp : Option Addr} {kc lc : Nat} (h1 : a.tmps.getD 4 undef = .pointer (some ⟨rb, 0, none⟩)) (h2 : a.tmps.getD 5 undef = .pointer (some ⟨fb, 0, none⟩)) (h3 : a.defers = [{ target := .fn (.func 25) #[.pointer (some ⟨rb, 0, none⟩), .pointer (some ⟨fb, 0, none⟩)], args := #[] }])
  (hf : w5.heap[fb]? = some (.cells #[.int .i64 0] 3 (0, 0))) (hb : BxAt w5 rb jv kp kc lp lc) (hd : DeepF (N + 1) (Made wx w4) w4 jv kp lp) (hk5 : Kp [rb] w4 w5) (hk4 : Kp [] w3 w4) (hk3 : Kp [] w w3) (hbk : w.heap.size < rb ∧ rb < fb ∧ fb < r ∧ r < w2.heap.size ∧ 11 ≤ w.heap.size) (hbk3 : rb < w3.heap.size ∧ fb < w3.heap.size) (hx : w3.heap.size ≤ wx.heap.size) :
  PjQ N w fb rb jv a (w5.setCell ⟨fb, 0, none⟩ (.int .i64 0)) := by
 have hk6 : Kp [fb] w5 (w5.setCell ⟨fb, 0, none⟩ (.int .i64 0)) := (Kp.refl _ _).setCell (Or.inl (by simp)) _; have s5 := hk5.size; have s6 := hk6.size; refine ⟨⟨h1, h2, h3⟩, blk_setCell hf _, kp, kc, lp, lc, hb.keep hk6 (by simp; omega), ?_, ((hk3.trans hk4).over hk5 (by simp; omega)).over hk6 (by simp; omega)⟩; have s3 := hk3.size; refine hd.keep (by omega) fun g hg hgs => ⟨⟨by have := hg.1; omega, by omega⟩, ?_⟩
 have := hg.1; rw [hk6.block g (by omega) (by simp; omega), hk5.block g hgs (by simp; omega)]
def PjiPost (N : Nat) (w : World) (kvs : List (ByteArray × JV)) (e : Ending) (w' : World) : Prop :=
 ∃ (kp : Option Addr) (kc : Nat) (lp : Option Addr) (lc : Nat), e = .returned (.tuple #[valOf (nrm (N + 1) (tabJV kvs)) kp kc lp lc, .int .i64 0]) ∧ DeepF (N + 1) (Made w w') w' (nrm (N + 1) (tabJV kvs)) kp lp ∧ Kp [] w w'
attribute [local go_sem] map_eql_nil
set_option maxRecDepth 100000 in
set_option maxHeartbeats 2000000 in
theorem pji_is (n d nt N A : Nat) (w : World) (v : JV) (kp lp : Option Addr) (kc lc c : Nat) (s : ByteArray) (ps : List (ByteArray × JV)) (hk : v.kind = 7) (hR : RightC (n + 1) v c) (hS : Short (n + 1) v) (hd : Deep (d + 1) w v kp lp) (hc : c ≤ 2000) (hn : n + 1 ≤ 61)
  (hs : s.size ≤ 2000) (hB : Brk (bt s) s.size) (hE : Env w) (hL : LineAt numSem (bt s) nt 0 s.size ps) (hks : ∀ q ∈ ps, q.1.size ≠ 0 ∧ q.1.size ≤ 1000000) (hnt : nt ≤ N) (hnN : n ≤ N) (hN : N ≤ 3000) (hps : ps.length ≤ 400) (hA : A ≤ 400) (hA1 : ∀ q ∈ v.ks.zip v.l, ∃ a, a ≤ A ∧ RightC N q.2 a) (hA2 : ∀ q ∈ ps, ∃ a, a ≤ A ∧ RightC N q.2 a) (hvl : v.l.length ≤ 2000) (hrise : RiseP (v.ks.zip v.l)) :
  Calls Tryz.prog 13 #[.string s, valOf v kp kc lp lc] w (PjiPost N w (putAll (v.ks.zip v.l) ps)) := by
 have HR := hid hR; have HS := hid hS; have HD := hid hd; have HB := hid hB; have HE := hid hE; have HL := hid hL; have HKs := hid hks; have HA1 := hid hA1; have HA2 := hid hA2; have HRi := hid hrise; have HKd := hid hk; clear hR hS hd hB hE hL hks hA1 hA2 hrise hk; have hmf' := hmf; unfold valOf; go_enter_defers Tryz.func13, Tryz.ntmps13
 go_wp2_with fail
 have hf0 : (((w.alloc (.cells #[.int .i64 v.kind, .bool v.b, .int .i64 v.i, .float .f64 v.f, .string v.t, .slice kp v.ks.length kc, .slice lp v.l.length lc] 26)).alloc (.cells #[.int .i64 0, .bool false, .int .i64 0, .float .f64 0, .string ⟨#[]⟩, .slice none 0 0, .slice none 0 0] 26)).alloc (.cells #[.int .i64 0] 3)).heap[w.heap.size + 1 + 1]? = some (.cells #[.int .i64 0] 3 (0, 0)) := by
  show (((w.heap.push _).push _).push _)[w.heap.size + 1 + 1]? = _
  rw [Array.getElem?_push]; simp
 have hr0 : (((w.alloc (.cells #[.int .i64 v.kind, .bool v.b, .int .i64 v.i, .float .f64 v.f, .string v.t, .slice kp v.ks.length kc, .slice lp v.l.length lc] 26)).alloc (.cells #[.int .i64 0, .bool false, .int .i64 0, .float .f64 0, .string ⟨#[]⟩, .slice none 0 0, .slice none 0 0] 26)).alloc (.cells #[.int .i64 0] 3)).heap[w.heap.size + 1]? = some (.cells #[.int .i64 0, .bool false, .int .i64 0, .float .f64 0, .string ⟨#[]⟩, .slice none 0 0, .slice none 0 0] 26 (0, 0)) := by
  show (((w.heap.push _).push _).push _)[w.heap.size + 1]? = _
  rw [Array.getElem?_push, Array.getElem?_push]; simp
 have hk0 : Kp [] w (((w.alloc (.cells #[.int .i64 v.kind, .bool v.b, .int .i64 v.i, .float .f64 v.f, .string v.t, .slice kp v.ks.length kc, .slice lp v.l.length lc] 26)).alloc (.cells #[.int .i64 0, .bool false, .int .i64 0, .float .f64 0, .string ⟨#[]⟩, .slice none 0 0, .slice none 0 0] 26)).alloc (.cells #[.int .i64 0] 3)) := (((Kp.refl _ _).alloc _).alloc _).alloc _; have hs0 : (((w.alloc (.cells #[.int .i64 v.kind, .bool v.b, .int .i64 v.i, .float .f64 v.f, .string v.t, .slice kp v.ks.length kc, .slice lp v.l.length lc] 26)).alloc (.cells #[.int .i64 0, .bool false, .int .i64 0, .float .f64 0, .string ⟨#[]⟩, .slice none 0 0, .slice none 0 0] 26)).alloc (.cells #[.int .i64 0] 3)).heap.size = w.heap.size + 1 + 1 + 1 := by simp
 generalize hW : (((w.alloc (.cells #[.int .i64 v.kind, .bool v.b, .int .i64 v.i, .float .f64 v.f, .string v.t, .slice kp v.ks.length kc, .slice lp v.l.length lc] 26)).alloc (.cells #[.int .i64 0, .bool false, .int .i64 0, .float .f64 0, .string ⟨#[]⟩, .slice none 0 0, .slice none 0 0] 26)).alloc (.cells #[.int .i64 0] 3)) = W0 at *; clear hW; generalize hfb : w.heap.size + 1 + 1 = fb at *; generalize hrb : w.heap.size + 1 = rb at *; have h11 := HE.out.size; have hc1 := table_is n d W0 v kp lp kc lc c HKd.out HR.out HS.out (HD.out.kp hk0) hc hn; unfold valOf at hc1; refine hc1.mono ?_
 rintro e1 w1 ⟨r, rfl, hT1, hr1, hK1⟩
 have hrw1 : r < w1.heap.size := by
  obtain ⟨es, h, _⟩ := hT1; exact ownsMap_lt h
 have HT1 := hid hT1; have hf1 : w1.heap[fb]? = some (.cells #[.int .i64 0] 3 (0, 0)) := by rw [hK1.block fb (by omega) (by simp)]; exact hf0
 have hr1b : w1.heap[rb]? = some (.cells #[.int .i64 0, .bool false, .int .i64 0, .float .f64 0, .string ⟨#[]⟩, .slice none 0 0, .slice none 0 0] 26 (0, 0)) := by rw [hK1.block rb (by omega) (by simp)]; exact hr0
 have hkw1 : Kp [] w w1 := hk0.trans hK1; have s1 := hK1.size; have HBk := hid (show w.heap.size < rb ∧ rb < fb ∧ fb < r ∧ r < w1.heap.size ∧ 11 ≤ w.heap.size by omega); have HF1 := hid hf1; have HR1 := hid hr1b; have HKw1 := hid hkw1; have HE1 := hid (HE.out.kp hkw1 (by simp)); clear hf0 hr0 hk0 hs0 hfb hrb h11 hc1 hT1 hr1 hK1 hrw1 hf1 hr1b hkw1 s1; have ks : decide ((s.size : Int) > 4000) = false := by rw [decide_eq_false_iff_not]; omega
 go_wp2_with (go_at_call 27; go_must (refine (places_is s w1 hs HB.out).mono ?_); rintro e2 w2 ⟨k, rfl, hk2, he2⟩; subst he2; have kk : decide ((k : Int) > 2000000) = false := (by rw [decide_eq_false_iff_not]; omega))
 have hbk := HBk.out; refine (parseJSON_is nt N w2 r v.l.length (v.ks.zip v.l) ps s (by omega) hnt (by omega) (by omega) HE1.out (HT1.out.mono hnN) (by omega) HL.out HKs.out).mono ?_
 rintro e3 w3 ⟨m', rfl, hT3, hK3, hm3⟩
 have hf3 : w3.heap[fb]? = some (.cells #[.int .i64 0] 3 (0, 0)) := by rw [hK3.block fb (by omega) (by simp; omega)]; exact HF1.out
 have hr3 : w3.heap[rb]? = some (.cells #[.int .i64 0, .bool false, .int .i64 0, .float .f64 0, .string ⟨#[]⟩, .slice none 0 0, .slice none 0 0] 26 (0, 0)) := by rw [hK3.block rb (by omega) (by simp; omega)]; exact HR1.out
 have hkw3 : Kp [] w w3 := HKw1.out.over hK3 (by simp; omega); obtain ⟨kvs, hkvs⟩ : ∃ kvs, kvs = putAll (v.ks.zip v.l) ps := ⟨_, rfl⟩; have hrp := putAll_rise ps (v.ks.zip v.l) HRi.out; have hlen := putAll_len ps (v.ks.zip v.l); have hzl : (v.ks.zip v.l).length ≤ v.l.length := by rw [List.length_zip]; exact Nat.min_le_right _ _
 have hmem : ∀ q ∈ putAll (v.ks.zip v.l) ps, ∃ a, a ≤ A ∧ RightC N q.2 a := fun q hq => by
  rcases putAll_mem ps _ q hq with h | h
  · exact HA1.out q h
  · exact HA2.out q h
 rw [← hkvs] at hT3 hrp hlen hmem ⊢; obtain ⟨c', hR', hc'⟩ := right_table N A kvs hrp hmem; have hc'' : c' ≤ 1000000 := by
  have : A * kvs.length ≤ 400 * 2400 := Nat.mul_le_mul hA (by omega); omega
 have hrep := hT3.rep; have HRep := hid hrep; have HR' := hid hR'; have HF3 := hid hf3; have HR3 := hid hr3; have HKw3 := hid hkw3; have s3 := hK3.size; have HKvs := hid hkvs; have HBk3 := hid (show rb < w3.heap.size ∧ fb < w3.heap.size by omega); clear hT3 hK3 hf3 hr3 hkw3 hkvs hrp hlen hzl hmem hR' hc' hrep hbk HT1 HF1 HR1 HE1 HA1 HA2 HRi HL HKs HB HR HS HD s3 hm3 hk2 kk ks; go_wp2_with fail
 rename_i K0 hK0
 obtain ⟨jv, hjv⟩ : ∃ jv, jv = nrm (N + 1) (tabJV kvs) := ⟨_, rfl⟩; have HJv := hid hjv; have c3 : w3.cell? ⟨fb, 0, none⟩ = some (.int .i64 0) := by simp [World.cell?, HF3.out]
 clear hjv; refine Code.wp_mono (Q := fun e a w' => match e with | .normal => PjQ N w fb rb jv a w' | _ => False) ?_ ?_
 ·
  rintro e a w' h
  cases e with
  | normal =>
   obtain ⟨⟨h1, h2, h3⟩, h4, kp2, kc2, lp2, lc2, h5, h6, h7⟩ := h; refine hK0 _ _ ?_; refine wp_ret ?_
   show Leaves _ _ _ _ a.defers _ _
   rw [h3]; refine leaves_cons (f := 25) (args := #[.pointer (some ⟨rb, 0, none⟩), .pointer (some ⟨fb, 0, none⟩)]) (by simp) (by simp [go_sem]) ?_; refine (catch_idle25 _ _ _).mono ?_
   rintro e9 u9 w9 ⟨rfl, rfl, rfl⟩
   have p1 : a.tmps[4]?.getD undef = .pointer (some ⟨rb, 0, none⟩) := by simpa using h1
   have p2 : a.tmps[5]?.getD undef = .pointer (some ⟨fb, 0, none⟩) := by simpa using h2
   have c0 : w9.cell? ⟨fb, 0, none⟩ = some (.int .i64 0) := by simp [World.cell?, h4]
   refine ⟨.tuple #[valOf jv kp2 kc2 lp2 lc2, .int .i64 0], ?_, ?_⟩
   · have hres : Tryz.f13.results = #[.cell 4 26, .cell 5 3] := rfl
     simp [results, hres, p1, p2, asAddr, run_loadVar_row w9 rb 26 26 _ (0, 0) _ h5 Tryz.underlying26 rfl (by kernel_rfl), valOf]; simp [go_sem, c0]
   · rw [← HKvs.out]
     refine ⟨kp2, kc2, lp2, lc2, by rw [HJv.out], ?_, h7⟩; rw [← HJv.out]; exact h6
  | _ => exact h.elim
 refine wp_region_any (by kernel_rfl) ?_
 change wpAny _ _ _ _ _ _ _ (World.drew _)
 refine wpAny_ready (rs := [0, 3]) (by kernel_rfl) (by simp) ?_; refine AllReady.cons rfl (fun K hK => ?_) ?_
 ·
  go_simp; refine hK _ _ ?_; clear hK K; refine wpAny_ready (rs := [1, 3]) (by kernel_rfl) (by simp) ?_; refine AllReady.cons rfl (fun K hK => ?_) ?_
  ·
   go_simp; refine hK _ _ ?_; clear hK K; refine wpAny_ready (rs := [2, 3]) (by kernel_rfl) (by simp) ?_; refine AllReady.cons rfl (fun K hK => ?_) ?_
   ·
    (go_simp; go_at_call 29; refine (valueOf_is (N + 1) c' (fun _ => True) _ (.iface 55 (.map (some r))) (tabJV kvs) (HRep.out.kp (by first | exact Kp.refl _ _ | exact (Kp.refl _ _).drew)) HR'.out hc'' (by omega)).mono ?_; rintro e4 w4 ⟨kp2, kc2, lp2, lc2, he, hd4, hk4⟩; rw [← HJv.out] at he hd4; unfold valOf at he; subst he; have hk34 : Kp [] w3 w4 := (by first | exact hk4 | exact ((Kp.refl _ _).drew).trans hk4); have hr4 : w4.heap[rb]? = some (.cells #[.int .i64 0, .bool false, .int .i64 0, .float .f64 0, .string ⟨#[]⟩, .slice none 0 0, .slice none 0 0] 26 (0, 0)) := (by rw [hk34.block rb HBk3.out.1 (by simp)]; exact HR3.out); have hf4 : w4.heap[fb]? = some (.cells #[.int .i64 0] 3 (0, 0)) := (by rw [hk34.block fb HBk3.out.2 (by simp)]; exact HF3.out); have c4 : w4.cell? ⟨fb, 0, none⟩ = some (.int .i64 0) := (by simp [World.cell?, hf4]); have f4 : w4.frozen? ⟨fb, 0, none⟩ = false := (by simp [World.frozen?, hf4]); have hnef : rb ≠ fb := (by have := HBk.out; omega); have hnef2 : fb ≠ rb := (by have := HBk.out; omega); have HR4 := hid hr4; have HF4 := hid hf4; have HD4 := hid hd4; have HK34 := hid hk34; clear hr4 hf4 hd4 hk34 hk4)
    try go_simp
    refine hK _ _ ?_; clear hK K; refine wpAny_ready (rs := [3, 4]) (by kernel_rfl) (by simp) ?_; refine AllReady.cons rfl (fun K hK => ?_) ?_
    ·
     go_simp; refine hK _ _ ?_; clear hK K; refine wpAny_ready (rs := [4]) (by kernel_rfl) (by simp) ?_; refine AllReady.cons rfl (fun K hK => ?_) ?_
     ·
      refine step_store_row rfl _ _ rfl rb jv kp2 kc2 lp2 lc2 (by simp [Act.eval, Act.put]) (by simp [Act.eval, Act.put]) _ HR4.out rfl ?_; intro w5 hb5 hk5; have hf5 : w5.heap[fb]? = some (.cells #[.int .i64 0] 3 (0, 0)) := by rw [hk5.block fb (lt_of_block HF4.out) (by simp; exact hnef2)]; exact HF4.out
      have d0 : w5.cell? ⟨fb, 0, none⟩ = some (.int .i64 0) := by simp [World.cell?, hf5]
      have g0 : w5.frozen? ⟨fb, 0, none⟩ = false := by simp [World.frozen?, hf5]
      have HF5 := hid hf5; have HB5 := hid hb5; have HK5 := hid hk5; clear hb5 hk5 hf5; try go_simp
      refine hK _ _ ?_; clear hK K; refine wpAny_ready (rs := [5]) (by kernel_rfl) (by simp) ?_; refine AllReady.cons rfl (fun K hK => ?_) ?_
      · go_simp
        refine hK _ _ ?_; clear hK K; refine wpAny_done (by kernel_rfl) ?_ _; exact pjq_of (by rfl) (by rfl) (by rfl) HF5.out HB5.out HD4.out HK5.out HK34.out HKw3.out HBk.out HBk3.out (by first | exact Nat.le_refl _ | (simp; done))
      exact AllReady.nil
     exact AllReady.nil
    refine AllReady.cons rfl (fun K hK => ?_) ?_
    ·
     refine step_store_row rfl _ _ rfl rb jv kp2 kc2 lp2 lc2 (by simp [Act.eval, Act.put]) (by simp [Act.eval, Act.put]) _ HR4.out rfl ?_; intro w5 hb5 hk5; have hf5 : w5.heap[fb]? = some (.cells #[.int .i64 0] 3 (0, 0)) := by rw [hk5.block fb (lt_of_block HF4.out) (by simp; exact hnef2)]; exact HF4.out
     have d0 : w5.cell? ⟨fb, 0, none⟩ = some (.int .i64 0) := by simp [World.cell?, hf5]
     have g0 : w5.frozen? ⟨fb, 0, none⟩ = false := by simp [World.frozen?, hf5]
     have HF5 := hid hf5; have HB5 := hid hb5; have HK5 := hid hk5; clear hb5 hk5 hf5; try go_simp
     refine hK _ _ ?_; clear hK K; refine wpAny_ready (rs := [3]) (by kernel_rfl) (by simp) ?_; refine AllReady.cons rfl (fun K hK => ?_) ?_
     ·
      go_simp; refine hK _ _ ?_; clear hK K; refine wpAny_ready (rs := [5]) (by kernel_rfl) (by simp) ?_; refine AllReady.cons rfl (fun K hK => ?_) ?_
      · go_simp
        refine hK _ _ ?_; clear hK K; refine wpAny_done (by kernel_rfl) ?_ _; exact pjq_of (by rfl) (by rfl) (by rfl) HF5.out HB5.out HD4.out HK5.out HK34.out HKw3.out HBk.out HBk3.out (by first | exact Nat.le_refl _ | (simp; done))
      exact AllReady.nil
     exact AllReady.nil
    exact AllReady.nil
   refine AllReady.cons rfl (fun K hK => ?_) ?_
   ·
    go_simp; refine hK _ _ ?_; clear hK K; refine wpAny_ready (rs := [2]) (by kernel_rfl) (by simp) ?_; refine AllReady.cons rfl (fun K hK => ?_) ?_
    ·
     (go_simp; go_at_call 29; refine (valueOf_is (N + 1) c' (fun _ => True) _ (.iface 55 (.map (some r))) (tabJV kvs) (HRep.out.kp (by first | exact Kp.refl _ _ | exact (Kp.refl _ _).drew)) HR'.out hc'' (by omega)).mono ?_; rintro e4 w4 ⟨kp2, kc2, lp2, lc2, he, hd4, hk4⟩; rw [← HJv.out] at he hd4; unfold valOf at he; subst he; have hk34 : Kp [] w3 w4 := (by first | exact hk4 | exact ((Kp.refl _ _).drew).trans hk4); have hr4 : w4.heap[rb]? = some (.cells #[.int .i64 0, .bool false, .int .i64 0, .float .f64 0, .string ⟨#[]⟩, .slice none 0 0, .slice none 0 0] 26 (0, 0)) := (by rw [hk34.block rb HBk3.out.1 (by simp)]; exact HR3.out); have hf4 : w4.heap[fb]? = some (.cells #[.int .i64 0] 3 (0, 0)) := (by rw [hk34.block fb HBk3.out.2 (by simp)]; exact HF3.out); have c4 : w4.cell? ⟨fb, 0, none⟩ = some (.int .i64 0) := (by simp [World.cell?, hf4]); have f4 : w4.frozen? ⟨fb, 0, none⟩ = false := (by simp [World.frozen?, hf4]); have hnef : rb ≠ fb := (by have := HBk.out; omega); have hnef2 : fb ≠ rb := (by have := HBk.out; omega); have HR4 := hid hr4; have HF4 := hid hf4; have HD4 := hid hd4; have HK34 := hid hk34; clear hr4 hf4 hd4 hk34 hk4)
     try go_simp
     refine hK _ _ ?_; clear hK K; refine wpAny_ready (rs := [4]) (by kernel_rfl) (by simp) ?_; refine AllReady.cons rfl (fun K hK => ?_) ?_
     ·
      refine step_store_row rfl _ _ rfl rb jv kp2 kc2 lp2 lc2 (by simp [Act.eval, Act.put]) (by simp [Act.eval, Act.put]) _ HR4.out rfl ?_; intro w5 hb5 hk5; have hf5 : w5.heap[fb]? = some (.cells #[.int .i64 0] 3 (0, 0)) := by rw [hk5.block fb (lt_of_block HF4.out) (by simp; exact hnef2)]; exact HF4.out
      have d0 : w5.cell? ⟨fb, 0, none⟩ = some (.int .i64 0) := by simp [World.cell?, hf5]
      have g0 : w5.frozen? ⟨fb, 0, none⟩ = false := by simp [World.frozen?, hf5]
      have HF5 := hid hf5; have HB5 := hid hb5; have HK5 := hid hk5; clear hb5 hk5 hf5; try go_simp
      refine hK _ _ ?_; clear hK K; refine wpAny_ready (rs := [5]) (by kernel_rfl) (by simp) ?_; refine AllReady.cons rfl (fun K hK => ?_) ?_
      · go_simp
        refine hK _ _ ?_; clear hK K; refine wpAny_done (by kernel_rfl) ?_ _; exact pjq_of (by rfl) (by rfl) (by rfl) HF5.out HB5.out HD4.out HK5.out HK34.out HKw3.out HBk.out HBk3.out (by first | exact Nat.le_refl _ | (simp; done))
      exact AllReady.nil
     exact AllReady.nil
    exact AllReady.nil
   exact AllReady.nil
  refine AllReady.cons rfl (fun K hK => ?_) ?_
  ·
   go_simp; refine hK _ _ ?_; clear hK K; refine wpAny_ready (rs := [1]) (by kernel_rfl) (by simp) ?_; refine AllReady.cons rfl (fun K hK => ?_) ?_
   ·
    go_simp; refine hK _ _ ?_; clear hK K; refine wpAny_ready (rs := [2]) (by kernel_rfl) (by simp) ?_; refine AllReady.cons rfl (fun K hK => ?_) ?_
    ·
     (go_simp; go_at_call 29; refine (valueOf_is (N + 1) c' (fun _ => True) _ (.iface 55 (.map (some r))) (tabJV kvs) (HRep.out.kp (by first | exact Kp.refl _ _ | exact (Kp.refl _ _).drew)) HR'.out hc'' (by omega)).mono ?_; rintro e4 w4 ⟨kp2, kc2, lp2, lc2, he, hd4, hk4⟩; rw [← HJv.out] at he hd4; unfold valOf at he; subst he; have hk34 : Kp [] w3 w4 := (by first | exact hk4 | exact ((Kp.refl _ _).drew).trans hk4); have hr4 : w4.heap[rb]? = some (.cells #[.int .i64 0, .bool false, .int .i64 0, .float .f64 0, .string ⟨#[]⟩, .slice none 0 0, .slice none 0 0] 26 (0, 0)) := (by rw [hk34.block rb HBk3.out.1 (by simp)]; exact HR3.out); have hf4 : w4.heap[fb]? = some (.cells #[.int .i64 0] 3 (0, 0)) := (by rw [hk34.block fb HBk3.out.2 (by simp)]; exact HF3.out); have c4 : w4.cell? ⟨fb, 0, none⟩ = some (.int .i64 0) := (by simp [World.cell?, hf4]); have f4 : w4.frozen? ⟨fb, 0, none⟩ = false := (by simp [World.frozen?, hf4]); have hnef : rb ≠ fb := (by have := HBk.out; omega); have hnef2 : fb ≠ rb := (by have := HBk.out; omega); have HR4 := hid hr4; have HF4 := hid hf4; have HD4 := hid hd4; have HK34 := hid hk34; clear hr4 hf4 hd4 hk34 hk4)
     try go_simp
     refine hK _ _ ?_; clear hK K; refine wpAny_ready (rs := [4]) (by kernel_rfl) (by simp) ?_; refine AllReady.cons rfl (fun K hK => ?_) ?_
     ·
      refine step_store_row rfl _ _ rfl rb jv kp2 kc2 lp2 lc2 (by simp [Act.eval, Act.put]) (by simp [Act.eval, Act.put]) _ HR4.out rfl ?_; intro w5 hb5 hk5; have hf5 : w5.heap[fb]? = some (.cells #[.int .i64 0] 3 (0, 0)) := by rw [hk5.block fb (lt_of_block HF4.out) (by simp; exact hnef2)]; exact HF4.out
      have d0 : w5.cell? ⟨fb, 0, none⟩ = some (.int .i64 0) := by simp [World.cell?, hf5]
      have g0 : w5.frozen? ⟨fb, 0, none⟩ = false := by simp [World.frozen?, hf5]
      have HF5 := hid hf5; have HB5 := hid hb5; have HK5 := hid hk5; clear hb5 hk5 hf5; try go_simp
      refine hK _ _ ?_; clear hK K; refine wpAny_ready (rs := [5]) (by kernel_rfl) (by simp) ?_; refine AllReady.cons rfl (fun K hK => ?_) ?_
      · go_simp
        refine hK _ _ ?_; clear hK K; refine wpAny_done (by kernel_rfl) ?_ _; exact pjq_of (by rfl) (by rfl) (by rfl) HF5.out HB5.out HD4.out HK5.out HK34.out HKw3.out HBk.out HBk3.out (by first | exact Nat.le_refl _ | (simp; done))
      exact AllReady.nil
     exact AllReady.nil
    exact AllReady.nil
   exact AllReady.nil
  exact AllReady.nil
 refine AllReady.cons rfl (fun K hK => ?_) ?_
 ·
  go_simp; refine hK _ _ ?_; clear hK K; refine wpAny_ready (rs := [0]) (by kernel_rfl) (by simp) ?_; refine AllReady.cons rfl (fun K hK => ?_) ?_
  ·
   go_simp; refine hK _ _ ?_; clear hK K; refine wpAny_ready (rs := [1]) (by kernel_rfl) (by simp) ?_; refine AllReady.cons rfl (fun K hK => ?_) ?_
   ·
    go_simp; refine hK _ _ ?_; clear hK K; refine wpAny_ready (rs := [2]) (by kernel_rfl) (by simp) ?_; refine AllReady.cons rfl (fun K hK => ?_) ?_
    ·
     (go_simp; go_at_call 29; refine (valueOf_is (N + 1) c' (fun _ => True) _ (.iface 55 (.map (some r))) (tabJV kvs) (HRep.out.kp (by first | exact Kp.refl _ _ | exact (Kp.refl _ _).drew)) HR'.out hc'' (by omega)).mono ?_; rintro e4 w4 ⟨kp2, kc2, lp2, lc2, he, hd4, hk4⟩; rw [← HJv.out] at he hd4; unfold valOf at he; subst he; have hk34 : Kp [] w3 w4 := (by first | exact hk4 | exact ((Kp.refl _ _).drew).trans hk4); have hr4 : w4.heap[rb]? = some (.cells #[.int .i64 0, .bool false, .int .i64 0, .float .f64 0, .string ⟨#[]⟩, .slice none 0 0, .slice none 0 0] 26 (0, 0)) := (by rw [hk34.block rb HBk3.out.1 (by simp)]; exact HR3.out); have hf4 : w4.heap[fb]? = some (.cells #[.int .i64 0] 3 (0, 0)) := (by rw [hk34.block fb HBk3.out.2 (by simp)]; exact HF3.out); have c4 : w4.cell? ⟨fb, 0, none⟩ = some (.int .i64 0) := (by simp [World.cell?, hf4]); have f4 : w4.frozen? ⟨fb, 0, none⟩ = false := (by simp [World.frozen?, hf4]); have hnef : rb ≠ fb := (by have := HBk.out; omega); have hnef2 : fb ≠ rb := (by have := HBk.out; omega); have HR4 := hid hr4; have HF4 := hid hf4; have HD4 := hid hd4; have HK34 := hid hk34; clear hr4 hf4 hd4 hk34 hk4)
     try go_simp
     refine hK _ _ ?_; clear hK K; refine wpAny_ready (rs := [4]) (by kernel_rfl) (by simp) ?_; refine AllReady.cons rfl (fun K hK => ?_) ?_
     ·
      refine step_store_row rfl _ _ rfl rb jv kp2 kc2 lp2 lc2 (by simp [Act.eval, Act.put]) (by simp [Act.eval, Act.put]) _ HR4.out rfl ?_; intro w5 hb5 hk5; have hf5 : w5.heap[fb]? = some (.cells #[.int .i64 0] 3 (0, 0)) := by rw [hk5.block fb (lt_of_block HF4.out) (by simp; exact hnef2)]; exact HF4.out
      have d0 : w5.cell? ⟨fb, 0, none⟩ = some (.int .i64 0) := by simp [World.cell?, hf5]
      have g0 : w5.frozen? ⟨fb, 0, none⟩ = false := by simp [World.frozen?, hf5]
      have HF5 := hid hf5; have HB5 := hid hb5; have HK5 := hid hk5; clear hb5 hk5 hf5; try go_simp
      refine hK _ _ ?_; clear hK K; refine wpAny_ready (rs := [5]) (by kernel_rfl) (by simp) ?_; refine AllReady.cons rfl (fun K hK => ?_) ?_
      · go_simp
        refine hK _ _ ?_; clear hK K; refine wpAny_done (by kernel_rfl) ?_ _; exact pjq_of (by rfl) (by rfl) (by rfl) HF5.out HB5.out HD4.out HK5.out HK34.out HKw3.out HBk.out HBk3.out (by first | exact Nat.le_refl _ | (simp; done))
      exact AllReady.nil
     exact AllReady.nil
    exact AllReady.nil
   exact AllReady.nil
  exact AllReady.nil
 exact AllReady.nil
end
section
open Go.RowKit
def prs (v : JV) : List (ByteArray × JV) := v.ks.zip v.l
def overJV (vals v : JV) : JV := if v.ks = [] then vals else tabJV (putAll (prs vals) (prs v))
theorem nrm_kind (n : Nat) (v : JV) : (nrm (n + 1) v).kind = v.kind := by
 unfold nrm
 split
 · next h => exact h.symm
 split
 · next h => exact h.symm
 split
 · next h => exact h.symm
 split
 · next h => exact h.symm
 split
 · next h => exact h.symm
 split
 · next h => exact h.symm
 · rfl
theorem RightL.get {T : JV → Nat → Prop} {l : List JV} {c : Nat} (h : RightL T l c) (i : Nat) (hi : i < l.length) : ∃ a, T l[i] a := by
 obtain ⟨a, h1, _⟩ := h.mem l[i] (List.getElem_mem hi); exact ⟨a, h1⟩
theorem nrm_same : ∀ {n c : Nat} {x : JV}, RightC n x c → JSame n (nrm n x) x
 | 0, _, _, h => h.elim
 | n + 1, c, x, ⟨_, _, h⟩ => by
  have hl : 6 ≤ x.kind → ∃ m, RightL (RightC n) x.l m := fun hk => by
   rcases h with ⟨h, _⟩ | ⟨h, _, _⟩ | ⟨_, m, _, hm⟩
   · omega
   · omega
   · exact ⟨m, hm⟩
  refine ⟨nrm_kind n x, fun hk => ?_, fun hk => ?_, fun hk => ?_, fun hk => ?_, fun hk => ?_, fun hk => ?_⟩
  · rw [nrm_kind] at hk
    unfold nrm; rw [if_pos hk]; rfl
  · rw [nrm_kind] at hk
    unfold nrm; rw [if_neg (by omega), if_pos hk]; rfl
  ·
   rw [nrm_kind] at hk; have hf : (nrm (n + 1) x).f = x.f := by unfold nrm; rw [if_neg (by omega), if_neg (by omega), if_pos hk]; rfl
   rw [hf]; refine ⟨rfl, ?_⟩; rcases h with ⟨h, _⟩ | ⟨_, h, _⟩ | ⟨h | ⟨h, _⟩, _⟩
   · omega
   · exact h
   · omega
   · omega
  · rw [nrm_kind] at hk
    unfold nrm; rw [if_neg (by omega), if_neg (by omega), if_neg (by omega), if_pos hk]; rfl
  · rw [nrm_kind] at hk
    unfold nrm; rw [if_neg (by omega), if_neg (by omega), if_neg (by omega), if_neg (by omega), if_neg (by omega), if_pos hk]; rfl
  ·
   rw [nrm_kind] at hk; have hL : (nrm (n + 1) x).l = x.l.map (nrm n) := by
    have hk2 : x.kind = 6 ∨ x.kind = 7 := by
     rcases h with ⟨h, _⟩ | ⟨h, _, _⟩ | ⟨h | ⟨h, _⟩, _⟩
     · omega
     · omega
     · exact Or.inl h
     · exact Or.inr h
    unfold nrm; rw [if_neg (by omega), if_neg (by omega), if_neg (by omega), if_neg (by omega)]; rcases hk2 with hk2 | hk2
    · rw [if_pos hk2]; rfl
    · rw [if_neg (by omega), if_pos hk2]; rfl
   obtain ⟨m, hm⟩ := hl hk; refine ⟨by rw [hL, List.length_map], fun i h1 h2 => ?_⟩; obtain ⟨a, ha⟩ := hm.get i h2; have e : (nrm (n + 1) x).l[i] = nrm n x.l[i] := by simp [hL]
   rw [e]; exact nrm_same ha
theorem JSame.congr {n : Nat} {a b c : JV} (h : JSame (n + 1) a b) (hb : b.kind = 7) (hc : c.kind = 7) (h1 : c.ks = b.ks) (h2 : c.l = b.l) : JSame (n + 1) a c := by
 obtain ⟨q1, q2, q3, q4, q5, q6, q7⟩ := h; refine ⟨by rw [hc, q1, hb], fun h => by omega, fun h => by omega, fun h => by omega, fun h => by omega, fun h => by rw [h1]; exact q6 h, fun h => ?_⟩; rw [h2]; exact q7 h
theorem zip_fst {α β : Type} : ∀ (l : List α) (m : List β), l.length = m.length → (l.zip m).map (·.1) = l
 | [], _, _ => rfl
 | a :: l, [], h => by simp at h
 | a :: l, b :: m, h => by simp [zip_fst l m (by simpa using h)]
theorem zip_snd {α β : Type} : ∀ (l : List α) (m : List β), l.length = m.length → (l.zip m).map (·.2) = m
 | [], [], _ => rfl
 | [], b :: m, h => by simp at h
 | a :: l, [], h => by simp at h
 | a :: l, b :: m, h => by simp [zip_snd l m (by simpa using h)]
theorem over_same {N c : Nat} {vals v : JV} (hk : vals.kind = 7) (hl : vals.ks.length = vals.l.length) (hR : RightC (N + 1) (tabJV (putAll (prs vals) (prs v))) c) :
  JSame (N + 1) (nrm (N + 1) (tabJV (putAll (prs vals) (prs v)))) (overJV vals v) := by
 have h := nrm_same hR; unfold overJV
 split
 ·
  rename_i hv
  have e : putAll (prs vals) (prs v) = prs vals := by unfold prs; rw [hv]; rfl
  rw [e] at h ⊢; refine h.congr rfl hk ?_ ?_
  · show _ = (prs vals).map (·.1); unfold prs; rw [zip_fst _ _ hl]
  · show _ = (prs vals).map (·.2); unfold prs; rw [zip_snd _ _ hl]
 · exact h
theorem f64_fin (i : Int) (h0 : -9223372036854775808 ≤ i) (h1 : i ≤ 9223372036854775807) : FinE (F64 i) := by
 by_cases hz : i = 0
 · subst hz; unfold FinE F64; decide
 ·
  obtain ⟨F, r, hF, e⟩ := int_flt i hz (by omega); have hr := hF.le (by omega); have hs := hF.small (by omega); have h2 := hF.e2; have hov := hF.ov; unfold FinE F64; rw [e]; have : r + (F + 1022).toNat * 2 ^ 52 < 2047 * 4503599627370496 := by
   rcases hov with h | h
   · have : (F + 1022).toNat ≤ 2044 := by omega
     have : (F + 1022).toNat * 2 ^ 52 ≤ 2044 * 2 ^ 52 := Nat.mul_le_mul_right _ this; omega
   · have : (F + 1022).toNat ≤ 2045 := by omega
     have : (F + 1022).toNat * 2 ^ 52 ≤ 2045 * 2 ^ 52 := Nat.mul_le_mul_right _ this; omega
  split
  · omega
  · omega
theorem RightL.map {T U : JV → Nat → Prop} {f : JV → JV} : ∀ {l : List JV} {c : Nat}, RightL T l c → (∀ x ∈ l, ∀ a, T x a → U (f x) a) → RightL U (l.map f) c
 | [], _, h, _ => h
 | x :: r, c, ⟨a, b, h1, h2, e⟩, k => ⟨a, b, k x (by simp) a h1, RightL.map h2 fun y hy => k y (by simp [hy]), e⟩
theorem flo_right : ∀ {n m c : Nat} {x : JV}, RightC n x c → Ints m x → RightC n (flo F64 n x) c
 | 0, _, _, _, h, _ => h.elim
 | n + 1, 0, _, _, _, h => h.elim
 | n + 1, m + 1, c, x, ⟨q1, q2, h⟩, ⟨i1, i2⟩ => by
  rw [flo_eq]
  split
  ·
   rename_i hk
   have hc : c = 1 := by
    rcases h with ⟨_, h⟩ | ⟨h, _, _⟩ | ⟨h | ⟨h, _⟩, _⟩
    · exact h
    · omega
    · omega
    · omega
   exact ⟨fun _ => rfl, fun _ => rfl, Or.inr (Or.inl ⟨rfl, f64_fin _ i1.1 i1.2.1, hc⟩)⟩
  ·
   rename_i hk
   refine ⟨fun h => ?_, fun h => q2 h, ?_⟩
   · show x.l.map _ = []; rw [q1 h]; rfl
   ·
    rcases h with ⟨h, hc⟩ | ⟨h1, h2, hc⟩ | ⟨h, m', hc, hl⟩
    · exact Or.inl ⟨h, hc⟩
    · exact Or.inr (Or.inl ⟨h1, h2, hc⟩)
    · refine Or.inr (Or.inr ⟨?_, m', hc, hl.map fun y hy a ha => flo_right ha (i2 y hy)⟩)
      rcases h with h | ⟨h1, h2, h3⟩
      · exact Or.inl h
      · exact Or.inr ⟨h1, h2, by show _ = (x.l.map _).length; rw [List.length_map]; exact h3⟩
end
section
open Go.RowKit
def RowIs (n : Nat) (F : Nat → Prop) (w0 : World) (ls : List JV) (xs : List Value) : Prop :=
 xs.length = ls.length * 7 ∧ ∀ i (h : i < ls.length), ∃ kp kc lp lc, (xs.drop (i * 7)).take 7 = cells7 ls[i] kp kc lp lc ∧ DeepF n F w0 ls[i] kp lp
theorem RowIs.nil (n : Nat) (F : Nat → Prop) (w0 : World) : RowIs n F w0 [] [] := ⟨rfl, fun i h => absurd h (Nat.not_lt_zero i)⟩
theorem RowIs.snoc {n : Nat} {F : Nat → Prop} {w0 : World} {ls : List JV} {xs : List Value} {y : JV} {kp : Option Addr} {kc : Nat} {lp : Option Addr} {lc : Nat} (h : RowIs n F w0 ls xs) (hd : DeepF n F w0 y kp lp) : RowIs n F w0 (ls ++ [y]) (xs ++ cells7 y kp kc lp lc) := by
 refine ⟨by rw [List.length_append, List.length_append, h.1]; simp [cells7]; omega, fun i hi => ?_⟩; have hl := h.1; by_cases hi2 : i < ls.length
 ·
  obtain ⟨a, b, c, d, h1, h2⟩ := h.2 i hi2; have e : (ls ++ [y])[i] = ls[i] := List.getElem_append_left hi2; rw [e]; refine ⟨a, b, c, d, ?_, h2⟩; rw [List.drop_append_of_le_length (by omega), List.take_append_of_le_length (by rw [List.length_drop]; omega)]; exact h1
 ·
  have hi3 : i = ls.length := by simp at hi; omega
  subst hi3; have e : (ls ++ [y])[ls.length] = y := by simp
  rw [e]; refine ⟨kp, kc, lp, lc, ?_, hd⟩; rw [← hl, List.drop_left']
  · exact List.take_of_length_le (by simp [cells7])
  · rfl
structure HP (n : Nat) (F : Nat → Prop) (w0 W1 : World) (ob : Nat) (kv0 lv0 kr lr : Value) (ka : List ByteArray) (la : List JV) (KT : Option (Nat × ByteArray)) (VT : Option (Nat × List Value)) (w : World) : Prop where
 blk : w.heap[ob]? = some (.cells #[.int .i64 7, .bool false, .int .i64 0, .float .f64 0, .string ⟨#[]⟩, kv0, lv0] 26 (0, 0))
 key : w.ownsRow W1.heap.size 9 1 kr ka.length (ka.map Value.string)
 row : ∃ xs, RowIs n F w0 la xs ∧ w.ownsRow W1.heap.size 26 7 lr la.length xs
 kt : ∀ g k, KT = some (g, k) → w.heap[g]? = some (.cells #[.string k] 9 (0, 0)) ∧ some g ≠ kr.ownBlock
 vt : ∀ g c, VT = some (g, c) → w.heap[g]? = some (.cells c.toArray 26 (0, 0)) ∧ some g ≠ lr.ownBlock ∧ g ≠ ob
 kp' : Kp [] w0 w
 kp1 : Kp [ob] W1 w
 lo : w0.heap.size ≤ ob ∧ ob < W1.heap.size ∧ W1.heap.size ≤ w.heap.size
section
variable {n : Nat} {F : Nat → Prop} {w0 W1 w w' : World} {ob : Nat}
 {kv0 lv0 kr lr : Value} {ka : List ByteArray} {la : List JV} {KT : Option (Nat × ByteArray)} {VT : Option (Nat × List Value)}
theorem HP.c5 (h : HP n F w0 W1 ob kv0 lv0 kr lr ka la KT VT w) : w.cell? ⟨ob, 5, none⟩ = some kv0 := by simp [World.cell?, h.blk]
theorem HP.c6 (h : HP n F w0 W1 ob kv0 lv0 kr lr ka la KT VT w) : w.cell? ⟨ob, 6, none⟩ = some lv0 := by simp [World.cell?, h.blk]
theorem HP.fr (h : HP n F w0 W1 ob kv0 lv0 kr lr ka la KT VT w) (t : Nat) : w.frozen? ⟨ob, t, none⟩ = false := by simp [World.frozen?, h.blk]
theorem HP.kn (h : HP n F w0 W1 ob kv0 lv0 kr lr ka la KT VT w) : ∀ g, some g = kr.ownBlock → W1.heap.size ≤ g ∧ g < w.heap.size := fun g e => h.key.lt g e.symm
theorem HP.ln (h : HP n F w0 W1 ob kv0 lv0 kr lr ka la KT VT w) : ∀ g, some g = lr.ownBlock → W1.heap.size ≤ g ∧ g < w.heap.size := fun g e => by
 obtain ⟨xs, _, h2⟩ := h.row; exact h2.lt g e.symm
theorem own_two {B1 n1 k1 g : Nat} {v1 : Value} {xs : List Value} {t1 t2 : TypeId} {c : Array Value} {f : Nat × Nat} (h1 : w.ownsRow B1 t1 k1 v1 n1 xs) (ht : t1 ≠ t2) (h2 : w.heap[g]? = some (.cells c t2 f)) : some g ≠ v1.ownBlock := by
 rcases h1.2 with ⟨rfl, _⟩ | ⟨g', cap, cur, rfl, _, hh, _⟩
 · simp [Value.ownBlock]
 ·
  intro e; simp [Value.ownBlock] at e; subst e; rw [h2] at hh
  injection hh with hh
  injection hh with _ e _
  exact ht e.symm
theorem HP.kp (h : HP n F w0 W1 ob kv0 lv0 kr lr ka la KT VT w) (k : Kp [] w w') : HP n F w0 W1 ob kv0 lv0 kr lr ka la KT VT w' := by
 have s := k.size; have hb : ∀ (g : Nat) (o : Obj), w.heap[g]? = some o → w'.heap[g]? = some o := fun g o hg => by rw [k.block g (lt_of_block hg) (by simp)]; exact hg
 refine ⟨hb _ _ h.blk, own_kp h.key k (by simp), ?_, fun g c e => ⟨hb _ _ (h.kt g c e).1, (h.kt g c e).2⟩, fun g c e => ⟨hb _ _ (h.vt g c e).1, (h.vt g c e).2⟩, h.kp'.trans k, h.kp1.over k (by simp), ?_⟩
 · obtain ⟨xs, h1, h2⟩ := h.row
   exact ⟨xs, h1, own_kp h2 k (by simp)⟩
 · have := h.lo; omega
theorem HP.allocK (h : HP n F w0 W1 ob kv0 lv0 kr lr ka la KT VT w) (k : ByteArray) : HP n F w0 W1 ob kv0 lv0 kr lr ka la (some (w.heap.size, k)) VT (w.alloc (.cells #[.string k] 9)) := by
 have h2 := h.kp ((Kp.refl [] w).alloc (.cells #[.string k] 9)); refine ⟨h2.blk, h2.key, h2.row, fun g c e => ?_, h2.vt, h2.kp', h2.kp1, h2.lo⟩; obtain ⟨rfl, rfl⟩ := Prod.mk.inj (Option.some.inj e); exact ⟨heap_alloc_new _ _, fun e => by have := (h.kn _ e).2; omega⟩
theorem HP.allocV (h : HP n F w0 W1 ob kv0 lv0 kr lr ka la KT VT w) (c : Array Value) : HP n F w0 W1 ob kv0 lv0 kr lr ka la KT (some (w.heap.size, c.toList)) (w.alloc (.cells c 26)) := by
 have h2 := h.kp ((Kp.refl [] w).alloc (.cells c 26)); refine ⟨h2.blk, h2.key, h2.row, h2.kt, fun g d e => ?_, h2.kp', h2.kp1, h2.lo⟩; obtain ⟨rfl, rfl⟩ := Prod.mk.inj (Option.some.inj e); refine ⟨heap_alloc_new _ _, fun e => by have := (h.ln _ e).2; omega, fun e => by have := h.lo; omega⟩
theorem HP.store (h : HP n F w0 W1 ob kv0 lv0 kr lr ka la KT VT w) : HP n F w0 W1 ob kr lr kr lr ka la none none ((w.setCell ⟨ob, 5, none⟩ kr).setCell ⟨ob, 6, none⟩ lr) := by
 have hlo := h.lo; have k : Kp [ob] w ((w.setCell ⟨ob, 5, none⟩ kr).setCell ⟨ob, 6, none⟩ lr) := ((Kp.refl _ _).setCell (Or.inl (by simp)) _).setCell (Or.inl (by simp)) _; have s := k.size; refine ⟨blk_setCell (blk_setCell h.blk _) _, own_kp h.key k (by simp; omega), ?_, (fun g c e => by cases e), (fun g c e => by cases e), h.kp'.over k (by simp; omega), h.kp1.trans k, by omega⟩; obtain ⟨xs, h1, h2⟩ := h.row; exact ⟨xs, h1, own_kp h2 k (by simp; omega)⟩
end
theorem HP.grown {n : Nat} {F : Nat → Prop} {w0 W1 w w' : World} {ob : Nat}
  {kv0 lv0 kr lr : Value} {ka : List ByteArray} {la : List JV} {KT : Option (Nat × ByteArray)} {VT : Option (Nat × List Value)} {r : Option Nat}
  (h : HP n F w0 W1 ob kv0 lv0 kr lr ka la KT VT w) (hg : w.grownBy w' r) (hr : ∀ g, some g = r → W1.heap.size ≤ g) :
  w'.heap[ob]? = some (.cells #[.int .i64 7, .bool false, .int .i64 0, .float .f64 0, .string ⟨#[]⟩, kv0, lv0] 26 (0, 0)) ∧ Kp [] w0 w' ∧ Kp [ob] W1 w' ∧ W1.heap.size ≤ w'.heap.size := by
 have hlo := h.lo; have s := hg.size; have low : ∀ g, g < W1.heap.size → w'.heap[g]? = w.heap[g]? := fun g hgB => hg.block g (by omega) (fun e => by have := hr g e; omega)
 exact ⟨by rw [low ob (by omega)]; exact h.blk, h.kp'.grown hg fun k e => by have := hr k e.symm; omega, h.kp1.grown hg fun k e => hr k e.symm, by omega⟩
theorem step_key {n : Nat} {F : Nat → Prop} {w0 W1 w : World} {ob : Nat}
  {kv0 lv0 kr lr : Value} {ka : List ByteArray} {la : List JV} {VT : Option (Nat × List Value)} {ops : Array Oper} {o : Oper} {a : Act} {Q : Exit → Act → World → Prop} {K : Act → World → Prop} {E : Prop} (hgd : o.guard = none) (s x : Operand)
  (ho : o.op = .call { callee := .builtin .append, args := #[s, x], argTypes := #[23, 23] }) (g : Nat) (k : ByteArray) (hP : HP n F w0 W1 ob kv0 lv0 kr lr ka la (some (g, k)) VT w) (c : Nat) (hs : a.eval s = kr) (hx : a.eval x = .slice (some ⟨g, 0, none⟩) 1 c)
  (hle : ka.length ≤ 1000000)
  (h : ∀ (p' : Option Addr) (n' c' : Nat) w', HP n F w0 W1 ob kv0 lv0 (.slice p' n' c') lr (ka ++ [k]) la none VT w' → K (a.put o.dst (.slice p' n' c')) w') :
  if Region.wanted o (yielded ops a.tmps) = true then Oper.wp Tryz.prog o a w K Q else E := by
 have hw : Region.wanted o (yielded ops a.tmps) = true := by simp [Region.wanted, hgd]
 rw [if_pos hw]; obtain ⟨i0, hi, hz0, hz1, hz2⟩ := info_parts info9; have hlo := hP.lo; obtain ⟨ht1, ht2⟩ := hP.kt g k rfl; have hcell : ∀ j u, ([Value.string k] : List Value)[j]? = some u → w.cell? ((⟨g, 0, none⟩ : Addr).add j) = some u := fun j u hu => by
  rcases j with _ | j
  · simp at hu; subst hu; simp [World.cell?, Addr.add, ht1]
  · simp at hu
 obtain ⟨v', w', hr, h2, h3, h4⟩ := run_append_loc (w := w) W1.heap.size 23 o.type 9 i0 _ 1 16 Tryz.underlying23 hi hz0 hz1 hz2 rfl (by decide) kr ka.length (ka.map Value.string) hP.key ⟨g, 0, none⟩ 1 c (by decide) [.string k] rfl hcell
  (by intro u hu; simp at hu; subst hu; rfl) (by unfold maxLen; omega) (by omega) hlo.2.2
 have hrB : ∀ g, some g = kr.ownBlock → W1.heap.size ≤ g := fun g e => (hP.kn g e).1
 obtain ⟨b1, b2, b3, b4⟩ := hP.grown h3 hrB; obtain ⟨p', n', c', rfl⟩ := own_form h2; have hVne : ∀ g' c', w.heap[g']? = some (.cells c' 26 (0, 0)) → some g' ≠ kr.ownBlock := fun g' c' hg' => own_two hP.key (by decide) hg'
 have hsame : ∀ g', some g' = lr.ownBlock → w'.heap[g']? = w.heap[g']? := fun g' e => by
  obtain ⟨xs, _, hx2⟩ := hP.row; refine h3.block g' (hP.ln g' e).2 fun e2 => ?_
  rcases hx2.2 with ⟨rfl, _⟩ | ⟨g2, cap, cur, rfl, _, hh, _⟩
  · simp [Value.ownBlock] at e
  · simp [Value.ownBlock] at e
    subst e; exact hVne _ _ hh e2
 have hP' : HP n F w0 W1 ob kv0 lv0 (.slice p' n' c') lr (ka ++ [k]) la none VT w' := by
  refine ⟨b1, by rw [List.length_append, List.map_append]; exact h2, ?_, (fun g c e => by cases e), fun g' c' e => ?_, b2, b3, by omega⟩
  · obtain ⟨xs, hx1, hx2⟩ := hP.row
    refine ⟨xs, hx1, hx2.1, ?_⟩; rcases hx2.2 with ⟨rfl, h0⟩ | ⟨g2, cap, cur, rfl, q1, hh, q2⟩
    · exact Or.inl ⟨rfl, h0⟩
    · exact Or.inr ⟨g2, cap, cur, rfl, q1, by rw [hsame g2 rfl]; exact hh, q2⟩
  · obtain ⟨v1, v2, v3⟩ := hP.vt g' c' e
    exact ⟨by rw [h3.block g' (lt_of_block v1) (hVne _ _ v1)]; exact v1, v2, v3⟩
 unfold Oper.wp execOp; simp only [ho, resolve, invoke, builtin, Sem.run_bind, Sem.run_pure, Result.andThen_ok, List.map_toArray, List.map_cons, List.map_nil, hs, hx, hr]; exact h p' n' c' w' hP'
theorem step_val {n : Nat} {F : Nat → Prop} {w0 W1 w : World} {ob : Nat}
  {kv0 lv0 kr lr : Value} {ka : List ByteArray} {la : List JV} {KT : Option (Nat × ByteArray)} {ops : Array Oper} {o : Oper} {a : Act} {Q : Exit → Act → World → Prop} {K : Act → World → Prop} {E : Prop} (hgd : o.guard = none) (s x : Operand)
  (ho : o.op = .call { callee := .builtin .append, args := #[s, x], argTypes := #[24, 24] }) (g : Nat) (v : JV) (vkp : Option Addr) (vkc : Nat) (vlp : Option Addr) (vlc : Nat) (hP : HP n F w0 W1 ob kv0 lv0 kr lr ka la KT (some (g, cells7 v vkp vkc vlp vlc)) w) (c : Nat)
  (hs : a.eval s = lr) (hx : a.eval x = .slice (some ⟨g, 0, none⟩) 1 c) (hd : DeepF n F w0 v vkp vlp)
  (hle : la.length ≤ 1000000)
  (h : ∀ (p' : Option Addr) (n' c' : Nat) w', HP n F w0 W1 ob kv0 lv0 kr (.slice p' n' c') ka (la ++ [v]) KT none w' → K (a.put o.dst (.slice p' n' c')) w') :
  if Region.wanted o (yielded ops a.tmps) = true then Oper.wp Tryz.prog o a w K Q else E := by
 have hw : Region.wanted o (yielded ops a.tmps) = true := by simp [Region.wanted, hgd]
 rw [if_pos hw]; obtain ⟨i0, hi, hz0, hz1, hz2⟩ := info_parts info26; have hlo := hP.lo; obtain ⟨ht1, ht2, ht3⟩ := hP.vt g _ rfl; have hcell : ∀ j u, (cells7 v vkp vkc vlp vlc)[j]? = some u → w.cell? ((⟨g, 0, none⟩ : Addr).add j) = some u := fun j u hu => by
  have e : (⟨g, 0, none⟩ : Addr).add j = ⟨g, j, none⟩ := by simp [Addr.add]; exact fun h => h.symm
  rw [e]; simp only [World.cell?, ht1]; simpa using hu
 obtain ⟨xs, hx1, hx2⟩ := hP.row; obtain ⟨v', w', hr, h2, h3, h4⟩ := run_append_loc (w := w) W1.heap.size 24 o.type 26 i0 _ 7 96 Tryz.underlying24 hi hz0 hz1 hz2 rfl (by decide) lr la.length xs hx2 ⟨g, 0, none⟩ 1 c (by decide) (cells7 v vkp vkc vlp vlc) rfl hcell
  (cells7_one _ _ _ _ _) (by unfold maxLen; omega) (by omega) hlo.2.2
 have hrB : ∀ g, some g = lr.ownBlock → W1.heap.size ≤ g := fun g e => (hP.ln g e).1
 obtain ⟨b1, b2, b3, b4⟩ := hP.grown h3 hrB; obtain ⟨p', n', c', rfl⟩ := own_form h2; have hKne : ∀ g' c', w.heap[g']? = some (.cells c' 9 (0, 0)) → some g' ≠ lr.ownBlock := fun g' c' hg' => own_two hx2 (by decide) hg'
 have hP' : HP n F w0 W1 ob kv0 lv0 kr (.slice p' n' c') ka (la ++ [v]) KT none w' := by
  refine ⟨b1, ?_, ⟨_, hx1.snoc hd, by rw [List.length_append]; exact h2⟩, fun g' c' e => ?_, (fun g c e => by cases e), b2, b3, by omega⟩
  · refine ⟨hP.key.1, ?_⟩
    rcases hP.key.2 with ⟨h0, h1⟩ | ⟨g2, cap, cur, hv, q1, hh, q2⟩
    · exact Or.inl ⟨h0, h1⟩
    · exact Or.inr ⟨g2, cap, cur, hv, q1, by rw [h3.block g2 (lt_of_block hh) (hKne _ _ hh)]; exact hh, q2⟩
  · obtain ⟨v1, v2⟩ := hP.kt g' c' e
    exact ⟨by rw [h3.block g' (lt_of_block v1) (hKne _ _ v1)]; exact v1, v2⟩
 unfold Oper.wp execOp; simp only [ho, resolve, invoke, builtin, Sem.run_bind, Sem.run_pure, Result.andThen_ok, List.map_toArray, List.map_cons, List.map_nil, hs, hx, hr]; exact h p' n' c' w' hP'
end
end Go.Proofs.YtljaoopfomcaoaaGreatDoor
