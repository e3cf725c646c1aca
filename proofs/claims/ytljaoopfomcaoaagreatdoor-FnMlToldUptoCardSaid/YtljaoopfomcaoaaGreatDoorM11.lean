import Derived.Laws.Externs
import Derived.StillTailTactics
import Derived.Test.YtljaoopfomcaoaaGreatDoorM08
import Derived.Test.YtljaoopfomcaoaaGreatDoorM09
set_option linter.all false
open Go.Lib (hid)
namespace Go.Proofs.YtljaoopfomcaoaaGreatDoor
section
open Go.RowKit
attribute [local go_sem] bt_eq
abbrev Nw (w w' : World) : Prop := Kp [] w w'
set_option maxHeartbeats 400000 in
theorem fold_no (s word : ByteArray) (w : World) (hs : s.size ≤ 1000000) (h0 : 0 < s.size) (h1 : bt s 0 < 65) (h2 : 97 ≤ bt word 0) :
  Calls Tryz.prog 157 #[.string s, .string word] w fun e w' => e = .returned (.bool false) ∧ w' = w := by
 have H2 := hid h2; go_enter Tryz.func157, Tryz.ntmps157
 by_cases hsz : s.size = word.size
 ·
  have c1 : decide ((65 : Int) ≤ (bt s 0 : Int)) = false := by rw [decide_eq_false_iff_not]; omega
  have c2 : ((bt s 0 : Int) != (bt word 0 : Int)) = true := by simp; omega
  have c0 : (0 : Int) < (s.size : Int) := by omega
  have c3 : 0 < word.size := by omega
  have c4 : ((s.size : Int) != (word.size : Int)) = false := by rw [hsz]; simp
  go_wp2
  go_loop [5] (fun i1 => i1 = .int .i64 0) (fun i1 => s.size - (intOf i1).toNat)
  case atStart => exact rfl
  case round =>
   subst hrel; go_wp2
   go_ret; exact ⟨rfl, rfl⟩
 · have c4 : ((s.size : Int) != (word.size : Int)) = true := by simp; omega
   go_wp2
   go_ret; exact ⟨rfl, rfl⟩
set_option maxHeartbeats 400000 in
theorem underscores_no (s : ByteArray) (w : World) (hs : s.size ≤ 1000000) (h : ∀ k, k < s.size → bt s k ≠ 95) :
  Calls Tryz.prog 163 #[.string s] w fun e w' => e = .returned (.bool true) ∧ w' = w := by
 have H := hid h; clear h; go_enter Tryz.func163, Tryz.ntmps163
 go_wp2
 go_loop [3] (fun i1 => ∃ k : Nat, k ≤ s.size ∧ i1 = .int .i64 k) (fun i1 => s.size - (intOf i1).toNat)
 case atStart => exact ⟨0, by omega, rfl⟩
 case round =>
  obtain ⟨k, hk, rfl⟩ := hrel; by_cases hlt : k < s.size
  · have c1 : ((bt s k : Int) == 95) = false := by have := H.out k hlt; simp; omega
    go_wp2
    go_round
    case rel => exact ⟨k + 1, by omega, by go_num⟩
    case measure => simp [intOf]; omega
  · go_wp2
    go_ret; exact ⟨rfl, rfl⟩
theorem formOf_is (w : World) : Calls Tryz.prog 160 #[.int .i64 64] w fun e w' => e = .returned (.agg #[.int .i64 52, .int .i64 11, .int .i64 (-1023)]) ∧ Nw w w' := by
 go_enter Tryz.func160, Tryz.ntmps160
 go_wp2_with (refine wpList_store_row rfl 236 _ _ rfl w.heap.size #[.int .i64 52, .int .i64 11, .int .i64 (-1023)] ?_ ?_ 236 #[.int .i64 0, .int .i64 0, .int .i64 0] ?_ ?_ ?_ ?_ ?_; go_must (rfl); go_must (rfl); go_must (exact heap_alloc_new _ _); go_must (kernel_rfl); go_must (rfl); go_must (simp [Value.oneCell']))
 generalize hW : World.setRow _ _ _ = w1; have hb : w1.heap[w.heap.size]? = some (.cells #[.int .i64 52, .int .i64 11, .int .i64 (-1023)] 236 (0, 0)) := by
  rw [← hW]; exact setRow_heap _ _ _ _ 236 _ (heap_alloc_new _ _)
 have hK : Kp [] w w1 := by
  have h1 : Kp [] w (w.alloc (.cells #[.int .i64 0, .int .i64 0, .int .i64 0] 236)) := (Kp.refl _ _).alloc _; rw [← hW]; exact ⟨h1.os, h1.tape, h1.output, by rw [setRow_size]; exact h1.size, fun k hk hs => by rw [setRow_other _ _ _ _ (by omega)]; exact h1.block k hk hs⟩
 have c0 : w1.cell? ⟨w.heap.size, 0, none⟩ = some (.int .i64 52) := by simp [World.cell?, hb]
 have c1 : w1.cell? ⟨w.heap.size, 1, none⟩ = some (.int .i64 11) := by simp [World.cell?, hb]
 have c2 : w1.cell? ⟨w.heap.size, 2, none⟩ = some (.int .i64 (-1023)) := by simp [World.cell?, hb]
 refine bodyPost_ret (v := .agg #[.int .i64 52, .int .i64 11, .int .i64 (-1023)]) (by simp [results, Tryz.results160, go_sem, c0, c1, c2]) rfl ⟨rfl, hK⟩
theorem frombits_is (b : Nat) (w : World) : Sem.run Tryz.prog (callFunc 171 #[.int .u64 b]) w = .ok (.value (.float .f64 b)) w := by
 rw [run_callFunc_extern Tryz.func171 (by kernel_rfl) (by kernel_rfl) (by kernel_rfl) (e := Extern.MathFloatBits.float64frombits) (by kernel_rfl)]; rfl
set_option maxRecDepth 100000 in
theorem float_is (b : Nat) (w : World) : Calls Tryz.prog 161 #[.agg #[.int .i64 52, .int .i64 11, .int .i64 (-1023)], .int .u64 b] w fun e w' => e = .returned (.float .f64 b) ∧ Nw w w' := by
 have hf := frombits_is b; go_enter Tryz.func161, Tryz.ntmps161
 go_wp2
 go_ret; exact ⟨rfl, (Kp.refl _ _).alloc _⟩
end
section
open Go.RowKit
structure DecAt (w : World) (B b g cap : Nat) (ds : List Nat) (dp : Int) : Prop where
 blk : w.heap[b]? = some (.cells #[.slice (some ⟨g, 0, none⟩) ds.length cap, .int .i64 dp] 256 (0, 0))
 own : w.ownsRow B 5 1 (.slice (some ⟨g, 0, none⟩) ds.length cap) ds.length (cellsOf ds)
theorem DecAt.c0 {w : World} {B b g cap : Nat} {ds : List Nat} {dp : Int} (h : DecAt w B b g cap ds dp) : w.cell? ⟨b, 0, none⟩ = some (.slice (some ⟨g, 0, none⟩) ds.length cap) := by simp [World.cell?, h.blk]
theorem DecAt.c1 {w : World} {B b g cap : Nat} {ds : List Nat} {dp : Int} (h : DecAt w B b g cap ds dp) : w.cell? ⟨b, 1, none⟩ = some (.int .i64 dp) := by simp [World.cell?, h.blk]
theorem DecAt.fr {w : World} {B b g cap : Nat} {ds : List Nat} {dp : Int} (h : DecAt w B b g cap ds dp) (o : Nat) : w.frozen? ⟨b, o, none⟩ = false := by simp [World.frozen?, h.blk]
theorem DecAt.lt {w : World} {B b g cap : Nat} {ds : List Nat} {dp : Int} (h : DecAt w B b g cap ds dp) : b < w.heap.size := lt_of_block h.blk
theorem DecAt.dig {w : World} {B b g cap : Nat} {ds : List Nat} {dp : Int} (h : DecAt w B b g cap ds dp) (i : Nat) (hi : i < ds.length) : w.cell? ⟨g, i, none⟩ = some (.int .u8 (dg ds i)) := by
 have := h.own.cells (g := g) rfl i (.int .u8 (dg ds i)) (by simp [cellsOf, List.getElem?_eq_getElem hi, dg, List.getD_eq_getElem?_getD]); have e : (⟨g, 0, none⟩ : Addr).add i = ⟨g, i, none⟩ := by unfold Addr.add; split <;> simp_all
 rwa [e] at this
theorem DecAt.ownd {w : World} {B b g cap : Nat} {ds : List Nat} {dp : Int} (h : DecAt w B b g cap ds dp) : B ≤ g ∧ g < w.heap.size := h.own.lt g rfl
theorem DecAt.ne {w : World} {B b g cap : Nat} {ds : List Nat} {dp : Int} (h : DecAt w B b g cap ds dp) : g ≠ b := by
 intro e; rcases h.own.2 with ⟨h1, _⟩ | ⟨g', cap', cur, h1, _, h2, _⟩
 · cases h1
 ·
  injection h1 with h1 _ _
  have h1 := Option.some.inj h1
  injection h1 with h1 _ _
  subst h1; rw [e, h.blk] at h2
  injection h2 with h2
  injection h2 with _ h2 _
  cases h2
theorem DecAt.cap {w : World} {B b g cap : Nat} {ds : List Nat} {dp : Int} (h : DecAt w B b g cap ds dp) : ds.length ≤ cap ∧ cap ≤ maxLen := by
 rcases h.own.2 with ⟨h1, _⟩ | ⟨g', cap', cur, h1, _, _, h3, h4, _⟩
 · cases h1
 · injection h1 with _ _ h1
   subst h1; exact ⟨h3, h4⟩
theorem DecAt.hp {w w' : World} {B b g cap : Nat} {ds : List Nat} {dp : Int} (h : DecAt w B b g cap ds dp) (e : w'.heap = w.heap) : DecAt w' B b g cap ds dp := ⟨by rw [e]; exact h.blk, own_hp h.own e⟩
def lenAt (b : Nat) (w : World) : Nat := match w.cell? ⟨b, 0, none⟩ with | some (.slice _ n _) => n | _ => 0
theorem lenAt_of {w : World} {B b g cap : Nat} {ds : List Nat} {dp : Int} (h : DecAt w B b g cap ds dp) : lenAt b w = ds.length := by unfold lenAt; rw [h.c0]
def Ends (ds : List Nat) : Prop := dg ds (ds.length - 1) ≠ 0
theorem DecAt.set0 {w : World} {B b g cap : Nat} {ds : List Nat} {dp : Int} (h : DecAt w B b g cap ds dp) (v : Value) : (w.setCell ⟨b, 0, none⟩ v).heap[b]? = some (.cells #[v, .int .i64 dp] 256 (0, 0)) := blk_setCell h.blk v
theorem DecAt.set1 {w : World} {B b g cap : Nat} {ds : List Nat} {dp : Int} (h : DecAt w B b g cap ds dp) (y : Int) : DecAt (w.setCell ⟨b, 1, none⟩ (.int .i64 y)) B b g cap ds y :=
 ⟨blk_setCell h.blk _, ownsRow_setCell_other h.own (a := ⟨b, 1, none⟩) (fun e => h.ne (Option.some.inj e)) _⟩
theorem DecAt.short {w : World} {B b g cap : Nat} {ds : List Nat} {dp : Int} {d : Nat} (h : DecAt w B b g cap (ds ++ [d]) dp) :
  DecAt (w.setCell ⟨b, 0, none⟩ (.slice (some ⟨g, 0, none⟩) ds.length cap)) B b g cap ds dp := by
 have hne := h.ne; refine ⟨h.set0 _, by rw [cellsOf_len]; simp, Or.inr ?_⟩; rcases h.own.2 with ⟨h1, _⟩ | ⟨g', cap', cur, h1, h2, h3, h4, h5, h6, h7⟩
 · cases h1
 ·
  injection h1 with h1 _ h8
  subst h8; have h1 := Option.some.inj h1
  injection h1 with h1 _ _
  subst h1; refine ⟨g, cap, cur, rfl, h2, by rw [Below.heap_setCell _ _ _ _ hne]; exact h3, by simp at h4; omega, h5, h6, ?_⟩; have := congrArg (List.take ds.length) h7; rw [List.take_take] at this; simp only [cellsOf_append] at this; rw [List.take_append_of_le_length (by rw [cellsOf_len]; omega), List.take_of_length_le (l := cellsOf ds) (by rw [cellsOf_len]; omega)] at this; rw [← this]
  congr 1
  simp
set_option maxRecDepth 100000 in
set_option maxHeartbeats 1000000 in
theorem trim_is (w : World) (B b g cap : Nat) (ds : List Nat) (dp : Int) (h : DecAt w B b g cap ds dp) (hd : Dig ds) (hne : ds ≠ []) (hb : B ≤ b) :
  Calls Tryz.prog 173 #[.pointer (some ⟨b, 0, none⟩)] w fun e w' => e = .returned (.pointer (some ⟨b, 0, none⟩)) ∧
   ∃ ds' m, ds = ds' ++ List.replicate m 0 ∧ DecAt w' B b g cap ds' dp ∧ Dig ds' ∧ ds' ≠ [] ∧ Ends ds' ∧ Kp [b] w w' := by
 have H := hid h; have HD := hid hd; have HN := hid hne; clear h hd hne; go_enter Tryz.func173, Tryz.ntmps173
 go_wp2_with fail
 go_loopw [] (fun wr => ∃ ds' m, ds = ds' ++ List.replicate m 0 ∧ DecAt wr B b g cap ds' dp ∧ ds' ≠ [] ∧ Kp [b] w wr) (fun wr => lenAt b wr)
 case atStart => exact ⟨ds, 0, by simp, H.out, HN.out, Kp.refl _ _⟩
 case round =>
  obtain ⟨ds', m, h1, h2, h3, h4⟩ := hrel; have H1 := hid h1; have H2 := hid h2; have H4 := hid h4; have hlen : 0 < ds'.length := List.length_pos_iff.2 h3; have c0 := h2.c0; have c1 := h2.c1; have f0 := h2.fr 0; have hcap := h2.cap; have hdl := h2.dig (ds'.length - 1) (by omega); have k0 : decide ((ds'.length : Int) > 0) = true := by rw [decide_eq_true_eq]; omega
  have k1 : (0 : Int) ≤ (ds'.length : Int) - 1 := by omega
  have k2 : (ds'.length : Int) - 1 < (ds'.length : Int) := by omega
  have hw : IntKind.i64.wrap ((ds'.length : Int) - 1) = ((ds'.length - 1 : Nat) : Int) := by rw [IntWalk.i64_in _ (by unfold maxLen at hcap; omega)]; omega
  clear h1 h2 h3 h4; by_cases hz : dg ds' (ds'.length - 1) = 0
  ·
   rw [hz] at hdl; go_wp2_with fail
   go_quiet (fail)
   go_wp2_with fail
   have H2' : Hid (DecAt (wr.drewN nq) B b g cap ds' dp) := H2.out.hp rfl; have H4' : Hid (Kp [b] w (wr.drewN nq)) := H4.out.drewN nq; have hlw : lenAt b wr = ds'.length := lenAt_of H2.out; generalize hW : wr.drewN nq = w1 at *; clear c0 c1 f0 hdl hW; have c0 := H2'.out.c0; have c1 := H2'.out.c1; have f0 := H2'.out.fr 0; have hsl : (ds'.length : Int) - 1 ≤ (cap : Int) := by omega
   have hs2 : ((ds'.length - 1 : Nat) : Int) ≤ (cap : Int) := by omega
   go_still_tail 14, (by kernel_rfl)
   go_wp2_with fail
   obtain ⟨l, d, e⟩ : ∃ l d, ds' = l ++ [d] := ⟨ds'.dropLast, ds'.getLast (List.length_pos_iff.1 hlen), (List.dropLast_concat_getLast _).symm⟩; subst e; have ez : d = 0 := by simpa [dg] using hz
   subst ez; have hll : (l ++ [0]).length - 1 = l.length := by simp
   rw [hll]; have hN : l ≠ [] := by
    rintro rfl
    have := HD.out.head; rw [H1.out] at this; simp at this
   refine ⟨⟨l, m + 1, ?_, H2'.out.short.hp rfl, hN, (H4'.out.setCell (by simp) _).drew⟩, ?_⟩
   · rw [H1.out, List.append_assoc]; rfl
   · rw [lenAt_of (H2'.out.short.hp (w' := (w1.setCell ⟨b, 0, none⟩ (.slice (some ⟨g, 0, none⟩) l.length cap)).drew) rfl), hlw]
     simp
  ·
   have kz : ((dg ds' (ds'.length - 1) : Int) == 0) = false := by simp; omega
   have kn : ((ds'.length : Int) == 0) = false := beq_eq_false_iff_ne.2 (by omega); go_wp2_with fail
   go_quiet (fail)
   go_wp2_with fail
   go_ret; refine ⟨rfl, ds', m, H1.out, H2.out.hp rfl, ?_, List.length_pos_iff.1 hlen, hz, H4.out.drewN _⟩; have hD := HD.out; rw [H1.out] at hD; refine ⟨fun d hd => hD.small d (by simp [hd]), ?_⟩; have := hD.head
   cases ds' with
   | nil => simp at hlen
   | cons x l => simpa using this
end
end Go.Proofs.YtljaoopfomcaoaaGreatDoor
