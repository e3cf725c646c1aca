import Derived.Test.YtljaoopfomcaoaaGreatDoorM10
import Derived.Test.YtljaoopfomcaoaaGreatDoorM18
set_option linter.all false
open Go.Lib (hid)
namespace Go.Proofs.YtljaoopfomcaoaaGreatDoor
section
open Go.RowKit
def DigAt (w : World) (b : Nat) (ds : List Nat) : Prop := ∀ i, i < ds.length → w.cell? ⟨b, i, none⟩ = some (.int .u8 ((48 + dg ds i : Nat) : Int))
abbrev encB : UInt8 → Value := fun (b : UInt8) => Value.int .u8 (b.toNat : Int)
theorem putRow_other (w : World) (b k : Nat) (d : Array UInt8) (h : k ≠ b) : (Sort.putRow encB w b 0 d).heap[k]? = w.heap[k]? := by
 unfold Sort.putRow Sort.mapBlock; simp [Array.getElem?_modify, Ne.symm h]
theorem putRow_size (w : World) (b : Nat) (d : Array UInt8) : (Sort.putRow encB w b 0 d).heap.size = w.heap.size := by
 unfold Sort.putRow Sort.mapBlock; simp
def SameTy (w w' : World) (b : Nat) : Prop := ∀ c T f, w.heap[b]? = some (Obj.cells c T f) → ∃ c', w'.heap[b]? = some (Obj.cells c' T f)
theorem putRow_ty (w : World) (b : Nat) (d : Array UInt8) (n : Nat) : SameTy w ((Sort.putRow encB w b 0 d).drewN n) b := by
 intro c T f h; refine ⟨Sort.putCells encB 0 d c, ?_⟩
 show (Sort.putRow encB w b 0 d).heap[b]? = _
 unfold Sort.putRow Sort.mapBlock; simp only [Array.getElem?_modify]; rw [if_pos True.intro, h]; rfl
theorem DigAt.blk {w : World} {b T : Nat} {ds : List Nat} (h : DigAt w b ds) {c : Array Value} {f : Nat × Nat} (hc : w.heap[b]? = some (.cells c T f)) : DigBlk w b T ds := by
 refine ⟨c, f, hc, fun i hi => ?_⟩; have := h i hi; simpa [World.cell?, hc] using this
set_option maxRecDepth 100000 in
set_option maxHeartbeats 1000000 in
theorem setDigits_is (w : World) (b N d nd : Nat) (p : Int) (z : Array UInt8) (hH : Sort.Holds encB w b 0 z) (hz : z.size = nd) (hN : nd ≤ N) (hN2 : N ≤ 1000) (hd1 : 1 ≤ d) (hd : d < 10 ^ nd) (hd64 : d < 18446744073709551616) (hnd : 1 ≤ nd) (hnd2 : nd ≤ 20)
  (hp1 : -1000 ≤ p) (hp2 : p ≤ 1000) (hbw : b < w.heap.size) :
  Calls Tryz.prog 79 #[.slice (some ⟨b, 0, none⟩) N N, .int .u64 d, .int .i64 p, .int .i64 nd] w fun e w' => ∃ (ds : List Nat) (m : Nat), e = .returned (.tuple #[.int .i64 ((nd : Int) + p), .int .i64 ds.length]) ∧
   tens nd d = ds ++ List.replicate m 0 ∧ ds ≠ [] ∧ dg ds (ds.length - 1) ≠ 0 ∧ DigAt w' b ds ∧ Kp [b] w w' ∧ SameTy w w' b := by
 have hcon := Tryz.internal_strconv_formatBase10 b 0 N d z w hH (by rw [hz]; exact hd) hd64 (by omega); rw [hz] at hcon; have HC := hid hcon; have HH := hid hH; have HZ := hid hz; have HD := hid hd; clear hH hcon hz hd; obtain ⟨full, hfull⟩ : ∃ full, full = tens nd d := ⟨_, rfl⟩; have hfl : full.length = nd := by rw [hfull, tens_len]
 have hfs : ∀ x ∈ full, x < 10 := by rw [hfull]; exact tens_small nd d
 have hfn : num full = d := by rw [hfull]; exact num_tens nd d HD.out
 have HFl := hid hfl; have HFs := hid hfs; have HFn := hid hfn; rw [← hfull]; have HFu := hid hfull; clear hfl hfs hfn hfull; go_enter Tryz.func79, Tryz.ntmps79
 go_wp2_with fail
 refine HC.out.mono ?_
 rintro e1 w1 ⟨rfl, n, v', dk, hw1, hF⟩
 have hDig : Hid (∀ i, i < nd → w1.cell? ⟨b, i, none⟩ = some (.int .u8 ((48 + dg full i : Nat) : Int))) := by
  intro i hi; have h1 := (Sort.holds_putRow encB w b 0 z dk HH.out (by rw [hF.size, HZ.out])) i (by rw [hF.size]; exact hi); rw [Nat.zero_add] at h1; rw [hw1]
  show World.cell? _ _ = _
  have h2 : ((Sort.putRow encB w b 0 dk).drewN n).cell? ⟨b, i, none⟩ = (Sort.putRow encB w b 0 dk).cell? ⟨b, i, none⟩ := rfl; rw [h2, h1.1, hF.done i (Nat.zero_le _) hi, HFu.out, tens_get nd d i hi]; have h3 : d / 10 ^ (nd - 1 - i) % 10 < 10 := Nat.mod_lt _ (by omega); unfold Lib.dg encB; rw [UInt8.toNat_ofNat']; have h4 : (48 + d / 10 ^ (nd - 1 - i) % 10) % 2 ^ 8 = 48 + d / 10 ^ (nd - 1 - i) % 10 := by omega
  rw [h4]
 have hK1 : Hid (Kp [b] w w1) := by
  rw [hw1]; have h1 : Kp [b] w (Sort.putRow encB w b 0 dk) := ⟨rfl, rfl, rfl, by rw [putRow_size]; exact Nat.le_refl _, fun k hk hs => putRow_other w b k dk (by simpa using hs)⟩; exact h1.drewN n
 have hTy : Hid (SameTy w w1 b) := by show SameTy _ _ _; rw [hw1]; exact putRow_ty w b dk n
 clear hw1 hF; go_wp2_with fail
 go_loop [3] (fun v3 => ∃ k : Nat, v3 = .int .i64 (k : Int) ∧ k ≤ nd ∧ ∀ i, k ≤ i → i < nd → dg full i = 0) (fun v3 => (intOf v3).toNat)
 case atStart => exact ⟨nd, rfl, Nat.le_refl _, fun i h1 h2 => by omega⟩
 case round =>
  obtain ⟨k, rfl, hk, hzr⟩ := hrel; have HZr := hid hzr; have hk0 : 0 < k := by
   rcases Nat.eq_zero_or_pos k with h | h
   ·
    exfalso
    subst h; have hall : full = List.replicate nd 0 := by
     apply List.ext_getElem?; intro i; rw [List.getElem?_replicate]; by_cases hi : i < nd
     · rw [if_pos hi]
       have := hzr i (Nat.zero_le _) hi; unfold dg at this; rw [List.getD_eq_getElem?_getD, List.getElem?_eq_getElem (by rw [HFl.out]; exact hi)] at this; rw [List.getElem?_eq_getElem (by rw [HFl.out]; exact hi)]; simpa using this
     · rw [if_neg hi, List.getElem?_eq_none (by rw [HFl.out]; omega)]
    have h0 := num_zeros [] nd; rw [List.nil_append, ← hall, HFn.out, num_nil] at h0; omega
   · exact h
  clear hzr; have hc := hDig.out (k - 1) (by omega); have hsmall := dg_lt HFs.out (k - 1); have k1 : decide ((k : Int) > 0) = true := by rw [decide_eq_true_eq]; omega
  have hi1 : (k : Int) - 1 = ((k - 1 : Nat) : Int) := by omega
  by_cases hz : dg full (k - 1) = 0
  ·
   rw [hz] at hc; have HZ0 := hid hz; clear hz; go_wp2_with fail
   refine ⟨⟨k - 1, rfl, by omega, fun i h1 h2 => ?_⟩, ?_⟩
   · by_cases h : i = k - 1
     · rw [h]; exact HZ0.out
     · exact HZr.out i (by omega) h2
   · show (((k - 1 : Nat) : Int)).toNat < ((k : Int)).toNat
     omega
  ·
   have k2 : (((48 + dg full (k - 1) : Nat) : Int) == 48) = false := by rw [beq_eq_false_iff_ne]; omega
   have HZ0 := hid hz; clear hz; go_wp2_with fail
   go_ret2
   have hlt : (full.take k).length = k := by rw [List.length_take, HFl.out]; omega
   have hdt : ∀ i, i < k → dg (full.take k) i = dg full i := fun i hi => by
    unfold dg; rw [List.getD_eq_getElem?_getD, List.getD_eq_getElem?_getD, List.getElem?_take, if_pos hi]
   refine ⟨full.take k, ?_, ⟨nd - k, ?_⟩, ?_, ?_, ?_, hK1.out, hTy.out⟩
   · rw [hlt]; rfl
   ·
    apply List.ext_getElem?; intro i; by_cases hi : i < k
    · rw [List.getElem?_append_left (by rw [hlt]; exact hi), List.getElem?_take, if_pos hi]
    ·
     rw [List.getElem?_append_right (by rw [hlt]; omega), hlt, List.getElem?_replicate]; by_cases hi2 : i < nd
     · rw [if_pos (by omega)]
       have := HZr.out i (by omega) hi2; unfold dg at this; rw [List.getD_eq_getElem?_getD, List.getElem?_eq_getElem (by rw [HFl.out]; exact hi2)] at this; rw [List.getElem?_eq_getElem (by rw [HFl.out]; exact hi2)]; simpa using this
     · rw [if_neg (by omega), List.getElem?_eq_none (by rw [HFl.out]; omega)]
   · intro e
     have := congrArg List.length e; rw [hlt] at this; simp at this; omega
   · rw [hlt, hdt _ (by omega)]
     exact HZ0.out
   · intro i hi
     rw [hlt] at hi; rw [hdt i hi]; exact hDig.out i (by omega)
end
end Go.Proofs.YtljaoopfomcaoaaGreatDoor
