import Derived.Sort.OwnSorted
import Derived.Sort.KeysCollected
import Derived.Test.YtljaoopfomcaoaaGreatDoorM36
set_option linter.all false
open Go.Lib (hid)
namespace Go.Proofs.YtljaoopfomcaoaaGreatDoor
section
open Go.RowKit
def nrm : Nat → JV → JV
 | 0, v => v
 | n + 1, v =>
  if v.kind = 1 then .mk 1 v.b 0 0 ⟨#[]⟩ [] [] else if v.kind = 2 then .mk 2 false v.i 0 ⟨#[]⟩ [] [] else if v.kind = 4 then .mk 4 false 0 v.f ⟨#[]⟩ [] [] else
  if v.kind = 5 then .mk 5 false 0 0 v.t [] [] else if v.kind = 6 then .mk 6 false 0 0 ⟨#[]⟩ [] (v.l.map (nrm n)) else
  if v.kind = 7 then .mk 7 false 0 0 ⟨#[]⟩ v.ks (v.l.map (nrm n)) else .mk v.kind false 0 0 ⟨#[]⟩ [] []
def VinPost (n : Nat) (w : World) (j : JV) (e : Ending) (w' : World) : Prop :=
 ∃ (kp : Option Addr) (kc : Nat) (lp : Option Addr) (lc : Nat), e = .returned (valOf (nrm n j) kp kc lp lc) ∧ Deep n w' (nrm n j) kp lp ∧ Kp [] w w'
theorem vas_b4 (b : Bool) (w : World) : (Instr.typeAssert (.iface 4 (.bool b)) 20 4 true).run Tryz.prog w = .ok (.tuple #[.bool b, .bool true]) w := by kernel_rfl
theorem vas_i4 (i : Int) (w : World) : (Instr.typeAssert (.iface 2 (.int .i64 i)) 20 4 true).run Tryz.prog w = .ok (.tuple #[.bool false, .bool false]) w := by kernel_rfl
theorem vas_i2 (i : Int) (w : World) : (Instr.typeAssert (.iface 2 (.int .i64 i)) 20 2 true).run Tryz.prog w = .ok (.tuple #[.int .i64 i, .bool true]) w := by kernel_rfl
theorem vas_f4 (f : Nat) (w : World) : (Instr.typeAssert (.iface 22 (.float .f64 f)) 20 4 true).run Tryz.prog w = .ok (.tuple #[.bool false, .bool false]) w := by kernel_rfl
theorem vas_f2 (f : Nat) (w : World) : (Instr.typeAssert (.iface 22 (.float .f64 f)) 20 2 true).run Tryz.prog w = .ok (.tuple #[.int .i64 0, .bool false]) w := by kernel_rfl
theorem vas_f22 (f : Nat) (w : World) : (Instr.typeAssert (.iface 22 (.float .f64 f)) 20 22 true).run Tryz.prog w = .ok (.tuple #[.float .f64 f, .bool true]) w := by kernel_rfl
theorem vas_t4 (s : ByteArray) (w : World) : (Instr.typeAssert (.iface 9 (.string s)) 20 4 true).run Tryz.prog w = .ok (.tuple #[.bool false, .bool false]) w := by kernel_rfl
theorem vas_t2 (s : ByteArray) (w : World) : (Instr.typeAssert (.iface 9 (.string s)) 20 2 true).run Tryz.prog w = .ok (.tuple #[.int .i64 0, .bool false]) w := by kernel_rfl
theorem vas_t22 (s : ByteArray) (w : World) : (Instr.typeAssert (.iface 9 (.string s)) 20 22 true).run Tryz.prog w = .ok (.tuple #[.float .f64 0, .bool false]) w := by kernel_rfl
theorem vas_t9 (s : ByteArray) (w : World) : (Instr.typeAssert (.iface 9 (.string s)) 20 9 true).run Tryz.prog w = .ok (.tuple #[.string s, .bool true]) w := by kernel_rfl
theorem vas_l4 (p : Option Addr) (n c : Nat) (w : World) : (Instr.typeAssert (.iface 85 (.slice p n c)) 20 4 true).run Tryz.prog w = .ok (.tuple #[.bool false, .bool false]) w := by kernel_rfl
theorem vas_l2 (p : Option Addr) (n c : Nat) (w : World) : (Instr.typeAssert (.iface 85 (.slice p n c)) 20 2 true).run Tryz.prog w = .ok (.tuple #[.int .i64 0, .bool false]) w := by kernel_rfl
theorem vas_l22 (p : Option Addr) (n c : Nat) (w : World) : (Instr.typeAssert (.iface 85 (.slice p n c)) 20 22 true).run Tryz.prog w = .ok (.tuple #[.float .f64 0, .bool false]) w := by kernel_rfl
theorem vas_l9 (p : Option Addr) (n c : Nat) (w : World) : (Instr.typeAssert (.iface 85 (.slice p n c)) 20 9 true).run Tryz.prog w = .ok (.tuple #[.string ⟨#[]⟩, .bool false]) w := by kernel_rfl
theorem vas_l85 (p : Option Addr) (n c : Nat) (w : World) : (Instr.typeAssert (.iface 85 (.slice p n c)) 20 85 true).run Tryz.prog w = .ok (.tuple #[.slice p n c, .bool true]) w := by kernel_rfl
theorem vas_m4 (r : Nat) (w : World) : (Instr.typeAssert (.iface 55 (.map (some r))) 20 4 true).run Tryz.prog w = .ok (.tuple #[.bool false, .bool false]) w := by kernel_rfl
theorem vas_m2 (r : Nat) (w : World) : (Instr.typeAssert (.iface 55 (.map (some r))) 20 2 true).run Tryz.prog w = .ok (.tuple #[.int .i64 0, .bool false]) w := by kernel_rfl
theorem vas_m22 (r : Nat) (w : World) : (Instr.typeAssert (.iface 55 (.map (some r))) 20 22 true).run Tryz.prog w = .ok (.tuple #[.float .f64 0, .bool false]) w := by kernel_rfl
theorem vas_m9 (r : Nat) (w : World) : (Instr.typeAssert (.iface 55 (.map (some r))) 20 9 true).run Tryz.prog w = .ok (.tuple #[.string ⟨#[]⟩, .bool false]) w := by kernel_rfl
theorem vas_m85 (r : Nat) (w : World) : (Instr.typeAssert (.iface 55 (.map (some r))) 20 85 true).run Tryz.prog w = .ok (.tuple #[.slice none 0 0, .bool false]) w := by kernel_rfl
theorem vas_m3 (r : Nat) (w : World) : (Instr.typeAssert (.iface 55 (.map (some r))) 20 3 true).run Tryz.prog w = .ok (.tuple #[.int .i64 0, .bool false]) w := by kernel_rfl
theorem vas_m94 (r : Nat) (w : World) : (Instr.typeAssert (.iface 55 (.map (some r))) 20 94 true).run Tryz.prog w = .ok (.tuple #[.pointer none, .bool false]) w := by kernel_rfl
theorem vas_m98 (r : Nat) (w : World) : (Instr.typeAssert (.iface 55 (.map (some r))) 20 98 true).run Tryz.prog w = .ok (.tuple #[.map none, .bool false]) w := by kernel_rfl
theorem vas_m55 (r : Nat) (w : World) : (Instr.typeAssert (.iface 55 (.map (some r))) 20 55 true).run Tryz.prog w = .ok (.tuple #[.map (some r), .bool true]) w := by kernel_rfl
attribute [local go_sem] vas_b4 vas_i4 vas_i2 vas_f4 vas_f2 vas_f22 vas_t4 vas_t2 vas_t22 vas_t9 vas_l4 vas_l2 vas_l22 vas_l9 vas_l85 vas_m4 vas_m2 vas_m22 vas_m9 vas_m85 vas_m3 vas_m94 vas_m98 vas_m55
set_option maxRecDepth 100000 in
set_option maxHeartbeats 1000000 in
theorem vin_0 (n : Nat) (w : World) (j : JV) (d : Nat) (hk : j.kind = 0) (hd : d ≤ 4000) : Calls Tryz.prog 41 #[.nilIface, .int .i64 d] w (VinPost (n + 1) w j) := by
 have k1 : decide ((d : Int) > 4000) = false := by rw [decide_eq_false_iff_not]; omega
 have hh : ((w.alloc (.cells #[.int .i64 0, .bool false, .int .i64 0, .float .f64 0, .string ⟨#[]⟩, .slice none 0 0, .slice none 0 0] 26)).setRow w.heap.size #[.int .i64 0, .bool false, .int .i64 0, .float .f64 0, .string ⟨#[]⟩, .slice none 0 0, .slice none 0 0]).heap[w.heap.size]? = some (.cells #[.int .i64 0, .bool false, .int .i64 0, .float .f64 0, .string ⟨#[]⟩, .slice none 0 0, .slice none 0 0] 26 (0, 0)) := setRow_heap _ _ _ _ 26 _ (heap_alloc_new _ _); have hcopy := copy_kp' w #[.int .i64 0, .bool false, .int .i64 0, .float .f64 0, .string ⟨#[]⟩, .slice none 0 0, .slice none 0 0] #[.int .i64 0, .bool false, .int .i64 0, .float .f64 0, .string ⟨#[]⟩, .slice none 0 0, .slice none 0 0]; have hN : valOf (nrm (n + 1) j) none 0 none 0 = .agg #[.int .i64 0, .bool false, .int .i64 0, .float .f64 0, .string ⟨#[]⟩, .slice none 0 0, .slice none 0 0] := by unfold nrm; simp only [hk]; rfl
 have hD : ∀ w', Deep (n + 1) w' (nrm (n + 1) j) none none := fun w' => by unfold nrm; simp only [hk]; exact ⟨Or.inl rfl, Or.inl rfl⟩
 have HN := hid hN; have HD := hid hD; have HC := hid hcopy; have HH := hid hh; clear hh hcopy hN hD; go_enter Tryz.func41, Tryz.ntmps41
 go_wp2_with (refine wpList_store_row rfl 26 _ _ rfl w.heap.size #[.int .i64 0, .bool false, .int .i64 0, .float .f64 0, .string ⟨#[]⟩, .slice none 0 0, .slice none 0 0] ?_ ?_ 26 #[.int .i64 0, .bool false, .int .i64 0, .float .f64 0, .string ⟨#[]⟩, .slice none 0 0, .slice none 0 0] ?_ ?_ ?_ ?_ ?_; go_must (rfl); go_must (rfl); go_must (exact heap_alloc_new _ _); go_must (kernel_rfl); go_must (rfl); go_must (simp [Value.oneCell']))
 refine bodyPost_ret (results_cell_row rfl _ _ w.heap.size 26 _ (0, 0) _ rfl HH.out Tryz.underlying26 rfl (by kernel_rfl)) rfl ?_; exact ⟨none, 0, none, 0, by rw [HN.out], HD.out _, HC.out⟩
set_option maxRecDepth 100000 in
set_option maxHeartbeats 1000000 in
theorem vin_1 (n : Nat) (w : World) (j : JV) (d : Nat) (hk : j.kind = 1) (hd : d ≤ 4000) : Calls Tryz.prog 41 #[.iface 4 (.bool j.b), .int .i64 d] w (VinPost (n + 1) w j) := by
 have k1 : decide ((d : Int) > 4000) = false := by rw [decide_eq_false_iff_not]; omega
 have hh : ((w.alloc (.cells #[.int .i64 0, .bool false, .int .i64 0, .float .f64 0, .string ⟨#[]⟩, .slice none 0 0, .slice none 0 0] 26)).setRow w.heap.size #[.int .i64 1, .bool j.b, .int .i64 0, .float .f64 0, .string ⟨#[]⟩, .slice none 0 0, .slice none 0 0]).heap[w.heap.size]? = some (.cells #[.int .i64 1, .bool j.b, .int .i64 0, .float .f64 0, .string ⟨#[]⟩, .slice none 0 0, .slice none 0 0] 26 (0, 0)) := setRow_heap _ _ _ _ 26 _ (heap_alloc_new _ _); have hcopy := copy_kp' w #[.int .i64 1, .bool j.b, .int .i64 0, .float .f64 0, .string ⟨#[]⟩, .slice none 0 0, .slice none 0 0] #[.int .i64 0, .bool false, .int .i64 0, .float .f64 0, .string ⟨#[]⟩, .slice none 0 0, .slice none 0 0]; have hN : valOf (nrm (n + 1) j) none 0 none 0 = .agg #[.int .i64 1, .bool j.b, .int .i64 0, .float .f64 0, .string ⟨#[]⟩, .slice none 0 0, .slice none 0 0] := by unfold nrm; simp only [hk]; rfl
 have hD : ∀ w', Deep (n + 1) w' (nrm (n + 1) j) none none := fun w' => by unfold nrm; simp only [hk]; exact ⟨Or.inl rfl, Or.inl rfl⟩
 have HN := hid hN; have HD := hid hD; have HC := hid hcopy; have HH := hid hh; clear hh hcopy hN hD; go_enter Tryz.func41, Tryz.ntmps41
 go_wp2_with (refine wpList_store_row rfl 26 _ _ rfl w.heap.size #[.int .i64 1, .bool j.b, .int .i64 0, .float .f64 0, .string ⟨#[]⟩, .slice none 0 0, .slice none 0 0] ?_ ?_ 26 #[.int .i64 0, .bool false, .int .i64 0, .float .f64 0, .string ⟨#[]⟩, .slice none 0 0, .slice none 0 0] ?_ ?_ ?_ ?_ ?_; go_must (rfl); go_must (rfl); go_must (exact heap_alloc_new _ _); go_must (kernel_rfl); go_must (rfl); go_must (simp [Value.oneCell']))
 refine bodyPost_ret (results_cell_row rfl _ _ w.heap.size 26 _ (0, 0) _ rfl HH.out Tryz.underlying26 rfl (by kernel_rfl)) rfl ?_; exact ⟨none, 0, none, 0, by rw [HN.out], HD.out _, HC.out⟩
set_option maxRecDepth 100000 in
set_option maxHeartbeats 1000000 in
theorem vin_2 (n : Nat) (w : World) (j : JV) (d : Nat) (hk : j.kind = 2) (hd : d ≤ 4000) : Calls Tryz.prog 41 #[.iface 2 (.int .i64 j.i), .int .i64 d] w (VinPost (n + 1) w j) := by
 have k1 : decide ((d : Int) > 4000) = false := by rw [decide_eq_false_iff_not]; omega
 have hh : ((w.alloc (.cells #[.int .i64 0, .bool false, .int .i64 0, .float .f64 0, .string ⟨#[]⟩, .slice none 0 0, .slice none 0 0] 26)).setRow w.heap.size #[.int .i64 2, .bool false, .int .i64 j.i, .float .f64 0, .string ⟨#[]⟩, .slice none 0 0, .slice none 0 0]).heap[w.heap.size]? = some (.cells #[.int .i64 2, .bool false, .int .i64 j.i, .float .f64 0, .string ⟨#[]⟩, .slice none 0 0, .slice none 0 0] 26 (0, 0)) := setRow_heap _ _ _ _ 26 _ (heap_alloc_new _ _); have hcopy := copy_kp' w #[.int .i64 2, .bool false, .int .i64 j.i, .float .f64 0, .string ⟨#[]⟩, .slice none 0 0, .slice none 0 0] #[.int .i64 0, .bool false, .int .i64 0, .float .f64 0, .string ⟨#[]⟩, .slice none 0 0, .slice none 0 0]
 have hN : valOf (nrm (n + 1) j) none 0 none 0 = .agg #[.int .i64 2, .bool false, .int .i64 j.i, .float .f64 0, .string ⟨#[]⟩, .slice none 0 0, .slice none 0 0] := by unfold nrm; simp only [hk]; rfl
 have hD : ∀ w', Deep (n + 1) w' (nrm (n + 1) j) none none := fun w' => by unfold nrm; simp only [hk]; exact ⟨Or.inl rfl, Or.inl rfl⟩
 have HN := hid hN; have HD := hid hD; have HC := hid hcopy; have HH := hid hh; clear hh hcopy hN hD; go_enter Tryz.func41, Tryz.ntmps41
 go_wp2_with (refine wpList_store_row rfl 26 _ _ rfl w.heap.size #[.int .i64 2, .bool false, .int .i64 j.i, .float .f64 0, .string ⟨#[]⟩, .slice none 0 0, .slice none 0 0] ?_ ?_ 26 #[.int .i64 0, .bool false, .int .i64 0, .float .f64 0, .string ⟨#[]⟩, .slice none 0 0, .slice none 0 0] ?_ ?_ ?_ ?_ ?_; go_must (rfl); go_must (rfl); go_must (exact heap_alloc_new _ _); go_must (kernel_rfl); go_must (rfl); go_must (simp [Value.oneCell']))
 refine bodyPost_ret (results_cell_row rfl _ _ w.heap.size 26 _ (0, 0) _ rfl HH.out Tryz.underlying26 rfl (by kernel_rfl)) rfl ?_; exact ⟨none, 0, none, 0, by rw [HN.out], HD.out _, HC.out⟩
set_option maxRecDepth 100000 in
set_option maxHeartbeats 1000000 in
theorem vin_4 (n : Nat) (w : World) (j : JV) (d : Nat) (hk : j.kind = 4) (hd : d ≤ 4000) : Calls Tryz.prog 41 #[.iface 22 (.float .f64 j.f), .int .i64 d] w (VinPost (n + 1) w j) := by
 have k1 : decide ((d : Int) > 4000) = false := by rw [decide_eq_false_iff_not]; omega
 have hh : ((w.alloc (.cells #[.int .i64 0, .bool false, .int .i64 0, .float .f64 0, .string ⟨#[]⟩, .slice none 0 0, .slice none 0 0] 26)).setRow w.heap.size #[.int .i64 4, .bool false, .int .i64 0, .float .f64 j.f, .string ⟨#[]⟩, .slice none 0 0, .slice none 0 0]).heap[w.heap.size]? = some (.cells #[.int .i64 4, .bool false, .int .i64 0, .float .f64 j.f, .string ⟨#[]⟩, .slice none 0 0, .slice none 0 0] 26 (0, 0)) := setRow_heap _ _ _ _ 26 _ (heap_alloc_new _ _); have hcopy := copy_kp' w #[.int .i64 4, .bool false, .int .i64 0, .float .f64 j.f, .string ⟨#[]⟩, .slice none 0 0, .slice none 0 0] #[.int .i64 0, .bool false, .int .i64 0, .float .f64 0, .string ⟨#[]⟩, .slice none 0 0, .slice none 0 0]
 have hN : valOf (nrm (n + 1) j) none 0 none 0 = .agg #[.int .i64 4, .bool false, .int .i64 0, .float .f64 j.f, .string ⟨#[]⟩, .slice none 0 0, .slice none 0 0] := by unfold nrm; simp only [hk]; rfl
 have hD : ∀ w', Deep (n + 1) w' (nrm (n + 1) j) none none := fun w' => by unfold nrm; simp only [hk]; exact ⟨Or.inl rfl, Or.inl rfl⟩
 have HN := hid hN; have HD := hid hD; have HC := hid hcopy; have HH := hid hh; clear hh hcopy hN hD; go_enter Tryz.func41, Tryz.ntmps41
 go_wp2_with (refine wpList_store_row rfl 26 _ _ rfl w.heap.size #[.int .i64 4, .bool false, .int .i64 0, .float .f64 j.f, .string ⟨#[]⟩, .slice none 0 0, .slice none 0 0] ?_ ?_ 26 #[.int .i64 0, .bool false, .int .i64 0, .float .f64 0, .string ⟨#[]⟩, .slice none 0 0, .slice none 0 0] ?_ ?_ ?_ ?_ ?_; go_must (rfl); go_must (rfl); go_must (exact heap_alloc_new _ _); go_must (kernel_rfl); go_must (rfl); go_must (simp [Value.oneCell']))
 refine bodyPost_ret (results_cell_row rfl _ _ w.heap.size 26 _ (0, 0) _ rfl HH.out Tryz.underlying26 rfl (by kernel_rfl)) rfl ?_; exact ⟨none, 0, none, 0, by rw [HN.out], HD.out _, HC.out⟩
set_option maxRecDepth 100000 in
set_option maxHeartbeats 1000000 in
theorem vin_5 (n : Nat) (w : World) (j : JV) (d : Nat) (hk : j.kind = 5) (hd : d ≤ 4000) : Calls Tryz.prog 41 #[.iface 9 (.string j.t), .int .i64 d] w (VinPost (n + 1) w j) := by
 have k1 : decide ((d : Int) > 4000) = false := by rw [decide_eq_false_iff_not]; omega
 have hh : ((w.alloc (.cells #[.int .i64 0, .bool false, .int .i64 0, .float .f64 0, .string ⟨#[]⟩, .slice none 0 0, .slice none 0 0] 26)).setRow w.heap.size #[.int .i64 5, .bool false, .int .i64 0, .float .f64 0, .string j.t, .slice none 0 0, .slice none 0 0]).heap[w.heap.size]? = some (.cells #[.int .i64 5, .bool false, .int .i64 0, .float .f64 0, .string j.t, .slice none 0 0, .slice none 0 0] 26 (0, 0)) := setRow_heap _ _ _ _ 26 _ (heap_alloc_new _ _); have hcopy := copy_kp' w #[.int .i64 5, .bool false, .int .i64 0, .float .f64 0, .string j.t, .slice none 0 0, .slice none 0 0] #[.int .i64 0, .bool false, .int .i64 0, .float .f64 0, .string ⟨#[]⟩, .slice none 0 0, .slice none 0 0]; have hN : valOf (nrm (n + 1) j) none 0 none 0 = .agg #[.int .i64 5, .bool false, .int .i64 0, .float .f64 0, .string j.t, .slice none 0 0, .slice none 0 0] := by unfold nrm; simp only [hk]; rfl
 have hD : ∀ w', Deep (n + 1) w' (nrm (n + 1) j) none none := fun w' => by unfold nrm; simp only [hk]; exact ⟨Or.inl rfl, Or.inl rfl⟩
 have HN := hid hN; have HD := hid hD; have HC := hid hcopy; have HH := hid hh; clear hh hcopy hN hD; go_enter Tryz.func41, Tryz.ntmps41
 go_wp2_with (refine wpList_store_row rfl 26 _ _ rfl w.heap.size #[.int .i64 5, .bool false, .int .i64 0, .float .f64 0, .string j.t, .slice none 0 0, .slice none 0 0] ?_ ?_ 26 #[.int .i64 0, .bool false, .int .i64 0, .float .f64 0, .string ⟨#[]⟩, .slice none 0 0, .slice none 0 0] ?_ ?_ ?_ ?_ ?_; go_must (rfl); go_must (rfl); go_must (exact heap_alloc_new _ _); go_must (kernel_rfl); go_must (rfl); go_must (simp [Value.oneCell']))
 refine bodyPost_ret (results_cell_row rfl _ _ w.heap.size 26 _ (0, 0) _ rfl HH.out Tryz.underlying26 rfl (by kernel_rfl)) rfl ?_; exact ⟨none, 0, none, 0, by rw [HN.out], HD.out _, HC.out⟩
end
section
open Go.RowKit
def cells7 (v : JV) (kp : Option Addr) (kc : Nat) (lp : Option Addr) (lc : Nat) : List Value :=
 [.int .i64 v.kind, .bool v.b, .int .i64 v.i, .float .f64 v.f, .string v.t, .slice kp v.ks.length kc, .slice lp v.l.length lc]
def KeysF (F : Nat → Prop) (w : World) (ks : List ByteArray) (kp : Option Addr) : Prop :=
 ks = [] ∨ ∃ g o : Nat, kp = some ⟨g, o, none⟩ ∧ F g ∧ g < w.heap.size ∧ ∀ i (h : i < ks.length), w.cell? ⟨g, o + i, none⟩ = some (.string ks[i])
def DeepF : Nat → (Nat → Prop) → World → JV → Option Addr → Option Addr → Prop
 | 0, _, _, _, _, _ => False
 | n + 1, F, w, v, kp, lp => KeysF F w v.ks kp ∧
  (v.l = [] ∨ ∃ g o : Nat, lp = some ⟨g, o, none⟩ ∧ F g ∧ g < w.heap.size ∧ ∀ i (h : i < v.l.length), ∃ kp' kc' lp' lc', At7 w g (o + i * 7) v.l[i] kp' kc' lp' lc' ∧ DeepF n F w v.l[i] kp' lp')
theorem KeysF.strs {F : Nat → Prop} {w : World} {ks : List ByteArray} {kp : Option Addr} (h : KeysF F w ks kp) : StrsAt w kp ks := by
 rcases h with h | ⟨g, o, h1, _, _, h2⟩
 · exact Or.inl h
 · exact Or.inr ⟨g, o, h1, h2⟩
theorem KeysF.keep {F F' : Nat → Prop} {w w' : World} {ks : List ByteArray} {kp : Option Addr} (h : KeysF F w ks kp) (hs : w.heap.size ≤ w'.heap.size) (hk : ∀ g, F g → g < w.heap.size → F' g ∧ w'.heap[g]? = w.heap[g]?) : KeysF F' w' ks kp := by
 rcases h with h | ⟨g, o, h1, h2, h3, h4⟩
 · exact Or.inl h
 · exact Or.inr ⟨g, o, h1, (hk g h2 h3).1, by omega, fun i hi => by rw [World.cell?_of_block (w := w) (hk g h2 h3).2]; exact h4 i hi⟩
theorem At7.block {w w' : World} {g o : Nat} {v : JV} {kp : Option Addr} {kc : Nat} {lp : Option Addr} {lc : Nat} (h : At7 w g o v kp kc lp lc) (k : w'.heap[g]? = w.heap[g]?) : At7 w' g o v kp kc lp lc := by
 obtain ⟨h0, h1, h2, h3, h4, h5, h6⟩ := h; refine ⟨?_, ?_, ?_, ?_, ?_, ?_, ?_⟩; all_goals
  rw [World.cell?_of_block (w := w) k]
  assumption
theorem DeepF.deep {F : Nat → Prop} {w : World} : ∀ {n : Nat} {v : JV} {kp lp : Option Addr}, DeepF n F w v kp lp → Deep n w v kp lp
 | 0, _, _, _, h => h.elim
 | n + 1, v, kp, lp, ⟨h1, h2⟩ => by
  refine ⟨h1.strs, ?_⟩; rcases h2 with h2 | ⟨g, o, h3, _, _, h4⟩
  · exact Or.inl h2
  · refine Or.inr ⟨g, o, h3, fun i hi => ?_⟩
    obtain ⟨a, b, c, d, h5, h6⟩ := h4 i hi; exact ⟨a, b, c, d, h5, h6.deep⟩
theorem DeepF.keep {F F' : Nat → Prop} {w w' : World} (hs : w.heap.size ≤ w'.heap.size) (hk : ∀ g, F g → g < w.heap.size → F' g ∧ w'.heap[g]? = w.heap[g]?) : ∀ {n : Nat} {v : JV} {kp lp : Option Addr}, DeepF n F w v kp lp → DeepF n F' w' v kp lp
 | 0, _, _, _, h => h.elim
 | n + 1, v, kp, lp, ⟨h1, h2⟩ => by
  refine ⟨h1.keep hs hk, ?_⟩; rcases h2 with h2 | ⟨g, o, h3, h3b, h3c, h4⟩
  · exact Or.inl h2
  · refine Or.inr ⟨g, o, h3, (hk g h3b h3c).1, by omega, fun i hi => ?_⟩
    obtain ⟨a, b, c, d, h5, h6⟩ := h4 i hi; exact ⟨a, b, c, d, h5.block (hk g h3b h3c).2, DeepF.keep hs hk h6⟩
theorem DeepF.mono {F : Nat → Prop} {w : World} : ∀ {n m : Nat} {v : JV} {kp lp : Option Addr}, n ≤ m → DeepF n F w v kp lp → DeepF m F w v kp lp
 | 0, _, _, _, _, _, h => h.elim
 | n + 1, 0, _, _, _, hm, _ => absurd hm (by omega)
 | n + 1, m + 1, v, kp, lp, hm, ⟨h1, h2⟩ => by
  refine ⟨h1, ?_⟩; rcases h2 with h2 | ⟨g, o, h3, h3b, h3c, h4⟩
  · exact Or.inl h2
  · refine Or.inr ⟨g, o, h3, h3b, h3c, fun i hi => ?_⟩
    obtain ⟨a, b, c, d, h5, h6⟩ := h4 i hi; exact ⟨a, b, c, d, h5, DeepF.mono (by omega) h6⟩
theorem StrsAt.all {w : World} {ks : List ByteArray} {kp : Option Addr} (h : StrsAt w kp ks) : KeysF (fun g => g < w.heap.size) w ks kp := by
 rcases h with h | ⟨g, o, h1, h2⟩
 · exact Or.inl h
 ·
  cases ks with
  | nil => exact Or.inl rfl
  | cons k r =>
   have := cell_lt (h2 0 (by simp)); exact Or.inr ⟨g, o, h1, this, this, h2⟩
theorem Deep.all {w : World} : ∀ {n : Nat} {v : JV} {kp lp : Option Addr}, Deep n w v kp lp → DeepF n (fun g => g < w.heap.size) w v kp lp
 | 0, _, _, _, h => h.elim
 | n + 1, v, kp, lp, ⟨h1, h2⟩ => by
  refine ⟨h1.all, ?_⟩; by_cases hv : v.l = []
  · exact Or.inl hv
  rcases h2 with h2 | ⟨g, o, h3, h4⟩
  · exact Or.inl h2
  ·
   have h0 : 0 < v.l.length := List.length_pos_iff.2 hv; obtain ⟨a, b, c, d, ⟨h5, _⟩, _⟩ := h4 0 h0; have hg := cell_lt h5; refine Or.inr ⟨g, o, h3, hg, hg, fun i hi => ?_⟩; obtain ⟨a, b, c, d, h5, h6⟩ := h4 i hi; exact ⟨a, b, c, d, h5, h6.all⟩
def Fx (G : Nat → Prop) (w : World) (lv : Value) (g : Nat) : Prop := g < w.heap.size ∧ some g ≠ lv.ownBlock ∧ G g
structure VRow (G : Nat → Prop) (n B : Nat) (ls : List JV) (i : Nat) (lv : Value) (xs : List Value) (w : World) : Prop where
 own : w.ownsRow B 26 7 lv i xs
 reps : ∀ q (_ : q < i) (hl : q < ls.length), ∃ kp kc lp lc, (xs.drop (q * 7)).take 7 = cells7 ls[q] kp kc lp lc ∧ DeepF n (Fx G w lv) w ls[q] kp lp
theorem VRow.nil (G : Nat → Prop) (n B : Nat) (ls : List JV) (w : World) : VRow G n B ls 0 (.slice none 0 0) [] w := ⟨⟨rfl, Or.inl ⟨rfl, rfl⟩⟩, fun q h => absurd h (Nat.not_lt_zero q)⟩
theorem own_kp_in {S : List Nat} {w w' : World} {B : Nat} {e : TypeId} {k : Nat} {v : Value} {n : Nat} {xs : List Value} (h : w.ownsRow B e k v n xs)
  (hk : Kp S w w') (hs : ∀ x, x ∈ S → some x ≠ v.ownBlock) : w'.ownsRow B e k v n xs := by
 refine ⟨h.1, ?_⟩; rcases h.2 with ⟨rfl, h0⟩ | ⟨g, cap, cur, rfl, h1, h2, h3⟩
 · exact Or.inl ⟨rfl, h0⟩
 · exact Or.inr ⟨g, cap, cur, rfl, h1, by rw [hk.block g (lt_of_block h2) (fun c => hs g c rfl)]; exact h2, h3⟩
theorem VRow.keep {S : List Nat} {G : Nat → Prop} {n B : Nat} {ls : List JV} {i : Nat} {lv : Value} {xs : List Value} {w w' : World} (h : VRow G n B ls i lv xs w) (hk : Kp S w w') (hs : ∀ x ∈ S, some x ≠ lv.ownBlock ∧ ¬ G x) : VRow G n B ls i lv xs w' := by
 refine ⟨own_kp_in h.own hk fun x hx => (hs x hx).1, fun q hq hl => ?_⟩; obtain ⟨kp, kc, lp, lc, h1, h2⟩ := h.reps q hq hl; have := hk.size; exact ⟨kp, kc, lp, lc, h1, h2.keep hk.size fun g hg hgs => ⟨⟨by omega, hg.2.1, hg.2.2⟩, hk.block g hgs fun c => (hs g c).2 hg.2.2⟩⟩
theorem VRow.step {G : Nat → Prop} {n B : Nat} {ls : List JV} {i : Nat} {lv lv' : Value} {xs : List Value} {w4 w5 : World} {o : Obj} {kp : Option Addr} {kc : Nat} {lp : Option Addr} {lc : Nat} (h : VRow G n B ls i lv xs w4) (hi : i < ls.length)
  (hd : DeepF n (Fx G w4 lv) w4 ls[i] kp lp) (ho : w5.ownsRow B 26 7 lv' (i + 1) (xs ++ cells7 ls[i] kp kc lp lc)) (hg : (w4.alloc o).grownBy w5 lv.ownBlock) (hl : lv'.ownBlock = lv.ownBlock ∨ lv'.ownBlock = some (w4.alloc o).heap.size) :
  VRow G n B ls (i + 1) lv' (xs ++ cells7 ls[i] kp kc lp lc) w5 := by
 have s5 := hg.size; have sa : (w4.alloc o).heap.size = w4.heap.size + 1 := by simp
 have hlen : xs.length = i * 7 := h.own.1; have kk : ∀ g, Fx G w4 lv g → g < w4.heap.size → Fx G w5 lv' g ∧ w5.heap[g]? = w4.heap[g]? := fun g hx hgs => by
  refine ⟨⟨by omega, ?_, hx.2.2⟩, ?_⟩
  · rcases hl with hl | hl
    · rw [hl]; exact hx.2.1
    · rw [hl]; intro e; have := Option.some.inj e; omega
  · rw [hg.block g (by omega) hx.2.1, Below.heap_alloc _ _ _ hgs]
 refine ⟨ho, fun q hq hql => ?_⟩; by_cases hqi : q < i
 · obtain ⟨a, b, c, d, h1, h2⟩ := h.reps q hqi hql
   refine ⟨a, b, c, d, ?_, h2.keep (by omega) kk⟩; rw [List.drop_append_of_le_length (by omega), List.take_append_of_le_length (by rw [List.length_drop]; omega)]; exact h1
 ·
  obtain rfl : q = i := by omega
  refine ⟨kp, kc, lp, lc, ?_, hd.keep (by omega) kk⟩; rw [← hlen, List.drop_left']
  · exact List.take_of_length_le (by simp [cells7])
  · rfl
theorem VRow.done {G : Nat → Prop} {n B : Nat} {ls : List JV} {lv : Value} {xs : List Value} {w : World} {F : Nat → Prop} (h : VRow G n B ls ls.length lv xs w) (hF : ∀ g, G g → g < w.heap.size → F g) (hF2 : ∀ g, B ≤ g → g < w.heap.size → F g) :
  ∃ (lp : Option Addr) (lc : Nat), lv = .slice lp ls.length lc ∧ (ls = [] ∨ ∃ g o : Nat, lp = some ⟨g, o, none⟩ ∧ F g ∧ g < w.heap.size ∧ ∀ i (hi : i < ls.length), ∃ kp' kc' lp' lc', At7 w g (o + i * 7) ls[i] kp' kc' lp' lc' ∧ DeepF n F w ls[i] kp' lp') := by
 rcases h.own.2 with ⟨rfl, hn⟩ | ⟨g, cap, cur, rfl, hb, hh, _, _, hsz, ht⟩
 · exact ⟨none, 0, by rw [hn], Or.inl (List.length_eq_zero_iff.1 hn)⟩
 ·
  refine ⟨some ⟨g, 0, none⟩, cap, rfl, Or.inr ⟨g, 0, rfl, hF2 g hb (lt_of_block hh), lt_of_block hh, fun i hi => ?_⟩⟩; obtain ⟨kp, kc, lp, lc, h1, h2⟩ := h.reps i hi hi; refine ⟨kp, kc, lp, lc, ?_, h2.keep (Nat.le_refl _) fun g' hg' _ => ⟨hF g' hg'.2.2 hg'.1, rfl⟩⟩; have cell : ∀ t x, t < 7 → (cells7 ls[i] kp kc lp lc)[t]? = some x → w.cell? ⟨g, 0 + i * 7 + t, none⟩ = some x := fun t x ht7 hx => by
   simp only [World.cell?, hh]; simp only [Option.isSome_none, Bool.false_eq_true, if_false]; rw [← h1, List.getElem?_take, if_pos ht7, List.getElem?_drop, ← ht, List.getElem?_take, if_pos (by omega), Array.getElem?_toList] at hx; rw [Nat.zero_add]; exact hx
  exact ⟨cell 0 _ (by omega) rfl, cell 1 _ (by omega) rfl, cell 2 _ (by omega) rfl, cell 3 _ (by omega) rfl, cell 4 _ (by omega) rfl, cell 5 _ (by omega) rfl, cell 6 _ (by omega) rfl⟩
theorem cells7_new (w : World) (v : JV) (kp : Option Addr) (kc : Nat) (lp : Option Addr) (lc : Nat) (t : TypeId) (f : Nat × Nat) (xs : Array Value) (hx : xs.toList = cells7 v kp kc lp lc) :
  ∀ (j : Nat) u, (cells7 v kp kc lp lc)[j]? = some u → (w.alloc (.cells xs t f)).cell? ((⟨w.heap.size, 0, none⟩ : Addr).add j) = some u := by
 intro j u hu; have e : (⟨w.heap.size, 0, none⟩ : Addr).add j = ⟨w.heap.size, j, none⟩ := by simp [Addr.add]; exact fun h => h.symm
 rw [e, cell_fresh, ← Array.getElem?_toList, hx]; exact hu
theorem cells7_one (v : JV) (kp : Option Addr) (kc : Nat) (lp : Option Addr) (lc : Nat) : ∀ u ∈ cells7 v kp kc lp lc, u.oneCell' = true := by
 intro u hu; simp [cells7] at hu; rcases hu with rfl | rfl | rfl | rfl | rfl | rfl | rfl <;> rfl
theorem info26 : (Tryz.prog.info? 26).map (fun i => (i.zero, i.size, i.bytes)) = some (some (.agg #[.int .i64 0, .bool false, .int .i64 0, .float .f64 0, .string ⟨#[]⟩, .slice none 0 0, .slice none 0 0]), 7, 96) := by kernel_rfl
end
section
open Go.RowKit
theorem AnyRep.kp {w w' : World} (k : Kp [] w w') {n : Nat} {F : Nat → Prop} {x : Value} {j : JV} (h : AnyRep n F w x j) : AnyRep n F w' x j :=
 h.keep k.size fun g h1 h2 => ⟨h1, k.block g h2 (by simp)⟩
def VinF (n : Nat) (w : World) (j : JV) (e : Ending) (w' : World) : Prop :=
 ∃ (kp : Option Addr) (kc : Nat) (lp : Option Addr) (lc : Nat), e = .returned (valOf (nrm n j) kp kc lp lc) ∧ DeepF n (Made w w') w' (nrm n j) kp lp ∧ Kp [] w w'
def VinGoes (n : Nat) : Prop := ∀ (F : Nat → Prop) (w : World) (x : Value) (j : JV) (c d : Nat), AnyRep n F w x j → RightC n j c → c ≤ 1000000 → d + n ≤ 4000 →
 Calls Tryz.prog 41 #[x, .int .i64 d] w (VinF n w j)
theorem vin_int {n : Nat} (h : VinGoes n) (F : Nat → Prop) (w : World) (x : Value) (j : JV) (c d : Nat) (y : Int) (hy : y = (d : Int)) (h1 : AnyRep n F w x j) (h2 : RightC n j c) (h3 : c ≤ 1000000) (h4 : d + n ≤ 4000) : Calls Tryz.prog 41 #[x, .int .i64 y] w (VinF n w j) := by
 subst hy; exact h F w x j c d h1 h2 h3 h4
structure VM (G : Nat → Prop) (n : Nat) (W1 : World) (ob : Nat) (kd : Int) (kv lv0 : Value) (ls : List JV) (i : Nat) (lv : Value) (xs : List Value) (w : World) : Prop where
 blk : w.heap[ob]? = some (.cells #[.int .i64 kd, .bool false, .int .i64 0, .float .f64 0, .string ⟨#[]⟩, kv, lv0] 26 (0, 0))
 row : VRow G n W1.heap.size ls i lv xs w
 kp' : Kp [ob] W1 w
 lt : ob < W1.heap.size
 ng : ¬ G ob
section
variable {G : Nat → Prop} {n : Nat} {W1 w w' : World} {ob : Nat} {kd : Int} {kv lv0 lv : Value} {ls : List JV} {i : Nat} {xs : List Value}
theorem VM.c5 (h : VM G n W1 ob kd kv lv0 ls i lv xs w) : w.cell? ⟨ob, 5, none⟩ = some kv := by simp [World.cell?, h.blk]
theorem VM.c6 (h : VM G n W1 ob kd kv lv0 ls i lv xs w) : w.cell? ⟨ob, 6, none⟩ = some lv0 := by simp [World.cell?, h.blk]
theorem VM.fr (h : VM G n W1 ob kd kv lv0 ls i lv xs w) (t : Nat) : w.frozen? ⟨ob, t, none⟩ = false := by simp [World.frozen?, h.blk]
theorem VM.own_ne (h : VM G n W1 ob kd kv lv0 ls i lv xs w) : some ob ≠ lv.ownBlock := fun e => by
 have := (h.row.own.lt ob e.symm).1; have := h.lt; omega
theorem VM.kp (h : VM G n W1 ob kd kv lv0 ls i lv xs w) (k : Kp [] w w') : VM G n W1 ob kd kv lv0 ls i lv xs w' :=
 ⟨by rw [k.block ob (lt_of_block h.blk) (by simp)]; exact h.blk, h.row.keep k (by simp), h.kp'.over k (by simp), h.lt, h.ng⟩
theorem VM.store (h : VM G n W1 ob kd kv lv0 ls i lv xs w) : VM G n W1 ob kd kv lv ls i lv xs (w.setCell ⟨ob, 6, none⟩ lv) := by
 have hk : Kp [ob] w (w.setCell ⟨ob, 6, none⟩ lv) := (Kp.refl _ _).setCell (Or.inl (by simp)) _; refine ⟨blk_setCell h.blk _, h.row.keep hk (by
  intro x hx; simp at hx; subst hx; exact ⟨h.own_ne, h.ng⟩), h.kp'.trans hk, h.lt, h.ng⟩
theorem step_vm {ops : Array Oper} {o : Oper} {a : Act} {Q : Exit → Act → World → Prop} {K : Act → World → Prop} {E : Prop} (hgd : o.guard = none) (s x : Operand) (ho : o.op = .call { callee := .builtin .append, args := #[s, x], argTypes := #[24, 24] }) (hs : a.eval s = lv)
  (hV : VM G n W1 ob kd kv lv0 ls i lv xs w) (xa : Array Value) (w0 : World) (hw0 : w0 = w.alloc (.cells xa 26)) (kp : Option Addr) (kc : Nat) (lp : Option Addr) (lc : Nat) (hil : i < ls.length) (y : JV) (hyl : y = ls[i]) (x7 : xa.toList = cells7 y kp kc lp lc) (c : Nat) (hx : a.eval x = .slice (some ⟨w.heap.size, 0, none⟩) 1 c)
  (hd : DeepF n (Fx G w lv) w y kp lp) (hle : i ≤ 1000000)
  (h : ∀ (p' : Option Addr) (n' c' : Nat) w', VM G n W1 ob kd kv lv0 ls (i + 1) (.slice p' n' c') (xs ++ cells7 y kp kc lp lc) w' → K (a.put o.dst (.slice p' n' c')) w') :
  if Region.wanted o (yielded ops a.tmps) = true then Oper.wp Tryz.prog o a w0 K Q else E := by
 have hw : Region.wanted o (yielded ops a.tmps) = true := by simp [Region.wanted, hgd]
 rw [if_pos hw]; subst hw0; subst hyl; obtain ⟨i0, hi, hz0, hz1, hz2⟩ := info_parts info26; have hk1 : Kp [] w (w.alloc (.cells xa 26)) := (Kp.refl _ _).alloc _; have hV2 := hV.kp hk1; have hown := hV2.row.own; have hrow : ∀ k, lv.ownBlock = some k → W1.heap.size ≤ k := fun k hk' => (hown.lt k hk').1
 obtain ⟨v', w', hr, h2, h3, h4⟩ := run_append_loc (w := w.alloc (.cells xa 26)) W1.heap.size 24 o.type 26 i0 _ 7 96 Tryz.underlying24 hi hz0 hz1 hz2 rfl (by decide) lv i xs hown ⟨w.heap.size, 0, none⟩ 1 c (by decide) (cells7 ls[i] kp kc lp lc) rfl
  (cells7_new w ls[i] kp kc lp lc 26 (0, 0) xa x7) (cells7_one _ _ _ _ _) (by unfold maxLen; omega) (by omega) hV2.kp'.size
 have hobw : ob < (w.alloc (.cells xa 26)).heap.size := lt_of_block hV2.blk; have hVn : VM G n W1 ob kd kv lv0 ls (i + 1) v' (xs ++ cells7 ls[i] kp kc lp lc) w' :=
  ⟨by rw [h3.block ob hobw hV.own_ne]; exact hV2.blk, hV.row.step hil hd h2 h3 h4, hV2.kp'.grown h3 hrow, hV.lt, hV.ng⟩
 obtain ⟨p', n', c', rfl⟩ : ∃ (p' : Option Addr) (n' c' : Nat), v' = .slice p' n' c' := by
  rcases h2.2 with ⟨rfl, _⟩ | ⟨g, cap, cur, rfl, _⟩
  · exact ⟨none, 0, 0, rfl⟩
  · exact ⟨_, _, _, rfl⟩
 unfold Oper.wp execOp; simp only [ho, resolve, invoke, builtin, Sem.run_bind, Sem.run_pure, Result.andThen_ok, List.map_toArray, List.map_cons, List.map_nil, hs, hx, hr]; exact h p' n' c' w' hVn
end
theorem RightL.len {n : Nat} : ∀ {l : List JV} {c : Nat}, RightL (RightC n) l c → l.length ≤ c
 | [], _, _ => Nat.zero_le _
 | x :: r, c, ⟨a, b, h1, h2, e⟩ => by
  have h3 := h2.len; have h4 : 1 ≤ a := by
   cases n with
   | zero => exact h1.elim
   | succ n =>
    obtain ⟨_, _, h⟩ := h1; rcases h with ⟨_, h⟩ | ⟨_, _, h⟩ | ⟨_, m, h, _⟩ <;> omega
  simp; omega
attribute [local go_sem] vas_l4 vas_l2 vas_l22 vas_l9 vas_l85
theorem vin_fx {n : Nat} {W1 wr wc w4 : World} {ob : Nat} {kd : Int} {kv lv0 lv : Value} {ls : List JV} {i : Nat} {xs : List Value} {y : JV} {kp lp : Option Addr} (hd : DeepF n (Made wc w4) w4 y kp lp) (hV : VM (fun g => W1.heap.size ≤ g) n W1 ob kd kv lv0 ls i lv xs wr) (hc : wr.heap.size ≤ wc.heap.size) :
  DeepF n (Fx (fun g => W1.heap.size ≤ g) w4 lv) w4 y kp lp := by
 have s1 := hV.kp'.size; refine hd.keep (Nat.le_refl _) fun g hg _ => ⟨⟨hg.2, fun e => ?_, by have := hg.1; show W1.heap.size ≤ g; omega⟩, rfl⟩
 have h1 := (hV.row.own.lt g e.symm).2; have h2 := hg.1; omega
set_option maxRecDepth 100000 in
set_option maxHeartbeats 2000000 in
theorem vin_list (n : Nat) (IH : VinGoes n) (F : Nat → Prop) (w : World) (j : JV) (a : Option Addr) (cap c d : Nat) (hk : j.kind = 6) (hd : d + (n + 1) ≤ 4000) (hR : RightL (RightC n) j.l c) (hc : c ≤ 1000000)
  (hl : j.l = [] ∨ ∃ g, a = some ⟨g, 0, none⟩ ∧ F g ∧ g < w.heap.size ∧ ∀ k (h : k < j.l.length), ∃ x, w.cell? ⟨g, k, none⟩ = some x ∧ AnyRep n F w x j.l[k]) :
  Calls Tryz.prog 41 #[.iface 85 (.slice a j.l.length cap), .int .i64 d] w (VinF (n + 1) w j) := by
 have k1 : decide ((d : Int) > 4000) = false := by rw [decide_eq_false_iff_not]; omega
 have hlen := hR.len; have HR := hid hR; have HL := hid hl; have HIH := hid IH; have HKd := hid hk; clear hR hl IH hk; go_enter Tryz.func41, Tryz.ntmps41
 go_wp2_with (refine wpList_store_row rfl 26 _ _ rfl (w.heap.size + 1) #[.int .i64 6, .bool false, .int .i64 0, .float .f64 0, .string ⟨#[]⟩, .slice none 0 0, .slice none 0 0] ?_ ?_ 26 #[.int .i64 0, .bool false, .int .i64 0, .float .f64 0, .string ⟨#[]⟩, .slice none 0 0, .slice none 0 0] ?_ ?_ ?_ ?_ ?_; go_must (rfl); go_must (rfl); go_must (exact heap_alloc2_new _ _ _); go_must (kernel_rfl); go_must (rfl); go_must (simp [Value.oneCell']))
 have hob : (((w.alloc (.cells #[.int .i64 0, .bool false, .int .i64 0, .float .f64 0, .string ⟨#[]⟩, .slice none 0 0, .slice none 0 0] 26)).alloc (.cells #[.int .i64 0, .bool false, .int .i64 0, .float .f64 0, .string ⟨#[]⟩, .slice none 0 0, .slice none 0 0] 26)).setRow (w.heap.size + 1) #[.int .i64 6, .bool false, .int .i64 0, .float .f64 0, .string ⟨#[]⟩, .slice none 0 0, .slice none 0 0]).heap[w.heap.size + 1]? = some (.cells #[.int .i64 6, .bool false, .int .i64 0, .float .f64 0, .string ⟨#[]⟩, .slice none 0 0, .slice none 0 0] 26 (0, 0)) := setRow_heap _ _ _ _ 26 _ (heap_alloc2_new _ _ _)
 have hb0 : (((w.alloc (.cells #[.int .i64 0, .bool false, .int .i64 0, .float .f64 0, .string ⟨#[]⟩, .slice none 0 0, .slice none 0 0] 26)).alloc (.cells #[.int .i64 0, .bool false, .int .i64 0, .float .f64 0, .string ⟨#[]⟩, .slice none 0 0, .slice none 0 0] 26)).setRow (w.heap.size + 1) #[.int .i64 6, .bool false, .int .i64 0, .float .f64 0, .string ⟨#[]⟩, .slice none 0 0, .slice none 0 0]).heap[w.heap.size]? = some (.cells #[.int .i64 0, .bool false, .int .i64 0, .float .f64 0, .string ⟨#[]⟩, .slice none 0 0, .slice none 0 0] 26 (0, 0)) := by
  rw [setRow_other _ _ _ _ (by omega), Below.heap_alloc _ _ _ (by simp), heap_alloc_new]
 have hk1 : Kp [] w (((w.alloc (.cells #[.int .i64 0, .bool false, .int .i64 0, .float .f64 0, .string ⟨#[]⟩, .slice none 0 0, .slice none 0 0] 26)).alloc (.cells #[.int .i64 0, .bool false, .int .i64 0, .float .f64 0, .string ⟨#[]⟩, .slice none 0 0, .slice none 0 0] 26)).setRow (w.heap.size + 1) #[.int .i64 6, .bool false, .int .i64 0, .float .f64 0, .string ⟨#[]⟩, .slice none 0 0, .slice none 0 0]) := by
  have h1 : Kp [] w ((w.alloc (.cells #[.int .i64 0, .bool false, .int .i64 0, .float .f64 0, .string ⟨#[]⟩, .slice none 0 0, .slice none 0 0] 26)).alloc (.cells #[.int .i64 0, .bool false, .int .i64 0, .float .f64 0, .string ⟨#[]⟩, .slice none 0 0, .slice none 0 0] 26)) := ((Kp.refl _ _).alloc _).alloc _; exact ⟨h1.os, h1.tape, h1.output, by rw [setRow_size]; exact h1.size, fun k hk hs => by rw [setRow_other _ _ _ _ (by omega)]; exact h1.block k hk hs⟩
 have hs1 : (((w.alloc (.cells #[.int .i64 0, .bool false, .int .i64 0, .float .f64 0, .string ⟨#[]⟩, .slice none 0 0, .slice none 0 0] 26)).alloc (.cells #[.int .i64 0, .bool false, .int .i64 0, .float .f64 0, .string ⟨#[]⟩, .slice none 0 0, .slice none 0 0] 26)).setRow (w.heap.size + 1) #[.int .i64 6, .bool false, .int .i64 0, .float .f64 0, .string ⟨#[]⟩, .slice none 0 0, .slice none 0 0]).heap.size = w.heap.size + 2 := by rw [setRow_size]; simp
 generalize hW : World.setRow _ _ _ = W1 at *; clear hW; generalize hobe : w.heap.size + 1 = ob at *; generalize hb0e : w.heap.size = b0 at *; have hst : VM (fun g => W1.heap.size ≤ g) n W1 ob 6 (.slice none 0 0) (.slice none 0 0) (j.l.map (nrm n)) 0 (.slice none 0 0) [] W1 := ⟨hob, VRow.nil _ _ _ _ _, Kp.refl _ _, by omega, by omega⟩; have HSt := hid hst; have HB0 := hid hb0; have HK1 := hid hk1; have HS1 := hid hs1; have HE0 := hid hb0e; have HEo := hid hobe; clear hob hb0 hk1 hs1 hst hb0e hobe; go_wp2_with fail
 go_loopw [13, 54] (fun _ s54 wx => ∃ (i : Nat) (p : Option Addr) (q cp : Nat) (xs : List Value), s54 = .int .i64 (i : Int) ∧ i ≤ j.l.length ∧ VM (fun g => W1.heap.size ≤ g) n W1 ob 6 (.slice none 0 0) (.slice p q cp) (j.l.map (nrm n)) i (.slice p q cp) xs wx) (fun _ s54 _ => j.l.length - (intOf s54).toNat)
 case atStart => exact ⟨0, none, 0, 0, [], rfl, Nat.zero_le _, HSt.out⟩
 case round =>
  obtain ⟨i, p, q, cp, xs, rfl, hi, hI⟩ := hrel; have HI := hid hI; have c6 := hI.c6; have f6 := hI.fr 6; have hkw : Kp [] w wr := by
   have e1 := HS1.out; have e2 := HE0.out; have e3 := HEo.out; exact HK1.out.over hI.kp' (by simp; omega)
  have HKw := hid hkw; clear hI HSt hkw; by_cases hil : i < j.l.length
  ·
   have q1 : decide ((i : Int) < (j.l.length : Int)) = true := by rw [decide_eq_true_eq]; omega
   rcases HL.out with h0 | ⟨g, hlp, hFg, hg, hcs⟩
   · rw [h0] at hil; simp at hil
   obtain ⟨x, hx, hrep⟩ := hcs i hil; have hx := cell_kp hx HKw.out; have hrep := hrep.kp HKw.out; subst hlp; obtain ⟨ci, hRi, hci⟩ := HR.out.mem j.l[i] (List.getElem_mem hil); have HRep := hid hrep; have HRi := hid hRi; obtain ⟨y, hy⟩ : ∃ y, y = nrm n j.l[i] := ⟨_, rfl⟩; have HY := hid hy; have hil63 : (i : Int) + 1 ≤ 3000000 := by omega
   have hwd : IntKind.i64.wrap ((d : Int) + 1) = (d : Int) + 1 := IntWalk.i64_in _ (by omega); clear hcs hrep hRi hy hFg; have hil2 : i < (j.l.map (nrm n)).length := by rw [List.length_map]; exact hil
   have hyl : y = (j.l.map (nrm n))[i] := by rw [List.getElem_map]; exact HY.out
   have HYl := hid hyl; clear hyl; go_upto_region 25 with fail
   go_region_law (first | (refine step_vm rfl _ _ rfl (by simp [Act.eval, Act.put]) HV4.out _ _ rfl kp kc lp lc hil2 y HYl.out rfl 1 (by simp [Act.eval, Act.put]) HD4.out (by omega) ?_; intro p5 n5 c5 w5 hv5; have HV5 := hid hv5.store; have d6 := hv5.c6; have g6 := hv5.fr 6; clear hv5) | (go_simp; go_at_call 41; refine (vin_int HIH.out F _ x _ ci (d + 1) _ (by omega) (HRep.out.kp (by first | exact Kp.refl _ _ | exact (Kp.refl _ _).drew)) HRi.out (by omega) (by omega)).mono ?_; rintro e4 w4 ⟨kp, kc, lp, lc, he, hd4, hk4⟩; rw [← HY.out] at he hd4; unfold valOf at he; subst he; have HK4 := hid hk4; have hV4 := (HI.out.kp (by first | exact Kp.refl _ _ | exact (Kp.refl _ _).drew)).kp hk4; have HV4 := hid hV4; have d6 := hV4.c6; have g6 := hV4.fr 6; have hlt4 := lt_of_block hV4.blk; have HD4 := hid (vin_fx hd4 HI.out (by first | exact Nat.le_refl _ | (simp; done))); clear hk4 hV4 hd4))
   all_goals
    generalize hw7 : World.setCell _ _ _ = w7 at *; clear hw7 c6 f6; go_wp2_with fail
    go_roundw
    case measure => simp [intOf]; omega
    case rel => exact ⟨i + 1, p5, n5, c5, _, by push_cast; rfl, by omega, HV5.out⟩
  ·
   obtain rfl : i = j.l.length := by omega
   have q1 : decide ((j.l.length : Int) < (j.l.length : Int)) = false := by simp
   have e1 := HS1.out; have e2 := HE0.out; have e3 := HEo.out; have hbw : wr.heap[b0]? = some (.cells #[.int .i64 0, .bool false, .int .i64 0, .float .f64 0, .string ⟨#[]⟩, .slice none 0 0, .slice none 0 0] 26 (0, 0)) := by rw [HI.out.kp'.block b0 (by omega) (by simp; omega)]; exact HB0.out
   have HBw := hid hbw; have hE := kp_setRow wr b0 #[.int .i64 6, .bool false, .int .i64 0, .float .f64 0, .string ⟨#[]⟩, .slice none 0 0, .slice p q cp]; have hEh : (wr.setRow b0 #[.int .i64 6, .bool false, .int .i64 0, .float .f64 0, .string ⟨#[]⟩, .slice none 0 0, .slice p q cp]).heap[b0]? = some (.cells #[.int .i64 6, .bool false, .int .i64 0, .float .f64 0, .string ⟨#[]⟩, .slice none 0 0, .slice p q cp] 26 (0, 0)) := setRow_heap _ _ _ _ 26 _ hbw; have HE := hid hE; have HEh := hid hEh; have hrow := HI.out.row.keep hE (by
    intro x hx; simp at hx; subst hx; refine ⟨fun e => ?_, by omega⟩; have := (HI.out.row.own.lt x e.symm).1; omega)
   rw [show VRow (fun g => W1.heap.size ≤ g) n W1.heap.size (j.l.map (nrm n)) j.l.length = VRow (fun g => W1.heap.size ≤ g) n W1.heap.size (j.l.map (nrm n)) (j.l.map (nrm n)).length by rw [List.length_map]] at hrow; obtain ⟨lp, lc, hlv, hlist⟩ := hrow.done (F := Made w (wr.setRow b0 #[.int .i64 6, .bool false, .int .i64 0, .float .f64 0, .string ⟨#[]⟩, .slice none 0 0, .slice p q cp])) (fun g h1 h2 => ⟨by omega, h2⟩) (fun g h1 h2 => ⟨by omega, h2⟩); have HLv := hid hlv; have HList := hid hlist; clear e1 e2 e3 hbw hE hEh hrow hlv hlist
   go_wp2_with (first | (refine wpList_load_row rfl 26 _ rfl ob rfl 26 _ (0, 0) _ HI.out.blk Tryz.underlying26 rfl (by kernel_rfl) ?_) | (refine wpList_store_row rfl 26 _ _ rfl b0 #[.int .i64 6, .bool false, .int .i64 0, .float .f64 0, .string ⟨#[]⟩, .slice none 0 0, .slice p q cp] ?_ ?_ 26 #[.int .i64 0, .bool false, .int .i64 0, .float .f64 0, .string ⟨#[]⟩, .slice none 0 0, .slice none 0 0] ?_ ?_ ?_ ?_ ?_; go_must (rfl); go_must (rfl); go_must (exact HBw.out); go_must (kernel_rfl); go_must (rfl); go_must (simp [Value.oneCell'])))
   refine bodyPost_ret (results_cell_row rfl _ _ b0 26 _ (0, 0) _ rfl HEh.out Tryz.underlying26 rfl (by kernel_rfl)) rfl ?_; have hN : nrm (n + 1) j = .mk 6 false 0 0 ⟨#[]⟩ [] (j.l.map (nrm n)) := by unfold nrm; simp only [HKd.out]; rfl
   refine ⟨none, 0, lp, lc, ?_, ?_, HKw.out.over HE.out (by have := HE0.out; simp; omega)⟩
   · rw [hN, HLv.out]; rfl
   · rw [hN]; exact ⟨Or.inl rfl, HList.out⟩
end
section
open Go.RowKit Go.Sort
set_option maxRecDepth 100000 in
theorem ins_nil (w : World) : Calls Tryz.prog 94 #[.slice none 0 0, .int .i64 0, .int .i64 0] w fun e w' => e = .returned (.tuple #[]) ∧ Kp [] w w' := by
 go_enter Tryz.func94, Tryz.ntmps94
 go_wp2_with fail
 refine wp_loop_rounds 1 ?_; rw [rounds_succ]; go_wp2_with fail
 first | (refine bodyPost_ret (results_none rfl _ _ _) rfl ?_) | (refine bodyPost_end (results_none rfl _ _ _) rfl ?_)
 exact ⟨rfl, Kp.refl _ _⟩
set_option maxRecDepth 100000 in
theorem pdq_nil (w : World) (z : Int) : Calls Tryz.prog 66 #[.slice none 0 0, .int .i64 0, .int .i64 0, .int .i64 z] w fun e w' => e = .returned (.tuple #[]) ∧ Kp [] w w' := by
 go_enter Tryz.func66, Tryz.ntmps66
 go_wp2_with fail
 refine wp_loop_rounds 1 ?_; rw [rounds_succ]; go_wp2_with fail
 refine (ins_nil w).mono ?_
 rintro e w1 ⟨rfl, hk⟩
 go_wp2_with fail
 first | (refine bodyPost_ret (results_none rfl _ _ _) rfl ?_) | (refine bodyPost_end (results_none rfl _ _ _) rfl ?_)
 exact ⟨rfl, hk⟩
set_option maxRecDepth 100000 in
theorem sort_nil (w : World) : Calls Tryz.prog 48 #[.slice none 0 0] w fun e w' => e = .returned (.tuple #[]) ∧ Kp [] w w' := by
 go_enter Tryz.func48, Tryz.ntmps48
 go_wp2_with fail
 refine (Tryz.bits_Len 0 w (by omega) (by omega)).mono ?_
 rintro e w1 ⟨rfl, h⟩
 subst h; go_wp2_with fail
 refine (pdq_nil _ _).mono ?_
 rintro e w1 ⟨rfl, hk⟩
 go_wp2_with fail
 first | (refine bodyPost_ret (results_none rfl _ _ _) rfl ?_) | (refine bodyPost_end (results_none rfl _ _ _) rfl ?_)
 exact ⟨rfl, hk⟩
theorem sort_strs (w : World) (B : Nat) (p : Option Addr) (n cp : Nat) (ss : List (List UInt8)) (hn : ss.length = n) (h : w.ownsRow B 9 1 (.slice p n cp) n (ss.map encStr)) (hl : n < 4611686018427387904) :
  Calls Tryz.prog 48 #[.slice p n cp] w fun e w' => e = .returned (.tuple #[]) ∧ w'.ownsRow B 9 1 (.slice p n cp) n ((ss.mergeSort leB).map encStr) ∧ w.grownBy w' (Value.slice p n cp).ownBlock := by
 subst hn; rcases h.2 with ⟨hv, h0⟩ | ⟨g, cap, cur, hv, hb, hh, h1, h2, h3, h4⟩
 ·
  injection hv with e1 e2 e3
  have hs : ss = [] := List.length_eq_zero_iff.1 h0; subst hs e1 e3; refine (sort_nil w).mono ?_
  rintro e w' ⟨rfl, hk⟩
  exact ⟨rfl, by rw [show ([] : List (List UInt8)).mergeSort leB = [] by simp]; exact own_kp_in h hk (by simp), ⟨hk.os, hk.tape, hk.output, hk.size, fun i hi _ => hk.block i hi (by simp)⟩⟩
 ·
  injection hv with e1 e2 e3
  subst e1 e3; have hH : Holds encStr w g 0 ss.toArray := holds_of_block hh (by simpa using h4); refine (Tryz.slices_Sort_string g 0 cp ss w hH (lt_of_block hh) hl).mono ?_
  rintro e w' ⟨rfl, nn, os, rfl⟩
  exact ⟨rfl, ownsRow_sorted (by simp) hb hh h1 h2 h3, grownBy_sorted _⟩
theorem lexB_lt : ∀ a b : List UInt8, lexB a b = true → a < b
 | [], [], h => by simp [lexB] at h
 | [], _ :: _, _ => List.nil_lt_cons _ _
 | _ :: _, [], h => by simp [lexB] at h
 | a :: r, b :: s, h => by
  simp only [lexB, Bool.or_eq_true, decide_eq_true_eq, Bool.and_eq_true, beq_iff_eq] at h; rw [List.cons_lt_cons_iff]; rcases h with h | ⟨h1, h2⟩
  · exact Or.inl h
  · exact Or.inr ⟨h1, lexB_lt r s h2⟩
theorem keys_sorted {es : List (ByteArray × Value)} {ks : List ByteArray} {ss : List (List UInt8)} (hp : ss.Perm (strKeys (DataW.map (es.map entry)))) (hk : es.map (·.1) = ks) (hr : Rise ks) : (ss.mergeSort leB).map encStr = ks.map Value.string := by
 have e1 : strKeys (DataW.map (es.map entry)) = ks.map (·.data.toList) := by
  subst hk; simp [strKeys, entry, Go.strOf, Function.comp_def]
 rw [e1] at hp; rw [mergeSort_of_perm hp, List.mergeSort_of_pairwise]
 · simp [encStr, Function.comp_def]
 · rw [List.pairwise_map]
   refine List.Pairwise.imp (fun {a b} h => ?_) hr; simp only [leB, decide_eq_true_eq]; exact List.le_of_lt (lexB_lt _ _ h)
theorem size_entries (es : List (ByteArray × Value)) : Maps.size (DataW.map (es.map entry)) = es.length := by simp [Maps.size]
theorem zero20 (w : World) : (zeroValue 20).run Tryz.prog w = .ok .nilIface w := by kernel_rfl
theorem look_at {w : World} {r m : Nat} {es : List (ByteArray × Value)} (h : w.ownsMap Tryz.prog 9 RV r m (.map (es.map entry))) {i : Nat} (hi : i < es.length) :
  (Instr.lookup 55 (.map (some r)) (.string es[i].1) false).run Tryz.prog w = .ok es[i].2 w := by
 have hmem : entry es[i] ∈ es.map entry := List.mem_map.2 ⟨_, List.getElem_mem hi, rfl⟩; obtain ⟨es', hD, hap, hkl⟩ := h.entries strKeyed; have hD := DataW.map.inj hD; subst hD; obtain ⟨es2, hD2, hko⟩ := h.keysOf; have hD2 := DataW.map.inj hD2; subst hD2; obtain ⟨key, hkey⟩ := hko _ hmem; obtain ⟨x, hx, hx2, hxl⟩ := Maps.keyOf_str Tryz.underlying9 hkey; have hx3 : es[i].1.data.toList = x := by
  exact Lit.string.inj hx2
 have hsz : es[i].1.size ≤ maxLen := by
  have : es[i].1.size = x.length := by rw [← hx3, Array.length_toList]; rfl
  omega
 obtain ⟨v, ps, hrun, hv⟩ := h.lookup strKeyed Tryz.underlying55 (zero20 w) (zd := .held .nilIface) (zp := []) rfl (keyOf_str es[i].1 hsz); have hat : (DataW.map (es.map entry)).atKey (.string es[i].1.data.toList) (.held .nilIface) = .held es[i].2 := Go.WideAt.atKey_mem _ (hkl _ hmem) hap hmem; rw [hat] at hv; unfold RV at hv; have hv := Option.some.inj hv; have hv : v = es[i].2 := DataW.held.inj (congrArg Prod.fst hv); rw [hrun, hv]
theorem grown_setCell (w : World) (a : Addr) (v : Value) : w.grownBy (w.setCell a v) (some a.block) :=
 ⟨(Kp.refl [a.block] w).setCell (Or.inl (by simp)) v |>.os, ((Kp.refl [a.block] w).setCell (Or.inl (by simp)) v).tape, ((Kp.refl [a.block] w).setCell (Or.inl (by simp)) v).output, ((Kp.refl [a.block] w).setCell (Or.inl (by simp)) v).size,
  fun i hi hne => ((Kp.refl [a.block] w).setCell (Or.inl (by simp)) v).block i hi (fun c => hne (by simp at c; rw [c]))⟩
structure KM (W2 : World) (r it m ob : Nat) (es : List (ByteArray × Value)) (left : Lit → Bool) (cnt : Nat) (ss : List (List UInt8)) (lv : Value) (w : World) : Prop where
 rg : w.ranges Tryz.prog 9 RV r it m (.map (es.map entry)) left cnt
 blk : w.heap[ob]? = some (.cells #[.int .i64 7, .bool false, .int .i64 0, .float .f64 0, .string ⟨#[]⟩, lv, .slice none 0 0] 26 (0, 0))
 own : w.ownsRow W2.heap.size 9 1 lv ss.length (ss.map encStr)
 col : Collected (.map (es.map entry)) left ss
 cn : ss.length + cnt ≤ es.length
 kp' : Kp [ob, it] W2 w
 l1 : ob < W2.heap.size
 l2 : it < W2.heap.size
 l3 : r < W2.heap.size
 ne : ob ≠ it
 ne2 : ob ≠ r
section
variable {W2 : World} {r it m ob : Nat} {es : List (ByteArray × Value)} {left : Lit → Bool} {cnt : Nat} {ss : List (List UInt8)} {lv : Value} {w : World}
theorem KM.c5 (h : KM W2 r it m ob es left cnt ss lv w) : w.cell? ⟨ob, 5, none⟩ = some lv := by simp [World.cell?, h.blk]
theorem KM.fr (h : KM W2 r it m ob es left cnt ss lv w) (t : Nat) : w.frozen? ⟨ob, t, none⟩ = false := by simp [World.frozen?, h.blk]
theorem KM.next (h : KM W2 r it m ob es left cnt ss lv w) {w1 w3 : World} {x : List UInt8} {y : DataW Value} {cnt1 : Nat} {o : Obj} {lv' : Value} (hrg : w1.ranges Tryz.prog 9 RV r it m (.map (es.map entry)) (fun z => left z && !z.sameKey (.string x)) cnt1) (hc : cnt1 < cnt)
  (hlk : left (.string x) = true) (hat : ∀ zd, (DataW.map (es.map entry)).atKey (.string x) zd = y) (hg1 : w.grownBy w1 (some it))
  (ho : w3.ownsRow W2.heap.size 9 1 lv' (ss.length + 1) (ss.map encStr ++ [encStr x])) (hg : (w1.alloc o).grownBy w3 lv.ownBlock) :
  KM W2 r it m ob es (fun z => left z && !z.sameKey (.string x)) cnt1 (ss ++ [x]) lv' (w3.setCell ⟨ob, 5, none⟩ lv') := by
 have low : ∀ g, g < W2.heap.size → some g ≠ lv.ownBlock := fun g hg' e => by have := (h.own.lt g e.symm).1; omega
 have s0 := h.kp'.size; have s1 := hg1.size; have sa : (w1.alloc o).heap.size = w1.heap.size + 1 := by simp
 have s3 := hg.size; have hset := grown_setCell w3 ⟨ob, 5, none⟩ lv'; have b1 := h.l1; have b2 := h.l2; have b3 := h.l3; have hne := h.ne; have hne2 := h.ne2; have r3 : w3.ranges Tryz.prog 9 RV r it m (.map (es.map entry)) (fun z => left z && !z.sameKey (.string x)) cnt1 := (hrg.alloc o).kept hg (low r b3) (low it b2); have bk : w3.heap[ob]? = some (.cells #[.int .i64 7, .bool false, .int .i64 0, .float .f64 0, .string ⟨#[]⟩, lv, .slice none 0 0] 26 (0, 0)) := by
  rw [hg.block ob (by omega) (low ob b1), Below.heap_alloc _ _ _ (by omega), hg1.block ob (by omega) (by simp; exact hne)]; exact h.blk
 have k1 : Kp [ob, it] W2 w1 := ⟨hg1.os.trans h.kp'.os, hg1.tape.trans h.kp'.tape, hg1.output.trans h.kp'.output, by omega, fun g h1 h2 => by
  rw [hg1.block g (by omega) (by simp at h2 ⊢; exact h2.2), h.kp'.block g h1 h2]⟩
 have k3 : Kp [ob, it] W2 w3 := (k1.alloc o).grown hg fun k hk => (h.own.lt k hk).1
 have hlv' : some ob ≠ lv'.ownBlock := fun e => by have := (ho.lt ob e.symm).1; omega
 refine ⟨r3.kept hset (by simp; exact fun e => hne2 e.symm) (by simp; exact fun e => hne e.symm), blk_setCell bk _, ?_, h.col.step hlk hat, ?_, k3.setCell (Or.inl (by simp)) _, b1, b2, b3, hne, hne2⟩
 · rw [List.length_append, List.map_append]
   exact ho.kept hset (Or.inr hlv'.symm)
 · have := h.cn
   simp; omega
end
end
end Go.Proofs.YtljaoopfomcaoaaGreatDoor
