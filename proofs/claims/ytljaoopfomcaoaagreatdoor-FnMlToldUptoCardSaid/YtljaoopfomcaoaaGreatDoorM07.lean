import Derived.Test.YtljaoopfomcaoaaGreatDoorM03
import Derived.Test.YtljaoopfomcaoaaGreatDoorM06
set_option linter.all false
open Go.Lib (hid)
namespace Go.Proofs.YtljaoopfomcaoaaGreatDoor
section
open Go.RowKit
attribute [local go_sem] bt_eq
def RdAt (w : World) (b : Nat) (s : ByteArray) (x : Int) : Prop := w.heap[b]? = some (.cells #[.string s, .int .i64 x, .bool false, .nilIface] 163 (0, 0))
theorem RdAt.c0 {w : World} {b : Nat} {s : ByteArray} {x : Int} (h : RdAt w b s x) : w.cell? ⟨b, 0, none⟩ = some (.string s) := by unfold RdAt at h; simp [World.cell?, h]
theorem RdAt.c1 {w : World} {b : Nat} {s : ByteArray} {x : Int} (h : RdAt w b s x) : w.cell? ⟨b, 1, none⟩ = some (.int .i64 x) := by unfold RdAt at h; simp [World.cell?, h]
theorem RdAt.c2 {w : World} {b : Nat} {s : ByteArray} {x : Int} (h : RdAt w b s x) : w.cell? ⟨b, 2, none⟩ = some (.bool false) := by unfold RdAt at h; simp [World.cell?, h]
theorem RdAt.c3 {w : World} {b : Nat} {s : ByteArray} {x : Int} (h : RdAt w b s x) : w.cell? ⟨b, 3, none⟩ = some .nilIface := by unfold RdAt at h; simp [World.cell?, h]
theorem RdAt.fr {w : World} {b : Nat} {s : ByteArray} {x : Int} (h : RdAt w b s x) (o : Nat) : w.frozen? ⟨b, o, none⟩ = false := by unfold RdAt at h; simp [World.frozen?, h]
theorem RdAt.lt {w : World} {b : Nat} {s : ByteArray} {x : Int} (h : RdAt w b s x) : b < w.heap.size := lt_of_block h
theorem hex_q (s : ByteArray) (x : Int) (i v : Nat) (w : World) (hx : x = (i : Int)) (hi : i < s.size) (h : hexv (bt s i) = some v) :
  Calls Tryz.prog 154 #[.string s, .int .i64 x] w fun e w' => e = .returned (.int .i32 v) ∧ w' = w := by
 rw [hx]; exact (hex_is s i v w hi h).mono fun _ _ h => ⟨h.1, h.2.symm⟩
theorem hexv_lt {c v : Nat} (h : hexv c = some v) : v < 16 := by
 unfold hexv at h
 split at h
 · have := Option.some.inj h; omega
 ·
  split at h
  · have := Option.some.inj h; omega
  · split at h
    · have := Option.some.inj h; omega
    · cases h
def DrN (w w' : World) : Prop := ∃ n, w' = w.drewN n
theorem DrN.refl (w : World) : DrN w w := ⟨0, rfl⟩
theorem DrN.trans {a b c : World} : DrN a b → DrN b c → DrN a c
 | ⟨n, h⟩, ⟨m, k⟩ => ⟨n + m, by rw [k, h, World.drewN_drewN]⟩
theorem DrN.drewN {a b : World} (h : DrN a b) (m : Nat) : DrN a (b.drewN m) := h.trans ⟨m, rfl⟩
theorem DrN.drew {a b : World} (h : DrN a b) : DrN a b.drew := h.trans ⟨1, rfl⟩
theorem DrN.hp {a b : World} : DrN a b → b.heap = a.heap
 | ⟨n, h⟩ => by rw [h]; rfl
theorem DrN.cell {a b : World} (h : DrN a b) (p : Addr) : b.cell? p = a.cell? p := cell_of_heap (by rw [h.hp])
theorem DrN.kp {a b : World} (h : DrN a b) (S : List Nat) : Kp S a b := by obtain ⟨n, rfl⟩ := h; exact (Kp.refl S a).drewN n
theorem DrN.rd {a b : World} (h : DrN a b) {k : Nat} {s : ByteArray} {x : Int} (r : RdAt a k s x) : RdAt b k s x := by unfold RdAt at *; rw [h.hp]; exact r
def acc4 (d : Nat → Nat) : Nat → Nat
 | 0 => 0
 | t + 1 => acc4 d t * 16 + d t
theorem acc4_lt (d : Nat → Nat) (h : ∀ t, t < 4 → d t < 16) : ∀ t, t ≤ 4 → acc4 d t < 16 ^ t
 | 0, _ => by simp [acc4]
 | t + 1, ht => by
  have := acc4_lt d h t (by omega); have := h t (by omega); simp only [acc4, Nat.pow_succ]; omega
theorem i32_or4 (x y : Int) (hx₀ : 0 ≤ x) (hx : x % 16 = 0) (hx₁ : x < 2147483648) (h₀ : 0 ≤ y) (h₁ : y < 16) : bits .or .i32 x y = x + y :=
 bits_join .i32 31 (by decide) wraps_i32 4 x y hx₀ hx hx₁ h₀ h₁ (by omega)
theorem or_acc (d : Nat → Nat) (t : Nat) (h : acc4 d t < 4096) (h2 : d t < 16) : bits BinOp.or IntKind.i32 (wrap32 ((acc4 d t : Int) * 16)) (d t : Int) = ((acc4 d (t + 1) : Nat) : Int) := by
 have e : wrap32 ((acc4 d t : Int) * 16) = (acc4 d t : Int) * 16 := by unfold wrap32; omega
 rw [e, i32_or4 _ _ (by omega) (by omega) (by omega) (by omega) (by omega)]; simp only [acc4]; omega
set_option maxRecDepth 100000 in
set_option maxHeartbeats 1000000 in
theorem unit_is (w : World) (b : Nat) (s : ByteArray) (i : Nat) (d : Nat → Nat) (hs : s.size ≤ 1000000) (hr : RdAt w b s i) (hi : i + 6 ≤ s.size)
  (hd : ∀ t, t < 4 → hexv (bt s (i + 2 + t)) = some (d t)) :
  Calls Tryz.prog 156 #[.pointer (some ⟨b, 0, none⟩)] w fun e w' => e = .returned (.int .i32 (acc4 d 4)) ∧ DrN w w' := by
 have HD := hid hd; have HR := hid hr; have c0 := hr.c0; have c1 := hr.c1; clear hr hd; go_enter Tryz.func156, Tryz.ntmps156
 go_wp2_with fail
 go_loopw [3, 4] (fun v k wr => DrN w wr ∧ ∃ t : Nat, t ≤ 4 ∧ v = .int .i32 (acc4 d t) ∧ k = .int .i64 ((2 + t : Nat) : Int)) (fun _ k _ => 6 - (intOf k).toNat)
 case atStart => exact ⟨DrN.refl _, 0, by omega, rfl, rfl⟩
 case round =>
  obtain ⟨hwr, t, ht, rfl, rfl⟩ := hrel; have c0' := (hwr.rd HR.out).c0; have c1' := (hwr.rd HR.out).c1; clear c0 c1; by_cases h4 : t < 4
  ·
   have hv := HD.out t h4; have hv16 := hexv_lt hv; have HV := hid hv; clear hv; go_wp2_with fail
   go_quiet ((go_at_call 154; refine Calls.quiet_of_same (hex_q s _ (i + 2 + t) (d t) _ ?_ ?_ HV.out) <;> omega))
   go_wp2_with fail
   have hlt := acc4_lt d (fun t ht => hexv_lt (HD.out t ht)) t (by omega); have hle : 16 ^ t ≤ 4096 := by
    rcases (show t = 0 ∨ t = 1 ∨ t = 2 ∨ t = 3 from by omega) with rfl | rfl | rfl | rfl <;> decide
   exact ⟨⟨hwr.drewN _, t + 1, by omega, by rw [or_acc d t (by omega) hv16], by go_num⟩, by simp [intOf]; omega⟩
  · obtain rfl : t = 4 := by omega
    go_wp2_with fail
    go_ret; exact ⟨rfl, hwr⟩
end
section
open Go.RowKit
def cellsOf (l : List Nat) : List Value := l.map fun (b : Nat) => Value.int .u8 (b : Int)
theorem cellsOf_append (a b : List Nat) : cellsOf (a ++ b) = cellsOf a ++ cellsOf b := by simp [cellsOf]
theorem cellsOf_len (a : List Nat) : (cellsOf a).length = a.length := by simp [cellsOf]
theorem RdAt.same {w w' : World} {b : Nat} {s : ByteArray} {x : Int} (h : RdAt w b s x) (he : w'.heap[b]? = w.heap[b]?) : RdAt w' b s x := by unfold RdAt at *; rw [he]; exact h
theorem RdAt.move {w : World} {b : Nat} {s : ByteArray} {x y : Int} (h : RdAt w b s x) : RdAt (w.setCell ⟨b, 1, none⟩ (.int .i64 y)) b s y := by
 have hlt := h.lt; unfold RdAt at *; have h' : w.heap[b] = .cells #[.string s, .int .i64 x, .bool false, .nilIface] 163 (0, 0) := by simpa [Array.getElem?_eq_getElem hlt] using h
 show (w.heap.modify b _)[b]? = _
 rw [Array.getElem?_eq_getElem (by simpa using hlt), Array.getElem_modify_self, h']; rfl
theorem Kp.hp {S : List Nat} {a w w' : World} (h : Kp S a w) (k : DrN w w') : Kp S a w' := h.trans (k.kp S)
theorem appendRune_is (w0 : World) (S : List Nat) (w : World) (v : Value) (l : List Nat) (r : Nat) (hown : w.ownsRow w0.heap.size 5 1 v l.length (cellsOf l)) (hr : scalar r)
  (hk : Kp S w0 w) (hl : l.length ≤ 1000000000) :
  Calls Tryz.prog 20 #[v, .int .i32 r] w fun e w' => ∃ v', e = .returned v' ∧ w'.ownsRow w0.heap.size 5 1 v' (l ++ utf8 r).length (cellsOf (l ++ utf8 r)) ∧ Kp S w0 w' ∧
   (∀ b, b < w0.heap.size → w'.heap[b]? = w.heap[b]?) := by
 have hr2 : r < 1114112 := by unfold scalar at hr; omega
 refine (Tryz.utf8_AppendRune_plain w0.heap.size v l.length (cellsOf l) r (by omega) (by omega) w hown (by omega) hk.size).mono fun e w' h => ?_
 obtain ⟨v', he, ho, o, hg⟩ := h; have hrow : ∀ k, v.ownBlock = some k → w0.heap.size ≤ k := fun k hk' => (hown.lt k hk').1
 refine ⟨v', he, ?_, (hk.alloc o).grown hg hrow, fun b hb => ?_⟩
 · rw [List.length_append, cellsOf_append]
   rw [runeCells_len r hr, runeCells_utf8 r hr] at ho; exact ho
 · have hbw : b < w.heap.size := Nat.lt_of_lt_of_le hb hk.size
   rw [hg.block b (by simp; omega) (fun e => by have := hrow b e.symm; omega)]; exact Below.heap_alloc _ _ _ hbw
def strOf (l : List Nat) : ByteArray := strOfNums (l.map Int.ofNat)
theorem bytesOf_strOf (l : List Nat) (h : ∀ x ∈ l, x < 256) : bytesOf (strOf l) = l := by
 unfold bytesOf strOf strOfNums; simp only [List.map_map]
 conv => rhs; rw [← List.map_id l]
 apply List.map_congr_left; intro x hx; have := h x hx; simp [Nat.mod_eq_of_lt this]
theorem run_convert_own {w : World} {B : Nat} {v : Value} {l : List Nat} (h : w.ownsRow B 5 1 v l.length (cellsOf l)) :
  (convert 27 9 v).run Tryz.prog w = .ok (.string (strOf l)) w := by
 obtain ⟨h1, h2⟩ := h; rcases h2 with ⟨rfl, hn⟩ | ⟨g, cap, cur, rfl, hg, hh, _, _, hsz, ht⟩
 · have : l = [] := List.length_eq_zero_iff.1 hn
   subst this; exact run_convert_bytes_nil w 27 5 Tryz.underlying27 Tryz.underlying5 0 0 9 Tryz.underlying9
 ·
  refine run_convert_bytes_arg w 27 5 Tryz.underlying27 Tryz.underlying5 g 0 l.length cap (l.map Int.ofNat) (by simp) (fun i hi => ?_) 9 Tryz.underlying9; have hlen : cur.toList.length = cap * 1 := by simpa using hsz
  have e : cur[0 + i]? = (cellsOf l)[i]? := by
   rw [← ht, List.getElem?_take, if_pos (by omega), Array.getElem?_toList, Nat.zero_add]
  simp only [World.cell?, hh]; simp only [Option.isSome_none, Bool.false_eq_true, if_false]; rw [e]; simp [cellsOf, List.getD_eq_getElem?_getD, List.getElem?_map, List.getElem?_eq_getElem hi]
theorem info5 : (Tryz.prog.info? 5).map (fun i => (i.zero, i.size, i.bytes)) = some (some (.int .u8 0), 1, 1) := by kernel_rfl
theorem wp_append_byte {w : World} {ops : Array Oper} {rest : List Oper} {o : Oper} {a : Act} {Q : Exit → Act → World → Prop} (hgd : o.guard = none) (s x : Operand)
  (ho : o.op = .call { callee := .builtin .append, args := #[s, x], argTypes := #[27, 27] }) (w0 : World) (S : List Nat) (v : Value) (l : List Nat) (hs : a.eval s = v)
  (hown : w.ownsRow w0.heap.size 5 1 v l.length (cellsOf l)) (ad : Addr) (c : Nat) (y : Nat) (hx : a.eval x = .slice (some ad) 1 c) (hc : w.cell? ad = some (.int .u8 y))
  (hk : Kp S w0 w) (hl : l.length ≤ 1000000000)
  (h : ∀ v' w', w'.ownsRow w0.heap.size 5 1 v' (l ++ [y]).length (cellsOf (l ++ [y])) → Kp S w0 w' → (∀ b, b < w0.heap.size → w'.heap[b]? = w.heap[b]?) →
   wpList Tryz.prog ops Q rest (a.put o.dst v') w') : wpList Tryz.prog ops Q (o :: rest) a w := by
 obtain ⟨i0, hi, hz0, hz1, hz2⟩ := info_parts info5; have hrow : ∀ k, v.ownBlock = some k → w0.heap.size ≤ k := fun k hk' => (hown.lt k hk').1
 refine wpList_append_own w hgd s x 27 ho w0.heap.size 5 i0 (.int .u8 0) 1 1 Tryz.underlying27 hi hz0 hz1 hz2 rfl (by decide) v l.length (cellsOf l) hs hown ad 1 c [.int .u8 y] hx rfl ?_ ?_ ?_ ?_ hk.size ?_
 · intro j u hj
   cases j with
   | zero => simp at hj; subst hj; simpa [Addr.add] using hc
   | succ j => simp at hj
 · intro u hu; simp at hu; subst hu; rfl
 · unfold maxLen; omega
 · omega
 · intro v' w' h1 h2 _
   refine h v' w' ?_ (hk.grown h2 hrow) fun b hb => h2.block b (Nat.lt_of_lt_of_le hb hk.size) (fun e => by have := hrow b e.symm; omega)
   rw [List.length_append, cellsOf_append]; exact h1
theorem cell_new (w : World) (x : Value) (t : TypeId) (f : Nat × Nat) : (w.alloc (.cells #[x] t f)).cell? ⟨w.heap.size, 0, none⟩ = some x := by
 simp only [World.cell?]
 show (match (w.heap.push (Obj.cells #[x] t f))[w.heap.size]? with | some (.cells c _ _) => if (none : Option Nat).isSome then none else c[0]? | _ => none) = some x
 rw [Array.getElem?_push_size]; rfl
theorem appendRune_int (w0 : World) (S : List Nat) (w : World) (v : Value) (l : List Nat) (r : Nat) (x : Int) (hx : x = (r : Int)) (hown : w.ownsRow w0.heap.size 5 1 v l.length (cellsOf l)) (hr : scalar r)
  (hk : Kp S w0 w) (hl : l.length ≤ 1000000000) :
  Calls Tryz.prog 20 #[v, .int .i32 x] w fun e w' => ∃ v', e = .returned v' ∧ w'.ownsRow w0.heap.size 5 1 v' (l ++ utf8 r).length (cellsOf (l ++ utf8 r)) ∧ Kp S w0 w' ∧
   (∀ b, b < w0.heap.size → w'.heap[b]? = w.heap[b]?) := by rw [hx]; exact appendRune_is w0 S w v l r hown hr hk hl
end
end Go.Proofs.YtljaoopfomcaoaaGreatDoor
