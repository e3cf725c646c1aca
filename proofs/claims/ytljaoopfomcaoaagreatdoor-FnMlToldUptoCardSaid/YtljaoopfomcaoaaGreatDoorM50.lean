import Derived.Deep.DeepWitnessRowRef
import Derived.Lay
import Derived.Test.YtljaoopfomcaoaaGreatDoorM27
set_option linter.all false
namespace Go.Proofs.YtljaoopfomcaoaaGreatDoor
section
open Go.ChangeShapes Go.WideShapes Go.ChangeAt Go.RowKit Go.Lib
set_option maxRecDepth 100000
def numOf : DataW Unit → Value
 | .lit (.int k z) => .int k z
 | _ => .bool false
def flatOf : DataW Unit → List Value
 | .agg l => l.flatMap fun d => match d with
  | .agg m => m.map numOf
  | d => [numOf d]
 | _ => []
noncomputable def laidWorld (os : Os) : World :=
 let w0 := World.holding Tryz.prog os ⟨#[
  .cells #[.string ⟨#[118, 97, 108, 117, 101, 32, 111, 117, 116, 32, 111, 102, 32, 114, 97, 110, 103, 101]⟩] 154,
  .cells #[.string ⟨#[105, 110, 118, 97, 108, 105, 100, 32, 115, 121, 110, 116, 97, 120]⟩] 154,
  .cells (Go.Pinned.cheatRows.flatMap fun x => [.int .i64 x.1, .string ⟨x.2.toArray⟩]).toArray 222], #[], []⟩
 let put (h : Array Obj) (g : Nat) (cs : Array Value) : Array Obj := h.modify g fun
  | .cells _ t frozen => .cells cs t frozen
  | o => o
 let h0 := put w0.heap 0 (flatOf Rows.laid_unicode_utf8_first).toArray
 let h1 := put h0 1 (flatOf Rows.laid_unicode_utf8_acceptRanges).toArray
 let h2 := put h1 2 #[.bool true]
 let h3 := put h2 3 (flatOf Rows.laid_internal_strconv_uint64pow10).toArray
 let h4 := put h3 4 (flatOf Rows.laid_internal_strconv_pow10Tab).toArray
 let h5 := put h4 5 #[.slice (some ⟨18, 0, none⟩) Go.Pinned.cheatRows.length Go.Pinned.cheatRows.length]
 let h6 := put h5 6 (flatOf Rows.laid_math_bits_deBruijn32tab).toArray
 let h7 := put h6 7 (flatOf Rows.laid_math_bits_deBruijn64tab).toArray
 let h8 := put h7 8 #[.iface 152 (.pointer (some ⟨17, 0, none⟩))]
 let h9 := put h8 9 #[.iface 152 (.pointer (some ⟨16, 0, none⟩))]
 { w0 with heap := h9 }
def zeroVal : Value := .agg #[.int .i64 0, .bool false, .int .i64 0, .float .f64 0, .string ⟨#[]⟩, .slice none 0 0, .slice none 0 0]
def zeroArgs : Array Value := #[zeroVal, zeroVal, .slice none 0 0]
noncomputable def laidMem (os : Os) : World := ((laidWorld os).forCall (fun _ _ => 0) ⟨#[], zeroArgs, []⟩).memory
theorem piece1 (os : Os) : LaidIn Tryz.prog (laidMem os) [("math/bits.deBruijn32tab", Rows.laid_math_bits_deBruijn32tab), ("math/bits.deBruijn64tab", Rows.laid_math_bits_deBruijn64tab), ("internal/strconv.optimize", Rows.laid_internal_strconv_optimize), ("internal/strconv.uint64pow10", Rows.laid_internal_strconv_uint64pow10), ("unicode/utf8.acceptRanges", Rows.laid_unicode_utf8_acceptRanges), ("strconv.ErrRange", Rows.laid_strconv_ErrRange), ("strconv.ErrSyntax", Rows.laid_strconv_ErrSyntax)] [6, 7, 2, 3, 1, 9, 16, 8, 17] :=
 LaidIn.of_run [6, 7, 2, 3, 1, 9, 16, 8, 17] 8 (by kernel_rfl) (by kernel_rfl) (by kernel_rfl) (by kernel_rfl)
theorem piece2 (os : Os) : LaidIn Tryz.prog (laidMem os) [("internal/strconv.leftcheats", Rows.laid_internal_strconv_leftcheats)] [5, 18] :=
 LaidIn.of_run [5, 18] 8 (by kernel_rfl) (by kernel_rfl) (by kernel_rfl) (by kernel_rfl)
theorem piece4 (os : Os) : LaidIn Tryz.prog (laidMem os) [("unicode/utf8.first", Rows.laid_unicode_utf8_first)] [0] :=
 LaidIn.of_run [0] 8 (by kernel_rfl) (by kernel_rfl) (by kernel_rfl) (by kernel_rfl)
end
section
open Go.ChangeShapes Go.WideShapes Go.ChangeAt Go.RowKit Go.Lib
set_option maxRecDepth 100000
def pairCells (x : Nat × Nat) : List Value := [.int .u64 x.1, .int .u64 x.2]
def pairData (x : Nat × Nat) : DataW Unit := .agg [.lit (.int .u64 x.1), .lit (.int .u64 x.2)]
theorem pairs_len (rows : List (Nat × Nat)) : (rows.flatMap pairCells).length = rows.length * 2 := by
 induction rows with
 | nil => rfl
 | cons x r ih => simp only [List.flatMap_cons, List.length_append, ih, List.length_cons, pairCells, List.length_nil]; omega
theorem pairs_drop (rows : List (Nat × Nat)) (i : Nat) : (rows.flatMap pairCells).drop (i * 2) = (rows.drop i).flatMap pairCells := by
 induction rows generalizing i with
 | nil => simp
 | cons x r ih =>
  cases i with
  | zero => simp
  | succ i =>
   rw [List.drop_succ_cons, ← ih i, List.flatMap_cons, show (i + 1) * 2 = i * 2 + 1 + 1 from by omega]; rfl
theorem pair_read (w : World) (x : Nat × Nat) (h1 : x.1 < 18446744073709551616) (h2 : x.2 < 18446744073709551616) :
  DataW.trod (fun _ => ()) Tryz.prog w 0 (fun _ => true) false 2 215 (pairCells x) = some (pairData x, []) := by
 have one : ∀ n : Nat, n < 18446744073709551616 → DataW.trod (fun _ => ()) Tryz.prog w 0 (fun _ => true) false 1 84 [Value.int .u64 n] = some (.lit (.int .u64 n), []) := fun n hn => by
  unfold DataW.trod; rw [Tryz.underlying84]; have hw : (Lit.int .u64 (n : Int)).wf = true := by
   simp only [Lit.wf, Bool.and_eq_true, decide_eq_true_eq]; exact ⟨show (0 : Int) ≤ n by omega, show (n : Int) ≤ 18446744073709551615 by omega⟩
  simp only [hw, and_self, if_true]
 unfold DataW.trod; rw [Tryz.underlying215]; simp only [cells215, pairCells, List.length_cons, List.length_nil, if_true, List.mapM_cons, List.mapM_nil, cells84, List.drop_zero, List.drop_succ_cons, List.take_succ_cons, List.take_zero, one x.1 h1, one x.2 h2]; rfl
theorem pairs_read (w : World) (rows : List (Nat × Nat)) (hl : rows.length = 696) (hlt : ∀ x ∈ rows, x.1 < 18446744073709551616 ∧ x.2 < 18446744073709551616) :
  DataW.trod (fun _ => ()) Tryz.prog w 0 (fun _ => true) false 3 216 (rows.flatMap pairCells) = some (.agg (rows.map pairData), []) := by
 unfold DataW.trod; rw [Tryz.underlying216]; simp only [cells215, cells216, pairs_len, hl, if_true]; rw [mapM_range_of (g := fun i => (pairData (rows.getD i (0, 0)), [])) 696 fun i hi => by
  have hi' : i < rows.length := by omega
  rw [pairs_drop, List.drop_eq_getElem_cons hi', List.flatMap_cons]; have e : rows.getD i (0, 0) = rows[i] := by simp [List.getD, hi']
  rw [e, ← pair_read w rows[i] (hlt _ (List.getElem_mem _)).1 (hlt _ (List.getElem_mem _)).2]; rfl]
 simp only [Option.map_some, Option.some.injEq, Prod.mk.injEq, List.map_map]; refine ⟨?_, ?_⟩
 ·
  congr 1
  apply List.ext_getElem
  · simp [hl]
  · intro i h1 h2
    have hi' : i < rows.length := by simpa using h2
    simp [List.getD, hi']
 · simp
theorem pow_lt : ∀ x ∈ Go.Pinned.pow10Rows, x.1 < 18446744073709551616 ∧ x.2 < 18446744073709551616 := by decide +kernel
noncomputable def powCells : Array Value := (flatOf Rows.laid_internal_strconv_pow10Tab).toArray
theorem powCells_eq : powCells.toList = Go.Pinned.pow10Rows.flatMap pairCells := by kernel_rfl
theorem powBlock (os : Os) : (laidMem os).heap[4]? = some (.cells powCells 216 (0, 0)) := by kernel_rfl
theorem powVar (os : Os) : (laidMem os).var? Tryz.prog "internal/strconv.pow10Tab" = some powCells := by
 unfold World.var?; rw [gPow]; simp only [Option.bind_some, powBlock]; try rfl
theorem piece3 (os : Os) : LaidIn Tryz.prog (laidMem os) [("internal/strconv.pow10Tab", Rows.laid_internal_strconv_pow10Tab)] [4] := by
 refine LaidIn.one (fuel := 3) (p := []) [4] gPow gPowT (powVar os) ?_ ?_ ?_ ?_
 · rw [powCells_eq]
   exact pairs_read _ _ powLen pow_lt
 · rw [List.append_nil]; exact rowP_nodup _ _
 ·
  intro b off hp; rw [List.append_nil] at hp; obtain ⟨i, hi, e⟩ := MemPlace.mem_row.1 hp; simp only [MemPlace.cell.injEq] at e; obtain ⟨rfl, rfl⟩ := e; refine ⟨⟨_, _, powBlock os⟩, fun u v hc => ?_⟩
  exfalso
  have h1 : (laidMem os).cell? ⟨4, 0 + i, none⟩ = powCells[0 + i]? := by simp [World.cell?, powBlock]
  rw [h1, ← Array.getElem?_toList, powCells_eq] at hc; have h2 := List.mem_of_getElem? hc; obtain ⟨x, _, hx⟩ := List.mem_flatMap.1 h2; simp [pairCells] at hx
 · intro x hx
   rw [List.append_nil] at hx; obtain ⟨i, hi, rfl⟩ := MemPlace.mem_row.1 hx; exact List.mem_singleton.2 rfl
theorem laid_met (os : Os) : laidMet Tryz.prog Rows.fnMlToldUptoRow.laid (laidMem os) :=
 ((((piece1 os).append (piece2 os) (by kernel_rfl)).append (piece3 os) (by kernel_rfl)).append (piece4 os) (by kernel_rfl)).met
end
section
open Go.ChangeShapes Go.WideShapes Go.ChangeAt Go.RowKit
set_option maxRecDepth 100000
theorem wit1 (os : Os) : ((laidWorld os).forCall (fun _ _ => 0) ⟨#[], zeroArgs, []⟩).variablesZipB Tryz.checked.prog = true := by kernel_rfl
theorem wit2 (os : Os) : (((laidWorld os).forCall (fun _ _ => 0) ⟨#[], zeroArgs, []⟩).heap.toList.drop Tryz.checked.prog.globals.size).take ((begin Tryz.checked.prog (fun _ _ => 0) default).world.heap.size - Tryz.checked.prog.globals.size) =
      (begin Tryz.checked.prog (fun _ _ => 0) default).world.heap.toList.drop Tryz.checked.prog.globals.size := by kernel_rfl
theorem wit3 (os : Os) : Input.okWideB Tryz.checked.prog ((laidWorld os).forCall (fun _ _ => 0) ⟨#[], zeroArgs, []⟩) 3 ⟨#[], zeroArgs, []⟩ = true := by kernel_rfl
theorem start_fits {H : Type} {enc' : TypeId × Value → H} {s : OpenSpec} {fn : Func} {conds : List PathCond} {apart : Bool} {laid : List (String × DataW Unit)} (os : Os)
  (hrow : s.preRow enc' Tryz.checked.prog fn conds apart laid ((laidWorld os).forCall (fun _ _ => 0) ⟨#[], zeroArgs, []⟩).memory zeroArgs) :
  ∃ (w : World) (tape : Tape) (i : Input), w.os = os ∧ (w.forCall tape i).Shaped Tryz.checked.prog ∧ i.vars = [] ∧ Input.okWide Tryz.checked.prog (w.forCall tape i) .any w.heap.size 3 i ∧
   s.preRow enc' Tryz.checked.prog fn conds apart laid (w.forCall tape i).memory i.args ∧ ({} : Assume).holds Tryz.checked.prog (lone (Frame.enter Tryz.checked.prog 3 i.args .normal) [] (w.forCall tape i)) :=
 ⟨laidWorld os, fun _ _ => 0, ⟨#[], zeroArgs, []⟩, rfl, World.shaped_of_ZipB (wit1 os) (wit2 os), (Input.okWide_of_okWideB (base := 0) (wit3 os)).1, (Input.okWide_of_okWideB (wit3 os)).2, hrow, by simp [Assume.holds]⟩
theorem reads0 (os : Os) {H : Type} (enc' : TypeId × Value → H) : ∃ places, DataW.whole enc' Tryz.prog ((laidWorld os).forCall (fun _ _ => 0) ⟨#[], zeroArgs, []⟩).memory Tryz.f3.params.toList Rows.fnMlToldSpec.vars false zeroArgs.toList 8 =
  some ([.agg [.lit (.int .i64 0), .lit (.bool false), .lit (.int .i64 0), .lit (.float .f64 0), .lit (.string []), .nil, .nil], .agg [.lit (.int .i64 0), .lit (.bool false), .lit (.int .i64 0), .lit (.float .f64 0), .lit (.string []), .nil, .nil], .nil], [], places) :=
 ⟨[], by kernel_rfl⟩
end
end Go.Proofs.YtljaoopfomcaoaaGreatDoor
