set_option linter.all false
namespace Go.Proofs.YtljaoopfomcaoaaGreatDoor
section
inductive JV where
 | mk (kind : Int) (b : Bool) (i : Int) (f : Nat) (t : ByteArray) (ks : List ByteArray) (l : List JV)
def JV.kind : JV → Int | .mk k _ _ _ _ _ _ => k
def JV.b : JV → Bool | .mk _ b _ _ _ _ _ => b
def JV.i : JV → Int | .mk _ _ i _ _ _ _ => i
def JV.f : JV → Nat | .mk _ _ _ f _ _ _ => f
def JV.t : JV → ByteArray | .mk _ _ _ _ t _ _ => t
def JV.ks : JV → List ByteArray | .mk _ _ _ _ _ ks _ => ks
def JV.l : JV → List JV | .mk _ _ _ _ _ _ l => l
def bt (s : ByteArray) (k : Nat) : Nat := (s.data.toList.getD k 0).toNat
def ws (c : Nat) : Bool := c == 32 || c == 10 || c == 13 || c == 9
def Ws (g : Nat → Nat) (i j : Nat) : Prop := i ≤ j ∧ ∀ k, i ≤ k → k < j → ws (g k) = true
def dig (c : Nat) : Bool := decide (48 ≤ c) && decide (c ≤ 57)
def utf8 (r : Nat) : List Nat :=
 if r < 128 then [r] else if r < 2048 then [192 + r / 64, 128 + r % 64]
 else if r < 65536 then [224 + r / 4096, 128 + r / 64 % 64, 128 + r % 64]
 else [240 + r / 262144, 128 + r / 4096 % 64, 128 + r / 64 % 64, 128 + r % 64]
def scalar (r : Nat) : Prop := r < 55296 ∨ (57343 < r ∧ r < 1114112)
def enc : List Nat → List Nat
 | [] => []
 | r :: rs => utf8 r ++ enc rs
def At (g : Nat → Nat) (i : Nat) (l : List Nat) : Prop := ∀ k, k < l.length → g (i + k) = l.getD k 0
def bytesOf (s : ByteArray) : List Nat := s.data.toList.map UInt8.toNat
def hexv (c : Nat) : Option Nat :=
 if 48 ≤ c ∧ c ≤ 57 then some (c - 48) else if 97 ≤ c ∧ c ≤ 102 then some (c - 87) else if 65 ≤ c ∧ c ≤ 70 then some (c - 55) else none
def Unit4 (g : Nat → Nat) (i u : Nat) : Prop :=
 g i = 92 ∧ g (i + 1) = 117 ∧ ∃ a b c d, hexv (g (i + 2)) = some a ∧ hexv (g (i + 3)) = some b ∧ hexv (g (i + 4)) = some c ∧ hexv (g (i + 5)) = some d ∧
  u = ((a * 16 + b) * 16 + c) * 16 + d
def Piece (g : Nat → Nat) (i j r : Nat) : Prop :=
 (scalar r ∧ 32 ≤ r ∧ r ≠ 34 ∧ r ≠ 92 ∧ At g i (utf8 r) ∧ j = i + (utf8 r).length) ∨
 (g i = 92 ∧ j = i + 2 ∧ ((g (i + 1) = 34 ∧ r = 34) ∨ (g (i + 1) = 92 ∧ r = 92) ∨ (g (i + 1) = 47 ∧ r = 47) ∨ (g (i + 1) = 110 ∧ r = 10))) ∨
 (Unit4 g i r ∧ j = i + 6 ∧ scalar r) ∨
 (∃ u v, Unit4 g i u ∧ Unit4 g (i + 6) v ∧ j = i + 12 ∧ 55296 ≤ u ∧ u < 56320 ∧ 56320 ≤ v ∧ v < 57344 ∧ r = (u - 55296) * 1024 + (v - 56320) + 65536)
def StrBody (g : Nat → Nat) : Nat → Nat → List Nat → Prop
 | i, j, [] => i = j
 | i, j, r :: rs => ∃ a, Piece g i a r ∧ StrBody g a j rs
def StrAt (g : Nat → Nat) (i j : Nat) (rs : List Nat) : Prop := g i = 34 ∧ ∃ e, StrBody g (i + 1) e rs ∧ g e = 34 ∧ j = e + 1
structure Num where
 neg : Bool
 ip : List Nat
 fp : List Nat
 ex : Option (Nat × Nat × List Nat)
def Num.Ok (n : Num) : Prop :=
 (∀ d ∈ n.ip, d < 10) ∧ (∀ d ∈ n.fp, d < 10) ∧ n.ip ≠ [] ∧ (n.ip.length = 1 ∨ n.ip.headD 0 ≠ 0) ∧
 (∀ c sg ds, n.ex = some (c, sg, ds) → (c = 101 ∨ c = 69) ∧ (sg = 43 ∨ sg = 45) ∧ ds ≠ [] ∧ ∀ d ∈ ds, d < 10)
def digs (l : List Nat) : List Nat := l.map (48 + ·)
def Num.text (n : Num) : List Nat :=
 (if n.neg then [45] else []) ++ digs n.ip ++ (if n.fp = [] then [] else 46 :: digs n.fp) ++
 (match n.ex with | none => [] | some (c, sg, ds) => c :: sg :: digs ds)
def num (l : List Nat) : Nat := l.foldl (fun a d => 10 * a + d) 0
def Num.exp (n : Num) : Int := match n.ex with | none => 0 | some (_, sg, ds) => if sg = 45 then -(num ds : Int) else num ds
abbrev NumSem := Num → Nat → Prop
def Elems (g : Nat → Nat) (T : Nat → Nat → JV → Prop) : Nat → Nat → List JV → Prop
 | _, _, [] => False
 | i, j, [v] => ∃ a b, Ws g i a ∧ T a b v ∧ Ws g b j
 | i, j, v :: vs => ∃ a b c, Ws g i a ∧ T a b v ∧ Ws g b c ∧ g c = 44 ∧ Elems g T (c + 1) j vs
def Membs (g : Nat → Nat) (T : Nat → Nat → JV → Prop) : Nat → Nat → List ByteArray → List JV → Prop
 | i, j, [k], [v] => ∃ a b c d e rs, Ws g i a ∧ StrAt g a b rs ∧ bytesOf k = enc rs ∧ Ws g b c ∧ g c = 58 ∧ Ws g (c + 1) d ∧ T d e v ∧ Ws g e j
 | i, j, k :: ks, v :: vs => ∃ a b c d e f rs, Ws g i a ∧ StrAt g a b rs ∧ bytesOf k = enc rs ∧ Ws g b c ∧ g c = 58 ∧ Ws g (c + 1) d ∧ T d e v ∧ Ws g e f ∧
   g f = 44 ∧ Membs g T (f + 1) j ks vs
 | _, _, _, _ => False
def lexB : List UInt8 → List UInt8 → Bool
 | _, [] => false
 | [], _ :: _ => true
 | a :: r, b :: s => a < b || (a == b && lexB r s)
def Rise (ks : List ByteArray) : Prop := ks.Pairwise fun a b => lexB a.data.toList b.data.toList = true
def Tx (S : NumSem) (g : Nat → Nat) : Nat → Nat → Nat → JV → Prop
 | 0, _, _, _ => False
 | n + 1, i, j, v =>
  (At g i [110, 117, 108, 108] ∧ j = i + 4 ∧ v.kind = 0) ∨
  (At g i [116, 114, 117, 101] ∧ j = i + 4 ∧ v.kind = 1 ∧ v.b = true) ∨
  (At g i [102, 97, 108, 115, 101] ∧ j = i + 5 ∧ v.kind = 1 ∧ v.b = false) ∨
  (∃ m : Num, m.Ok ∧ At g i m.text ∧ j = i + m.text.length ∧ S m v.f ∧ v.kind = 4) ∨
  (∃ rs, StrAt g i j rs ∧ bytesOf v.t = enc rs ∧ v.kind = 5) ∨
  (∃ e, g i = 91 ∧ g e = 93 ∧ j = e + 1 ∧ ((v.l = [] ∧ Ws g (i + 1) e) ∨ Elems g (fun a b x => Tx S g n a b x) (i + 1) e v.l) ∧ v.kind = 6) ∨
  (∃ e, g i = 123 ∧ g e = 125 ∧ j = e + 1 ∧ ((v.l = [] ∧ v.ks = [] ∧ Ws g (i + 1) e) ∨ Membs g (fun a b x => Tx S g n a b x) (i + 1) e v.ks v.l) ∧ v.kind = 7 ∧ Rise v.ks)
end
end Go.Proofs.YtljaoopfomcaoaaGreatDoor
