import PyProof.Rows.All
import Wide.All
import OpenK.AllK
import Wide.FinOn
import KE.KSortTup
import Lean
import PySem.Challenge.RW_wf0098_02
set_option Elab.async false
section
set_option genSizeOf false
set_option genInjectivity false
namespace Mine

/-- plain values: `lst b vs` is a list that nobody writes (b: borrowed from a caller), `ref n` the frame's own n-th list -/
inductive V where
  | non | bool (b : Bool) | int (i : Int) | str (s : List Nat)
  | tup (vs : List V) | lst (b : Bool) (vs : List V) | ref (n : Nat) | rng (a b c : Int)
deriving Inhabited

abbrev Own := List (List V)
abbrev Vars := List (Nat × V)

inductive Bop where | add | sub | mul | fdiv | mod | pow | shl | shr | xor
deriving DecidableEq
inductive Cop where | eq | ne | lt | le | gt | ge | isin
deriving DecidableEq
inductive Pf where | len | sum | min | max | sorted | chr | divmod | list | range
deriving DecidableEq
inductive Mt where | append | reverse | index | join | lower | bitlen
deriving DecidableEq

mutual
inductive E where
  | non | bool (b : Bool) | int (i : Int) | str (s : List Nat)
  | var (x : Nat) | glob (x : Nat) (i : Int)
  | bin (o : Bop) (a b : E) | neg (a : E) | inv (a : E) | not (a : E)
  | and (es : Es) | or (es : Es)
  | cmp (o : Cop) (a b : E)
  | ite (t a b : E)
  | idx (a i : E) | slice (a lo hi : E) | rev (a : E)
  | list (es : Es) | tup (es : Es)
  | call (f : Nat) (as : Es)
  | prim (p : Pf) (as : Es)
  | meth (m : Mt) (o : E) (as : Es)
  | repl (o : E) (a b : List Nat)
  | tok (a : E) | menu (kvs : List (List Nat × List Nat)) (a : E)
  | comp (elt : E) (ts : List Nat) (it : E)
inductive Es where
  | nil | cons (e : E) (es : Es)
end

mutual
inductive S where
  | asg (x : Nat) (e : E) | asg2 (x y : Nat) (e : E)
  | unp (xs : List Nat) (e : E) | swp (x y : Nat) (a b : E)
  | seti (o i e : E) | aug (x : Nat) (o : Bop) (e : E) | augi (a i : E) (o : Bop) (e : E)
  | ite (t : E) (a b : Ss) | whl (t : E) (b : Ss)
  | for (ts : List Nat) (it : E) (b : Ss) | forrev (x : Nat) (it : E) (b : Ss)
  | ret (e : E) | exp (e : E) | try (b : Ss)
inductive Ss where
  | nil | dead | cons (s : S) (ss : Ss)
end

inductive Fl where
  | next | ret (v : V)

noncomputable def mapO {α β : Type} (f : α → Option β) : List α → Option (List β)
  | [] => some []
  | x :: xs => (f x).bind fun y => (mapO f xs).bind fun ys => some (y :: ys)

theorem and_true {a b : Bool} (h : (a && b) = true) : a = true ∧ b = true := Bool.and_eq_true_iff.mp h
theorem true_and {a b : Bool} (h1 : a = true) (h2 : b = true) : (a && b) = true := Bool.and_eq_true_iff.mpr ⟨h1, h2⟩
theorem and_congr_b {a b c d : Bool} (h : a = b) (h2 : c = d) : (a && c) = (b && d) := by rw [h, h2]
theorem or_congr_b {a b c d : Bool} (h : a = b) (h2 : c = d) : (a || c) = (b || d) := by rw [h, h2]
noncomputable def intOf : V → Option Int
  | .int i => some i | _ => none
noncomputable def strOf : V → Option (List Nat)
  | .str s => some s | _ => none
noncomputable def tupOf : V → Option (List V)
  | .tup vs => some vs | _ => none
noncomputable def refOf : V → Option Nat
  | .ref n => some n | _ => none
noncomputable def rngOf : V → Option (Int × Int × Int)
  | .rng a b c => some (a, b, c) | _ => none
noncomputable def only {α : Type} : List α → Option α
  | [c] => some c | _ => none
theorem bind_of {α β : Type} {o : Option α} {f : α → Option β} {r : β} (h : o.bind f = some r) {P : Prop} (k : ∀ a, o = some a → f a = some r → P) : P := by
  cases o with
  | none => cases h
  | some a => exact k a rfl h
theorem elim_of {α β : Type} {o : Option α} {d : Option β} {f : α → Option β} {r : β} (h : o.elim d f = some r) {P : Prop} (k0 : o = none → d = some r → P) (k1 : ∀ a, o = some a → f a = some r → P) : P := by
  cases o with
  | none => exact k0 rfl h
  | some a => exact k1 a rfl h
theorem if_of {α : Type} {p : Prop} [Decidable p] {x : Option α} {y : α} (h : (if p then x else none) = some y) {P : Prop} (k : p → x = some y → P) : P := by
  by_cases hp : p
  · rw [if_pos hp] at h; exact k hp h
  · rw [if_neg hp] at h; cases h
theorem intOf_is {v : V} {i : Int} (h : intOf v = some i) : v = .int i := by
  cases v <;> first | (cases h; rfl) | cases h
theorem strOf_is {v : V} {s : List Nat} (h : strOf v = some s) : v = .str s := by
  cases v <;> first | (cases h; rfl) | cases h
theorem tupOf_is {v : V} {vs : List V} (h : tupOf v = some vs) : v = .tup vs := by
  cases v <;> first | (cases h; rfl) | cases h
theorem refOf_is {v : V} {n : Nat} (h : refOf v = some n) : v = .ref n := by
  cases v <;> first | (cases h; rfl) | cases h
theorem rngOf_is {v : V} {p : Int × Int × Int} (h : rngOf v = some p) : v = .rng p.1 p.2.1 p.2.2 := by
  cases v <;> first | (cases h; rfl) | cases h
theorem only_is {α : Type} {l : List α} {c : α} (h : only l = some c) : l = [c] := by
  cases l with
  | nil => cases h
  | cons a l => cases l with
    | nil => cases h; rfl
    | cons _ _ => cases h

noncomputable def items (own : Own) : V → Option (List V)
  | .ref n => own[n]?
  | .lst _ vs => some vs
  | _ => none

noncomputable def getI {α : Type} (xs : List α) (i : Int) : Option α :=
  if 0 ≤ i then xs[i.toNat]? else if 0 ≤ i + xs.length then xs[(i + xs.length).toNat]? else none

/-- a value without handles: for a callee (b: everything is borrowed) or for the caller (fresh lists alone) -/
noncomputable def frz (b : Bool) (own : Own) : Nat → V → Option V
  | 0, _ => none
  | n + 1, v => match v with
    | .tup vs => (mapO (frz b own n) vs).bind fun ws => some (.tup ws)
    | .lst b' vs => if (!b && b') = true then none else (mapO (frz b own n) vs).bind fun ws => some (.lst b ws)
    | .ref k => own[k]?.bind fun vs => (mapO (frz b own n) vs).bind fun ws => some (.lst b ws)
    | .rng .. => none
    | .non => some .non | .bool c => some (.bool c) | .int i => some (.int i) | .str l => some (.str l)
noncomputable def depthF : Nat := 5

noncomputable def lstOf : V → Option (List V)
  | .lst _ vs => some vs | _ => none
noncomputable def nonOf : V → Option Unit
  | .non => some () | _ => none
noncomputable def numOf : V → Option Int
  | .int i => some i | .bool b => some (if b then 1 else 0) | _ => none
theorem lstOf_is {v : V} {vs : List V} (h : lstOf v = some vs) : ∃ b, v = .lst b vs := by
  cases v <;> first | (cases h; exact ⟨_, rfl⟩) | cases h
theorem nonOf_is {v : V} {u : Unit} (h : nonOf v = some u) : v = .non := by
  cases v <;> first | rfl | cases h
mutual
noncomputable def veq : V → V → Bool
  | .non, w => (nonOf w).isSome
  | .bool a, w => (numOf w).elim false fun j => decide ((if a then 1 else 0) = j)
  | .int i, w => (numOf w).elim false fun j => decide (i = j)
  | .str x, w => (strOf w).elim false fun y => decide (x = y)
  | .tup xs, w => (tupOf w).elim false fun ys => veqs xs ys
  | .lst _ xs, w => (lstOf w).elim false fun ys => veqs xs ys
  | .ref _, _ => false
  | .rng .., _ => false
noncomputable def veqs : List V → List V → Bool
  | [], ys => ys.isEmpty
  | x :: xs, ys => match ys with
    | [] => false
    | y :: ys => veq x y && veqs xs ys
end
noncomputable def okT : Nat → (Nat → Bool) → Bool
  | 0, _ => false
  | n + 1, f => f n
theorem okT_of {n : Nat} {f : Nat → Bool} (h : okT n f = true) {P : Prop} (k : ∀ m, m < n → f m = true → P) : P := by
  cases n with
  | zero => cases h
  | succ m => exact k m (Nat.lt_succ_self m) h
mutual
/-- plain data all through: no handle, no range, signs below 0x110000 -/
noncomputable def okD : V → Nat → Bool
  | .non, _ => true
  | .bool _, _ => true
  | .int _, _ => true
  | .str s, _ => s.all (· < 0x110000)
  | .tup vs, n => okT n fun m => okDs vs m
  | .lst _ vs, n => okT n fun m => okDs vs m
  | .ref _, _ => false
  | .rng .., _ => false
noncomputable def okDs : List V → Nat → Bool
  | [], _ => true
  | v :: vs, n => okD v n && okDs vs n
end

noncomputable def some1 {α : Type} (vs : List α) : Option Bool := if vs.length ≤ 100000 then some (!vs.isEmpty) else none
noncomputable def truth (own : Own) : V → Option Bool
  | .non => some false
  | .bool b => some b
  | .int i => some (decide (i ≠ 0))
  | .str s => some1 s
  | .tup _ => none
  | .lst _ vs => some1 vs
  | .ref n => own[n]?.bind some1
  | .rng .. => none

noncomputable def normI (n : Nat) (i : Int) : Nat := if i < 0 then (i + n).toNat else min i.toNat n
noncomputable def cut {α : Type} (xs : List α) (lo hi : Option Int) : List α :=
  let a := match lo with | none => 0 | some i => normI xs.length i
  let b := match hi with | none => xs.length | some i => normI xs.length i
  (xs.drop a).take (b - a)
noncomputable def optI (v : V) : Option (Option Int) := (intOf v).elim ((nonOf v).bind fun _ => some none) fun i => if -100000 ≤ i ∧ i ≤ 100000 then some (some i) else none

noncomputable def rep {α : Type} (n : Nat) (xs : List α) : List α := (List.replicate n xs).flatten

noncomputable def bitsI (i : Int) : Nat := if i = 0 then 0 else i.natAbs.log2 + 1
noncomputable def bopI : Bop → Int → Int → Option Int
  | .add, a, b => some (a + b)
  | .sub, a, b => some (a - b)
  | .mul, a, b => if a.natAbs < 2 ^ 64 ∨ b.natAbs < 2 ^ 64 then some (a * b) else none
  | .fdiv, a, b => if b ≠ 0 ∧ b.natAbs < 1073741824 then some (a.fdiv b) else none
  | .mod, a, b => if b ≠ 0 then some (a.fmod b) else none
  | .pow, a, b => if 0 ≤ b ∧ b ≤ 1000000 ∧ a.natAbs < 2 ^ 64 then some (a ^ b.toNat) else none
  | .shl, a, b => if 0 ≤ b ∧ (bitsI a : Int) + b ≤ 134217728 then some (a * 2 ^ b.toNat) else none
  | .shr, a, b => if 0 ≤ b then some (a.fdiv (2 ^ b.toNat)) else none
  | .xor, a, b => if 0 ≤ a ∧ 0 ≤ b then some (a + b - 2 * ((a.toNat &&& b.toNat : Nat) : Int)) else none
noncomputable def addS (own : Own) (v w : V) : Option (V × Own) :=
  (strOf v).elim ((items own v).bind fun a => (items own w).bind fun b => if a.length + b.length ≤ 100000 then some (.ref own.length, own ++ [a ++ b]) else none)
    fun a => (strOf w).bind fun b => if a.length + b.length ≤ 100000 then some (.str (a ++ b), own) else none
noncomputable def mulS (own : Own) (v w : V) : Option (V × Own) := (intOf w).bind fun n =>
  (strOf v).elim ((items own v).bind fun a => if n ≤ 1000 ∧ -1000 ≤ n ∧ a.length ≤ 100 then some (.ref own.length, own ++ [rep n.toNat a]) else none)
    fun a => if n ≤ 1000 ∧ -1000 ≤ n ∧ a.length ≤ 100 then some (.str (rep n.toNat a), own) else none
noncomputable def bopS (own : Own) (v w : V) : Bop → Option (V × Own)
  | .add => addS own v w
  | .mul => mulS own v w
  | _ => none
noncomputable def bop (own : Own) (o : Bop) (v w : V) : Option (V × Own) :=
  (intOf v).elim (bopS own v w o) fun a => (intOf w).bind fun b => (bopI o a b).bind fun c => some (.int c, own)

noncomputable def seqOf : V → Option (List V)
  | .lst _ vs => some vs | .tup vs => some vs | _ => none
noncomputable def copI : Cop → Int → Int → Option Bool
  | .lt, a, b => some (decide (a < b))
  | .le, a, b => some (decide (a ≤ b))
  | .gt, a, b => some (decide (b < a))
  | .ge, a, b => some (decide (b ≤ a))
  | .eq, a, b => some (decide (a = b))
  | .ne, a, b => some (!decide (a = b))
  | .isin, _, _ => none
noncomputable def eqG (own : Own) (v w : V) : Option Bool := (frz true own depthF v).bind fun a => (frz true own depthF w).bind fun b => if okD a 8 && okD b 8 then some (veq a b) else none
noncomputable def eqS (own : Own) (v w : V) : Option Bool := (strOf v).elim (eqG own v w) fun a => (strOf w).bind fun b => some (decide (a = b))
noncomputable def inS (own : Own) (v w : V) : Option Bool :=
  (strOf w).elim ((frz true own depthF v).bind fun a => (frz true own depthF w).bind fun u => (seqOf u).bind fun vs => if okD a 8 && okDs vs 8 then some (vs.any fun y => veq y a) else none)
    fun b => ((strOf v).bind only).bind fun c => some (b.contains c)
noncomputable def copS (own : Own) (v w : V) : Cop → Option Bool
  | .eq => eqS own v w
  | .ne => (eqS own v w).bind fun b => some (!b)
  | .isin => inS own v w
  | _ => none
noncomputable def cop (own : Own) (o : Cop) (v w : V) : Option Bool :=
  (intOf v).elim (copS own v w o) fun a => (intOf w).elim (copS own v w o) fun b => copI o a b

noncomputable def itemAt (own : Own) (v i : V) : Option V := (intOf i).bind fun k => if -100000 ≤ k ∧ k ≤ 100000 then
    (strOf v).elim ((tupOf v).elim ((items own v).bind fun vs => getI vs k) fun vs => getI vs k) fun s => (getI s k).bind fun c => some (.str [c])
  else none

noncomputable def slc (own : Own) (v lo hi : V) : Option (V × Own) := (optI lo).bind fun lo => (optI hi).bind fun hi =>
  (strOf v).elim ((items own v).bind fun vs => if vs.length ≤ 100000 then some (.ref own.length, own ++ [cut vs lo hi]) else none)
    fun s => if s.length ≤ 100000 then some (.str (cut s lo hi), own) else none

noncomputable def revd (own : Own) (v : V) : Option (V × Own) := (items own v).bind fun vs => if vs.length ≤ 100000 then some (.ref own.length, own ++ [vs.reverse]) else none

noncomputable def intsO : List V → Option (List Int)
  | [] => some []
  | v :: vs => (intOf v).bind fun i => (intsO vs).bind fun r => some (i :: r)
noncomputable def strsO : List V → Option (List (List Nat))
  | [] => some []
  | v :: vs => (strOf v).bind fun i => (strsO vs).bind fun r => some (i :: r)

noncomputable def rngN (a b c : Int) : Nat := (if c > 0 then (if a < b then (b - a - 1) / c + 1 else 0) else (if a > b then (a - b - 1) / (-c) + 1 else 0)).toNat
noncomputable def rngL (a c : Int) : Nat → List V
  | 0 => []
  | n + 1 => .int a :: rngL (a + c) c n
noncomputable def smallI (i : Int) : Bool := decide (-1000000 ≤ i ∧ i ≤ 1000000)

noncomputable def minL : List Int → Option Int
  | [] => none
  | x :: xs => some (xs.foldl (fun m y => if y < m then y else m) x)
noncomputable def maxL : List Int → Option Int
  | [] => none
  | x :: xs => some (xs.foldl (fun m y => if m < y then y else m) x)
/-- sorted: the tree of questions of the model's sort, answered by the items' first parts; equal ones: no answer -/
noncomputable def runK {α : Type} (ask : Nat → Nat → Option Bool) : PySem.W.KasT α → Option α
  | .ret a => some a
  | .ask i j k => (ask i j).bind fun b => runK ask (k b)
noncomputable def one {α : Type} : List α → Option α
  | c :: _ => some c | _ => none
noncomputable def fstO (v : V) : Option V := (tupOf v).bind one
noncomputable def ltK (a b : V) : Option Bool := (intOf a).elim ((strOf a).bind fun x => (strOf b).bind fun y => (only x).bind fun c => (only y).bind fun d => if c = d then none else some (decide (c < d)))
  fun i => (intOf b).bind fun j => if i = j then none else some (decide (i < j))
noncomputable def askO (ks : List V) (i j : Nat) : Option Bool := ks[i]?.bind fun a => ks[j]?.bind fun b => ltK a b
noncomputable def kindO (ks : List V) : Bool := ks.all (fun v => (intOf v).isSome) || ks.all (fun v => (strOf v).isSome)
noncomputable def sortV (vs : List V) : Option (List V) := (mapO fstO vs).bind fun ks => if kindO ks = true ∧ 2 ≤ vs.length ∧ vs.length < 64 then
  (runK (askO ks) (PySem.W.kas_sort vs.length)).bind fun p => mapO (fun i => vs[i]?) p.toList else none

noncomputable def two {α : Type} : List α → Option (α × α)
  | [a, b] => some (a, b) | _ => none
noncomputable def rngA : List Int → Option (Int × Int × Int)
  | [b] => some (0, b, 1) | [a, b] => some (a, b, 1) | [a, b, c] => some (a, b, c) | _ => none
noncomputable def rngB (p : Int × Int × Int) : Bool := smallI p.1 && smallI p.2.1 && smallI p.2.2 && decide (p.2.2 ≠ 0)
noncomputable def lenO (own : Own) (v : V) : Option (V × Own) :=
  (strOf v).elim ((items own v).bind fun vs => if vs.length ≤ 1000000 then some (.int vs.length, own) else none) fun s => if s.length ≤ 1000000 then some (.int s.length, own) else none
noncomputable def prim (own : Own) : Pf → List V → Option (V × Own)
  | .len, vs => (only vs).bind fun v => lenO own v
  | .sum, vs => (only vs).bind fun v => (items own v).bind fun us => (intsO us).bind fun ns => some (.int ns.sum, own)
  | .min, vs => (only vs).elim (((intsO vs).bind two).bind fun p => some (.int (if p.2 < p.1 then p.2 else p.1), own)) fun v => (items own v).bind fun us => (intsO us).bind fun ns => (minL ns).bind fun m => some (.int m, own)
  | .max, vs => (only vs).bind fun v => (items own v).bind fun us => (intsO us).bind fun ns => (maxL ns).bind fun m => some (.int m, own)
  | .sorted, vs => (only vs).bind fun v => (items own v).bind fun us => (sortV us).bind fun ws => some (.ref own.length, own ++ [ws])
  | .chr, vs => ((only vs).bind intOf).bind fun i => if 0 ≤ i ∧ i ≤ 1114111 then some (.str [i.toNat], own) else none
  | .divmod, vs => ((intsO vs).bind two).bind fun p => if p.2 ≠ 0 ∧ p.2.natAbs < 1073741824 then some (.tup [.int (p.1.fdiv p.2), .int (p.1.fmod p.2)], own) else none
  | .range, vs => ((intsO vs).bind rngA).bind fun p => if rngB p then some (.rng p.1 p.2.1 p.2.2, own) else none
  | .list, vs => ((only vs).bind rngOf).bind fun p => if rngB p then some (.ref own.length, own ++ [rngL p.1 p.2.2 (rngN p.1 p.2.1 p.2.2)]) else none

noncomputable def joinS (sep : List Nat) : List (List Nat) → List Nat
  | [] => []
  | [x] => x
  | x :: xs => x ++ sep ++ joinS sep xs
noncomputable def lowC (c : Nat) : Nat := if 65 ≤ c ∧ c ≤ 90 then c + 32 else c

noncomputable def indexS (x : List Nat) : List (List Nat) → Option Nat
  | [] => none
  | y :: ys => if y = x then some 0 else (indexS x ys).bind fun k => some (k + 1)
noncomputable def nilOf {α : Type} : List α → Option Unit
  | [] => some () | _ => none
theorem nilOf_is {α : Type} {l : List α} {u : Unit} (h : nilOf l = some u) : l = [] := by
  cases l <;> first | rfl | cases h
noncomputable def ownAt (own : Own) (v : V) (f : Nat → List V → Option (V × Own)) : Option (V × Own) := (refOf v).bind fun n => own[n]?.bind fun us => if us.length ≤ 100000 then f n us else none
noncomputable def meth (own : Own) : Mt → V → List V → Option (V × Own)
  | .append, v, ws => (only ws).bind fun w => ownAt own v fun n us => some (.non, own.set n (us ++ [w]))
  | .reverse, v, ws => (nilOf ws).bind fun _ => ownAt own v fun n us => some (.non, own.set n us.reverse)
  | .index, v, ws => ((only ws).bind strOf).bind fun x => (items own v).bind fun vs => (strsO vs).bind fun ss => if vs.length ≤ 100000 then (indexS x ss).bind fun k => some (.int k, own) else none
  | .join, v, ws => (strOf v).bind fun sep => (only ws).bind fun w => (items own w).bind fun vs => (strsO vs).bind fun ss =>
      if (joinS sep ss).length ≤ 100000 ∧ ss.length ≤ 1000 ∧ sep.length ≤ 1000 then some (.str (joinS sep ss), own) else none
  | .lower, v, ws => (nilOf ws).bind fun _ => ((strOf v).bind only).bind fun c => if c < 128 then some (.str [lowC c], own) else none
  | .bitlen, v, ws => (nilOf ws).bind fun _ => (intOf v).bind fun i => some (.int (bitsI i), own)

/-- replace of one sign -/
noncomputable def replC (c : Nat) (r : List Nat) : List Nat → List Nat
  | [] => []
  | x :: xs => if x == c then r ++ replC c r xs else x :: replC c r xs

noncomputable def menuAt (x : List Nat) : List (List Nat × List Nat) → Option (List Nat)
  | [] => none
  | p :: r => if p.1 = x then some p.2 else menuAt x r
noncomputable def setV (x : Nat) (v : V) : Vars → Vars
  | [] => [(x, v)]
  | (y, u) :: r => if x == y then (x, v) :: r else (y, u) :: setV x v r
noncomputable def getV (x : Nat) : Vars → Option V
  | [] => none
  | (y, u) :: r => if x == y then some u else getV x r

noncomputable def setVs : List Nat → List V → Vars → Option Vars
  | [], [], vars => some vars
  | x :: xs, v :: vs, vars => setVs xs vs (setV x v vars)
  | _, _, _ => none
/-- one name takes the value, several take a tuple's parts -/
noncomputable def bindT : List Nat → V → Vars → Option Vars
  | [x], v, vars => some (setV x v vars)
  | xs, .tup vs, vars => setVs xs vs vars
  | _, _, _ => none

noncomputable def itR (p : Int × Int × Int) (j : Nat) : Option (Option V) := if rngB p then (if j < rngN p.1 p.2.1 p.2.2 then some (some (.int (p.1 + j * p.2.2))) else some none) else none
/-- the j-th item of what a for runs over: none: no such source; some none: it is at its end -/
noncomputable def iterAt (own : Own) (v : V) (j : Nat) : Option (Option V) :=
  (rngOf v).elim ((strOf v).elim ((items own v).bind fun vs => some vs[j]?) fun s => some (s[j]?.map fun c => .str [c])) fun p => itR p j
noncomputable def iterFuel (own : Own) (v : V) : Nat :=
  (rngOf v).elim ((strOf v).elim ((items own v).elim 0 fun vs => vs.length + 1) fun s => s.length + 1) fun p => rngN p.1 p.2.1 p.2.2 + 1

noncomputable def compLoop (acc : Nat) (v : V) (turn : V → Own → Option (V × Own)) : Nat → Nat → Own → Option Own
  | 0, _, _ => none
  | f + 1, j, own => (iterAt own v j).bind fun u => u.elim (some own) fun u => (turn u own).bind fun p =>
      p.2[acc]?.bind fun ys => if ys.length ≤ 100000 then compLoop acc v turn f (j + 1) (p.2.set acc (ys ++ [p.1])) else none

/-- truth of what an expression gave -/
noncomputable def tstOf (r : Option (V × Own)) : Option (Bool × Own) := r.bind fun p => (truth p.2 p.1).bind fun b => some (b, p.2)
noncomputable def tokV (TK : Nat → Option Int) (c : Nat) : V := match TK c with | some i => .int i | none => .non

variable (C : Nat → List V → Option V) (TK : Nat → Option Int)

mutual
noncomputable def ev : E → Vars → Own → Option (V × Own)
  | .non, _, own => some (.non, own)
  | .bool b, _, own => some (.bool b, own)
  | .int i, _, own => some (.int i, own)
  | .str s, _, own => some (.str s, own)
  | .var x, vars, own => (getV x vars).bind fun v => some (v, own)
  | .glob _ i, _, own => some (.int i, own)
  | .bin o a b, vars, own => (ev a vars own).bind fun p => (ev b vars p.2).bind fun q => bop q.2 o p.1 q.1
  | .neg a, vars, own => (ev a vars own).bind fun p => (intOf p.1).bind fun i => some (.int (-i), p.2)
  | .inv a, vars, own => (ev a vars own).bind fun p => (intOf p.1).bind fun i => some (.int (-i - 1), p.2)
  | .not a, vars, own => (tstOf (ev a vars own)).bind fun p => some (.bool (!p.1), p.2)
  | .and es, vars, own => evAnd es vars own
  | .or es, vars, own => evOr es vars own
  | .cmp o a b, vars, own => (ev a vars own).bind fun p => (ev b vars p.2).bind fun q => (cop q.2 o p.1 q.1).bind fun r => some (.bool r, q.2)
  | .ite t a b, vars, own => (tstOf (ev t vars own)).bind fun p => cond p.1 (ev a vars p.2) (ev b vars p.2)
  | .idx a i, vars, own => (ev a vars own).bind fun p => (ev i vars p.2).bind fun q => (itemAt q.2 p.1 q.1).bind fun v => some (v, q.2)
  | .slice a lo hi, vars, own => (ev a vars own).bind fun p => (ev lo vars p.2).bind fun q => (ev hi vars q.2).bind fun r => slc r.2 p.1 q.1 r.1
  | .list es, vars, own => (evs es vars own).bind fun p => if p.1.length ≤ 1000 then some (.ref p.2.length, p.2 ++ [p.1]) else none
  | .tup es, vars, own => (evs es vars own).bind fun p => if p.1.length ≤ 1000 then some (.tup p.1, p.2) else none
  | .call f as, vars, own => (evs as vars own).bind fun p => (mapO (frz true p.2 depthF) p.1).bind fun ws => (C f ws).bind fun v => some (v, p.2)
  | .prim f as, vars, own => (evs as vars own).bind fun p => prim p.2 f p.1
  | .meth m o as, vars, own => (ev o vars own).bind fun p => (evs as vars p.2).bind fun q => meth q.2 m p.1 q.1
  | .repl o a b, vars, own => (ev o vars own).bind fun p => (strOf p.1).bind fun s => (only a).bind fun c => if s.length ≤ 10000 ∧ b.length ≤ 100 then some (.str (replC c b s), p.2) else none
  | .tok a, vars, own => (ev a vars own).bind fun p => ((strOf p.1).bind only).bind fun c => some (tokV TK c, p.2)
  | .rev a, vars, own => (ev a vars own).bind fun p => revd p.2 p.1
  | .menu kvs a, vars, own => (ev a vars own).bind fun p => (strOf p.1).bind fun l => (menuAt l kvs).bind fun r => some (.str r, p.2)
  | .comp elt ts it, vars, own => (ev it vars own).bind fun p =>
      (compLoop p.2.length p.1 (fun u own => (bindT ts u vars).bind fun vars' => ev elt vars' own) (iterFuel p.2 p.1) 0 (p.2 ++ [[]])).bind fun own' => some (.ref p.2.length, own')
noncomputable def evs : Es → Vars → Own → Option (List V × Own)
  | .nil, _, own => some ([], own)
  | .cons e es, vars, own => (ev e vars own).bind fun p => (evs es vars p.2).bind fun q => some (p.1 :: q.1, q.2)
noncomputable def evAnd : Es → Vars → Own → Option (V × Own)
  | .nil, _, _ => none
  | .cons e .nil, vars, own => ev e vars own
  | .cons e es, vars, own => (ev e vars own).bind fun p => (truth p.2 p.1).bind fun b => cond b (evAnd es vars p.2) (some p)
noncomputable def evOr : Es → Vars → Own → Option (V × Own)
  | .nil, _, _ => none
  | .cons e .nil, vars, own => ev e vars own
  | .cons e es, vars, own => (ev e vars own).bind fun p => (truth p.2 p.1).bind fun b => cond b (some p) (evOr es vars p.2)
end

/-- after a statement: go on, or hand back -/
noncomputable def fl (p : Fl × Vars × Own) (k : Vars → Own → Option (Fl × Vars × Own)) : Option (Fl × Vars × Own) := match p.1 with
  | .next => k p.2.1 p.2.2
  | .ret _ => some p
theorem fl_of {p z : Fl × Vars × Own} {k : Vars → Own → Option (Fl × Vars × Own)} (h : fl p k = some z) {P : Prop} (k1 : p.1 = .next → k p.2.1 p.2.2 = some z → P) (k2 : ∀ v, p.1 = .ret v → some p = some z → P) : P := by
  obtain ⟨f, q⟩ := p
  cases f with
  | next => exact k1 rfl h
  | ret v => exact k2 v rfl h
/-- a while by a bounded number of turns -/
noncomputable def whlLoop (test : Vars → Own → Option (Bool × Own)) (body : Vars → Own → Option (Fl × Vars × Own)) : Nat → Vars → Own → Option (Fl × Vars × Own)
  | 0, _, _ => none
  | f + 1, vars, own => (test vars own).bind fun t => cond t.1 ((body vars t.2).bind fun p => fl p (whlLoop test body f)) (some (.next, vars, t.2))

noncomputable def forLoop (ts : List Nat) (v : V) (body : Vars → Own → Option (Fl × Vars × Own)) : Nat → Nat → Vars → Own → Option (Fl × Vars × Own)
  | 0, _, _, _ => none
  | f + 1, j, vars, own => (iterAt own v j).bind fun u => u.elim (some (.next, vars, own)) fun u => (bindT ts u vars).bind fun vars => (body vars own).bind fun p => fl p (forLoop ts v body f (j + 1))

/-- for over reversed(a list that nobody writes) -/
noncomputable def revLoop (x : Nat) (body : Vars → Own → Option (Fl × Vars × Own)) : List V → Vars → Own → Option (Fl × Vars × Own)
  | [], vars, own => some (.next, vars, own)
  | u :: us, vars, own => (body (setV x u vars) own).bind fun p => fl p (revLoop x body us)

noncomputable def idxN (n : Nat) (i : Int) : Option Nat := if 0 ≤ i then (if i < n then some i.toNat else none) else if 0 ≤ i + n then some (i + n).toNat else none

noncomputable def setAt (own : Own) (o i v : V) : Option Own := (refOf o).bind fun n => (intOf i).bind fun k => own[n]?.bind fun vs =>
  if vs.length ≤ 100000 then (idxN vs.length k).bind fun j => some (own.set n (vs.set j v)) else none

mutual
noncomputable def ex : S → Vars → Own → Option (Fl × Vars × Own)
  | .asg x e, vars, own => (ev C TK e vars own).bind fun p => some (.next, setV x p.1 vars, p.2)
  | .asg2 x y e, vars, own => (ev C TK e vars own).bind fun p => some (.next, setV y p.1 (setV x p.1 vars), p.2)
  | .unp xs e, vars, own => (ev C TK e vars own).bind fun p => (tupOf p.1).bind fun vs => (setVs xs vs vars).bind fun vars' => some (.next, vars', p.2)
  | .swp x y a b, vars, own => (ev C TK a vars own).bind fun p => (ev C TK b vars p.2).bind fun q => some (.next, setV x p.1 (setV y q.1 vars), q.2)
  | .seti o i e, vars, own => (ev C TK e vars own).bind fun p => (ev C TK o vars p.2).bind fun q => (ev C TK i vars q.2).bind fun r => (setAt r.2 q.1 r.1 p.1).bind fun own' => some (.next, vars, own')
  | .aug x o e, vars, own => (getV x vars).bind fun old => (ev C TK e vars own).bind fun p => (intOf old).bind fun i => (intOf p.1).bind fun j => (bop p.2 o (.int i) (.int j)).bind fun r => some (.next, setV x r.1 vars, r.2)
  | .augi a i o e, vars, own => (ev C TK a vars own).bind fun p => (ev C TK i vars p.2).bind fun q => (itemAt q.2 p.1 q.1).bind fun old => (ev C TK e vars q.2).bind fun r => (intOf old).bind fun i => (intOf r.1).bind fun j =>
      (bop r.2 o (.int i) (.int j)).bind fun z => (setAt z.2 p.1 q.1 z.1).bind fun own' => some (.next, vars, own')
  | .ite t a b, vars, own => (tstOf (ev C TK t vars own)).bind fun p => cond p.1 (exs a vars p.2) (exs b vars p.2)
  | .whl t b, vars, own => whlLoop (fun vars own => tstOf (ev C TK t vars own)) (fun vars own => exs b vars own) 1000 vars own
  | .for ts it b, vars, own => (ev C TK it vars own).bind fun p => forLoop ts p.1 (fun vars own => exs b vars own) (iterFuel p.2 p.1) 0 vars p.2
  | .forrev x it b, vars, own => (ev C TK it vars own).bind fun p => (lstOf p.1).bind fun vs => if vs.length ≤ 100000 then revLoop x (fun vars own => exs b vars own) vs.reverse vars p.2 else none
  | .ret e, vars, own => (ev C TK e vars own).bind fun p => some (.ret p.1, vars, p.2)
  | .exp e, vars, own => (ev C TK e vars own).bind fun p => (nonOf p.1).bind fun _ => some (.next, vars, p.2)
  | .try b, vars, own => exs b vars own
noncomputable def exs : Ss → Vars → Own → Option (Fl × Vars × Own)
  | .nil, vars, own => some (.next, vars, own)
  | .dead, _, _ => none
  | .cons s ss, vars, own => (ex s vars own).bind fun p => fl p (exs ss)
end

structure Fn where
  params : List Nat
  body : Ss

/-- a call of a function of the text: its frame is its own, what it hands back is without handles -/
noncomputable def runF (f : Fn) (vs : List V) : Option V := (setVs f.params vs []).bind fun vars => (exs C TK f.body vars []).bind fun p => match p.1 with
  | .ret v => frz false p.2.2 depthF v
  | .next => none

section
variable {C : Nat → List V → Option V} {TK : Nat → Option Int} {vars : Vars} {own own' : Own} {r : V × Own} {z : Fl × Vars × Own}
theorem tst_inv {q : Option (V × Own)} {b : Bool} (h : tstOf q = some (b, own')) {P : Prop} (k : ∀ v, q = some (v, own') → truth own' v = some b → P) : P :=
  bind_of h fun p e h => bind_of h fun _ e2 h => by cases h; exact k p.1 e e2
theorem ev_bin_inv {o : Bop} {a b : E} (h : ev C TK (.bin o a b) vars own = some r) {P : Prop} (k : ∀ x o1 y o2, ev C TK a vars own = some (x, o1) → ev C TK b vars o1 = some (y, o2) → bop o2 o x y = some r → P) : P :=
  bind_of h fun p e1 h => bind_of h fun q e2 h => k p.1 p.2 q.1 q.2 e1 e2 h
theorem ev_neg_inv {a : E} (h : ev C TK (.neg a) vars own = some r) {P : Prop} (k : ∀ i x o1, ev C TK a vars own = some (x, o1) → intOf x = some i → some (.int (-i), o1) = some r → P) : P :=
  bind_of h fun p e1 h => bind_of h fun i e2 h => k i p.1 p.2 e1 e2 h
theorem ev_inv_inv {a : E} (h : ev C TK (.inv a) vars own = some r) {P : Prop} (k : ∀ i x o1, ev C TK a vars own = some (x, o1) → intOf x = some i → some (.int (-i - 1), o1) = some r → P) : P :=
  bind_of h fun p e1 h => bind_of h fun i e2 h => k i p.1 p.2 e1 e2 h
theorem ev_not_inv {a : E} (h : ev C TK (.not a) vars own = some r) {P : Prop} (k : ∀ b o1, tstOf (ev C TK a vars own) = some (b, o1) → some (.bool (!b), o1) = some r → P) : P :=
  bind_of h fun p e1 h => k p.1 p.2 e1 h
theorem ev_cmp_inv {o : Cop} {a b : E} (h : ev C TK (.cmp o a b) vars own = some r) {P : Prop} (k : ∀ x o1 y o2 c, ev C TK a vars own = some (x, o1) → ev C TK b vars o1 = some (y, o2) → cop o2 o x y = some c → some (.bool c, o2) = some r → P) : P :=
  bind_of h fun p e1 h => bind_of h fun q e2 h => bind_of h fun c e3 h => k p.1 p.2 q.1 q.2 c e1 e2 e3 h
theorem ev_ite_inv {t a b : E} (h : ev C TK (.ite t a b) vars own = some r) {P : Prop} (k : ∀ c o1, tstOf (ev C TK t vars own) = some (c, o1) → cond c (ev C TK a vars o1) (ev C TK b vars o1) = some r → P) : P :=
  bind_of h fun p e1 h => k p.1 p.2 e1 h
theorem ev_idx_inv {a b : E} (h : ev C TK (.idx a b) vars own = some r) {P : Prop} (k : ∀ x o1 y o2 c, ev C TK a vars own = some (x, o1) → ev C TK b vars o1 = some (y, o2) → itemAt o2 x y = some c → some (c, o2) = some r → P) : P :=
  bind_of h fun p e1 h => bind_of h fun q e2 h => bind_of h fun c e3 h => k p.1 p.2 q.1 q.2 c e1 e2 e3 h
theorem ev_slice_inv {a lo hi : E} (h : ev C TK (.slice a lo hi) vars own = some r) {P : Prop} (k : ∀ x o1 y o2 z o3, ev C TK a vars own = some (x, o1) → ev C TK lo vars o1 = some (y, o2) → ev C TK hi vars o2 = some (z, o3) → slc o3 x y z = some r → P) : P :=
  bind_of h fun p e1 h => bind_of h fun q e2 h => bind_of h fun c e3 h => k p.1 p.2 q.1 q.2 c.1 c.2 e1 e2 e3 h
theorem if_some {α : Type} {p : Prop} [Decidable p] {x : Option α} {y : α} (h : (if p then x else none) = some y) : p ∧ x = some y := if_of h fun a b => ⟨a, b⟩
theorem ev_list_inv {es : Es} (h : ev C TK (.list es) vars own = some r) {P : Prop} (k : ∀ vs o1, evs C TK es vars own = some (vs, o1) → vs.length ≤ 1000 → some (.ref o1.length, o1 ++ [vs]) = some r → P) : P :=
  bind_of h fun p e1 h => if_of h fun hl h => k p.1 p.2 e1 hl h
theorem ev_tup_inv {es : Es} (h : ev C TK (.tup es) vars own = some r) {P : Prop} (k : ∀ vs o1, evs C TK es vars own = some (vs, o1) → vs.length ≤ 1000 → some (.tup vs, o1) = some r → P) : P :=
  bind_of h fun p e1 h => if_of h fun hl h => k p.1 p.2 e1 hl h
theorem ev_call_inv {f : Nat} {as : Es} (h : ev C TK (.call f as) vars own = some r) {P : Prop} (k : ∀ vs o1 ws v, evs C TK as vars own = some (vs, o1) → mapO (frz true o1 depthF) vs = some ws → C f ws = some v → some (v, o1) = some r → P) : P :=
  bind_of h fun p e1 h => bind_of h fun ws e2 h => bind_of h fun v e3 h => k p.1 p.2 ws v e1 e2 e3 h
theorem ev_prim_inv {f : Pf} {as : Es} (h : ev C TK (.prim f as) vars own = some r) {P : Prop} (k : ∀ vs o1, evs C TK as vars own = some (vs, o1) → prim o1 f vs = some r → P) : P :=
  bind_of h fun p e1 h => k p.1 p.2 e1 h
theorem ev_meth_inv {m : Mt} {o : E} {as : Es} (h : ev C TK (.meth m o as) vars own = some r) {P : Prop} (k : ∀ x o1 vs o2, ev C TK o vars own = some (x, o1) → evs C TK as vars o1 = some (vs, o2) → meth o2 m x vs = some r → P) : P :=
  bind_of h fun p e1 h => bind_of h fun q e2 h => k p.1 p.2 q.1 q.2 e1 e2 h
theorem ev_repl_inv {o : E} {a b : List Nat} (h : ev C TK (.repl o a b) vars own = some r) {P : Prop} (k : ∀ x l o1 c, ev C TK o vars own = some (x, o1) → strOf x = some l → only a = some c → l.length ≤ 10000 ∧ b.length ≤ 100 → some (.str (replC c b l), o1) = some r → P) : P :=
  bind_of h fun p e1 h => bind_of h fun l e2 h => bind_of h fun c e3 h => if_of h fun hl h => k p.1 l p.2 c e1 e2 e3 hl h
theorem ev_tok_inv {a : E} (h : ev C TK (.tok a) vars own = some r) {P : Prop} (k : ∀ x l c o1, ev C TK a vars own = some (x, o1) → strOf x = some l → only l = some c → some (tokV TK c, o1) = some r → P) : P :=
  bind_of h fun p e1 h => bind_of h fun c e2 h => bind_of e2 fun l e3 e4 => k p.1 l c p.2 e1 e3 e4 h
theorem ev_rev_inv {a : E} (h : ev C TK (.rev a) vars own = some r) {P : Prop} (k : ∀ x o1, ev C TK a vars own = some (x, o1) → revd o1 x = some r → P) : P :=
  bind_of h fun p e1 h => k p.1 p.2 e1 h
theorem ev_menu_inv {kvs : List (List Nat × List Nat)} {a : E} (h : ev C TK (.menu kvs a) vars own = some r) {P : Prop} (k : ∀ x l o1 w, ev C TK a vars own = some (x, o1) → strOf x = some l → menuAt l kvs = some w → some (.str w, o1) = some r → P) : P :=
  bind_of h fun p e1 h => bind_of h fun l e2 h => bind_of h fun w e3 h => k p.1 l p.2 w e1 e2 e3 h
noncomputable def cturn (C : Nat → List V → Option V) (TK : Nat → Option Int) (ts : List Nat) (elt : E) (vars : Vars) (u : V) (own : Own) : Option (V × Own) := (bindT ts u vars).bind fun vars' => ev C TK elt vars' own
theorem ev_comp_inv {elt it : E} {ts : List Nat} (h : ev C TK (.comp elt ts it) vars own = some r) {P : Prop} (k : ∀ v o1 o2, ev C TK it vars own = some (v, o1) → compLoop o1.length v (cturn C TK ts elt vars) (iterFuel o1 v) 0 (o1 ++ [[]]) = some o2 → some (.ref o1.length, o2) = some r → P) : P :=
  bind_of h fun p e1 h => bind_of h fun o2 e2 h => k p.1 p.2 o2 e1 e2 h
theorem evs_cons_inv {e : E} {es : Es} {q : List V × Own} (h : evs C TK (.cons e es) vars own = some q) {P : Prop} (k : ∀ x o1 vs o2, ev C TK e vars own = some (x, o1) → evs C TK es vars o1 = some (vs, o2) → some (x :: vs, o2) = some q → P) : P :=
  bind_of h fun p e1 h => bind_of h fun q e2 h => k p.1 p.2 q.1 q.2 e1 e2 h
theorem evAnd_cons_inv {e e2 : E} {es : Es} (h : evAnd C TK (.cons e (.cons e2 es)) vars own = some r) {P : Prop} (k : ∀ x o1 b, ev C TK e vars own = some (x, o1) → truth o1 x = some b → cond b (evAnd C TK (.cons e2 es) vars o1) (some (x, o1)) = some r → P) : P :=
  bind_of h fun p e1 h => bind_of h fun b e2 h => k p.1 p.2 b e1 e2 h
theorem evOr_cons_inv {e e2 : E} {es : Es} (h : evOr C TK (.cons e (.cons e2 es)) vars own = some r) {P : Prop} (k : ∀ x o1 b, ev C TK e vars own = some (x, o1) → truth o1 x = some b → cond b (some (x, o1)) (evOr C TK (.cons e2 es) vars o1) = some r → P) : P :=
  bind_of h fun p e1 h => bind_of h fun b e2 h => k p.1 p.2 b e1 e2 h
theorem ex_unp_inv {xs : List Nat} {e : E} (h : ex C TK (.unp xs e) vars own = some z) {P : Prop} (k : ∀ x vs o1 vars', ev C TK e vars own = some (x, o1) → tupOf x = some vs → setVs xs vs vars = some vars' → some (.next, vars', o1) = some z → P) : P :=
  bind_of h fun p e1 h => bind_of h fun vs e2 h => bind_of h fun vars' e3 h => k p.1 vs p.2 vars' e1 e2 e3 h
theorem ex_swp_inv {x y : Nat} {a b : E} (h : ex C TK (.swp x y a b) vars own = some z) {P : Prop} (k : ∀ u o1 v o2, ev C TK a vars own = some (u, o1) → ev C TK b vars o1 = some (v, o2) → some (.next, setV x u (setV y v vars), o2) = some z → P) : P :=
  bind_of h fun p e1 h => bind_of h fun q e2 h => k p.1 p.2 q.1 q.2 e1 e2 h
theorem ex_seti_inv {o i e : E} (h : ex C TK (.seti o i e) vars own = some z) {P : Prop} (k : ∀ v o1 a o2 j o3 o4, ev C TK e vars own = some (v, o1) → ev C TK o vars o1 = some (a, o2) → ev C TK i vars o2 = some (j, o3) → setAt o3 a j v = some o4 → some (.next, vars, o4) = some z → P) : P :=
  bind_of h fun p e1 h => bind_of h fun q e2 h => bind_of h fun t e3 h => bind_of h fun o4 e4 h => k p.1 p.2 q.1 q.2 t.1 t.2 o4 e1 e2 e3 e4 h
theorem ex_aug_inv {x : Nat} {o : Bop} {e : E} (h : ex C TK (.aug x o e) vars own = some z) {P : Prop} (k : ∀ u i v j o1 r o2, getV x vars = some u → ev C TK e vars own = some (v, o1) → intOf u = some i → intOf v = some j → bop o1 o (.int i) (.int j) = some (r, o2) → some (.next, setV x r vars, o2) = some z → P) : P :=
  bind_of h fun u e1 h => bind_of h fun p e2 h => bind_of h fun i e3 h => bind_of h fun j e4 h => bind_of h fun q e5 h => k u i p.1 j p.2 q.1 q.2 e1 e2 e3 e4 e5 h
theorem ex_augi_inv {a i e : E} {o : Bop} (h : ex C TK (.augi a i o e) vars own = some z) {P : Prop} (k : ∀ av o1 j o2 u x v y o3 r o4 o5, ev C TK a vars own = some (av, o1) → ev C TK i vars o1 = some (j, o2) → itemAt o2 av j = some u → ev C TK e vars o2 = some (v, o3) →
    intOf u = some x → intOf v = some y → bop o3 o (.int x) (.int y) = some (r, o4) → setAt o4 av j r = some o5 → some (.next, vars, o5) = some z → P) : P :=
  bind_of h fun p e1 h => bind_of h fun q e2 h => bind_of h fun u e3 h => bind_of h fun t e4 h => bind_of h fun x e5 h => bind_of h fun y e6 h => bind_of h fun w e7 h => bind_of h fun o5 e8 h =>
    k p.1 p.2 q.1 q.2 u x t.1 y t.2 w.1 w.2 o5 e1 e2 e3 e4 e5 e6 e7 e8 h
theorem ex_ite_inv {t : E} {a b : Ss} (h : ex C TK (.ite t a b) vars own = some z) {P : Prop} (k : ∀ c o1, tstOf (ev C TK t vars own) = some (c, o1) → cond c (exs C TK a vars o1) (exs C TK b vars o1) = some z → P) : P :=
  bind_of h fun p e1 h => k p.1 p.2 e1 h
theorem ex_for_inv {ts : List Nat} {it : E} {b : Ss} (h : ex C TK (.for ts it b) vars own = some z) {P : Prop} (k : ∀ v o1, ev C TK it vars own = some (v, o1) → forLoop ts v (fun vars own => exs C TK b vars own) (iterFuel o1 v) 0 vars o1 = some z → P) : P :=
  bind_of h fun p e1 h => k p.1 p.2 e1 h
theorem ex_forrev_inv {x : Nat} {it : E} {b : Ss} (h : ex C TK (.forrev x it b) vars own = some z) {P : Prop} (k : ∀ u vs o1, ev C TK it vars own = some (u, o1) → lstOf u = some vs → vs.length ≤ 100000 → revLoop x (fun vars own => exs C TK b vars own) vs.reverse vars o1 = some z → P) : P :=
  bind_of h fun p e1 h => bind_of h fun vs e2 h => if_of h fun hl h => k p.1 vs p.2 e1 e2 hl h
theorem exs_cons_inv {s : S} {ss : Ss} (h : exs C TK (.cons s ss) vars own = some z) {P : Prop} (k : ∀ f vars' o1, ex C TK s vars own = some (f, vars', o1) → fl (f, vars', o1) (exs C TK ss) = some z → P) : P :=
  bind_of h fun p e1 h => k p.1 p.2.1 p.2.2 e1 h
theorem runF_inv {f : Fn} {vs : List V} {v : V} (h : runF C TK f vs = some v) {P : Prop} (k : ∀ vars v0 vars' own', setVs f.params vs [] = some vars → exs C TK f.body vars [] = some (.ret v0, vars', own') → frz false own' depthF v0 = some v → P) : P :=
  bind_of h fun vars e1 h => bind_of h fun p e2 h => by
    obtain ⟨fl, vars', o1⟩ := p
    cases fl with
    | next => cases h
    | ret v0 => exact k vars v0 vars' o1 e1 e2 h
theorem runF_of {f : Fn} {vs : List V} {vars vars' : Vars} {own' : Own} {v0 v : V} (h1 : setVs f.params vs [] = some vars) (h2 : exs C TK f.body vars [] = some (.ret v0, vars', own')) (h3 : frz false own' depthF v0 = some v) : runF C TK f vs = some v := by
  unfold runF
  rw [h1]
  show (exs C TK f.body vars []).bind _ = _
  rw [h2]; exact h3
end
end Mine
end
section
set_option autoImplicit false
namespace Mine
section
variable {C : Nat → List V → Option V} {TK : Nat → Option Int} {vars vars' vars₁ vars₂ : Vars} {own own' own₁ own₂ own₃ : Own}
theorem st_var {x : Nat} {v : V} (h : getV x vars = some v) : ev C TK (.var x) vars own = some (v, own) := by show (getV x vars).bind _ = _; rw [h]; rfl
theorem st_int {i : Int} : ev C TK (.int i) vars own = some (.int i, own) := rfl
theorem st_glob {x : Nat} {i : Int} : ev C TK (.glob x i) vars own = some (.int i, own) := rfl
theorem st_str {l : List Nat} : ev C TK (.str l) vars own = some (.str l, own) := rfl
theorem st_non : ev C TK .non vars own = some (.non, own) := rfl
theorem st_bin {o : Bop} {a b : E} {x y : V} {r : V × Own} (h1 : ev C TK a vars own = some (x, own₁)) (h2 : ev C TK b vars own₁ = some (y, own₂)) (h3 : bop own₂ o x y = some r) : ev C TK (.bin o a b) vars own = some r := by show (ev C TK a vars own).bind _ = _; rw [h1]; show (ev C TK b vars own₁).bind _ = _; rw [h2]; exact h3
theorem st_binI {o : Bop} {a b : E} {i j c : Int} (h1 : ev C TK a vars own = some (.int i, own₁)) (h2 : ev C TK b vars own₁ = some (.int j, own₂)) (h3 : bopI o i j = some c) : ev C TK (.bin o a b) vars own = some (.int c, own₂) := st_bin h1 h2 (by show (bopI o i j).bind _ = _; rw [h3]; rfl)
theorem st_cmpI {o : Cop} {a b : E} {i j : Int} {c : Bool} (h1 : ev C TK a vars own = some (.int i, own₁)) (h2 : ev C TK b vars own₁ = some (.int j, own₂)) (h3 : copI o i j = some c) : tstOf (ev C TK (.cmp o a b) vars own) = some (c, own₂) := by
  show (((ev C TK a vars own).bind _).bind _) = _
  rw [h1]
  show (((ev C TK b vars own₁).bind _).bind _) = _
  rw [h2]
  show (((copI o i j).bind _).bind _) = _
  rw [h3]; rfl
theorem st_cmp {o : Cop} {a b : E} {x y : V} {r : Bool} (h1 : ev C TK a vars own = some (x, own₁)) (h2 : ev C TK b vars own₁ = some (y, own₂)) (h3 : cop own₂ o x y = some r) : ev C TK (.cmp o a b) vars own = some (.bool r, own₂) := by show (ev C TK a vars own).bind _ = _; rw [h1]; show (ev C TK b vars own₁).bind _ = _; rw [h2]; show (cop own₂ o x y).bind _ = _; rw [h3]; rfl
theorem st_idx {a b : E} {x y r : V} (h1 : ev C TK a vars own = some (x, own₁)) (h2 : ev C TK b vars own₁ = some (y, own₂)) (h3 : itemAt own₂ x y = some r) : ev C TK (.idx a b) vars own = some (r, own₂) := by show (ev C TK a vars own).bind _ = _; rw [h1]; show (ev C TK b vars own₁).bind _ = _; rw [h2]; show (itemAt own₂ x y).bind _ = _; rw [h3]; rfl
theorem st_tst {r : V × Own} {e : E} {b : Bool} (h : ev C TK e vars own = some r) (ht : truth r.2 r.1 = some b) : tstOf (ev C TK e vars own) = some (b, r.2) := by rw [h]; show (truth r.2 r.1).bind _ = _; rw [ht]; rfl
theorem st_asg {x : Nat} {e : E} {v : V} (h : ev C TK e vars own = some (v, own₁)) : ex C TK (.asg x e) vars own = some (.next, setV x v vars, own₁) := by show (ev C TK e vars own).bind _ = _; rw [h]; rfl
theorem st_ite_t {t : E} {a b : Ss} {r : Option (Fl × Vars × Own)} (h : tstOf (ev C TK t vars own) = some (true, own₁)) (ha : exs C TK a vars own₁ = r) : ex C TK (.ite t a b) vars own = r := by show (tstOf (ev C TK t vars own)).bind _ = _; rw [h]; exact ha
theorem st_ite_f {t : E} {a b : Ss} {r : Option (Fl × Vars × Own)} (h : tstOf (ev C TK t vars own) = some (false, own₁)) (ha : exs C TK b vars own₁ = r) : ex C TK (.ite t a b) vars own = r := by show (tstOf (ev C TK t vars own)).bind _ = _; rw [h]; exact ha
theorem st_ret {e : E} {v : V} (h : ev C TK e vars own = some (v, own₁)) : ex C TK (.ret e) vars own = some (.ret v, vars, own₁) := by show (ev C TK e vars own).bind _ = _; rw [h]; rfl
theorem st_seti {o i e : E} {v a k : V} (h1 : ev C TK e vars own = some (v, own₁)) (h2 : ev C TK o vars own₁ = some (a, own₂)) (h3 : ev C TK i vars own₂ = some (k, own₃)) (h4 : setAt own₃ a k v = some own') : ex C TK (.seti o i e) vars own = some (.next, vars, own') := by show (ev C TK e vars own).bind _ = _; rw [h1]; show (ev C TK o vars own₁).bind _ = _; rw [h2]; show (ev C TK i vars own₂).bind _ = _; rw [h3]; show (setAt own₃ a k v).bind _ = _; rw [h4]; rfl
theorem st_nil : exs C TK .nil vars own = some (.next, vars, own) := rfl
theorem st_next {s : S} {ss : Ss} {r : Option (Fl × Vars × Own)} (h : ex C TK s vars own = some (.next, vars₁, own₁)) (h2 : exs C TK ss vars₁ own₁ = r) : exs C TK (.cons s ss) vars own = r := by show (ex C TK s vars own).bind _ = _; rw [h]; exact h2
theorem st_stop {s : S} {ss : Ss} {v : V} (h : ex C TK s vars own = some (.ret v, vars₁, own₁)) : exs C TK (.cons s ss) vars own = some (.ret v, vars₁, own₁) := by show (ex C TK s vars own).bind _ = _; rw [h]; rfl
theorem st_evs_nil : evs C TK .nil vars own = some ([], own) := rfl
theorem st_evs {e : E} {es : Es} {v : V} {vs : List V} (h : ev C TK e vars own = some (v, own₁)) (h2 : evs C TK es vars own₁ = some (vs, own₂)) : evs C TK (.cons e es) vars own = some (v :: vs, own₂) := by show (ev C TK e vars own).bind _ = _; rw [h]; show (evs C TK es vars own₁).bind _ = _; rw [h2]; rfl
theorem mul_ok {a b : Int} (h : b.natAbs < 2 ^ 64) : bopI .mul a b = some (a * b) := if_pos (.inr h)
theorem mul_ok' {a b : Int} (h : a.natAbs < 2 ^ 64) : bopI .mul a b = some (a * b) := if_pos (.inl h)
theorem cmp_int {o : Cop} {a b : E} {i j : Int} {c : Bool} (h1 : ev C TK a vars own = some (.int i, own₁)) (h2 : ev C TK b vars own₁ = some (.int j, own₂)) (h3 : copI o i j = some c) : ev C TK (.cmp o a b) vars own = some (.bool c, own₂) := st_cmp h1 h2 h3
theorem getI_nat {α : Type} {l : List α} {j : Nat} {c : α} (h : l[j]? = some c) : getI l (j : Int) = some c := by
  unfold getI
  rw [if_pos (Int.natCast_nonneg j), Int.toNat_natCast]; exact h
theorem idx_ok {α : Type} {l : List α} {j : Nat} {c : α} (h : l[j]? = some c) (hl : l.length ≤ 100000) : -100000 ≤ (j : Int) ∧ (j : Int) ≤ 100000 := by
  have := (List.getElem?_eq_some_iff.mp h).1
  exact ⟨Int.le_trans (by decide) (Int.natCast_nonneg j), Int.ofNat_le.mpr (Nat.le_trans (Nat.le_of_lt this) hl)⟩
theorem it_str {s : List Nat} {j c : Nat} (h : s[j]? = some c) (hl : s.length ≤ 100000) : itemAt own (.str s) (.int j) = some (.str [c]) := by
  show (if -100000 ≤ (j : Int) ∧ (j : Int) ≤ 100000 then (getI s (j : Int)).bind _ else none) = _
  rw [if_pos (idx_ok h hl), getI_nat h]; rfl
theorem it_ref {vs : List V} {n j : Nat} {v : V} (h0 : own[n]? = some vs) (h : vs[j]? = some v) (hl : vs.length ≤ 100000) : itemAt own (.ref n) (.int j) = some v := by
  show (if -100000 ≤ (j : Int) ∧ (j : Int) ≤ 100000 then (own[n]?).bind _ else none) = _
  rw [if_pos (idx_ok h hl), h0]; exact getI_nat h
theorem it_lst {b : Bool} {vs : List V} {j : Nat} {v : V} (h : vs[j]? = some v) (hl : vs.length ≤ 100000) : itemAt own (.lst b vs) (.int j) = some v := by
  show (if -100000 ≤ (j : Int) ∧ (j : Int) ≤ 100000 then getI vs (j : Int) else none) = _
  rw [if_pos (idx_ok h hl)]; exact getI_nat h
theorem set_ref {vs : List V} {n j : Nat} {v : V} (h0 : own[n]? = some vs) (hj : j < vs.length) (hl : vs.length ≤ 100000) : setAt own (.ref n) (.int j) v = some (own.set n (vs.set j v)) := by
  show (own[n]?).bind _ = _
  rw [h0]
  show (if vs.length ≤ 100000 then (idxN vs.length (j : Int)).bind _ else none) = _
  rw [if_pos hl]
  unfold idxN
  rw [if_pos (Int.natCast_nonneg j), if_pos (Int.ofNat_lt.mpr hj), Int.toNat_natCast]; rfl
section
variable {ts : List Nat} {v u : V} {body : Vars → Own → Option (Fl × Vars × Own)} {f j x : Nat} {r : Option (Fl × Vars × Own)}
theorem for_end (h : iterAt own v j = some none) : forLoop ts v body (f + 1) j vars own = some (.next, vars, own) := by rw [forLoop, h]; rfl
theorem for_next (h : iterAt own v j = some (some u)) (hb : bindT ts u vars = some vars₁) (h1 : body vars₁ own = some (.next, vars₂, own₁)) (h2 : forLoop ts v body f (j + 1) vars₂ own₁ = r) : forLoop ts v body (f + 1) j vars own = r := by
  rw [forLoop, h]
  show (bindT ts u vars).bind _ = _
  rw [hb]
  show (body vars₁ own).bind _ = _
  rw [h1]; exact h2
theorem for_stop {w : V} (h : iterAt own v j = some (some u)) (hb : bindT ts u vars = some vars₁) (h1 : body vars₁ own = some (.ret w, vars₂, own₁)) : forLoop ts v body (f + 1) j vars own = some (.ret w, vars₂, own₁) := by
  rw [forLoop, h]
  show (bindT ts u vars).bind _ = _
  rw [hb]
  show (body vars₁ own).bind _ = _
  rw [h1]; rfl
theorem whl_end {test : Vars → Own → Option (Bool × Own)} (h : test vars own = some (false, own₁)) : whlLoop test body (f + 1) vars own = some (.next, vars, own₁) := by rw [whlLoop, h]; rfl
theorem whl_next {test : Vars → Own → Option (Bool × Own)} (h : test vars own = some (true, own₁)) (h1 : body vars own₁ = some (.next, vars₂, own₂)) (h2 : whlLoop test body f vars₂ own₂ = r) : whlLoop test body (f + 1) vars own = r := by
  rw [whlLoop, h]
  show (body vars own₁).bind _ = _
  rw [h1]; exact h2
theorem rev_next {us : List V} (h1 : body (setV x u vars) own = some (.next, vars₂, own₂)) (h2 : revLoop x body us vars₂ own₂ = r) : revLoop x body (u :: us) vars own = r := by
  rw [revLoop, h1]; exact h2
end
end
end Mine
end
section
namespace Mine
noncomputable def nms : List String := ["_substitution_cost", "ch_a", "ch_b", "_MOVE_COST", "_CASE_COST", "_levenshtein_distance", "a", "b", "max_cost", "result", "bindex", "minimum", "index", "row", "substitute", "insert_delete", "distance", "bchar", "_MAX_STRING_SIZE", "post", "pre", "_div2n1n", "n", "_DIV_LIMIT", "_div3n2n", "_int2digits", "_digits2int", "_divmod_pos", "r", "q", "q_digits", "a_digit", "a_digits", "q_digit", "int_divmod", "ISTERMINAL", "x", "NT_OFFSET", "ISNONTERMINAL", "ISEOF", "ENDMARKER", "_raise_serialization_error", "_escape_cdata", "text", "_escape_attrib", "_escape_attrib_html", "_escape_cdata_c14n", "_escape_attrib_c14n", "_law_cells", "script", "cells", "k", "_law_spelled", "pick", "_law_parents", "depths", "parents", "above", "_law_page", "mark", "documents", "_law_depths", "page", "told", "sign", "kind", "_law_words", "words", "up", "_law_steps", "table", "j", "far", "_law_far", "i", "word", "other", "_law_row", "symbols", "entry", "edges", "law", "figures", "places", "weights", "rest", "width", "quotient", "gathered", "toll", "ends", "joints", "symbol", "price", "due", "deep", "name", "cell", "total", "marks", "_law_joined", "sizes", "rules", "place", "both", "_law_document", "first", "right", "left", "_law_leaves", "_law_marks", "size", "_law_read", "factor", "turns", "whole", "ahead", "part", "figure", "on_top", "_law_in_order", "front", "_law_fewest", "cut", "spent", "many", "ordered", "leaves", "start", "choice", "L", "R", "mid", "shift", "upper", "lower", "inner", "digits"]
noncomputable def p_substitution_cost : Fn := ⟨[1, 2],
  (.cons (.ite (.cmp .eq (.var 1) (.var 2))
  (.cons (.ret (.int 0))
  .nil)
  .nil)
  (.cons (.ite (.cmp .eq (.meth .lower (.var 1) .nil) (.meth .lower (.var 2) .nil))
  (.cons (.ret (.glob 4 1))
  .nil)
  .nil)
  (.cons (.ret (.glob 3 2))
  .nil)))⟩
noncomputable def p_levenshtein_distance : Fn := ⟨[6, 7, 8],
  (.cons (.ite (.cmp .eq (.var 6) (.var 7))
  (.cons (.ret (.int 0))
  .nil)
  .nil)
  (.cons (.asg 20 (.int 0))
  (.cons (.whl (.and (.cons (.slice (.var 6) (.var 20) .non) (.cons (.slice (.var 7) (.var 20) .non) (.cons (.cmp .eq (.idx (.var 6) (.var 20)) (.idx (.var 7) (.var 20))) .nil))))
  (.cons (.aug 20 .add (.int 1))
  .nil))
  (.cons (.asg 6 (.slice (.var 6) (.var 20) .non))
  (.cons (.asg 7 (.slice (.var 7) (.var 20) .non))
  (.cons (.asg 19 (.int 0))
  (.cons (.whl (.and (.cons (.slice (.var 6) .non (.or (.cons (.var 19) (.cons .non .nil)))) (.cons (.slice (.var 7) .non (.or (.cons (.var 19) (.cons .non .nil)))) (.cons (.cmp .eq (.idx (.var 6) (.bin .sub (.var 19) (.int 1))) (.idx (.var 7) (.bin .sub (.var 19) (.int 1)))) .nil))))
  (.cons (.aug 19 .sub (.int 1))
  .nil))
  (.cons (.asg 6 (.slice (.var 6) .non (.or (.cons (.var 19) (.cons .non .nil)))))
  (.cons (.asg 7 (.slice (.var 7) .non (.or (.cons (.var 19) (.cons .non .nil)))))
  (.cons (.ite (.or (.cons (.not (.var 6)) (.cons (.not (.var 7)) .nil)))
  (.cons (.ret (.bin .mul (.glob 3 2) (.bin .add (.prim .len (.cons (.var 6) .nil)) (.prim .len (.cons (.var 7) .nil)))))
  .nil)
  .nil)
  (.cons (.ite (.or (.cons (.cmp .gt (.prim .len (.cons (.var 6) .nil)) (.glob 18 40)) (.cons (.cmp .gt (.prim .len (.cons (.var 7) .nil)) (.glob 18 40)) .nil)))
  (.cons (.ret (.bin .add (.var 8) (.int 1)))
  .nil)
  .nil)
  (.cons (.ite (.cmp .lt (.prim .len (.cons (.var 7) .nil)) (.prim .len (.cons (.var 6) .nil)))
  (.cons (.swp 6 7 (.var 7) (.var 6))
  .nil)
  .nil)
  (.cons (.ite (.cmp .gt (.bin .mul (.bin .sub (.prim .len (.cons (.var 7) .nil)) (.prim .len (.cons (.var 6) .nil))) (.glob 3 2)) (.var 8))
  (.cons (.ret (.bin .add (.var 8) (.int 1)))
  .nil)
  .nil)
  (.cons (.asg 13 (.prim .list (.cons (.prim .range (.cons (.glob 3 2) (.cons (.bin .mul (.glob 3 2) (.bin .add (.prim .len (.cons (.var 6) .nil)) (.int 1))) (.cons (.glob 3 2) .nil)))) .nil)))
  (.cons (.asg 9 (.int 0))
  (.cons (.for [10] (.prim .range (.cons (.prim .len (.cons (.var 7) .nil)) .nil))
  (.cons (.asg 17 (.idx (.var 7) (.var 10)))
  (.cons (.asg2 16 9 (.bin .mul (.var 10) (.glob 3 2)))
  (.cons (.asg 11 (.int 9223372036854775807))
  (.cons (.for [12] (.prim .range (.cons (.prim .len (.cons (.var 6) .nil)) .nil))
  (.cons (.asg 14 (.bin .add (.var 16) (.call 0 (.cons (.var 17) (.cons (.idx (.var 6) (.var 12)) .nil)))))
  (.cons (.asg 16 (.idx (.var 13) (.var 12)))
  (.cons (.asg 15 (.bin .add (.prim .min (.cons (.var 9) (.cons (.var 16) .nil))) (.glob 3 2)))
  (.cons (.asg 9 (.prim .min (.cons (.var 15) (.cons (.var 14) .nil))))
  (.cons (.seti (.var 13) (.var 12) (.var 9))
  (.cons (.ite (.cmp .lt (.var 9) (.var 11))
  (.cons (.asg 11 (.var 9))
  .nil)
  .nil)
  .nil)))))))
  (.cons (.ite (.cmp .gt (.var 11) (.var 8))
  (.cons (.ret (.bin .add (.var 8) (.int 1)))
  .nil)
  .nil)
  .nil))))))
  (.cons (.ret (.var 9))
  .nil)))))))))))))))))⟩
noncomputable def p_div2n1n : Fn := ⟨[6, 7, 22],
  (.cons (.ite (.cmp .le (.bin .sub (.meth .bitlen (.var 6) .nil) (.var 22)) (.glob 23 4000))
  (.cons (.ret (.prim .divmod (.cons (.var 6) (.cons (.var 7) .nil))))
  .nil)
  .nil)
  .dead)⟩
noncomputable def p_divmod_pos : Fn := ⟨[6, 7],
  (.cons (.asg 22 (.meth .bitlen (.var 7) .nil))
  (.cons (.asg 32 (.call 25 (.cons (.var 6) (.cons (.var 22) .nil))))
  (.cons (.asg 28 (.int 0))
  (.cons (.asg 30 (.list .nil))
  (.cons (.forrev 31 (.var 32)
  (.cons (.unp [33, 28] (.call 21 (.cons (.bin .add (.bin .shl (.var 28) (.var 22)) (.var 31)) (.cons (.var 7) (.cons (.var 22) .nil)))))
  (.cons (.exp (.meth .append (.var 30) (.cons (.var 33) .nil)))
  .nil)))
  (.cons (.exp (.meth .reverse (.var 30) .nil))
  (.cons (.asg 29 (.call 26 (.cons (.var 30) (.cons (.var 22) .nil))))
  (.cons (.ret (.tup (.cons (.var 29) (.cons (.var 28) .nil))))
  .nil))))))))⟩
noncomputable def p_int_divmod : Fn := ⟨[6, 7],
  (.cons (.ite (.cmp .eq (.var 7) (.int 0))
  .dead
  (.cons (.ite (.cmp .lt (.var 7) (.int 0))
  (.cons (.unp [29, 28] (.call 34 (.cons (.neg (.var 6)) (.cons (.neg (.var 7)) .nil))))
  (.cons (.ret (.tup (.cons (.var 29) (.cons (.neg (.var 28)) .nil))))
  .nil))
  (.cons (.ite (.cmp .lt (.var 6) (.int 0))
  (.cons (.unp [29, 28] (.call 34 (.cons (.inv (.var 6)) (.cons (.var 7) .nil))))
  (.cons (.ret (.tup (.cons (.inv (.var 29)) (.cons (.bin .add (.var 7) (.inv (.var 28))) .nil))))
  .nil))
  (.cons (.ret (.call 27 (.cons (.var 6) (.cons (.var 7) .nil))))
  .nil))
  .nil))
  .nil))
  .nil)⟩
noncomputable def p_ISTERMINAL : Fn := ⟨[36],
  (.cons (.ret (.cmp .lt (.var 36) (.glob 37 256)))
  .nil)⟩
noncomputable def p_ISNONTERMINAL : Fn := ⟨[36],
  (.cons (.ret (.cmp .ge (.var 36) (.glob 37 256)))
  .nil)⟩
noncomputable def p_ISEOF : Fn := ⟨[36],
  (.cons (.ret (.cmp .eq (.var 36) (.glob 40 0)))
  .nil)⟩
noncomputable def p_escape_cdata : Fn := ⟨[43],
  (.cons (.try (.cons (.ite (.cmp .isin (.str [38]) (.var 43))
  (.cons (.asg 43 (.repl (.var 43) [38] [38, 97, 109, 112, 59]))
  .nil)
  .nil)
  (.cons (.ite (.cmp .isin (.str [60]) (.var 43))
  (.cons (.asg 43 (.repl (.var 43) [60] [38, 108, 116, 59]))
  .nil)
  .nil)
  (.cons (.ite (.cmp .isin (.str [62]) (.var 43))
  (.cons (.asg 43 (.repl (.var 43) [62] [38, 103, 116, 59]))
  .nil)
  .nil)
  (.cons (.ret (.var 43))
  .nil)))))
  .nil)⟩
noncomputable def p_escape_attrib : Fn := ⟨[43],
  (.cons (.try (.cons (.ite (.cmp .isin (.str [38]) (.var 43))
  (.cons (.asg 43 (.repl (.var 43) [38] [38, 97, 109, 112, 59]))
  .nil)
  .nil)
  (.cons (.ite (.cmp .isin (.str [60]) (.var 43))
  (.cons (.asg 43 (.repl (.var 43) [60] [38, 108, 116, 59]))
  .nil)
  .nil)
  (.cons (.ite (.cmp .isin (.str [62]) (.var 43))
  (.cons (.asg 43 (.repl (.var 43) [62] [38, 103, 116, 59]))
  .nil)
  .nil)
  (.cons (.ite (.cmp .isin (.str [34]) (.var 43))
  (.cons (.asg 43 (.repl (.var 43) [34] [38, 113, 117, 111, 116, 59]))
  .nil)
  .nil)
  (.cons (.ite (.cmp .isin (.str [13]) (.var 43))
  (.cons (.asg 43 (.repl (.var 43) [13] [38, 35, 49, 51, 59]))
  .nil)
  .nil)
  (.cons (.ite (.cmp .isin (.str [10]) (.var 43))
  (.cons (.asg 43 (.repl (.var 43) [10] [38, 35, 49, 48, 59]))
  .nil)
  .nil)
  (.cons (.ite (.cmp .isin (.str [9]) (.var 43))
  (.cons (.asg 43 (.repl (.var 43) [9] [38, 35, 48, 57, 59]))
  .nil)
  .nil)
  (.cons (.ret (.var 43))
  .nil)))))))))
  .nil)⟩
noncomputable def p_escape_attrib_html : Fn := ⟨[43],
  (.cons (.try (.cons (.ite (.cmp .isin (.str [38]) (.var 43))
  (.cons (.asg 43 (.repl (.var 43) [38] [38, 97, 109, 112, 59]))
  .nil)
  .nil)
  (.cons (.ite (.cmp .isin (.str [62]) (.var 43))
  (.cons (.asg 43 (.repl (.var 43) [62] [38, 103, 116, 59]))
  .nil)
  .nil)
  (.cons (.ite (.cmp .isin (.str [34]) (.var 43))
  (.cons (.asg 43 (.repl (.var 43) [34] [38, 113, 117, 111, 116, 59]))
  .nil)
  .nil)
  (.cons (.ret (.var 43))
  .nil)))))
  .nil)⟩
noncomputable def p_escape_cdata_c14n : Fn := ⟨[43],
  (.cons (.try (.cons (.ite (.cmp .isin (.str [38]) (.var 43))
  (.cons (.asg 43 (.repl (.var 43) [38] [38, 97, 109, 112, 59]))
  .nil)
  .nil)
  (.cons (.ite (.cmp .isin (.str [60]) (.var 43))
  (.cons (.asg 43 (.repl (.var 43) [60] [38, 108, 116, 59]))
  .nil)
  .nil)
  (.cons (.ite (.cmp .isin (.str [62]) (.var 43))
  (.cons (.asg 43 (.repl (.var 43) [62] [38, 103, 116, 59]))
  .nil)
  .nil)
  (.cons (.ite (.cmp .isin (.str [13]) (.var 43))
  (.cons (.asg 43 (.repl (.var 43) [13] [38, 35, 120, 68, 59]))
  .nil)
  .nil)
  (.cons (.ret (.var 43))
  .nil))))))
  .nil)⟩
noncomputable def p_escape_attrib_c14n : Fn := ⟨[43],
  (.cons (.try (.cons (.ite (.cmp .isin (.str [38]) (.var 43))
  (.cons (.asg 43 (.repl (.var 43) [38] [38, 97, 109, 112, 59]))
  .nil)
  .nil)
  (.cons (.ite (.cmp .isin (.str [60]) (.var 43))
  (.cons (.asg 43 (.repl (.var 43) [60] [38, 108, 116, 59]))
  .nil)
  .nil)
  (.cons (.ite (.cmp .isin (.str [34]) (.var 43))
  (.cons (.asg 43 (.repl (.var 43) [34] [38, 113, 117, 111, 116, 59]))
  .nil)
  .nil)
  (.cons (.ite (.cmp .isin (.str [9]) (.var 43))
  (.cons (.asg 43 (.repl (.var 43) [9] [38, 35, 120, 57, 59]))
  .nil)
  .nil)
  (.cons (.ite (.cmp .isin (.str [10]) (.var 43))
  (.cons (.asg 43 (.repl (.var 43) [10] [38, 35, 120, 65, 59]))
  .nil)
  .nil)
  (.cons (.ite (.cmp .isin (.str [13]) (.var 43))
  (.cons (.asg 43 (.repl (.var 43) [13] [38, 35, 120, 68, 59]))
  .nil)
  .nil)
  (.cons (.ret (.var 43))
  .nil))))))))
  .nil)⟩
noncomputable def l2_law_cells : Fn := ⟨[49],
  (.cons (.asg 50 (.list (.cons (.int 5) (.cons (.int 7) (.cons (.int 12) (.cons (.int 4) (.cons (.int 9) .nil)))))))
  (.cons (.for [51] (.prim .range (.cons (.prim .min (.cons (.prim .len (.cons (.var 49) .nil)) (.cons (.int 60) .nil))) .nil))
  (.cons (.augi (.var 50) (.bin .mod (.var 51) (.int 5)) .add (.idx (.var 49) (.var 51)))
  .nil))
  (.cons (.ret (.var 50))
  .nil)))⟩
noncomputable def l2_law_spelled : Fn := ⟨[53, 43],
  (.cons (.ite (.cmp .eq (.var 53) (.int 0))
  (.cons (.ret (.call 42 (.cons (.var 43) .nil)))
  .nil)
  .nil)
  (.cons (.ite (.cmp .eq (.var 53) (.int 1))
  (.cons (.ret (.call 46 (.cons (.var 43) .nil)))
  .nil)
  .nil)
  (.cons (.ite (.cmp .eq (.var 53) (.int 2))
  (.cons (.ret (.call 44 (.cons (.var 43) .nil)))
  .nil)
  .nil)
  (.cons (.ite (.cmp .eq (.var 53) (.int 3))
  (.cons (.ret (.call 47 (.cons (.var 43) .nil)))
  .nil)
  .nil)
  (.cons (.ret (.call 45 (.cons (.var 43) .nil)))
  .nil)))))⟩
noncomputable def l2_law_joined : Fn := ⟨[101],
  (.cons (.asg 13 (.comp (.tup (.cons (.bin .sub (.int 255) (.var 51)) (.cons (.idx (.var 101) (.var 51)) .nil))) [51] (.prim .range (.cons (.prim .len (.cons (.var 101) .nil)) .nil))))
  (.cons (.asg 102 (.list .nil))
  (.cons (.whl (.cmp .gt (.prim .len (.cons (.var 13) .nil)) (.int 1))
  (.cons (.asg 51 (.int 0))
  (.cons (.whl (.and (.cons (.cmp .lt (.bin .add (.var 51) (.int 2)) (.prim .len (.cons (.var 13) .nil))) (.cons (.cmp .gt (.idx (.idx (.var 13) (.var 51)) (.int 1)) (.idx (.idx (.var 13) (.bin .add (.var 51) (.int 2))) (.int 1))) .nil)))
  (.cons (.aug 51 .add (.int 1))
  .nil))
  (.cons (.asg 104 (.bin .add (.idx (.idx (.var 13) (.var 51)) (.int 1)) (.idx (.idx (.var 13) (.bin .add (.var 51) (.int 1))) (.int 1))))
  (.cons (.exp (.meth .append (.var 102) (.cons (.tup (.cons (.idx (.idx (.var 13) (.var 51)) (.int 0)) (.cons (.idx (.idx (.var 13) (.bin .add (.var 51) (.int 1))) (.int 0)) .nil))) .nil)))
  (.cons (.asg 103 (.var 51))
  (.cons (.whl (.and (.cons (.cmp .gt (.var 103) (.int 0)) (.cons (.cmp .lt (.idx (.idx (.var 13) (.bin .sub (.var 103) (.int 1))) (.int 1)) (.var 104)) .nil)))
  (.cons (.aug 103 .sub (.int 1))
  .nil))
  (.cons (.asg 13 (.bin .add (.bin .add (.bin .add (.slice (.var 13) .non (.var 103)) (.list (.cons (.tup (.cons (.bin .add (.int 255) (.prim .len (.cons (.var 102) .nil))) (.cons (.var 104) .nil))) .nil))) (.slice (.var 13) (.var 103) (.var 51))) (.slice (.var 13) (.bin .add (.var 51) (.int 2)) .non)))
  .nil))))))))
  (.cons (.ret (.var 102))
  .nil))))⟩
noncomputable def l2_law_document : Fn := ⟨[92, 102, 101, 53, 59],
  (.cons (.ite (.call 35 (.cons (.var 92) .nil))
  (.cons (.ret (.bin .add (.bin .mul (.var 59) (.idx (.var 101) (.bin .sub (.int 255) (.var 92)))) (.prim .chr (.cons (.bin .sub (.int 320) (.var 92)) .nil))))
  .nil)
  .nil)
  (.cons (.unp [108, 107] (.idx (.var 102) (.bin .sub (.var 92) (.int 256))))
  (.cons (.asg 106 (.call 52 (.cons (.var 53) (.cons (.call 105 (.cons (.var 108) (.cons (.var 102) (.cons (.var 101) (.cons (.var 53) (.cons (.var 59) .nil)))))) .nil))))
  (.cons (.ret (.bin .add (.var 106) (.call 52 (.cons (.var 53) (.cons (.call 105 (.cons (.var 107) (.cons (.var 102) (.cons (.var 101) (.cons (.var 53) (.cons (.var 59) .nil)))))) .nil)))))
  .nil))))⟩
noncomputable def l2_law_leaves : Fn := ⟨[92, 102, 95],
  (.cons (.ite (.call 38 (.cons (.var 92) .nil))
  (.cons (.unp [108, 107] (.idx (.var 102) (.bin .sub (.var 92) (.int 256))))
  (.cons (.ret (.bin .add (.call 109 (.cons (.var 108) (.cons (.var 102) (.cons (.bin .add (.var 95) (.int 1)) .nil)))) (.call 109 (.cons (.var 107) (.cons (.var 102) (.cons (.bin .add (.var 95) (.int 1)) .nil))))))
  .nil))
  .nil)
  (.cons (.ret (.list (.cons (.tup (.cons (.bin .sub (.int 255) (.var 92)) (.cons (.var 95) .nil))) .nil)))
  .nil))⟩
noncomputable def l2_law_marks : Fn := ⟨[59, 111, 95],
  (.cons (.asg 96 (.menu [([38], [97, 109, 112, 59]), ([60], [108, 116, 59]), ([62], [103, 116, 59])] (.var 59)))
  (.cons (.ret (.bin .mul (.bin .add (.bin .add (.str [38]) (.bin .mul (.str [97, 109, 112, 59]) (.bin .sub (.var 95) (.int 1)))) (.var 96)) (.var 111)))
  .nil))⟩
noncomputable def l2_law_read : Fn := ⟨[62],
  (.cons (.asg 63 (.list .nil))
  (.cons (.asg 99 (.list .nil))
  (.cons (.for [64] (.var 62)
  (.cons (.asg 65 (.tok (.var 64)))
  (.cons (.ite (.cmp .eq (.var 65) (.int 19))
  (.cons (.exp (.meth .append (.var 99) (.cons (.int 0) .nil)))
  .nil)
  (.cons (.ite (.cmp .eq (.var 65) (.int 13))
  (.cons (.augi (.var 99) (.neg (.int 1)) .add (.int 1))
  .nil)
  (.cons (.ite (.cmp .isin (.var 64) (.str [65, 66, 67, 68, 69]))
  (.cons (.exp (.meth .append (.var 63) (.cons (.tup (.cons (.var 64) (.cons (.var 99) .nil))) .nil)))
  (.cons (.asg 99 (.list .nil))
  .nil))
  .nil)
  .nil))
  .nil))
  .nil)))
  (.cons (.ret (.var 63))
  .nil))))⟩
noncomputable def l2_law_words : Fn := ⟨[55, 113, 114],
  (.cons (.asg 115 (.bin .pow (.int 2) (.prim .max (.cons (.var 55) .nil))))
  (.cons (.asg 116 (.int 0))
  (.cons (.asg 67 (.list .nil))
  (.cons (.for [51] (.prim .range (.cons (.prim .len (.cons (.var 55) .nil)) .nil))
  (.cons (.asg 117 (.bin .fdiv (.var 115) (.bin .pow (.int 2) (.idx (.var 55) (.var 51)))))
  (.cons (.asg 119 (.bin .mod (.idx (.var 114) (.var 51)) (.bin .mul (.var 113) (.var 117))))
  (.cons (.unp [87, 85] (.call 34 (.cons (.bin .add (.bin .mul (.var 113) (.bin .add (.bin .mul (.var 115) (.idx (.var 114) (.var 51))) (.var 116))) (.var 119)) (.cons (.bin .mul (.var 113) (.var 117)) .nil))))
  (.cons (.ite (.or (.cons (.cmp .ne (.var 85) (.var 119)) (.cons (.call 39 (.cons (.bin .sub (.var 115) (.var 116)) .nil)) .nil)))
  (.cons (.ret (.list .nil))
  .nil)
  .nil)
  (.cons (.asg 82 (.call 25 (.cons (.bin .sub (.var 87) (.bin .mul (.idx (.var 114) (.var 51)) (.bin .pow (.int 2) (.idx (.var 55) (.var 51))))) (.cons (.int 1) .nil))))
  (.cons (.asg 75 (.meth .join (.str []) (.cons (.comp (.idx (.str [48, 49]) (.var 118)) [118] (.rev (.var 82))) .nil)))
  (.cons (.exp (.meth .append (.var 67) (.cons (.bin .add (.bin .mul (.str [48]) (.bin .sub (.idx (.var 55) (.var 51)) (.prim .len (.cons (.var 75) .nil)))) (.var 75)) .nil)))
  (.cons (.aug 116 .add (.var 117))
  .nil)))))))))
  (.cons (.ret (.ite (.call 39 (.cons (.bin .sub (.var 115) (.var 116)) .nil)) (.var 67) (.list .nil)))
  .nil)))))⟩
noncomputable def l2_law_in_order : Fn := ⟨[121, 67, 101, 53, 59],
  (.cons (.ite (.cmp .isin (.var 121) (.var 67))
  (.cons (.asg 51 (.meth .index (.var 67) (.cons (.var 121) .nil)))
  (.cons (.ret (.bin .add (.bin .mul (.var 59) (.idx (.var 101) (.var 51))) (.prim .chr (.cons (.bin .add (.int 65) (.var 51)) .nil))))
  .nil))
  .nil)
  (.cons (.ite (.cmp .gt (.prim .len (.cons (.var 121) .nil)) (.int 4))
  (.cons (.ret (.str []))
  .nil)
  .nil)
  (.cons (.asg 106 (.call 52 (.cons (.var 53) (.cons (.call 120 (.cons (.bin .add (.var 121) (.str [48])) (.cons (.var 67) (.cons (.var 101) (.cons (.var 53) (.cons (.var 59) .nil)))))) .nil))))
  (.cons (.ret (.bin .add (.var 106) (.call 52 (.cons (.var 53) (.cons (.call 120 (.cons (.bin .add (.var 121) (.str [49])) (.cons (.var 67) (.cons (.var 101) (.cons (.var 53) (.cons (.var 59) .nil)))))) .nil)))))
  .nil))))⟩
noncomputable def l2_law_fewest : Fn := ⟨[101],
  (.cons (.ite (.cmp .eq (.prim .len (.cons (.var 101) .nil)) (.int 1))
  (.cons (.ret (.int 0))
  .nil)
  .nil)
  (.cons (.ret (.bin .add (.prim .sum (.cons (.var 101) .nil)) (.prim .min (.cons (.comp (.bin .add (.call 122 (.cons (.slice (.var 101) .non (.var 123)) .nil)) (.call 122 (.cons (.slice (.var 101) (.var 123) .non) .nil))) [123] (.prim .range (.cons (.int 1) (.cons (.prim .len (.cons (.var 101) .nil)) .nil)))) .nil))))
  .nil))⟩
noncomputable def l2_law : Fn := ⟨[49],
  (.cons (.asg 50 (.call 48 (.cons (.var 49) .nil)))
  (.cons (.asg 98 (.prim .sum (.cons (.var 50) .nil)))
  (.cons (.asg 125 (.ite (.cmp .gt (.prim .len (.cons (.var 49) .nil)) (.int 4)) (.int 5) (.int 4)))
  (.cons (.asg 101 (.comp (.bin .add (.int 1) (.bin .mod (.idx (.var 50) (.var 51)) (.int 3))) [51] (.prim .range (.cons (.var 125) .nil))))
  (.cons (.asg 114 (.comp (.bin .sub (.bin .mod (.bin .add (.var 97) (.bin .pow (.int 2) (.int 63))) (.bin .pow (.int 2) (.int 64))) (.bin .pow (.int 2) (.int 63))) [97] (.var 50)))
  (.cons (.asg 113 (.bin .add (.int 100) (.bin .mod (.bin .fdiv (.var 98) (.int 15)) (.int 900))))
  (.cons (.asg 53 (.bin .mod (.var 98) (.int 5)))
  (.cons (.asg 129 (.idx (.list (.cons (.str [38, 60, 62]) (.cons (.str [38, 60, 62]) (.cons (.str [38, 60, 62]) (.cons (.str [38, 60]) (.cons (.str [38, 62]) .nil)))))) (.var 53)))
  (.cons (.asg 59 (.idx (.var 129) (.bin .mod (.bin .fdiv (.var 98) (.int 5)) (.prim .len (.cons (.var 129) .nil)))))
  (.cons (.asg 102 (.call 100 (.cons (.var 101) .nil)))
  (.cons (.asg 128 (.bin .add (.int 255) (.prim .len (.cons (.var 102) .nil))))
  (.cons (.asg 62 (.call 105 (.cons (.var 128) (.cons (.var 102) (.cons (.var 101) (.cons (.var 53) (.cons (.var 59) .nil)))))))
  (.cons (.asg 127 (.call 109 (.cons (.var 128) (.cons (.var 102) (.cons (.int 0) .nil)))))
  (.cons (.ite (.cmp .ne (.var 62) (.meth .join (.str []) (.cons (.comp (.bin .add (.call 110 (.cons (.var 59) (.cons (.idx (.var 101) (.var 51)) (.cons (.var 95) .nil)))) (.idx (.str [65, 66, 67, 68, 69]) (.var 51))) [51, 95] (.var 127)) .nil)))
  (.cons (.ret (.bool false))
  .nil)
  .nil)
  (.cons (.asg 55 (.comp (.var 95) [51, 95] (.prim .sorted (.cons (.var 127) .nil))))
  (.cons (.ite (.cmp .ne (.prim .sorted (.cons (.call 112 (.cons (.var 62) .nil)) .nil)) (.comp (.tup (.cons (.idx (.str [65, 66, 67, 68, 69]) (.var 51)) (.cons (.bin .mul (.list (.cons (.idx (.var 55) (.var 51)) .nil)) (.idx (.var 101) (.var 51))) .nil))) [51] (.prim .range (.cons (.var 125) .nil))))
  (.cons (.ret (.bool false))
  .nil)
  .nil)
  (.cons (.asg 126 (.call 120 (.cons (.str []) (.cons (.call 66 (.cons (.var 55) (.cons (.var 113) (.cons (.var 114) .nil)))) (.cons (.var 101) (.cons (.var 53) (.cons (.var 59) .nil)))))))
  (.cons (.ite (.cmp .ne (.var 126) (.meth .join (.str []) (.cons (.comp (.bin .add (.call 110 (.cons (.var 59) (.cons (.idx (.var 101) (.var 51)) (.cons (.idx (.var 55) (.var 51)) .nil)))) (.idx (.str [65, 66, 67, 68, 69]) (.var 51))) [51] (.prim .range (.cons (.var 125) .nil))) .nil)))
  (.cons (.ret (.bool false))
  .nil)
  .nil)
  (.cons (.asg 124 (.int 0))
  (.cons (.for [51] (.prim .range (.cons (.var 125) .nil))
  (.cons (.asg 93 (.bin .mul (.bin .mul (.int 8) (.idx (.var 101) (.var 51))) (.idx (.var 55) (.var 51))))
  (.cons (.aug 124 .add (.call 5 (.cons (.bin .mul (.var 59) (.idx (.var 101) (.var 51))) (.cons (.call 110 (.cons (.var 59) (.cons (.idx (.var 101) (.var 51)) (.cons (.idx (.var 55) (.var 51)) .nil)))) (.cons (.bin .add (.var 93) (.var 51)) .nil)))))
  .nil)))
  (.cons (.ret (.cmp .eq (.var 124) (.bin .mul (.int 8) (.call 122 (.cons (.var 101) .nil)))))
  .nil)))))))))))))))))))))⟩
end Mine
end
section
set_option maxRecDepth 100000
set_option autoImplicit false
namespace Mine

theorem gv_set (i t : Nat) (u : V) : ∀ vars : Vars, getV i (setV t u vars) = if i = t then some u else getV i vars
  | [] => by
    simp only [setV, getV]
    by_cases h : i = t
    · simp [h]
    · simp [h]
  | (y, w) :: r => by
    simp only [setV]
    by_cases h : t = y
    · subst h
      simp only [beq_self_eq_true, if_true, getV]
      by_cases h2 : i = t
      · simp [h2]
      · simp [h2]
    · simp only [beq_iff_eq, h, if_false, getV, gv_set i t u r]
      by_cases h2 : i = y
      · subst h2; simp [Ne.symm h]
      · simp [h2]
theorem gv_same {t : Nat} {u : V} {vars : Vars} : getV t (setV t u vars) = some u := by rw [gv_set, if_pos rfl]
theorem gv_ne {i t : Nat} {u : V} {vars : Vars} {r : Option V} (h : i ≠ t) (e : getV i vars = r) : getV i (setV t u vars) = r := by rw [gv_set, if_neg h]; exact e

section
variable {C : Nat → List V → Option V} {TK : Nat → Option Int} {vars vars' vars₁ vars₂ : Vars} {own own' own₁ own₂ own₃ : Own}
theorem st_prim {p : Pf} {as : Es} {vs : List V} {r : V × Own} (h : evs C TK as vars own = some (vs, own₁)) (h2 : prim own₁ p vs = some r) : ev C TK (.prim p as) vars own = some r := by show (evs C TK as vars own).bind _ = _; rw [h]; exact h2
theorem st_call {f : Nat} {as : Es} {vs ws : List V} {v : V} (h : evs C TK as vars own = some (vs, own₁)) (h2 : mapO (frz true own₁ depthF) vs = some ws) (h3 : C f ws = some v) : ev C TK (.call f as) vars own = some (v, own₁) := by
  show (evs C TK as vars own).bind _ = _; rw [h]; show (mapO (frz true own₁ depthF) vs).bind _ = _; rw [h2]; show (C f ws).bind _ = _; rw [h3]; rfl
theorem st_meth {m : Mt} {o : E} {as : Es} {x : V} {vs : List V} {r : V × Own} (h : ev C TK o vars own = some (x, own₁)) (h2 : evs C TK as vars own₁ = some (vs, own₂)) (h3 : meth own₂ m x vs = some r) : ev C TK (.meth m o as) vars own = some r := by
  show (ev C TK o vars own).bind _ = _; rw [h]; show (evs C TK as vars own₁).bind _ = _; rw [h2]; exact h3
theorem st_asg2 {x y : Nat} {e : E} {v : V} (h : ev C TK e vars own = some (v, own₁)) : ex C TK (.asg2 x y e) vars own = some (.next, setV y v (setV x v vars), own₁) := by show (ev C TK e vars own).bind _ = _; rw [h]; rfl
theorem st_for {ts : List Nat} {it : E} {b : Ss} {v : V} {r : Option (Fl × Vars × Own)} (h : ev C TK it vars own = some (v, own₁)) (h2 : forLoop ts v (fun vars own => exs C TK b vars own) (iterFuel own₁ v) 0 vars own₁ = r) : ex C TK (.for ts it b) vars own = r := by
  show (ev C TK it vars own).bind _ = _; rw [h]; exact h2

noncomputable def cst (c d : Nat) : Int := if c = d then 0 else if lowC c = lowC d then 1 else 2
theorem cst_run (c d : Nat) (hc : c < 128) (hd : d < 128) : runF C TK p_substitution_cost [.str [c], .str [d]] = some (.int (cst c d)) := by
  have g1 : getV 1 [(1, V.str [c]), (2, V.str [d])] = some (.str [c]) := rfl
  have g2 : getV 2 [(1, V.str [c]), (2, V.str [d])] = some (.str [d]) := rfl
  have t1 : tstOf (ev C TK (.cmp .eq (.var 1) (.var 2)) [(1, V.str [c]), (2, V.str [d])] []) = some (decide (c = d), []) :=
    st_tst (r := (.bool (decide (c = d)), [])) (st_cmp (st_var g1) (st_var g2) (by show some (decide ([c] = [d])) = _; congr 1; simp)) rfl
  have t2 : tstOf (ev C TK (.cmp .eq (.meth .lower (.var 1) .nil) (.meth .lower (.var 2) .nil)) [(1, V.str [c]), (2, V.str [d])] []) = some (decide (lowC c = lowC d), []) :=
    st_tst (r := (.bool (decide (lowC c = lowC d)), [])) (st_cmp (x := .str [lowC c]) (y := .str [lowC d]) (own₁ := []) (own₂ := []) (st_meth (st_var g1) st_evs_nil (by show (if c < 128 then _ else none) = _; rw [if_pos hc])) (st_meth (st_var g2) st_evs_nil (by show (if d < 128 then _ else none) = _; rw [if_pos hd]))
      (by show some (decide ([lowC c] = [lowC d])) = _; congr 1; simp)) rfl
  have key : exs C TK p_substitution_cost.body [(1, V.str [c]), (2, V.str [d])] [] = some (.ret (.int (cst c d)), [(1, V.str [c]), (2, V.str [d])], []) := by
    unfold cst
    by_cases h1 : c = d
    · rw [if_pos h1]
      exact st_stop (st_ite_t (by rw [t1]; simp [h1]) (st_stop (st_ret st_int)))
    · rw [if_neg h1]
      refine st_next (st_ite_f (own₁ := []) (by rw [t1]; simp [h1]) st_nil) ?_
      by_cases h2 : lowC c = lowC d
      · rw [if_pos h2]
        exact st_stop (st_ite_t (by rw [t2]; simp [h2]) (st_stop (st_ret st_glob)))
      · rw [if_neg h2]
        refine st_next (st_ite_f (own₁ := []) (by rw [t2]; simp [h2]) st_nil) ?_
        exact st_stop (st_ret st_glob)
  show (match setVs [1, 2] [.str [c], .str [d]] [] with | none => none | some vars => _) = _
  exact runF_of rfl key rfl

/-- one row of the table: what is left of a, of the row; the cell to the left above, the cell to the left, the least -/
noncomputable def dpR (bc : Nat) : List Nat → List Int → Int → Int → Int → List Int × Int × Int
  | x :: xs, r :: rs, d, res, mn =>
    let ins := (if r < res then r else res) + 2
    let sub := d + cst bc x
    let res' := if sub < ins then sub else ins
    let q := dpR bc xs rs r res' (if res' < mn then res' else mn)
    (res' :: q.1, q.2)
  | _, _, _, res, mn => ([], res, mn)
theorem dpR_len (bc : Nat) : ∀ (a : List Nat) (row : List Int) (d res mn : Int), row.length = a.length → (dpR bc a row d res mn).1.length = a.length
  | [], _, _, _, _, _ => rfl
  | _ :: _, [], _, _, _, h => by simp at h
  | x :: xs, r :: rs, d, res, mn, h => by simp only [dpR, List.length_cons]; rw [dpR_len bc xs rs]; simpa using h

noncomputable def levIn : Ss :=
  (.cons (.asg 14 (.bin .add (.var 16) (.call 0 (.cons (.var 17) (.cons (.idx (.var 6) (.var 12)) .nil)))))
  (.cons (.asg 16 (.idx (.var 13) (.var 12)))
  (.cons (.asg 15 (.bin .add (.prim .min (.cons (.var 9) (.cons (.var 16) .nil))) (.glob 3 2)))
  (.cons (.asg 9 (.prim .min (.cons (.var 15) (.cons (.var 14) .nil))))
  (.cons (.seti (.var 13) (.var 12) (.var 9))
  (.cons (.ite (.cmp .lt (.var 9) (.var 11))
  (.cons (.asg 11 (.var 9))
  .nil)
  .nil)
  .nil))))))

structure IV (vars : Vars) (a b : List Nat) (mc : Int) (bc : Nat) (d res mn : Int) : Prop where
  g6 : getV 6 vars = some (.str a)
  g7 : getV 7 vars = some (.str b)
  g8 : getV 8 vars = some (.int mc)
  g13 : getV 13 vars = some (.ref 0)
  g17 : getV 17 vars = some (.str [bc])
  g16 : getV 16 vars = some (.int d)
  g9 : getV 9 vars = some (.int res)
  g11 : getV 11 vars = some (.int mn)

theorem lev_step (hC : ∀ c d, c < 128 → d < 128 → C 0 [.str [c], .str [d]] = some (.int (cst c d))) {a b : List Nat} {mc : Int} {bc x j : Nat} {d res mn r : Int} {row : List V} (I : IV vars a b mc bc d res mn) (g12 : getV 12 vars = some (.int j)) (hx : a[j]? = some x) (hr : row[j]? = some (.int r))
    (hb : bc < 128) (hx2 : x < 128) (hl : row.length ≤ 1000) (hal : a.length ≤ 1000) :
    let ins := (if r < res then r else res) + 2
    let sub := d + cst bc x
    let res' := if sub < ins then sub else ins
    ∃ vars', exs C TK levIn vars [row] = some (.next, vars', [row.set j (.int res')]) ∧ IV vars' a b mc bc r res' (if res' < mn then res' else mn) ∧ (∀ i, i ≠ 9 → i ≠ 11 → i ≠ 14 → i ≠ 15 → i ≠ 16 → getV i vars' = getV i vars) := by
  intro ins sub res'
  have hj : j < row.length := (List.getElem?_eq_some_iff.mp hr).1
  have idx6 : ∀ {v0 : Vars}, getV 6 v0 = some (.str a) → getV 12 v0 = some (.int j) → ev C TK (.idx (.var 6) (.var 12)) v0 [row] = some (.str [x], [row]) := fun h1 h2 => st_idx (st_var h1) (st_var h2) (it_str hx (Nat.le_trans hal (by decide)))
  have idx13 : ∀ {v0 : Vars}, getV 13 v0 = some (.ref 0) → getV 12 v0 = some (.int j) → ev C TK (.idx (.var 13) (.var 12)) v0 [row] = some (.int r, [row]) := fun h1 h2 => st_idx (st_var h1) (st_var h2) (it_ref rfl hr (Nat.le_trans hl (by decide)))
  have seti : ∀ {v0 : Vars}, getV 13 v0 = some (.ref 0) → getV 12 v0 = some (.int j) → getV 9 v0 = some (.int res') → ex C TK (.seti (.var 13) (.var 12) (.var 9)) v0 [row] = some (.next, v0, [row.set j (.int res')]) := fun h1 h2 h3 =>
    st_seti (st_var h3) (st_var h1) (st_var h2) (set_ref rfl hj (Nat.le_trans hl (by decide)))
  obtain ⟨v4, hv4⟩ : ∃ v4, v4 = setV 9 (.int res') (setV 15 (.int ins) (setV 16 (.int r) (setV 14 (.int sub) vars))) := ⟨_, rfl⟩
  have h4 : ∀ k, k ≠ 9 → k ≠ 15 → k ≠ 16 → k ≠ 14 → getV k v4 = getV k vars := fun k n1 n2 n3 n4 => by
    rw [hv4]; simp only [gv_set, n1, n2, n3, n4, if_false]
  have h49 : getV 9 v4 = some (.int res') := by rw [hv4]; exact gv_same
  have h416 : getV 16 v4 = some (.int r) := by rw [hv4]; simp [gv_set]
  have tst : tstOf (ev C TK (.cmp .lt (.var 9) (.var 11)) v4 [row.set j (.int res')]) = some (decide (res' < mn), [row.set j (.int res')]) :=
    st_tst (r := (.bool (decide (res' < mn)), [row.set j (.int res')])) (st_cmp (st_var h49) (st_var (v := .int mn) (by rw [h4 11 (by decide) (by decide) (by decide) (by decide)]; exact I.g11)) rfl) rfl
  have run : ∀ {vr : Vars}, ex C TK (.ite (.cmp .lt (.var 9) (.var 11)) (.cons (.asg 11 (.var 9)) .nil) .nil) v4 [row.set j (.int res')] = some (.next, vr, [row.set j (.int res')]) → exs C TK levIn vars [row] = some (.next, vr, [row.set j (.int res')]) := fun {vr} hlast => by
    refine st_next (st_asg (v := .int sub) (st_bin (st_var I.g16) (st_call (st_evs (st_var I.g17) (st_evs (idx6 I.g6 g12) st_evs_nil)) rfl (hC bc x hb hx2)) rfl)) ?_
    refine st_next (st_asg (v := .int r) (idx13 (gv_ne (by decide) I.g13) (gv_ne (by decide) g12))) ?_
    refine st_next (st_asg (v := .int ins) (st_bin (x := .int (if r < res then r else res)) (st_prim (st_evs (st_var (gv_ne (by decide) (gv_ne (by decide) I.g9))) (st_evs (st_var gv_same) st_evs_nil)) rfl) st_glob rfl)) ?_
    refine st_next (st_asg (v := .int res') (st_prim (st_evs (st_var gv_same) (st_evs (st_var (gv_ne (by decide) (gv_ne (by decide) gv_same))) st_evs_nil)) rfl)) ?_
    rw [← hv4]
    refine st_next (seti (by rw [h4 13 (by decide) (by decide) (by decide) (by decide)]; exact I.g13) (by rw [h4 12 (by decide) (by decide) (by decide) (by decide)]; exact g12) h49) ?_
    exact st_next hlast st_nil
  by_cases hlt : res' < mn
  · refine ⟨setV 11 (.int res') v4, run (st_ite_t (by rw [tst]; simp [hlt]) (st_next (st_asg (st_var h49)) st_nil)), ?_⟩
    rw [if_pos hlt]
    refine ⟨⟨gv_ne (by decide) (by rw [h4 6 (by decide) (by decide) (by decide) (by decide)]; exact I.g6), gv_ne (by decide) (by rw [h4 7 (by decide) (by decide) (by decide) (by decide)]; exact I.g7), gv_ne (by decide) (by rw [h4 8 (by decide) (by decide) (by decide) (by decide)]; exact I.g8),
      gv_ne (by decide) (by rw [h4 13 (by decide) (by decide) (by decide) (by decide)]; exact I.g13), gv_ne (by decide) (by rw [h4 17 (by decide) (by decide) (by decide) (by decide)]; exact I.g17), gv_ne (by decide) h416, gv_ne (by decide) h49, gv_same⟩, fun i n1 n2 n3 n4 n5 => ?_⟩
    rw [gv_set, if_neg n2, h4 i n1 n4 n5 n3]
  · refine ⟨v4, run (st_ite_f (by rw [tst]; simp [hlt]) st_nil), ?_⟩
    rw [if_neg hlt]
    refine ⟨⟨by rw [h4 6 (by decide) (by decide) (by decide) (by decide)]; exact I.g6, by rw [h4 7 (by decide) (by decide) (by decide) (by decide)]; exact I.g7, by rw [h4 8 (by decide) (by decide) (by decide) (by decide)]; exact I.g8,
      by rw [h4 13 (by decide) (by decide) (by decide) (by decide)]; exact I.g13, by rw [h4 17 (by decide) (by decide) (by decide) (by decide)]; exact I.g17, h416, h49, by rw [h4 11 (by decide) (by decide) (by decide) (by decide)]; exact I.g11⟩, fun i n1 n2 n3 n4 n5 => h4 i n1 n4 n5 n3⟩

theorem rng01 (n : Nat) : rngN 0 (n : Int) 1 = n := by
  unfold rngN
  rw [if_pos (by decide)]
  split
  · rw [Int.ediv_one]; lia
  · lia
theorem rngB_nat {n : Nat} (hn : n ≤ 1000) : rngB (0, (n : Int), 1) = true := by
  have : smallI (n : Int) = true := decide_eq_true (by lia)
  show (smallI 0 && smallI (n : Int) && smallI 1 && decide ((1 : Int) ≠ 0)) = true
  rw [this]; rfl
theorem iter01 {own : Own} {n j : Nat} (hn : n ≤ 1000) : iterAt own (.rng 0 n 1) j = if j < n then some (some (.int j)) else some none := by
  show (if rngB (0, (n : Int), 1) = true then (if j < rngN 0 n 1 then some (some (V.int (0 + j * 1))) else some none) else none) = _
  rw [if_pos (rngB_nat hn), rng01, Int.mul_one, Int.zero_add]
theorem lev_inner (hC : ∀ c d, c < 128 → d < 128 → C 0 [.str [c], .str [d]] = some (.int (cst c d))) {a b : List Nat} {mc : Int} {bc : Nat} (ha : ∀ x ∈ a, x < 128) (hal : a.length ≤ 1000) (hb : bc < 128) :
    ∀ (rest : List Nat) (rs : List Int) (done : List Int) (pre : List Nat) (vars : Vars) (d res mn : Int), a = pre ++ rest → done.length = pre.length → rs.length = rest.length → IV vars a b mc bc d res mn →
      ∃ vars' d', forLoop [12] (.rng 0 a.length 1) (fun vars own => exs C TK levIn vars own) (rest.length + 1) pre.length vars [(done ++ rs).map V.int] = some (.next, vars', [(done ++ (dpR bc rest rs d res mn).1).map V.int]) ∧
        IV vars' a b mc bc d' (dpR bc rest rs d res mn).2.1 (dpR bc rest rs d res mn).2.2 ∧ (∀ i, i ≠ 9 → i ≠ 11 → i ≠ 12 → i ≠ 14 → i ≠ 15 → i ≠ 16 → getV i vars' = getV i vars)
  | [], rs, done, pre, vars, d, res, mn, e, h1, h2, I => by
    have hrs : rs = [] := List.length_eq_zero_iff.mp h2
    subst hrs
    have hal2 : a.length = pre.length := by rw [e, List.append_nil]
    exact ⟨vars, d, for_end (by rw [iter01 hal, if_neg (by rw [hal2]; exact Nat.lt_irrefl _)]), I, fun _ _ _ _ _ _ _ => rfl⟩
  | x :: rest, [], done, pre, vars, d, res, mn, e, h1, h2, I => by simp at h2
  | x :: rest, r :: rs, done, pre, vars, d, res, mn, e, h1, h2, I => by
    have hal2 : a.length = pre.length + (rest.length + 1) := by rw [e]; simp
    have I' : IV (setV 12 (.int (pre.length : Nat)) vars) a b mc bc d res mn := ⟨gv_ne (by decide) I.g6, gv_ne (by decide) I.g7, gv_ne (by decide) I.g8, gv_ne (by decide) I.g13, gv_ne (by decide) I.g17, gv_ne (by decide) I.g16, gv_ne (by decide) I.g9, gv_ne (by decide) I.g11⟩
    have hx : a[pre.length]? = some x := by rw [e]; simp
    have hxa : x < 128 := ha x (by rw [e]; simp)
    have hrow : ((done ++ r :: rs).map V.int)[pre.length]? = some (.int r) := by rw [← h1]; simp
    have hlen : ((done ++ r :: rs).map V.int).length ≤ 1000 := by simp; simp at h2; lia
    obtain ⟨v1, hrun, I1, hk⟩ := lev_step (TK := TK) hC I' gv_same hx hrow hb hxa hlen hal
    have hset : ((done ++ r :: rs).map V.int).set pre.length (.int (if d + cst bc x < (if r < res then r else res) + 2 then d + cst bc x else (if r < res then r else res) + 2)) = ((done ++ [if d + cst bc x < (if r < res then r else res) + 2 then d + cst bc x else (if r < res then r else res) + 2]) ++ rs).map V.int := by
      rw [← h1]; simp
    rw [hset] at hrun
    have e2 : pre.length + 1 = (pre ++ [x]).length := by simp
    obtain ⟨v2, d2, hr2, I2, hk2⟩ := lev_inner hC ha hal hb rest rs (done ++ [if d + cst bc x < (if r < res then r else res) + 2 then d + cst bc x else (if r < res then r else res) + 2]) (pre ++ [x]) v1 _ _ _ (by rw [e]; simp) (by simp [h1]) (by simpa using h2) I1
    refine ⟨v2, d2, ?_, I2, fun i n1 n2 n3 n4 n5 n6 => ?_⟩
    · refine for_next (by rw [iter01 hal, if_pos (by lia)]) rfl hrun ?_
      rw [e2]
      refine hr2.trans ?_
      simp only [dpR, List.append_assoc, List.cons_append, List.nil_append]
    · rw [hk2 i n1 n2 n3 n4 n5 n6, hk i n1 n2 n4 n5 n6, gv_set, if_neg n3]
end
end Mine
end
section
set_option maxRecDepth 100000
set_option autoImplicit false
namespace Mine
section
variable {C : Nat → List V → Option V} {TK : Nat → Option Int} {vars vars' vars₁ vars₂ : Vars} {own own' own₁ own₂ own₃ : Own}

noncomputable def levOut : Ss :=
  (.cons (.asg 17 (.idx (.var 7) (.var 10)))
  (.cons (.asg2 16 9 (.bin .mul (.var 10) (.glob 3 2)))
  (.cons (.asg 11 (.int 9223372036854775807))
  (.cons (.for [12] (.prim .range (.cons (.prim .len (.cons (.var 6) .nil)) .nil)) levIn)
  (.cons (.ite (.cmp .gt (.var 11) (.var 8))
  (.cons (.ret (.bin .add (.var 8) (.int 1)))
  .nil)
  .nil)
  .nil)))))
noncomputable def dpA (a : List Nat) (mc : Int) : List Nat → Nat → List Int → Int → Int
  | [], _, _, res => res
  | y :: ys, bi, row, _ =>
    let q := dpR y a row ((bi : Int) * 2) ((bi : Int) * 2) 9223372036854775807
    if mc < q.2.2 then mc + 1 else dpA a mc ys (bi + 1) q.1 q.2.1
structure IO (vars : Vars) (a b : List Nat) (mc : Int) (res : Int) : Prop where
  g6 : getV 6 vars = some (.str a)
  g7 : getV 7 vars = some (.str b)
  g8 : getV 8 vars = some (.int mc)
  g13 : getV 13 vars = some (.ref 0)
  g9 : getV 9 vars = some (.int res)

theorem st_len {a : List Nat} {x : Nat} (h : getV x vars = some (.str a)) (hl : a.length ≤ 1000) : ev C TK (.prim .len (.cons (.var x) .nil)) vars own = some (.int (a.length : Nat), own) := by
  refine st_prim (st_evs (st_var h) st_evs_nil) ?_
  show (if a.length ≤ 1000000 then some (V.int a.length, own) else none) = _
  rw [if_pos (by lia)]
theorem st_rng {e : E} {n : Nat} (h : ev C TK e vars own = some (.int (n : Nat), own)) (hl : n ≤ 1000) : ev C TK (.prim .range (.cons e .nil)) vars own = some (.rng 0 n 1, own) := by
  refine st_prim (st_evs h st_evs_nil) ?_
  show (if rngB (0, (n : Int), 1) = true then some (V.rng 0 n 1, own) else none) = _
  rw [if_pos (rngB_nat hl)]

theorem lev_outer (hC : ∀ c d, c < 128 → d < 128 → C 0 [.str [c], .str [d]] = some (.int (cst c d))) {a b : List Nat} {mc : Int} (ha : ∀ x ∈ a, x < 128) (hb : ∀ x ∈ b, x < 128) (hal : a.length ≤ 1000) (hbl : b.length ≤ 1000) :
    ∀ (rest : List Nat) (pre : List Nat) (row : List Int) (vars : Vars) (res : Int), b = pre ++ rest → row.length = a.length → IO vars a b mc res →
      ∃ r vars' own', forLoop [10] (.rng 0 b.length 1) (fun vars own => exs C TK levOut vars own) (rest.length + 1) pre.length vars [row.map V.int] = some (r, vars', own') ∧
        (r = .ret (.int (dpA a mc rest pre.length row res)) ∨ (r = .next ∧ getV 9 vars' = some (.int (dpA a mc rest pre.length row res))))
  | [], pre, row, vars, res, e, hr, I => by
    have hbl2 : b.length = pre.length := by rw [e, List.append_nil]
    exact ⟨.next, vars, [row.map V.int], for_end (by rw [iter01 hbl, if_neg (by rw [hbl2]; exact Nat.lt_irrefl _)]), .inr ⟨rfl, I.g9⟩⟩
  | y :: rest, pre, row, vars, res, e, hr, I => by
    have hbl2 : b.length = pre.length + (rest.length + 1) := by rw [e]; simp
    have hit : iterAt [row.map V.int] (.rng 0 b.length 1) pre.length = some (some (.int (pre.length : Nat))) := by rw [iter01 hbl, if_pos (by lia)]
    have hy : b[pre.length]? = some y := by rw [e]; simp
    have hyb : y < 128 := hb y (by rw [e]; simp)
    obtain ⟨v1, hv1⟩ : ∃ v1, v1 = setV 11 (.int 9223372036854775807) (setV 9 (.int ((pre.length : Int) * 2)) (setV 16 (.int ((pre.length : Int) * 2)) (setV 17 (.str [y]) (setV 10 (.int (pre.length : Nat)) vars)))) := ⟨_, rfl⟩
    have h1 : ∀ k, k ≠ 11 → k ≠ 9 → k ≠ 16 → k ≠ 17 → k ≠ 10 → getV k v1 = getV k vars := fun k n1 n2 n3 n4 n5 => by
      rw [hv1]; simp only [gv_set, n1, n2, n3, n4, n5, if_false]
    have I1 : IV v1 a b mc y ((pre.length : Int) * 2) ((pre.length : Int) * 2) 9223372036854775807 := by
      refine ⟨by rw [h1 6 (by decide) (by decide) (by decide) (by decide) (by decide)]; exact I.g6, by rw [h1 7 (by decide) (by decide) (by decide) (by decide) (by decide)]; exact I.g7, by rw [h1 8 (by decide) (by decide) (by decide) (by decide) (by decide)]; exact I.g8,
        by rw [h1 13 (by decide) (by decide) (by decide) (by decide) (by decide)]; exact I.g13, ?_, ?_, ?_, ?_⟩ <;> (rw [hv1]; simp [gv_set])
    obtain ⟨v2, d2, hrun, I2, hk2⟩ := lev_inner (TK := TK) hC ha hal hyb a row [] [] v1 _ _ _ rfl rfl hr I1
    simp only [List.nil_append, List.length_nil] at hrun
    generalize hq : dpR y a row ((pre.length : Int) * 2) ((pre.length : Int) * 2) 9223372036854775807 = q at hrun I2
    have hqlen : q.1.length = a.length := by rw [← hq]; exact dpR_len y a row _ _ _ hr
    have pre4 : ∀ {r : Option (Fl × Vars × Own)}, exs C TK (.cons (.ite (.cmp .gt (.var 11) (.var 8)) (.cons (.ret (.bin .add (.var 8) (.int 1))) .nil) .nil) .nil) v2 [q.1.map V.int] = r → exs C TK levOut (setV 10 (.int (pre.length : Nat)) vars) [row.map V.int] = r := fun {r} hlast => by
      have gg7 : getV 7 (setV 10 (.int (pre.length : Nat)) vars) = some (.str b) := gv_ne (by decide) I.g7
      refine st_next (st_asg (v := .str [y]) (st_idx (st_var gg7) (st_var gv_same) (it_str hy (Nat.le_trans hbl (by decide))))) ?_
      refine st_next (own₁ := [row.map V.int]) (st_asg2 (v := .int ((pre.length : Int) * 2)) (st_binI (st_var (v := .int (pre.length : Nat)) (gv_ne (by decide) gv_same)) st_glob (mul_ok (by decide)))) ?_
      refine st_next (st_asg (v := .int 9223372036854775807) st_int) ?_
      rw [← hv1]
      refine st_next (own₁ := [q.1.map V.int]) (vars₁ := v2) (st_for (st_rng (st_len I1.g6 hal) hal) ?_) hlast
      show forLoop [12] (.rng 0 a.length 1) (fun vars own => exs C TK levIn vars own) (rngN 0 a.length 1 + 1) 0 v1 [row.map V.int] = _
      rw [rng01]; exact hrun
    have tst : tstOf (ev C TK (.cmp .gt (.var 11) (.var 8)) v2 [q.1.map V.int]) = some (decide (mc < q.2.2), [q.1.map V.int]) :=
      st_tst (r := (.bool (decide (mc < q.2.2)), [q.1.map V.int])) (st_cmp (st_var I2.g11) (st_var I2.g8) rfl) rfl
    by_cases hlt : mc < q.2.2
    · have hd : dpA a mc (y :: rest) pre.length row res = mc + 1 := by simp only [dpA]; rw [hq, if_pos hlt]
      exact ⟨.ret (.int (mc + 1)), v2, [q.1.map V.int], for_stop hit rfl (pre4 (st_stop (st_ite_t (own₁ := [q.1.map V.int]) (by rw [tst, decide_eq_true hlt]) (st_stop (st_ret (st_bin (st_var I2.g8) st_int rfl)))))), .inl (by rw [hd])⟩
    · have hd : dpA a mc (y :: rest) pre.length row res = dpA a mc rest (pre.length + 1) q.1 q.2.1 := by rw [dpA]; simp only [hq]; rw [if_neg hlt]
      have e2 : pre.length + 1 = (pre ++ [y]).length := by simp
      obtain ⟨r, v3, o3, h3, h4⟩ := lev_outer hC ha hb hal hbl rest (pre ++ [y]) q.1 v2 q.2.1 (by rw [e]; simp) hqlen ⟨I2.g6, I2.g7, I2.g8, I2.g13, I2.g9⟩
      rw [hd, e2]
      exact ⟨r, v3, o3, for_next hit rfl (pre4 (st_next (st_ite_f (own₁ := [q.1.map V.int]) (by rw [tst, decide_eq_false hlt]) st_nil) st_nil)) (by rw [e2]; exact h3), h4⟩
end
end Mine
end
section
set_option maxRecDepth 100000
set_option autoImplicit false
namespace Mine
section
variable {C : Nat → List V → Option V} {TK : Nat → Option Int} {vars vars' vars₁ vars₂ : Vars} {own own' own₁ own₂ own₃ : Own}

theorem st_and {es : Es} {r : Option (V × Own)} (h : evAnd C TK es vars own = r) : ev C TK (.and es) vars own = r := h
theorem st_and1 {e : E} {r : Option (V × Own)} (h : ev C TK e vars own = r) : evAnd C TK (.cons e .nil) vars own = r := h
theorem st_and_t {e e2 : E} {es : Es} {v : V} {r : Option (V × Own)} (h : ev C TK e vars own = some (v, own₁)) (ht : truth own₁ v = some true) (h2 : evAnd C TK (.cons e2 es) vars own₁ = r) : evAnd C TK (.cons e (.cons e2 es)) vars own = r := by
  show (ev C TK e vars own).bind _ = _; rw [h]; show (truth own₁ v).bind _ = _; rw [ht]; exact h2
theorem st_and_f {e e2 : E} {es : Es} {v : V} (h : ev C TK e vars own = some (v, own₁)) (ht : truth own₁ v = some false) : evAnd C TK (.cons e (.cons e2 es)) vars own = some (v, own₁) := by
  show (ev C TK e vars own).bind _ = _; rw [h]; show (truth own₁ v).bind _ = _; rw [ht]; rfl
theorem st_or {es : Es} {r : Option (V × Own)} (h : evOr C TK es vars own = r) : ev C TK (.or es) vars own = r := h
theorem st_or1 {e : E} {r : Option (V × Own)} (h : ev C TK e vars own = r) : evOr C TK (.cons e .nil) vars own = r := h
theorem st_or_t {e e2 : E} {es : Es} {v : V} (h : ev C TK e vars own = some (v, own₁)) (ht : truth own₁ v = some true) : evOr C TK (.cons e (.cons e2 es)) vars own = some (v, own₁) := by
  show (ev C TK e vars own).bind _ = _; rw [h]; show (truth own₁ v).bind _ = _; rw [ht]; rfl
theorem st_or_f {e e2 : E} {es : Es} {v : V} {r : Option (V × Own)} (h : ev C TK e vars own = some (v, own₁)) (ht : truth own₁ v = some false) (h2 : evOr C TK (.cons e2 es) vars own₁ = r) : evOr C TK (.cons e (.cons e2 es)) vars own = r := by
  show (ev C TK e vars own).bind _ = _; rw [h]; show (truth own₁ v).bind _ = _; rw [ht]; exact h2
theorem st_slice {a lo hi : E} {x l h : V} {r : V × Own} (h1 : ev C TK a vars own = some (x, own₁)) (h2 : ev C TK lo vars own₁ = some (l, own₂)) (h3 : ev C TK hi vars own₂ = some (h, own₃)) (h4 : slc own₃ x l h = some r) : ev C TK (.slice a lo hi) vars own = some r := by
  show (ev C TK a vars own).bind _ = _; rw [h1]; show (ev C TK lo vars own₁).bind _ = _; rw [h2]; show (ev C TK hi vars own₂).bind _ = _; rw [h3]; exact h4
theorem st_aug {x : Nat} {o : Bop} {e : E} {i j r : Int} (h : getV x vars = some (.int i)) (h1 : ev C TK e vars own = some (.int j, own₁)) (h2 : bop own₁ o (.int i) (.int j) = some (.int r, own₂)) : ex C TK (.aug x o e) vars own = some (.next, setV x (.int r) vars, own₂) := by
  show (getV x vars).bind _ = _; rw [h]; show (ev C TK e vars own).bind _ = _; rw [h1]; show (bop own₁ o (.int i) (.int j)).bind _ = _; rw [h2]; rfl

noncomputable def comP : List Nat → List Nat → Nat
  | x :: xs, y :: ys => if x = y then comP xs ys + 1 else 0
  | _, _ => 0
noncomputable def hdEq : List Nat → List Nat → Bool
  | x :: _, y :: _ => decide (x = y)
  | _, _ => false
theorem comP_hd (a b : List Nat) (j : Nat) : comP (a.drop j) (b.drop j) = if hdEq (a.drop j) (b.drop j) = true then comP (a.drop (j + 1)) (b.drop (j + 1)) + 1 else 0 := by
  have e1 : a.drop (j + 1) = (a.drop j).tail := by rw [List.tail_drop]
  have e2 : b.drop (j + 1) = (b.drop j).tail := by rw [List.tail_drop]
  rw [e1, e2]
  cases a.drop j with
  | nil => simp [comP, hdEq]
  | cons x xs =>
    cases b.drop j with
    | nil => simp [comP, hdEq]
    | cons y ys => by_cases h : x = y <;> simp [comP, hdEq, h]
theorem comP_le : ∀ (a b : List Nat), comP a b ≤ a.length
  | [], _ => by simp [comP]
  | x :: xs, [] => by simp [comP]
  | x :: xs, y :: ys => by
    unfold comP
    split
    · have := comP_le xs ys; simp; lia
    · simp

/-- a while that counts: test at j tells whether there is one more -/
theorem whl_count {test : Vars → Own → Option (Bool × Own)} {body : Vars → Own → Option (Fl × Vars × Own)} (k : Nat) (val : Nat → Int) (n : Nat → Nat) (own : Own)
    (ht : ∀ vars j, j ≤ 1000 → getV k vars = some (.int (val j)) → (∀ i, i ≠ k → getV i vars = getV i vars₁) → test vars own = some (decide (n j ≠ 0), own)) (hn : ∀ j, n j ≠ 0 → n j = n (j + 1) + 1)
    (hb : ∀ vars j, getV k vars = some (.int (val j)) → body vars own = some (.next, setV k (.int (val (j + 1))) vars, own)) :
    ∀ (f j : Nat) (vars : Vars), n j < f → j + n j ≤ 1000 → getV k vars = some (.int (val j)) → (∀ i, i ≠ k → getV i vars = getV i vars₁) →
      ∃ vars', whlLoop test body f vars own = some (.next, vars', own) ∧ getV k vars' = some (.int (val (j + n j))) ∧ ∀ i, i ≠ k → getV i vars' = getV i vars₁ := by
  intro f
  induction f with
  | zero => intro j vars h; exact absurd h (Nat.not_lt_zero _)
  | succ f ih =>
    intro j vars h hjn hg hf
    have t := ht vars j (Nat.le_trans (Nat.le_add_right _ _) hjn) hg hf
    by_cases hz : n j = 0
    · rw [hz] at t
      exact ⟨vars, whl_end t, by rw [hz]; exact hg, hf⟩
    · have hn1 := hn j hz
      rw [decide_eq_true hz] at t
      rw [hn1] at h hjn
      have e : j + n j = j + 1 + n (j + 1) := by rw [hn1, Nat.add_comm (n (j + 1)), Nat.add_assoc]
      obtain ⟨v', h1, h2, h3⟩ := ih (j + 1) (setV k (.int (val (j + 1))) vars) (Nat.lt_of_succ_lt_succ h) (by rw [← e, hn1]; exact hjn) gv_same fun i hi => gv_ne hi (hf i hi)
      exact ⟨v', whl_next t (hb vars j hg) h1, by rw [e]; exact h2, h3⟩

theorem cut_drop {α : Type} (xs : List α) (j : Nat) : cut xs (some (j : Int)) none = xs.drop j := by
  unfold cut normI
  simp only
  rw [if_neg (by lia)]
  have : min ((j : Int).toNat) xs.length = min j xs.length := by simp
  rw [this]
  by_cases h : j ≤ xs.length
  · rw [Nat.min_eq_left h, List.take_of_length_le (by simp)]
  · have h2 : xs.length ≤ j := by lia
    rw [Nat.min_eq_right h2]
    simp [List.drop_of_length_le h2]
theorem st_sl {a : List Nat} {x : Nat} {j : Nat} {e : E} (h : getV x vars = some (.str a)) (he : ev C TK e vars own = some (.int (j : Nat), own)) (hj : j ≤ 1000) (hl : a.length ≤ 1000) : ev C TK (.slice (.var x) e .non) vars own = some (.str (a.drop j), own) := by
  refine st_slice (st_var h) he st_non ?_
  have : optI (.int (j : Nat)) = some (some (j : Int)) := if_pos ⟨by lia, by lia⟩
  show (optI (.int (j : Nat))).bind _ = _
  rw [this]
  show (if a.length ≤ 100000 then some (V.str (cut a (some (j : Int)) none), own) else none) = _
  rw [if_pos (Nat.le_trans hl (by decide)), cut_drop]
theorem tr_str {l : List Nat} (h : l.length ≤ 1000) : truth own (.str l) = some (!l.isEmpty) := by
  show (if l.length ≤ 100000 then some (!l.isEmpty) else none) = _
  rw [if_pos (Nat.le_trans h (by decide))]

noncomputable def levT1 : E := .and (.cons (.slice (.var 6) (.var 20) .non) (.cons (.slice (.var 7) (.var 20) .non) (.cons (.cmp .eq (.idx (.var 6) (.var 20)) (.idx (.var 7) (.var 20))) .nil)))
theorem lev_t1 {a b : List Nat} {j : Nat} (g6 : getV 6 vars = some (.str a)) (g7 : getV 7 vars = some (.str b)) (g20 : getV 20 vars = some (.int (j : Nat))) (ha : a.length ≤ 1000) (hb : b.length ≤ 1000) (hj : j ≤ 1000) :
    tstOf (ev C TK levT1 vars own) = some (hdEq (a.drop j) (b.drop j), own) := by
  have s6 := st_sl (C := C) (TK := TK) (own := own) (e := .var 20) g6 (st_var g20) hj ha
  have s7 := st_sl (C := C) (TK := TK) (own := own) (e := .var 20) g7 (st_var g20) hj hb
  cases h1 : a.drop j with
  | nil =>
    rw [h1] at s6
    refine st_tst (r := (.str [], own)) (st_and (st_and_f s6 rfl)) rfl
  | cons x xs =>
    rw [h1] at s6
    have hxl : (x :: xs).length ≤ 1000 := by rw [← h1]; simp; lia
    cases h2 : b.drop j with
    | nil =>
      rw [h2] at s7
      exact st_tst (r := (.str [], own)) (st_and (st_and_t s6 (by rw [tr_str hxl]; rfl) (st_and_f s7 rfl))) rfl
    | cons y ys =>
      rw [h2] at s7
      have hyl : (y :: ys).length ≤ 1000 := by rw [← h2]; simp; lia
      have i6 : a[j]? = some x := by have := congrArg (·[0]?) h1; simpa using this
      have i7 : b[j]? = some y := by have := congrArg (·[0]?) h2; simpa using this
      have ix : ∀ {l : List Nat} {z t : Nat}, getV t vars = some (.str l) → l.length ≤ 1000 → l[j]? = some z → ev C TK (.idx (.var t) (.var 20)) vars own = some (.str [z], own) := fun {l z t} hg hl hz =>
        st_idx (st_var hg) (st_var g20) (it_str hz (Nat.le_trans hl (by decide)))
      refine st_tst (r := (.bool (decide (x = y)), own)) (st_and (st_and_t s6 (by rw [tr_str hxl]; rfl) (st_and_t s7 (by rw [tr_str hyl]; rfl) (st_and1 (st_cmp (ix g6 ha i6) (ix g7 hb i7) ?_))))) rfl
      show some (decide ([x] = [y])) = _
      congr 1; simp
end
end Mine
end
section
set_option maxRecDepth 100000
set_option autoImplicit false
namespace Mine
section
variable {C : Nat → List V → Option V} {TK : Nat → Option Int} {vars vars' vars₁ vars₂ : Vars} {own own' own₁ own₂ own₃ : Own}

noncomputable def levP : E := .or (.cons (.var 19) (.cons .non .nil))
theorem st_post {a : List Nat} {x j : Nat} (h : getV x vars = some (.str a)) (g : getV 19 vars = some (.int (-(j : Int)))) (hj : j ≤ 1000) (hl : a.length ≤ 1000) : ev C TK (.slice (.var x) .non levP) vars own = some (.str (a.take (a.length - j)), own) := by
  by_cases hz : j = 0
  · subst hz
    have hp : ev C TK levP vars own = some (.non, own) := st_or (st_or_f (st_var g) rfl (st_or1 st_non))
    refine st_slice (st_var h) st_non hp ?_
    show (if a.length ≤ 100000 then some (V.str (cut a none none), own) else none) = _
    rw [if_pos (Nat.le_trans hl (by decide))]
    simp [cut]
  · have hp : ev C TK levP vars own = some (.int (-(j : Int)), own) := st_or (st_or_t (st_var g) (by show some (decide (-(j : Int) ≠ 0)) = _; simp [hz]))
    refine st_slice (st_var h) st_non hp ?_
    have : optI (.int (-(j : Int))) = some (some (-(j : Int))) := if_pos ⟨by lia, by lia⟩
    show (optI (.int (-(j : Int)))).bind _ = _
    rw [this]
    show (if a.length ≤ 100000 then some (V.str (cut a none (some (-(j : Int)))), own) else none) = _
    rw [if_pos (by lia)]
    unfold cut normI
    simp only
    rw [if_pos (by lia)]
    have : (-(j : Int) + (a.length : Int)).toNat = a.length - j := by lia
    rw [this]; simp
noncomputable def levT2 : E := .and (.cons (.slice (.var 6) .non levP) (.cons (.slice (.var 7) .non levP) (.cons (.cmp .eq (.idx (.var 6) (.bin .sub (.var 19) (.int 1))) (.idx (.var 7) (.bin .sub (.var 19) (.int 1)))) .nil)))
theorem rev_drop (a : List Nat) (j : Nat) : a.take (a.length - j) = (a.reverse.drop j).reverse := by rw [List.drop_reverse, List.reverse_reverse]
theorem lev_t2 {a b : List Nat} {j : Nat} (g6 : getV 6 vars = some (.str a)) (g7 : getV 7 vars = some (.str b)) (g19 : getV 19 vars = some (.int (-(j : Int)))) (ha : a.length ≤ 1000) (hb : b.length ≤ 1000) (hj : j ≤ 1000) :
    tstOf (ev C TK levT2 vars own) = some (hdEq (a.reverse.drop j) (b.reverse.drop j), own) := by
  have s6 := st_post (C := C) (TK := TK) (own := own) g6 g19 hj ha
  have s7 := st_post (C := C) (TK := TK) (own := own) g7 g19 hj hb
  rw [rev_drop] at s6 s7
  cases h1 : a.reverse.drop j with
  | nil =>
    rw [h1] at s6
    exact st_tst (r := (.str [], own)) (st_and (st_and_f s6 rfl)) rfl
  | cons x xs =>
    rw [h1] at s6
    have hxl : ((x :: xs).reverse).length ≤ 1000 := by rw [← h1]; simp; lia
    have hxe : truth own (.str ((x :: xs).reverse)) = some true := by rw [tr_str hxl]; simp
    cases h2 : b.reverse.drop j with
    | nil =>
      rw [h2] at s7
      exact st_tst (r := (.str [], own)) (st_and (st_and_t s6 hxe (st_and_f s7 rfl))) rfl
    | cons y ys =>
      rw [h2] at s7
      have hyl : ((y :: ys).reverse).length ≤ 1000 := by rw [← h2]; simp; lia
      have hye : truth own (.str ((y :: ys).reverse)) = some true := by rw [tr_str hyl]; simp
      have i6 : a.reverse[j]? = some x := by have := congrArg (·[0]?) h1; simpa using this
      have i7 : b.reverse[j]? = some y := by have := congrArg (·[0]?) h2; simpa using this
      have ix : ∀ {l : List Nat} {z t : Nat}, getV t vars = some (.str l) → l.reverse[j]? = some z → ev C TK (.idx (.var t) (.bin .sub (.var 19) (.int 1))) vars own = some (.str [z], own) := fun {l z t} hg hz => by
        refine st_idx (st_var hg) (st_bin (st_var g19) st_int (r := (.int (-(j : Int) - 1), own)) rfl) ?_
        show (if -100000 ≤ (-(j : Int) - 1) ∧ (-(j : Int) - 1) ≤ 100000 then (getI l (-(j : Int) - 1)).bind fun c => some (V.str [c]) else none) = _
        rw [if_pos (by lia)]
        have hlt : j < l.length := by have := (List.getElem?_eq_some_iff.mp hz).1; simpa using this
        have : getI l (-(j : Int) - 1) = some z := by
          unfold getI
          rw [if_neg (by lia), if_pos (by lia)]
          have e : (-(j : Int) - 1 + (l.length : Int)).toNat = l.length - 1 - j := by lia
          rw [e, ← hz, List.getElem?_reverse hlt]
        rw [this]; rfl
      refine st_tst (r := (.bool (decide (x = y)), own)) (st_and (st_and_t s6 hxe (st_and_t s7 hye (st_and1 (st_cmp (ix g6 i6) (ix g7 i7) ?_))))) rfl
      show some (decide ([x] = [y])) = _
      congr 1; simp

noncomputable def row0 (n : Nat) : List Int := (List.range n).map fun (i : Nat) => 2 + (i : Int) * 2
noncomputable def levG (a b : List Nat) (mc : Int) : Int :=
  if a = b then 0 else
    let a1 := a.drop (comP a b)
    let b1 := b.drop (comP a b)
    let k := comP a1.reverse b1.reverse
    let a2 := a1.take (a1.length - k)
    let b2 := b1.take (b1.length - k)
    if a2 = [] ∨ b2 = [] then 2 * ((a2.length : Int) + b2.length)
    else if 40 < a2.length ∨ 40 < b2.length then mc + 1
    else
      let a3 := if b2.length < a2.length then b2 else a2
      let b3 := if b2.length < a2.length then a2 else b2
      if mc < ((b3.length : Int) - a3.length) * 2 then mc + 1 else dpA a3 mc b3 0 (row0 a3.length) 0

theorem whl_st {t : E} {b : Ss} {r : Option (Fl × Vars × Own)} (h : whlLoop (fun vars own => tstOf (ev C TK t vars own)) (fun vars own => exs C TK b vars own) 1000 vars own = r) : ex C TK (.whl t b) vars own = r := h

theorem rngL_row : ∀ (n : Nat) (a : Int), rngL a 2 n = ((List.range n).map fun (i : Nat) => a + (i : Int) * 2).map V.int
  | 0, _ => rfl
  | n + 1, a => by
    rw [rngL, rngL_row n, List.range_succ_eq_map]
    simp only [List.map_cons, List.map_map]
    congr 1
    · simp
    · apply List.map_congr_left; intro k _; simp only [Function.comp, Nat.succ_eq_add_one]; push_cast; congr 1; lia
theorem range3 {a b c : Int} (h : rngB (a, b, c) = true) : prim own .range [.int a, .int b, .int c] = some (.rng a b c, own) := if_pos h
theorem list_rng {a b c : Int} (h : rngB (a, b, c) = true) : prim own .list [.rng a b c] = some (.ref own.length, own ++ [rngL a c (rngN a b c)]) := if_pos h
theorem rng22 (n : Nat) : rngN 2 (2 * ((n : Int) + 1)) 2 = n := by
  unfold rngN
  rw [if_pos (by decide)]
  split
  · lia
  · lia

theorem st_not {e : E} {b : Bool} (h : tstOf (ev C TK e vars own) = some (b, own₁)) : ev C TK (.not e) vars own = some (.bool (!b), own₁) := by show (tstOf (ev C TK e vars own)).bind _ = _; rw [h]; rfl
theorem tst_or2 {e e2 : E} {p q : Bool} (h1 : ev C TK e vars own = some (.bool p, own)) (h2 : ev C TK e2 vars own = some (.bool q, own)) : tstOf (ev C TK (.or (.cons e (.cons e2 .nil))) vars own) = some (p || q, own) := by
  cases p with
  | true => exact st_tst (r := (.bool true, own)) (st_or (st_or_t h1 rfl)) rfl
  | false => exact st_tst (r := (.bool q, own)) (st_or (st_or_f h1 rfl (st_or1 h2))) rfl

noncomputable def levTail : Ss :=
  (.cons (.ite (.cmp .gt (.bin .mul (.bin .sub (.prim .len (.cons (.var 7) .nil)) (.prim .len (.cons (.var 6) .nil))) (.glob 3 2)) (.var 8))
  (.cons (.ret (.bin .add (.var 8) (.int 1)))
  .nil)
  .nil)
  (.cons (.asg 13 (.prim .list (.cons (.prim .range (.cons (.glob 3 2) (.cons (.bin .mul (.glob 3 2) (.bin .add (.prim .len (.cons (.var 6) .nil)) (.int 1))) (.cons (.glob 3 2) .nil)))) .nil)))
  (.cons (.asg 9 (.int 0))
  (.cons (.for [10] (.prim .range (.cons (.prim .len (.cons (.var 7) .nil)) .nil)) levOut)
  (.cons (.ret (.var 9))
  .nil)))))
theorem lev_tail (hC : ∀ c d, c < 128 → d < 128 → C 0 [.str [c], .str [d]] = some (.int (cst c d))) {a b : List Nat} {mc : Int} (g6 : getV 6 vars = some (.str a)) (g7 : getV 7 vars = some (.str b)) (g8 : getV 8 vars = some (.int mc))
    (ha : ∀ x ∈ a, x < 128) (hb : ∀ x ∈ b, x < 128) (hal : a.length ≤ 1000) (hbl : b.length ≤ 1000) :
    ∃ v' own', exs C TK levTail vars [] = some (.ret (.int (if mc < ((b.length : Int) - a.length) * 2 then mc + 1 else dpA a mc b 0 (row0 a.length) 0)), v', own') := by
  have t : tstOf (ev C TK (.cmp .gt (.bin .mul (.bin .sub (.prim .len (.cons (.var 7) .nil)) (.prim .len (.cons (.var 6) .nil))) (.glob 3 2)) (.var 8)) vars []) = some (decide (mc < ((b.length : Int) - a.length) * 2), []) :=
    st_cmpI (i := ((b.length : Int) - a.length) * 2) (own₁ := []) (own₂ := []) (st_binI (own₁ := []) (own₂ := []) (st_binI (own₁ := []) (own₂ := []) (st_len g7 hbl) (st_len g6 hal) rfl) st_glob (mul_ok (by decide))) (st_var g8) rfl
  by_cases h : mc < ((b.length : Int) - a.length) * 2
  · rw [if_pos h]
    exact ⟨_, _, st_stop (st_ite_t (own₁ := []) (by rw [t]; simp [h]) (st_stop (st_ret (st_bin (st_var g8) st_int rfl))))⟩
  · rw [if_neg h]
    have hrow : ev C TK (.prim .list (.cons (.prim .range (.cons (.glob 3 2) (.cons (.bin .mul (.glob 3 2) (.bin .add (.prim .len (.cons (.var 6) .nil)) (.int 1))) (.cons (.glob 3 2) .nil)))) .nil)) vars [] = some (.ref 0, [(row0 a.length).map V.int]) := by
      have hb : rngB (2, 2 * ((a.length : Int) + 1), 2) = true := by
        have : smallI (2 * ((a.length : Int) + 1)) = true := decide_eq_true (by lia)
        show (smallI 2 && smallI (2 * ((a.length : Int) + 1)) && smallI 2 && decide ((2 : Int) ≠ 0)) = true
        rw [this]; rfl
      refine st_prim (vs := [.rng 2 (2 * ((a.length : Int) + 1)) 2]) (own₁ := []) (st_evs (st_prim (vs := [.int 2, .int (2 * ((a.length : Int) + 1)), .int 2]) (own₁ := []) (st_evs st_glob (st_evs (st_binI st_glob (st_binI (st_len g6 hal) st_int rfl) (mul_ok' (by decide))) (st_evs st_glob st_evs_nil))) ?_) st_evs_nil) ?_
      · exact range3 hb
      · rw [list_rng hb, rng22, rngL_row]; rfl
    obtain ⟨r, v', own', hrun, hcase⟩ := lev_outer (TK := TK) hC ha hb hal hbl b [] (row0 a.length) (setV 9 (.int 0) (setV 13 (.ref 0) vars)) 0 rfl (by simp [row0]) ⟨gv_ne (by decide) (gv_ne (by decide) g6), gv_ne (by decide) (gv_ne (by decide) g7), gv_ne (by decide) (gv_ne (by decide) g8), gv_ne (by decide) gv_same, gv_same⟩
    have hfor : ex C TK (.for [10] (.prim .range (.cons (.prim .len (.cons (.var 7) .nil)) .nil)) levOut) (setV 9 (.int 0) (setV 13 (.ref 0) vars)) [(row0 a.length).map V.int] = some (r, v', own') := by
      refine st_for (st_rng (st_len (gv_ne (by decide) (gv_ne (by decide) g7)) hbl) hbl) ?_
      show forLoop [10] (.rng 0 b.length 1) (fun vars own => exs C TK levOut vars own) (rngN 0 b.length 1 + 1) 0 _ _ = _
      rw [rng01]; exact hrun
    have head : ∀ {res : Option (Fl × Vars × Own)}, exs C TK (.cons (.for [10] (.prim .range (.cons (.prim .len (.cons (.var 7) .nil)) .nil)) levOut) (.cons (.ret (.var 9)) .nil)) (setV 9 (.int 0) (setV 13 (.ref 0) vars)) [(row0 a.length).map V.int] = res → exs C TK levTail vars [] = res := fun {res} hl =>
      st_next (own₁ := []) (st_ite_f (own₁ := []) (by rw [t]; simp [h]) st_nil) (st_next (st_asg hrow) (st_next (st_asg st_int) hl))
    rcases hcase with rfl | ⟨rfl, hg⟩
    · exact ⟨v', own', head (st_stop hfor)⟩
    · exact ⟨v', own', head (st_next hfor (st_stop (st_ret (st_var hg))))⟩
end
end Mine
end
section
set_option maxRecDepth 100000
set_option autoImplicit false
namespace Mine
section
variable {C : Nat → List V → Option V} {TK : Nat → Option Int} {vars vars' vars₁ vars₂ : Vars} {own own' own₁ own₂ own₃ : Own}

noncomputable def levMid : Ss :=
  (.cons (.ite (.or (.cons (.not (.var 6)) (.cons (.not (.var 7)) .nil)))
  (.cons (.ret (.bin .mul (.glob 3 2) (.bin .add (.prim .len (.cons (.var 6) .nil)) (.prim .len (.cons (.var 7) .nil)))))
  .nil)
  .nil)
  (.cons (.ite (.or (.cons (.cmp .gt (.prim .len (.cons (.var 6) .nil)) (.glob 18 40)) (.cons (.cmp .gt (.prim .len (.cons (.var 7) .nil)) (.glob 18 40)) .nil)))
  (.cons (.ret (.bin .add (.var 8) (.int 1)))
  .nil)
  .nil)
  (.cons (.ite (.cmp .lt (.prim .len (.cons (.var 7) .nil)) (.prim .len (.cons (.var 6) .nil)))
  (.cons (.swp 6 7 (.var 7) (.var 6))
  .nil)
  .nil)
  levTail)))
noncomputable def levM (a2 b2 : List Nat) (mc : Int) : Int :=
    if a2 = [] ∨ b2 = [] then 2 * ((a2.length : Int) + b2.length)
    else if 40 < a2.length ∨ 40 < b2.length then mc + 1
    else
      let a3 := if b2.length < a2.length then b2 else a2
      let b3 := if b2.length < a2.length then a2 else b2
      if mc < ((b3.length : Int) - a3.length) * 2 then mc + 1 else dpA a3 mc b3 0 (row0 a3.length) 0
theorem lev_mid (hC : ∀ c d, c < 128 → d < 128 → C 0 [.str [c], .str [d]] = some (.int (cst c d))) {a b : List Nat} {mc : Int} (g6 : getV 6 vars = some (.str a)) (g7 : getV 7 vars = some (.str b)) (g8 : getV 8 vars = some (.int mc))
    (ha : ∀ x ∈ a, x < 128) (hb : ∀ x ∈ b, x < 128) (hal : a.length ≤ 1000) (hbl : b.length ≤ 1000) :
    ∃ v' own', exs C TK levMid vars [] = some (.ret (.int (levM a b mc)), v', own') := by
  have n6 : ev C TK (.not (.var 6)) vars [] = some (.bool (!(!a.isEmpty)), []) := st_not (st_tst (r := (.str a, [])) (st_var g6) (tr_str hal))
  have n7 : ev C TK (.not (.var 7)) vars [] = some (.bool (!(!b.isEmpty)), []) := st_not (st_tst (r := (.str b, [])) (st_var g7) (tr_str hbl))
  have t1 := tst_or2 n6 n7
  have c6 : ev C TK (.cmp .gt (.prim .len (.cons (.var 6) .nil)) (.glob 18 40)) vars [] = some (.bool (decide ((40 : Int) < a.length)), []) := st_cmp (st_len g6 hal) st_glob rfl
  have c7 : ev C TK (.cmp .gt (.prim .len (.cons (.var 7) .nil)) (.glob 18 40)) vars [] = some (.bool (decide ((40 : Int) < b.length)), []) := st_cmp (st_len g7 hbl) st_glob rfl
  have t2 := tst_or2 c6 c7
  have t3 : tstOf (ev C TK (.cmp .lt (.prim .len (.cons (.var 7) .nil)) (.prim .len (.cons (.var 6) .nil))) vars []) = some (decide ((b.length : Int) < a.length), []) := st_tst (r := (.bool (decide ((b.length : Int) < a.length)), [])) (st_cmp (st_len g7 hbl) (st_len g6 hal) rfl) rfl
  unfold levM
  by_cases h1 : a = [] ∨ b = []
  · rw [if_pos h1]
    refine ⟨vars, [], st_stop (st_ite_t (own₁ := []) (by rw [t1]; rcases h1 with rfl | rfl <;> simp) (st_stop (st_ret (st_binI st_glob (st_binI (st_len g6 hal) (st_len g7 hbl) rfl) (mul_ok' (by decide))))))⟩
  · rw [if_neg h1]
    have h1' : a ≠ [] ∧ b ≠ [] := by simpa [not_or] using h1
    have s1 : ex C TK (.ite (.or (.cons (.not (.var 6)) (.cons (.not (.var 7)) .nil))) (.cons (.ret (.bin .mul (.glob 3 2) (.bin .add (.prim .len (.cons (.var 6) .nil)) (.prim .len (.cons (.var 7) .nil))))) .nil) .nil) vars [] = some (.next, vars, []) :=
      st_ite_f (own₁ := []) (by rw [t1]; simp [h1'.1, h1'.2]) st_nil
    by_cases h2 : 40 < a.length ∨ 40 < b.length
    · rw [if_pos h2]
      exact ⟨_, _, st_next s1 (st_stop (st_ite_t (own₁ := []) (by rw [t2]; congr 2; simp; lia) (st_stop (st_ret (st_bin (st_var g8) st_int rfl)))))⟩
    · rw [if_neg h2]
      have s2 : ex C TK (.ite (.or (.cons (.cmp .gt (.prim .len (.cons (.var 6) .nil)) (.glob 18 40)) (.cons (.cmp .gt (.prim .len (.cons (.var 7) .nil)) (.glob 18 40)) .nil))) (.cons (.ret (.bin .add (.var 8) (.int 1))) .nil) .nil) vars [] = some (.next, vars, []) :=
        st_ite_f (own₁ := []) (by rw [t2]; congr 2; simp; lia) st_nil
      by_cases h3 : b.length < a.length
      · simp only [h3, if_true]
        obtain ⟨v', own', hr⟩ := lev_tail (TK := TK) hC (vars := setV 6 (.str b) (setV 7 (.str a) vars)) (a := b) (b := a) (mc := mc) gv_same (gv_ne (by decide) gv_same) (gv_ne (by decide) (gv_ne (by decide) g8)) hb ha hbl hal
        refine ⟨v', own', st_next s1 (st_next s2 (st_next (st_ite_t (own₁ := []) (by rw [t3]; congr 2; simp; lia) (st_next (vars₁ := setV 6 (.str b) (setV 7 (.str a) vars)) (own₁ := []) ?_ st_nil)) hr))⟩
        show (ev C TK (.var 7) vars []).bind _ = _; rw [st_var g7]; show (ev C TK (.var 6) vars []).bind _ = _; rw [st_var g6]; rfl
      · simp only [h3, if_false]
        obtain ⟨v', own', hr⟩ := lev_tail (TK := TK) hC (vars := vars) (a := a) (b := b) (mc := mc) g6 g7 g8 ha hb hal hbl
        exact ⟨v', own', st_next s1 (st_next s2 (st_next (st_ite_f (own₁ := []) (by rw [t3]; congr 2; simp; lia) st_nil) hr))⟩

theorem hd_dec (a b : List Nat) (j : Nat) : hdEq (a.drop j) (b.drop j) = decide (comP (a.drop j) (b.drop j) ≠ 0) := by
  rw [comP_hd]
  cases hdEq (a.drop j) (b.drop j) <;> simp
theorem hd_step (a b : List Nat) (j : Nat) (h : comP (a.drop j) (b.drop j) ≠ 0) : comP (a.drop j) (b.drop j) = comP (a.drop (j + 1)) (b.drop (j + 1)) + 1 := by
  rw [comP_hd] at h ⊢
  split
  · rfl
  · rename_i hn; rw [if_neg hn] at h; exact absurd rfl h

theorem lev_run (hC : ∀ c d, c < 128 → d < 128 → C 0 [.str [c], .str [d]] = some (.int (cst c d))) (a b : List Nat) (mc : Int) (ha : ∀ x ∈ a, x < 128) (hb : ∀ x ∈ b, x < 128) (hal : a.length ≤ 400) (hbl : b.length ≤ 400) :
    runF C TK p_levenshtein_distance [.str a, .str b, .int mc] = some (.int (levG a b mc)) := by
  have fin : ∀ {v' : Vars} {own' : Own}, exs C TK p_levenshtein_distance.body [(6, .str a), (7, .str b), (8, .int mc)] [] = some (.ret (.int (levG a b mc)), v', own') → runF C TK p_levenshtein_distance [.str a, .str b, .int mc] = some (.int (levG a b mc)) := fun {v' own'} h => by
    exact runF_of rfl h rfl
  have t0 : tstOf (ev C TK (.cmp .eq (.var 6) (.var 7)) [(6, .str a), (7, .str b), (8, .int mc)] []) = some (decide (a = b), []) :=
    st_tst (r := (.bool (decide (a = b)), [])) (st_cmp (st_var rfl) (st_var rfl) rfl) rfl
  by_cases hab : a = b
  · have hl : levG a b mc = 0 := by unfold levG; rw [if_pos hab]
    refine fin (v' := [(6, .str a), (7, .str b), (8, .int mc)]) (own' := []) ?_
    rw [hl]
    exact st_stop (st_ite_t (own₁ := []) (by rw [t0]; simp [hab]) (st_stop (st_ret st_int)))
  · obtain ⟨v1, hv1⟩ : ∃ v1, v1 = setV 20 (.int 0) [(6, .str a), (7, .str b), (8, .int mc)] := ⟨_, rfl⟩
    have hp := comP_le a b
    obtain ⟨v2, hw1, g20, hf2⟩ := whl_count (vars₁ := v1) (test := fun vars own => tstOf (ev C TK levT1 vars own)) (body := fun vars own => exs C TK (.cons (.aug 20 .add (.int 1)) .nil) vars own) 20 (fun j => (j : Int)) (fun j => comP (a.drop j) (b.drop j)) []
      (fun vars j hj hg hf => by
        have := lev_t1 (C := C) (TK := TK) (vars := vars) (own := []) (a := a) (b := b) (j := j) (by rw [hf _ (by decide), hv1]; rfl) (by rw [hf _ (by decide), hv1]; rfl) hg (by lia) (by lia) hj
        rw [this, hd_dec]) (hd_step a b)
      (fun vars j hg => st_next (st_aug hg st_int rfl) (by rw [st_nil]; push_cast; rfl)) 1000 0 v1 (by simp; lia) (by simp; lia) (by rw [hv1]; rfl) (fun _ _ => rfl)
    simp only [Nat.zero_add, List.drop_zero] at g20
    generalize hpv : comP a b = p at *
    have g6 : getV 6 v2 = some (.str a) := by rw [hf2 _ (by decide), hv1]; rfl
    have g7 : getV 7 v2 = some (.str b) := by rw [hf2 _ (by decide), hv1]; rfl
    have g8 : getV 8 v2 = some (.int mc) := by rw [hf2 _ (by decide), hv1]; rfl
    obtain ⟨a1, ha1⟩ : ∃ a1, a1 = a.drop p := ⟨_, rfl⟩
    obtain ⟨b1, hb1⟩ : ∃ b1, b1 = b.drop p := ⟨_, rfl⟩
    have la1 : a1.length ≤ 400 := by rw [ha1]; simp; lia
    have lb1 : b1.length ≤ 400 := by rw [hb1]; simp; lia
    obtain ⟨v5, hv5⟩ : ∃ v5, v5 = setV 19 (.int 0) (setV 7 (.str b1) (setV 6 (.str a1) v2)) := ⟨_, rfl⟩
    have hq := comP_le a1.reverse b1.reverse
    rw [List.length_reverse] at hq
    obtain ⟨v6, hw2, g19, hf6⟩ := whl_count (vars₁ := v5) (test := fun vars own => tstOf (ev C TK levT2 vars own)) (body := fun vars own => exs C TK (.cons (.aug 19 .sub (.int 1)) .nil) vars own) 19 (fun j => -(j : Int)) (fun j => comP (a1.reverse.drop j) (b1.reverse.drop j)) []
      (fun vars j hj hg hf => by
        have := lev_t2 (C := C) (TK := TK) (vars := vars) (own := []) (a := a1) (b := b1) (j := j) (by rw [hf _ (by decide), hv5]; simp [gv_set]) (by rw [hf _ (by decide), hv5]; simp [gv_set]) hg (by lia) (by lia) hj
        rw [this, hd_dec]) (hd_step a1.reverse b1.reverse)
      (fun vars j hg => st_next (st_aug hg st_int rfl) (by rw [st_nil, show (-(j : Int) - 1) = -((j + 1 : Nat) : Int) by push_cast; lia])) 1000 0 v5 (by simp; lia) (by simp; lia) (by rw [hv5]; simp [gv_set]) (fun _ _ => rfl)
    simp only [Nat.zero_add, List.drop_zero] at g19
    generalize hkv : comP a1.reverse b1.reverse = k at *
    have gg6 : getV 6 v6 = some (.str a1) := by rw [hf6 _ (by decide), hv5]; simp [gv_set]
    have gg7 : getV 7 v6 = some (.str b1) := by rw [hf6 _ (by decide), hv5]; simp [gv_set]
    have gg8 : getV 8 v6 = some (.int mc) := by rw [hf6 _ (by decide), hv5]; simp [gv_set, g8]
    have hlev : levG a b mc = levM (a1.take (a1.length - k)) (b1.take (b1.length - k)) mc := by
      unfold levG levM
      rw [if_neg hab]
      simp only [hpv, ← ha1, ← hb1, hkv]
    obtain ⟨v9, own9, hr⟩ := lev_mid (TK := TK) hC (vars := setV 7 (.str (b1.take (b1.length - k))) (setV 6 (.str (a1.take (a1.length - k))) v6)) (a := a1.take (a1.length - k)) (b := b1.take (b1.length - k)) (mc := mc) (gv_ne (by decide) gv_same) gv_same (gv_ne (by decide) (gv_ne (by decide) gg8))
      (fun x hx => ha x (by have := List.mem_of_mem_take hx; rw [ha1] at this; exact List.mem_of_mem_drop this)) (fun x hx => hb x (by have := List.mem_of_mem_take hx; rw [hb1] at this; exact List.mem_of_mem_drop this)) (by simp; lia) (by simp; lia)
    refine fin (v' := v9) (own' := own9) ?_
    rw [hlev]
    refine st_next (st_ite_f (own₁ := []) (by rw [t0]; simp [hab]) st_nil) ?_
    refine st_next (st_asg (v := .int 0) st_int) ?_
    rw [← hv1]
    refine st_next (whl_st hw1) ?_
    refine st_next (st_asg (v := .str a1) (by rw [ha1]; exact st_sl g6 (st_var g20) (by lia) (by lia))) ?_
    refine st_next (st_asg (v := .str b1) (by rw [hb1]; exact st_sl (gv_ne (by decide) g7) (st_var (gv_ne (by decide) g20)) (by lia) (by lia))) ?_
    refine st_next (st_asg (v := .int 0) st_int) ?_
    rw [← hv5]
    refine st_next (whl_st hw2) ?_
    refine st_next (st_asg (st_post gg6 g19 (by lia) (by lia))) ?_
    refine st_next (st_asg (st_post (gv_ne (by decide) gg7) (gv_ne (by decide) g19) (by lia) (by lia))) ?_
    exact hr
end
end Mine
end
section
set_option maxRecDepth 100000
set_option autoImplicit false
namespace Mine
open PySem PyProof.Rows

noncomputable def strV (l : List Nat) : Str := ⟨l.toArray⟩

mutual
/-- a value of the interpreter and a value of the model; h₀: the heap at the frame's entry, ρ: the frame's own lists -/
noncomputable def VR (h h₀ : Heap) (ρ : List Addr) : V → Value → Prop
  | .non, x => x = .none
  | .bool b, x => x = .bool b
  | .int i, x => ∃ t, x = .int i t
  | .str l, x => ∃ t, x = .str (strV l) t
  | .tup vs, x => ∃ a xs n, x = .ref a ∧ h.get? a = some { cls := .type "tuple", data := .seq xs n } ∧ VRs h h₀ ρ vs xs.toList
  | .lst b vs, x => ∃ a xs, x = .ref a ∧ h.PlainList a xs ∧ a ∉ ρ ∧ (b = false → h₀.get? a = none) ∧ VRs h h₀ ρ vs xs.toList
  | .ref n, x => ∃ a, x = .ref a ∧ ρ[n]? = some a
  | .rng a b c, x => ∃ r t u v, x = .ref r ∧ IsRange h r a b c t u v
noncomputable def VRs (h h₀ : Heap) (ρ : List Addr) : List V → List Value → Prop
  | [], xs => xs.isEmpty = true
  | v :: vs, xs => match xs with
    | [] => False
    | y :: ys => VR h h₀ ρ v y ∧ VRs h h₀ ρ vs ys
end

section
variable {h h₀ : Heap} {ρ : List Addr}
theorem VRs.ind {P : List V → List Value → Prop} (n : P [] []) (c : ∀ v vs y ys, VR h h₀ ρ v y → VRs h h₀ ρ vs ys → P vs ys → P (v :: vs) (y :: ys)) : ∀ {vs : List V} {xs : List Value}, VRs h h₀ ρ vs xs → P vs xs
  | [], xs, r => by cases xs with
    | nil => exact n
    | cons y ys => exact (Bool.noConfusion (r : false = true))
  | v :: vs, xs, r => by cases xs with
    | nil => exact False.elim r
    | cons y ys => exact c v vs y ys r.1 r.2 (VRs.ind n c r.2)
theorem VRs.nilE {xs : List Value} (r : VRs h h₀ ρ [] xs) {P : List Value → Prop} (k : P []) : P xs := by
  cases xs with
  | nil => exact k
  | cons y ys => exact (Bool.noConfusion (r : false = true))
theorem VRs.consE {v : V} {vs : List V} {xs : List Value} (r : VRs h h₀ ρ (v :: vs) xs) {P : List Value → Prop} (k : ∀ y ys, VR h h₀ ρ v y → VRs h h₀ ρ vs ys → P (y :: ys)) : P xs := by
  cases xs with
  | nil => exact False.elim r
  | cons y ys => exact k y ys r.1 r.2
theorem VRs.oneE {v : V} {xs : List Value} (r : VRs h h₀ ρ [v] xs) {P : List Value → Prop} (k : ∀ y, VR h h₀ ρ v y → P [y]) : P xs := r.consE fun y _ hv r => r.nilE (P := fun l => P (y :: l)) (k y hv)
theorem VR.intE {v : V} {i : Int} {x : Value} (r : VR h h₀ ρ v x) (e : intOf v = some i) {P : Value → Prop} (k : ∀ t, P (.int i t)) : P x := by
  rw [intOf_is e] at r
  obtain ⟨t, rfl⟩ := r; exact k t
theorem VR.strE {v : V} {l : List Nat} {x : Value} (r : VR h h₀ ρ v x) (e : strOf v = some l) {P : Value → Prop} (k : ∀ t, P (.str (strV l) t)) : P x := by
  rw [strOf_is e] at r
  obtain ⟨t, rfl⟩ := r; exact k t
theorem VR.tupE {vs : List V} {x : Value} (r : VR h h₀ ρ (.tup vs) x) {P : Value → Prop} (k : ∀ a xs n, h.get? a = some { cls := .type "tuple", data := .seq xs n } → VRs h h₀ ρ vs xs.toList → P (.ref a)) : P x := by
  simp only [VR] at r
  obtain ⟨a, xs, n, rfl, ho, hv⟩ := r; exact k a xs n ho hv
theorem VR.lstE {b : Bool} {vs : List V} {x : Value} (r : VR h h₀ ρ (.lst b vs) x) {P : Value → Prop} (k : ∀ a xs, h.PlainList a xs → a ∉ ρ → (b = false → h₀.get? a = none) → VRs h h₀ ρ vs xs.toList → P (.ref a)) : P x := by
  simp only [VR] at r
  obtain ⟨a, xs, rfl, ho, hn, hf, hv⟩ := r; exact k a xs ho hn hf hv
theorem VR.refE {n : Nat} {x : Value} (r : VR h h₀ ρ (.ref n) x) {P : Value → Prop} (k : ∀ a, ρ[n]? = some a → P (.ref a)) : P x := by
  obtain ⟨a, rfl, e⟩ := r; exact k a e
theorem VR.rngE {a b c : Int} {x : Value} (r : VR h h₀ ρ (.rng a b c) x) {P : Value → Prop} (k : ∀ r t u v, IsRange h r a b c t u v → P (.ref r)) : P x := by
  obtain ⟨q, t, u, v, rfl, e⟩ := r; exact k q t u v e

theorem VRs.length {vs : List V} {xs : List Value} (r : VRs h h₀ ρ vs xs) : xs.length = vs.length := VRs.ind (P := fun vs xs => xs.length = vs.length) rfl (fun _ _ _ _ _ _ ih => congrArg (· + 1) ih) r
theorem VRs.append {vs ws : List V} {xs ys : List Value} (e : VRs h h₀ ρ vs xs) (r : VRs h h₀ ρ ws ys) : VRs h h₀ ρ (vs ++ ws) (xs ++ ys) :=
  VRs.ind (P := fun vs xs => VRs h h₀ ρ (vs ++ ws) (xs ++ ys)) r (fun _ _ _ _ hv _ ih => ⟨hv, ih⟩) e
theorem VRs.one {v : V} {x : Value} (r : VR h h₀ ρ v x) : VRs h h₀ ρ [v] [x] := ⟨r, rfl⟩
theorem VRs.get {vs : List V} {xs : List Value} (r : VRs h h₀ ρ vs xs) : ∀ {k : Nat} {v : V}, vs[k]? = some v → ∃ x, xs[k]? = some x ∧ VR h h₀ ρ v x :=
  VRs.ind (P := fun vs xs => ∀ {k : Nat} {v : V}, vs[k]? = some v → ∃ x, xs[k]? = some x ∧ VR h h₀ ρ v x) (fun e => nomatch e)
    (fun v vs y ys hv _ ih k => by
      cases k with
      | zero => intro u e; cases e; exact ⟨y, rfl, hv⟩
      | succ k => exact ih) r
theorem VRs.set {vs : List V} {xs : List Value} (r : VRs h h₀ ρ vs xs) : ∀ (k : Nat) {v : V} {x : Value}, VR h h₀ ρ v x → VRs h h₀ ρ (vs.set k v) (xs.set k x) :=
  VRs.ind (P := fun vs xs => ∀ (k : Nat) {v : V} {x : Value}, VR h h₀ ρ v x → VRs h h₀ ρ (vs.set k v) (xs.set k x)) (fun _ _ _ _ => rfl)
    (fun v vs y ys hv e ih k => by
      cases k with
      | zero => exact fun r => ⟨r, e⟩
      | succ k => exact fun r => ⟨hv, ih k r⟩) r
theorem VRs.reverse {vs : List V} {xs : List Value} (r : VRs h h₀ ρ vs xs) : VRs h h₀ ρ vs.reverse xs.reverse :=
  VRs.ind (P := fun vs xs => VRs h h₀ ρ vs.reverse xs.reverse) rfl (fun _ _ _ _ hv _ ih => by rw [List.reverse_cons, List.reverse_cons]; exact ih.append (VRs.one hv)) r
theorem VRs.drop {vs : List V} {xs : List Value} (r : VRs h h₀ ρ vs xs) : ∀ k, VRs h h₀ ρ (vs.drop k) (xs.drop k) :=
  VRs.ind (P := fun vs xs => ∀ k, VRs h h₀ ρ (vs.drop k) (xs.drop k)) (fun k => by cases k <;> rfl)
    (fun v vs y ys hv e ih k => by
      cases k with
      | zero => exact ⟨hv, e⟩
      | succ k => exact ih k) r
theorem VRs.take {vs : List V} {xs : List Value} (r : VRs h h₀ ρ vs xs) : ∀ k, VRs h h₀ ρ (vs.take k) (xs.take k) :=
  VRs.ind (P := fun vs xs => ∀ k, VRs h h₀ ρ (vs.take k) (xs.take k)) (fun k => by cases k <;> rfl)
    (fun v vs y ys hv e ih k => by
      cases k with
      | zero => rfl
      | succ k => exact ⟨hv, ih k⟩) r
theorem VRs.rep {vs : List V} {xs : List Value} (e : VRs h h₀ ρ vs xs) : ∀ k, VRs h h₀ ρ (rep k vs) (rep k xs)
  | 0 => rfl
  | k + 1 => e.append (VRs.rep e k)
end

/-- a heap behind: all objects but the frame's own (ρ, W) and the code tables (T) as they were; new handles are new objects -/
structure Gr (T W ρ ρ' : List Addr) (h h' : Heap) : Prop where
  keep : ∀ b o, h.get? b = some o → b ∉ ρ → b ∉ W → b ∉ T → h'.get? b = some o
  alive : ∀ b, (h.get? b).isSome → (h'.get? b).isSome
  ext : ∃ r, ρ' = ρ ++ r ∧ ∀ a ∈ r, h.get? a = none

theorem fresh_of {h h' : Heap} (al : ∀ b, (h.get? b).isSome → (h'.get? b).isSome) {a : Addr} (e : h'.get? a = none) : h.get? a = none := by
  cases q : h.get? a with
  | none => rfl
  | some o => have := al a (by rw [q]; rfl); rw [e] at this; cases this

theorem Gr.refl (T W ρ : List Addr) (h : Heap) : Gr T W ρ ρ h h := ⟨fun _ _ e _ _ _ => e, fun _ e => e, [], by simp, by simp⟩
theorem Gr.trans {T W ρ ρ₁ ρ₂ : List Addr} {h h₁ h₂ : Heap} (x : Gr T W ρ ρ₁ h h₁) (y : Gr T W ρ₁ ρ₂ h₁ h₂) : Gr T W ρ ρ₂ h h₂ := by
  obtain ⟨k1, a1, r, rfl, hr⟩ := x
  obtain ⟨k2, a2, r', rfl, hr'⟩ := y
  refine ⟨fun b o e h1 h2 h3 => ?_, fun b e => a2 b (a1 b e), r ++ r', by simp, fun a ha => ?_⟩
  · refine k2 b o (k1 b o e h1 h2 h3) (fun hm => ?_) h2 h3
    rcases List.mem_append.mp hm with q | q
    · exact h1 q
    · rw [hr b q] at e; cases e
  · rcases List.mem_append.mp ha with q | q
    · exact hr a q
    · exact fresh_of a1 (hr' a q)
theorem Gr.mem {T W ρ ρ' : List Addr} {h h' : Heap} (x : Gr T W ρ ρ' h h') {a : Addr} {o : Obj} (e : h.get? a = some o) (hn : a ∉ ρ) : a ∉ ρ' := by
  obtain ⟨_, _, r, rfl, hr⟩ := x
  intro hm
  rcases List.mem_append.mp hm with q | q
  · exact hn q
  · rw [hr a q] at e; cases e
theorem Gr.idx {T W ρ ρ' : List Addr} {h h' : Heap} (x : Gr T W ρ ρ' h h') {n : Nat} {a : Addr} (e : ρ[n]? = some a) : ρ'[n]? = some a := by
  obtain ⟨_, _, r, rfl, hr⟩ := x
  have hl : n < ρ.length := (List.getElem?_eq_some_iff.mp e).1
  rw [List.getElem?_append_left hl]; exact e

/-- the classes of what a loop runs by -/
noncomputable def itCls (v : Value) : Prop := v = .type "list_iterator" ∨ v = .type "range_iterator" ∨ v = .type "str_ascii_iterator" ∨ v = .type "str_iterator" ∨ v = .type "list_reverseiterator"
noncomputable def Wk (o : Obj) : Prop := (∃ es n, o.data = .dict es n) ∨ (∃ v, o.data = .cell v) ∨ (itCls o.cls ∧ ∃ vs, o.data = .fields vs ∧ ∀ q t, vs[1]? ≠ some (.str q t))
theorem Wk.seq {o : Obj} (w : Wk o) (xs : Array Value) (n : Nat) : o.data ≠ .seq xs n := fun q => by
  rcases w with ⟨es, k, hd⟩ | ⟨v, hd⟩ | ⟨_, vs, hd, _⟩ <;> rw [hd] at q <;> cases q
theorem Wk.range {o : Obj} (w : Wk o) (vs : Array Value) (c : o.cls = .type "range") : o.data ≠ .fields vs := fun q => by
  rcases w with ⟨es, k, hd⟩ | ⟨v, hd⟩ | ⟨i, us, hd⟩
  · rw [hd] at q; cases q
  · rw [hd] at q; cases q
  · unfold itCls at i; rw [c] at i; simp at i
theorem Wk.fields {o : Obj} (w : Wk o) (c : ¬ itCls o.cls) (vs : Array Value) : o.data ≠ .fields vs := fun q => by
  rcases w with ⟨es, k, hd⟩ | ⟨v, hd⟩ | ⟨i, us, hd⟩
  · rw [hd] at q; cases q
  · rw [hd] at q; cases q
  · exact c i

/-- what stands at W and T is no list, tuple or range; what stands at ρ is a list -/
structure Apart (T W ρ : List Addr) (h : Heap) : Prop where
  w : ∀ b ∈ W, ∀ o, h.get? b = some o → (∀ xs n, o.data ≠ .seq xs n) ∧ ∀ vs, o.cls = .type "range" → o.data ≠ .fields vs
  t : ∀ b ∈ T, ∀ o, h.get? b = some o → (∀ xs n, o.data ≠ .seq xs n) ∧ o.cls ≠ .type "range"
  r : ∀ b ∈ ρ, ∀ o, h.get? b = some o → o.cls = .type "list"

theorem cls_tl : (Value.type "tuple") ≠ .type "list" := by simp
theorem cls_rl : (Value.type "range") ≠ .type "list" := by simp
mutual
theorem VR.gr {T W ρ ρ' : List Addr} {h h' h₀ : Heap} (G : Gr T W ρ ρ' h h') (P : Apart T W ρ h) : ∀ {v : V} {x : Value}, VR h h₀ ρ v x → VR h' h₀ ρ' v x
  | .non, _, r => r
  | .bool _, _, r => r
  | .int _, _, r => r
  | .str _, _, r => r
  | .tup vs, x, r => r.tupE fun a xs n ho r => ⟨a, xs, n, rfl, G.keep a _ ho (fun q => cls_tl (P.r a q _ ho)) (fun q => (P.w a q _ ho).1 _ _ rfl) (fun q => (P.t a q _ ho).1 _ _ rfl), VRs.gr G P r⟩
  | .lst b vs, x, r => r.lstE fun a xs ho hn hf r => ⟨a, xs, rfl, ho.elim fun n ho => ⟨n, G.keep a _ ho hn (fun q => (P.w a q _ ho).1 _ _ rfl) (fun q => (P.t a q _ ho).1 _ _ rfl)⟩, ho.elim fun n ho => G.mem ho hn, hf, VRs.gr G P r⟩
  | .ref n, x, r => r.refE fun a e => ⟨a, rfl, G.idx e⟩
  | .rng a b c, x, r => r.rngE fun q t u v ho => ⟨q, t, u, v, rfl, G.keep q _ ho (fun m => cls_rl (P.r q m _ ho)) (fun m => (P.w q m _ ho).2 _ rfl rfl) (fun m => (P.t q m _ ho).2 rfl)⟩
theorem VRs.gr {T W ρ ρ' : List Addr} {h h' h₀ : Heap} (G : Gr T W ρ ρ' h h') (P : Apart T W ρ h) : ∀ {vs : List V} {xs : List Value}, VRs h h₀ ρ vs xs → VRs h' h₀ ρ' vs xs
  | [], _, r => r
  | _ :: _, xs, r => r.consE fun y ys hv r => ⟨VR.gr G P hv, VRs.gr G P r⟩
end

mutual
/-- one object that is no list, tuple or range turns -/
theorem VR.keeps {I : Addr} {ρ : List Addr} {h h' h₀ : Heap} (keep : ∀ b o, h.get? b = some o → b ≠ I → h'.get? b = some o) (P : ∀ o, h.get? I = some o → (∀ xs n, o.data ≠ .seq xs n) ∧ ∀ vs, o.cls = .type "range" → o.data ≠ .fields vs) :
    ∀ {v : V} {x : Value}, VR h h₀ ρ v x → VR h' h₀ ρ v x
  | .non, _, r => r
  | .bool _, _, r => r
  | .int _, _, r => r
  | .str _, _, r => r
  | .tup vs, x, r => r.tupE fun a xs n ho r => ⟨a, xs, n, rfl, keep a _ ho (fun q => (P _ (q ▸ ho)).1 _ _ rfl), VRs.keeps keep P r⟩
  | .lst b vs, x, r => r.lstE fun a xs ho hn hf r => ⟨a, xs, rfl, ho.elim fun n ho => ⟨n, keep a _ ho (fun q => (P _ (q ▸ ho)).1 _ _ rfl)⟩, hn, hf, VRs.keeps keep P r⟩
  | .ref n, x, r => r
  | .rng a b c, x, r => r.rngE fun q t u v ho => ⟨q, t, u, v, rfl, keep q _ ho (fun m => (P _ (m ▸ ho)).2 _ rfl rfl)⟩
theorem VRs.keeps {I : Addr} {ρ : List Addr} {h h' h₀ : Heap} (keep : ∀ b o, h.get? b = some o → b ≠ I → h'.get? b = some o) (P : ∀ o, h.get? I = some o → (∀ xs n, o.data ≠ .seq xs n) ∧ ∀ vs, o.cls = .type "range" → o.data ≠ .fields vs) :
    ∀ {vs : List V} {xs : List Value}, VRs h h₀ ρ vs xs → VRs h' h₀ ρ vs xs
  | [], _, r => r
  | _ :: _, xs, r => r.consE fun y ys hv r => ⟨VR.keeps keep P hv, VRs.keeps keep P r⟩
end

/-- the frame's own lists -/
structure OwnOk (h₀ : Heap) (ρ : List Addr) (own : Own) (h : Heap) : Prop where
  len : ρ.length = own.length
  nodup : ρ.Nodup
  fresh : ∀ a ∈ ρ, h₀.get? a = none
  at' : ∀ (n : Nat) (vs : List V), own[n]? = some vs → ∃ (a : Addr) (xs : Array Value), ρ[n]? = some a ∧ h.PlainList a xs ∧ VRs h h₀ ρ vs xs.toList

theorem OwnOk.lists {h₀ h : Heap} {ρ : List Addr} {own : Own} (O : OwnOk h₀ ρ own h) : ∀ b ∈ ρ, ∃ xs n, h.get? b = some { cls := .type "list", data := .seq xs n } := fun b hb => by
  obtain ⟨n, hn⟩ := List.mem_iff_getElem?.mp hb
  have hl : n < own.length := by rw [← O.len]; exact (List.getElem?_eq_some_iff.mp hn).1
  obtain ⟨a, xs, e, ⟨k, ho⟩, _⟩ := O.at' n own[n] (by simp [hl])
  rw [hn] at e; cases e
  exact ⟨xs, k, ho⟩

/-- a code table that a def made in a call fills: its code object, the def's place and qualified name -/
structure Tab where
  c : Addr
  P : Addr
  line : Int
  col : Int
  qual : Str

noncomputable def TI (tabs : List Tab) (h : Heap) : Prop := ∀ q ∈ tabs, W.CodeHd h q.c q.P ∧
  (h.get? q.P = some (W.tabObj #[]) ∨ ∃ c' : Addr, h.get? q.P = some (W.tabObj #[rawInt q.line, rawInt q.col, .ref c']) ∧ h.CodeRec (.ref c') q.qual)

/-- what the whole proof knows: the program, the base heap (tables hidden), the names -/
structure GX where
  prog : Program
  w : World
  hb : Heap
  tabs : List Tab
  mg : Str → Option Value
  mb : Str → Option Value
  nm : Nat → Str
  gi : Nat → Option Int
  gf : Nat → Option Addr
  tk : Addr
  TK : Nat → Option Int

noncomputable def pfK : Pf → Value
  | .len => .builtin "len" | .sum => .builtin "sum" | .min => .builtin "min" | .max => .builtin "max" | .sorted => .builtin "sorted" | .chr => .builtin "chr" | .divmod => .builtin "divmod" | .list => .type "list" | .range => .type "range"
noncomputable def pfN : Pf → Str
  | .len => "len" | .sum => "sum" | .min => "min" | .max => "max" | .sorted => "sorted" | .chr => "chr" | .divmod => "divmod" | .list => "list" | .range => "range"

noncomputable def GX.T (X : GX) : List Addr := X.tabs.map (·.P)

structure GOk (X : GX) : Prop where
  g : X.hb.Ns mainGlobals X.mg
  b : X.hb.Ns builtinsNs X.mb
  nolimit : X.hb.NoLimit
  gi : ∀ x i, X.gi x = some i → ∃ t, X.mg (X.nm x) = some (.int i t)
  gf : ∀ f a, X.gf f = some a → X.mg (X.nm f) = some (.ref a)
  pf : ∀ p, X.mg (pfN p) = none ∧ X.mb (pfN p) = some (pfK p)
  rv : X.mg "reversed" = none ∧ X.mb "reversed" = some (.type "reversed")
  tk : X.mg "EXACT_TOKEN_TYPES" = some (.ref X.tk)
  keep : ∀ f a h, X.gf f = some a → (∀ b o, X.hb.get? b = some o → h.get? b = some o) → ∃ k, (k = Keeper.frame ∨ k = Keeper.machine ∨ k = Keeper.boundFrame) ∧ PySem.W.Looks (model X.prog X.w) h (keeperOf (.ref a)) k
  bat : ∀ (h : Heap) (P : Addr), (∀ b o, X.hb.get? b = some o → h.get? b = some o) → X.hb.get? P = none → h.BuiltinsAt X.mg P
  tkM : ∀ (A : Around) (s : Shared) (pl : Sem Bool) (P : Value × List Value → Shared → Prop), (∀ b o, X.hb.get? b = some o → s.heap.get? b = some o) → P (.builtin "dict.get", [.ref X.tk]) s →
    wpAny (model X.prog X.w) A (getMethod (.ref X.tk) "get" pl) P (fun _ _ => False) s
  tkC : ∀ (A : Around) (s : Shared) (c : Nat) (t : Tok) (P : Value → Shared → Prop), A.handled = none → (∀ b o, X.hb.get? b = some o → s.heap.get? b = some o) → 0 < s.toks →
    (∀ y t', 0 < t' → (match X.TK c with | some i => ∃ u, y = .int i u | none => y = .none) → P y { s with toks := t' }) →
    wpAny (model X.prog X.w) A (call (.builtin "dict.get") [.ref X.tk, .str (strV [c]) t]) P (fun _ _ => False) s
  inj : ∀ i j, X.nm i = X.nm j → i = j
  dot0 : ∀ i, X.nm i ≠ (".0" : Str)

structure HB (X : GX) (h : Heap) : Prop where
  old : ∀ b o, X.hb.get? b = some o → h.get? b = some o
  ti : TI X.tabs h

/-- a frame: its environment, the heap at its entry, the objects that its stores write -/
structure Frm where
  env : Env
  h₀ : Heap
  W : List Addr

structure FOk (X : GX) (F : Frm) : Prop where
  kind : F.env.scope.kind = .function
  glob : F.env.globals = mainGlobals
  blt : F.env.builtins = builtinsNs
  loc : F.env.locals ∈ F.W

noncomputable def VarAt (F : Frm) (h : Heap) (m : Str → Option Value) (n : Str) (x : Value) : Prop :=
  (F.env.kindOf n = some .local ∧ m n = some x) ∨ ((F.env.kindOf n = some .cell ∨ F.env.kindOf n = some .free) ∧ ∃ c, F.env.cells.lookup n = some c ∧ h.IsCell c (some x))

/-- names that the frame's scope binds or captures -/
noncomputable def Sees (F : Frm) (n : Str) : Prop := F.env.kindOf n = some .local ∨ F.env.kindOf n = some .cell ∨ F.env.kindOf n = some .free

structure Rep (X : GX) (F : Frm) (ρ : List Addr) (vars : Vars) (own : Own) (h : Heap) : Prop where
  hb : HB X h
  al : ∀ b, (F.h₀.get? b).isSome → (h.get? b).isSome
  w : ∀ b ∈ F.W, (∃ o, h.get? b = some o ∧ Wk o) ∧ X.hb.get? b = none
  t : ∀ b ∈ X.T, F.h₀.get? b ≠ none
  base : ∀ b, (X.hb.get? b).isSome → (F.h₀.get? b).isSome
  fr : ∃ m, h.Ns F.env.locals m ∧ ∀ i v, getV i vars = some v → Sees F (X.nm i) → ∃ x, VarAt F h m (X.nm i) x ∧ VR h F.h₀ ρ v x
  own : OwnOk F.h₀ ρ own h
  cells : ∀ n, F.env.kindOf n = some .cell → ∃ c v, F.env.cells.lookup n = some c ∧ h.IsCell c v

theorem Rep.apart {X : GX} {F : Frm} {ρ : List Addr} {vars : Vars} {own : Own} {h : Heap} (R : Rep X F ρ vars own h) : Apart X.T F.W ρ h where
  w := fun b hb o e => by
    obtain ⟨⟨o', e', hd⟩, _⟩ := R.w b hb
    rw [e] at e'; cases e'
    exact ⟨hd.seq, hd.range⟩
  t := fun b hb o e => by
    obtain ⟨q, hq, rfl⟩ := List.mem_map.mp hb
    have := (R.hb.ti q hq).2
    rcases this with h1 | ⟨c', h1, _⟩ <;> (rw [h1] at e; cases e; exact ⟨fun xs n q => (by cases q), fun q => (by cases q)⟩)
  r := fun b hb o e => by
    obtain ⟨xs, n, e'⟩ := R.own.lists b hb
    rw [e] at e'; cases e'; rfl

/-- a step of an expression: all as it was but the frame's own lists, the frame's name space (with the same names) and the code tables -/
structure Step (X : GX) (L : Addr) (ρ : List Addr) (h h' : Heap) : Prop where
  keep : ∀ b o, h.get? b = some o → b ∉ ρ → b ≠ L → b ∉ X.T → h'.get? b = some o
  ns : ∀ m, h.Ns L m → h'.Ns L m
  alive : ∀ b, (h.get? b).isSome → (h'.get? b).isSome
  ti : TI X.tabs h → TI X.tabs h'

theorem OwnOk.notW {X : GX} {F : Frm} {ρ : List Addr} {vars : Vars} {own : Own} {h : Heap} (R : Rep X F ρ vars own h) {b : Addr} (hb : b ∈ ρ) : b ∉ F.W := fun hw => by
  obtain ⟨xs, n, e⟩ := R.own.lists b hb
  exact (R.apart.w b hw _ e).1 _ _ rfl
theorem Rep.L_ρ {X : GX} {F : Frm} {ρ : List Addr} {vars : Vars} {own : Own} {h : Heap} (R : Rep X F ρ vars own h) (K : FOk X F) : F.env.locals ∉ ρ := fun hm => OwnOk.notW R hm K.loc
theorem Rep.hb_ne {X : GX} {F : Frm} {ρ : List Addr} {vars : Vars} {own : Own} {h : Heap} (R : Rep X F ρ vars own h) {b : Addr} {o : Obj} (e : X.hb.get? b = some o) : b ∉ ρ ∧ b ∉ F.W := by
  refine ⟨fun hm => ?_, fun hm => ?_⟩
  · have := R.base b (by rw [e]; rfl)
    rw [R.own.fresh b hm] at this; cases this
  · have := (R.w b hm).2
    rw [e] at this; cases this
theorem Rep.cell_ne {X : GX} {F : Frm} {ρ : List Addr} {vars : Vars} {own : Own} {h : Heap} (R : Rep X F ρ vars own h) {c : Addr} {v : Option Value} (e : h.IsCell c v) : c ∉ ρ ∧ c ≠ F.env.locals ∧ c ∉ X.T := by
  obtain ⟨o, ho, hd⟩ := e
  refine ⟨fun hm => ?_, fun q => ?_, fun hm => ?_⟩
  · obtain ⟨xs, n, e'⟩ := R.own.lists c hm
    rw [ho] at e'; cases e'; cases hd
  · obtain ⟨m, ⟨o', es, ep, e', hd', _⟩, _⟩ := R.fr
    rw [q] at ho; rw [ho] at e'; cases e'; rw [hd] at hd'; cases hd'
  · obtain ⟨q, hq, rfl⟩ := List.mem_map.mp hm
    have := (R.hb.ti q hq).2
    rcases this with h1 | ⟨c', h1, _⟩ <;> (rw [ho] at h1; cases h1; cases hd)

theorem Rep.step {X : GX} {F : Frm} {ρ ρ' : List Addr} {vars : Vars} {own own' : Own} {h h' : Heap} (K : FOk X F) (hT : ∀ b ∈ X.T, X.hb.get? b = none) (R : Rep X F ρ vars own h) (S : Step X F.env.locals ρ h h')
    (hx : ∃ r, ρ' = ρ ++ r ∧ ∀ a ∈ r, h.get? a = none) (hO : OwnOk F.h₀ ρ' own' h') : Gr X.T F.W ρ ρ' h h' ∧ Rep X F ρ' vars own' h' := by
  have G : Gr X.T F.W ρ ρ' h h' := ⟨fun b o e h1 h2 h3 => S.keep b o e h1 (fun q => h2 (q ▸ K.loc)) h3, S.alive, hx⟩
  have cells : ∀ c v, h.IsCell c v → h'.IsCell c v := fun c v e => by
    obtain ⟨n1, n2, n3⟩ := R.cell_ne e
    obtain ⟨o, ho, hd⟩ := e
    exact ⟨o, S.keep c o ho n1 n2 n3, hd⟩
  refine ⟨G, ⟨⟨fun b o e => ?_, S.ti R.hb.ti⟩, fun b e => S.alive b (R.al b e), fun b hb => ?_, R.t, R.base, ?_, hO, fun n hn => ?_⟩⟩
  · obtain ⟨n1, n2⟩ := R.hb_ne e
    exact S.keep b o (R.hb.old b o e) n1 (fun q => n2 (q ▸ K.loc)) (fun q => by rw [hT b q] at e; cases e)
  · obtain ⟨⟨o, e, hd⟩, hn⟩ := R.w b hb
    refine ⟨?_, hn⟩
    by_cases hL : b = F.env.locals
    · subst hL
      obtain ⟨m, hm, _⟩ := R.fr
      obtain ⟨o', es, ep, e', hd', _⟩ := S.ns m hm
      exact ⟨o', e', .inl ⟨es, ep, hd'⟩⟩
    · refine ⟨o, S.keep b o e (fun q => ?_) hL (fun q => ?_), hd⟩
      · obtain ⟨xs, n, e'⟩ := R.own.lists b q
        rw [e] at e'; cases e'
        exact hd.seq _ _ rfl
      · obtain ⟨q', hq, rfl⟩ := List.mem_map.mp q
        have := (R.hb.ti q' hq).2
        rcases this with h1 | ⟨c', h1, _⟩ <;> (rw [e] at h1; cases h1; rcases hd with ⟨es, k, hd⟩ | ⟨v, hd⟩ | ⟨hc, vs, hd, _⟩ <;> first | cases hd; done | (exfalso; simp [itCls, W.tabObj] at hc))
  · obtain ⟨m, hm, hv⟩ := R.fr
    refine ⟨m, S.ns m hm, fun i v e hs => ?_⟩
    obtain ⟨x, hx, hr⟩ := hv i v e hs
    refine ⟨x, ?_, hr.gr G R.apart⟩
    rcases hx with hx | ⟨hk, c, hc, hx⟩
    · exact .inl hx
    · exact .inr ⟨hk, c, hc, cells c _ hx⟩
  · obtain ⟨c, v, hc, hx⟩ := R.cells n hn
    exact ⟨c, v, hc, cells c _ hx⟩
end Mine
end
section
set_option maxRecDepth 100000
set_option autoImplicit false
namespace Mine
open PySem PyProof.Rows

abbrev E0 : Value → Shared → Prop := fun _ _ => False

/-- room below the limits of depth and of C's units -/
structure Rm (A : Around) (k : Nat) : Prop where
  handled : A.handled = none
  depth : A.depth + k < recursionLimit
  units : A.units + 4 * k + 200 < cLine

noncomputable def allN (h : Heap) (L : Addr) : List (Addr × Obj) := (List.range h.objs.size).filterMap fun a => if a = L then none else (h.get? a).map fun o => (a, o)
theorem allN_mem {h : Heap} {L b : Addr} {o : Obj} (e : h.get? b = some o) (hb : b ≠ L) : (b, o) ∈ allN h L := by
  unfold allN
  refine List.mem_filterMap.mpr ⟨b, List.mem_range.mpr (Heap.lt_size e), ?_⟩
  simp [hb, e]
theorem empty_get (b : Addr) : ({} : Heap).get? b = none := by simp [Heap.get?]
theorem news_all (h : Heap) (L : Addr) : News {} L h (allN h L) := fun p hp => by
  unfold allN at hp
  obtain ⟨a, ha, e⟩ := List.mem_filterMap.mp hp
  split at e
  · cases e
  · rename_i hne
    cases q : h.get? a with
    | none => rw [q] at e; cases e
    | some o => rw [q] at e; cases e; exact ⟨q, hne, empty_get _⟩
theorem fr_all {h : Heap} {L : Addr} {m : Str → Option Value} (n : h.Ns L m) : Fr {} L h m := ⟨n, fun b o e => (by rw [empty_get] at e; cases e), Nat.zero_le _⟩

/-- all but L as it was, L's names as they were -/
structure XL (L : Addr) (h h' : Heap) : Prop where
  keep : ∀ b o, b ≠ L → h.get? b = some o → h'.get? b = some o
  ns : ∀ m, h.Ns L m → h'.Ns L m
theorem XL.of_ext {L : Addr} {h h' : Heap} (k : ∀ b o, h.get? b = some o → h'.get? b = some o) : XL L h h' := ⟨fun b o _ e => k b o e, fun _ n => n.keeps k⟩
theorem Ns.unique {h : Heap} {L : Addr} {m m' : Str → Option Value} (a : h.Ns L m) (b : h.Ns L m') : m = m' := by
  obtain ⟨o, es, ep, e, d, _, f⟩ := a
  obtain ⟨o', es', ep', e', d', _, f'⟩ := b
  rw [e] at e'; cases e'; rw [d] at d'; cases d'
  funext n; rw [← f, ← f']
theorem XL.of_news {L : Addr} {h h' : Heap} {m : Str → Option Value} (n : h.Ns L m) (F : Fr {} L h' m) (N : News {} L h' (allN h L)) : XL L h h' :=
  ⟨fun b o hb e => (N _ (allN_mem e hb)).1, fun m' n' => by rw [Ns.unique n' n]; exact F.ns⟩
theorem XL.of_more {L : Addr} {h h' : Heap} {m : Str → Option Value} {l : List (Addr × Obj)} (n : h.Ns L m) (F : Fr {} L h' m) (N : News {} L h' (l ++ allN h L)) : XL L h h' :=
  XL.of_news n F fun p hp => N p (List.mem_append_right _ hp)
theorem Ns.dict {h : Heap} {L : Addr} {m : Str → Option Value} (n : h.Ns L m) : ∃ o es ep, h.get? L = some o ∧ o.data = .dict es ep := let ⟨o, es, ep, e, d, _⟩ := n; ⟨o, es, ep, e, d⟩

theorem tab_nwk {vs : Array Value} : ¬ Wk (W.tabObj vs) := fun w => w.fields (by simp [itCls, W.tabObj]) _ rfl
theorem rec_nwk {o : Obj} {ws : Array Value} {q : Str} {t : Tok} (d : o.data = .fields ws) (e : ws[1]? = some (.str q t)) : ¬ Wk o := fun w => by
  rcases w with ⟨es, k, hd⟩ | ⟨v, hd⟩ | ⟨_, us, hd, hn⟩
  · rw [d] at hd; cases hd
  · rw [d] at hd; cases hd
  · rw [d] at hd; cases hd; exact hn _ _ e
theorem TI.keepN {tabs : List Tab} {h h' : Heap} (k : ∀ b o vs, h.get? b = some o → o.data = .fields vs → ¬ Wk o → h'.get? b = some o) (t : TI tabs h) : TI tabs h' := fun q hq => by
  obtain ⟨⟨o, vs, file, tf, fl, tg, inF, tx, tt, e, e1, e2, r⟩, p⟩ := t q hq
  refine ⟨⟨o, vs, file, tf, fl, tg, inF, tx, tt, k _ _ vs e e2 (fun w => w.fields (by unfold itCls; rw [e1]; simp) _ e2), e1, e2, r⟩, ?_⟩
  rcases p with p | ⟨c', p, c, oc, ws, t', hc, a, b, d⟩
  · exact .inl (k _ _ _ p rfl tab_nwk)
  · exact .inr ⟨c', k _ _ _ p rfl tab_nwk, c, oc, ws, t', hc, k _ _ ws a b (rec_nwk b d), b, d⟩
theorem TI.keepF {tabs : List Tab} {h h' : Heap} (k : ∀ b o vs, h.get? b = some o → o.data = .fields vs → h'.get? b = some o) (t : TI tabs h) : TI tabs h' := t.keepN fun b o vs e d _ => k b o vs e d

section
variable {X : GX} {F : Frm} {ρ : List Addr} {vars : Vars} {own : Own} {h h' : Heap}
theorem Rep.ns (R : Rep X F ρ vars own h) : ∃ m, h.Ns F.env.locals m := let ⟨m, n, _⟩ := R.fr; ⟨m, n⟩
theorem XL.step (R : Rep X F ρ vars own h) (x : XL F.env.locals h h') : Step X F.env.locals ρ h h' := by
  obtain ⟨m, n⟩ := R.ns
  obtain ⟨oL, es, ep, eL, dL⟩ := Ns.dict n
  refine ⟨fun b o e _ hb _ => x.keep b o hb e, x.ns, fun b e => ?_, fun t => t.keepF fun b o vs e d => x.keep b o (fun q => ?_) e⟩
  · obtain ⟨o, e⟩ := Option.isSome_iff_exists.mp e
    by_cases hb : b = F.env.locals
    · subst hb
      obtain ⟨o', _, _, e', _⟩ := Ns.dict (x.ns m n)
      rw [e']; rfl
    · rw [x.keep b o hb e]; rfl
  · subst q; rw [e] at eL; cases eL; rw [d] at dL; cases dL
theorem Rep.list_ne (R : Rep X F ρ vars own h) {a : Addr} {o : Obj} {xs : Array Value} {n : Nat} (e : h.get? a = some o) (d : o.data = .seq xs n) : a ≠ F.env.locals := fun q => by
  obtain ⟨m, hn⟩ := R.ns
  obtain ⟨oL, es, ep, eL, dL⟩ := Ns.dict hn
  subst q; rw [e] at eL; cases eL; rw [d] at dL; cases dL
theorem OwnOk.xl (R : Rep X F ρ vars own h) (x : XL F.env.locals h h') (G : Gr X.T F.W ρ ρ h h') : OwnOk F.h₀ ρ own h' :=
  ⟨R.own.len, R.own.nodup, R.own.fresh, fun n vs e => by
    obtain ⟨a, xs, hr, ⟨k, ha⟩, hv⟩ := R.own.at' n vs e
    exact ⟨a, xs, hr, ⟨k, x.keep a _ (R.list_ne ha rfl) ha⟩, hv.gr G R.apart⟩⟩
theorem Gr.of_step {L : Addr} {W : List Addr} {ρ' : List Addr} (S : Step X L ρ h h') (hL : L ∈ W) (hx : ∃ r, ρ' = ρ ++ r ∧ ∀ a ∈ r, h.get? a = none) : Gr X.T W ρ ρ' h h' :=
  ⟨fun b o e h1 h2 h3 => S.keep b o e h1 (fun q => h2 (q ▸ hL)) h3, S.alive, hx⟩
/-- nothing of ours turned -/
theorem Rep.xl (K : FOk X F) (hT : ∀ b ∈ X.T, X.hb.get? b = none) (R : Rep X F ρ vars own h) (x : XL F.env.locals h h') : Gr X.T F.W ρ ρ h h' ∧ Rep X F ρ vars own h' := by
  have S := x.step R
  have G := Gr.of_step S K.loc ⟨[], (List.append_nil ρ).symm, fun _ h => nomatch h⟩
  exact R.step K hT S ⟨[], (List.append_nil ρ).symm, fun _ h => nomatch h⟩ (OwnOk.xl R x G)
/-- a new list of ours -/
theorem Rep.new (K : FOk X F) (hT : ∀ b ∈ X.T, X.hb.get? b = none) (R : Rep X F ρ vars own h) (x : XL F.env.locals h h') {a : Addr} {vs : List V} {xs : Array Value} (ha : h.get? a = none) (hl : h'.PlainList a xs)
    (hv : VRs h F.h₀ ρ vs xs.toList) : Gr X.T F.W ρ (ρ ++ [a]) h h' ∧ Rep X F (ρ ++ [a]) vars (own ++ [vs]) h' := by
  have S := x.step R
  have hx : ∃ r, ρ ++ [a] = ρ ++ r ∧ ∀ b ∈ r, h.get? b = none := ⟨[a], rfl, fun b hb => by cases List.mem_singleton.mp hb; exact ha⟩
  have G := Gr.of_step (ρ' := ρ ++ [a]) S K.loc hx
  have hna : a ∉ ρ := fun hm => by obtain ⟨_, _, e⟩ := R.own.lists a hm; rw [ha] at e; cases e
  refine R.step K hT S hx ⟨by simp [R.own.len], ?_, fun b hb => ?_, fun n us e => ?_⟩
  · exact List.nodup_append.mpr ⟨R.own.nodup, by simp, fun b hb c hc => by cases List.mem_singleton.mp hc; exact fun q => hna (q ▸ hb)⟩
  · rcases List.mem_append.mp hb with q | q
    · exact R.own.fresh b q
    · cases List.mem_singleton.mp q; exact fresh_of R.al ha
  · rcases Nat.lt_or_ge n own.length with q | q
    · rw [List.getElem?_append_left q] at e
      obtain ⟨b, ys, hr, ⟨k, hb⟩, hw⟩ := R.own.at' n us e
      exact ⟨b, ys, G.idx hr, ⟨k, x.keep b _ (R.list_ne hb rfl) hb⟩, hw.gr G R.apart⟩
    · rw [List.getElem?_append_right q] at e
      have e1 : n - own.length = 0 := by
        rcases Nat.eq_zero_or_pos (n - own.length) with z | z
        · exact z
        · rw [List.getElem?_eq_none (by simp; lia)] at e; cases e
      rw [e1] at e; simp at e; subst e
      have e2 : n = ρ.length := by rw [R.own.len]; lia
      exact ⟨a, xs, by rw [e2]; simp, hl, hv.gr G R.apart⟩
end

/-- what a tree hands on -/
noncomputable def Ok (X : GX) (F : Frm) (vars : Vars) (own' : Own) (v : V) (ρ : List Addr) (s : Shared) (Q : Value → Shared → Prop) : Prop :=
  ∀ x ρ' h' t', 0 < t' → Gr X.T F.W ρ ρ' s.heap h' → Rep X F ρ' vars own' h' → VR h' F.h₀ ρ' v x → Q x { s with heap := h', toks := t' }

/-- what holds all through a frame -/
structure Fx (X : GX) (F : Frm) (A : Around) (k : Nat) : Prop where
  K : FOk X F
  O : GOk X
  T : ∀ b ∈ X.T, X.hb.get? b = none
  R : Rm A k

section
variable {X : GX} {F : Frm} {A : Around} {k : Nat} {ρ : List Addr} {vars : Vars} {own own' : Own} {s : Shared} {Q : Value → Shared → Prop} {v : V} {x : Value} {t : Nat}
theorem Ok.of {r₀ : V} {own₀ : Own} (H : Ok X F vars own' v ρ s Q) (e : some (r₀, own₀) = some (v, own')) : Ok X F vars own₀ r₀ ρ s Q := by cases e; exact H
theorem Ok.same (H : Ok X F vars own v ρ s Q) (R : Rep X F ρ vars own s.heap) (r : VR s.heap F.h₀ ρ v x) (ht : 0 < t) : Q x { s with toks := t } := H x ρ s.heap t ht (Gr.refl ..) R r
theorem Ok.xl (Z : Fx X F A k) (H : Ok X F vars own v ρ s Q) (R : Rep X F ρ vars own s.heap) {h' : Heap} (e : XL F.env.locals s.heap h') (r : VR h' F.h₀ ρ v x) (ht : 0 < t) : Q x { s with heap := h', toks := t } :=
  let ⟨G, R'⟩ := R.xl Z.K Z.T e
  H x ρ h' t ht G R' r
theorem Ok.new (Z : Fx X F A k) {vs : List V} (H : Ok X F vars (own ++ [vs]) (.ref own.length) ρ s Q) (R : Rep X F ρ vars own s.heap) {h' : Heap} {a : Addr} {xs : Array Value} (e : XL F.env.locals s.heap h') (ha : s.heap.get? a = none)
    (hl : h'.PlainList a xs) (hv : VRs s.heap F.h₀ ρ vs xs.toList) (ht : 0 < t) : Q (.ref a) { s with heap := h', toks := t } := by
  obtain ⟨G, R'⟩ := R.new Z.K Z.T e ha hl hv
  refine H _ (ρ ++ [a]) h' t ht G R' ?_
  simp only [VR]
  exact ⟨a, rfl, by rw [← R.own.len]; simp⟩
theorem toksPos {α : Type} {M : Model} {t : Sem α} {P : α → Shared → Prop} (h0 : 0 < s.toks) (h : wpAny M A t (fun a s' => 0 < s'.toks → P a s') E0 s) : wpAny M A t P E0 s :=
  wpAny_with_toks (n := 1) h0 (wpAny_mono h (fun _ _ q => q) fun _ _ q => q.elim)
end
theorem size_none (h : Heap) : h.get? h.objs.size = none := by
  cases q : h.get? h.objs.size with
  | none => rfl
  | some o => exact absurd (Heap.lt_size q) (Nat.lt_irrefl _)
theorem XL.push {L : Addr} (h : Heap) (o : Obj) : XL L h (h.push o) := XL.of_ext fun b o' e => Heap.get?_push_of_some _ e
end Mine
end
section
set_option maxRecDepth 100000
set_option autoImplicit false
namespace Mine
open PySem PyProof.Rows

theorem strV_len (l : List Nat) : (strV l).length = l.length := by simp [strV, Str.length]
theorem strV_app (a b : List Nat) : strV a ++ strV b = strV (a ++ b) := by
  show Str.append _ _ = _
  simp [Str.append, strV]
theorem sizeLine_is : sizeLine = 16777216 := by decide

theorem bits_is (i : Int) : Builtin.Int.intBits i = bitsI i := by
  unfold bitsI
  by_cases h : i = 0
  · subst h; rfl
  · rw [if_neg h]
    unfold Builtin.Int.intBits
    simp [h]

noncomputable def bopK : Bop → Operator
  | .add => .Add | .sub => .Sub | .mul => .Mult | .fdiv => .FloorDiv | .mod => .Mod | .pow => .Pow | .shl => .LShift | .shr => .RShift | .xor => .BitXor

theorem foldl_rep {α : Type} (n : Nat) (a : Array α) : List.foldl (fun x y => x ++ y) #[] (List.replicate n a) = (rep n a.toList).toArray := by
  have key : ∀ (n : Nat) (acc : Array α), List.foldl (fun x y => x ++ y) acc (List.replicate n a) = acc ++ (rep n a.toList).toArray := by
    intro n
    induction n with
    | zero => intro acc; simp [rep]
    | succ n ih => intro acc; rw [List.replicate_succ, List.foldl_cons, ih]; apply Array.toList_inj.mp; simp [rep, List.replicate_succ]
  rw [key]; simp
theorem rep_nil {α : Type} : ∀ n, rep n ([] : List α) = []
  | 0 => rfl
  | n + 1 => by simp [rep]
theorem mul_strV (a : List Nat) (n : Int) : Txt.mul (strV a) n = strV (rep n.toNat a) := by
  unfold Txt.mul
  by_cases h : n < 1
  · rw [if_pos h, show n.toNat = 0 by lia]; rfl
  · rw [if_neg h]
    by_cases h2 : (n == 1 || (strV a).length == 0) = true
    · rw [if_pos h2]
      simp only [Bool.or_eq_true, beq_iff_eq, strV_len] at h2
      rcases h2 with rfl | h2
      · simp [rep]
      · rw [List.length_eq_zero_iff.mp h2, rep_nil]
    · rw [if_neg h2]
      show (⟨List.foldl _ _ _⟩ : Str) = _
      rw [foldl_rep]; rfl

section
variable {X : GX} {F : Frm} {A : Around} {k : Nat} {ρ : List Addr} {vars : Vars} {own own' : Own} {s : Shared} {Q : Value → Shared → Prop} {v w r : V} {x y : Value}

/-- what stands as a list -/
theorem list_at (R : Rep X F ρ vars own s.heap) {vs : List V} (hi : items own v = some vs) (r : VR s.heap F.h₀ ρ v x) {P : Value → Prop} (k : ∀ a xs, s.heap.PlainList a xs → VRs s.heap F.h₀ ρ vs xs.toList → P (.ref a)) : P x := by
  cases v with
  | ref n =>
    refine r.refE fun a e => ?_
    obtain ⟨b, xs, e', hl, hv⟩ := R.own.at' n vs hi
    rw [e] at e'; cases e'
    exact k a xs hl hv
  | lst b us => cases hi; exact r.lstE fun a xs hl _ _ hv => k a xs hl hv
  | _ => cases hi
theorem vr_int {h h₀ : Heap} {i : Int} {t : Nat} : VR h h₀ ρ (.int i) (.int i t) := ⟨t, rfl⟩
theorem vr_str {h h₀ : Heap} {l : List Nat} {t : Nat} : VR h h₀ ρ (.str l) (.str (strV l) t) := ⟨t, rfl⟩
theorem vr_bool {h h₀ : Heap} {b : Bool} : VR h h₀ ρ (.bool b) (.bool b) := rfl

theorem arr_size {xs : Array Value} {vs : List V} {h h₀ : Heap} (r : VRs h h₀ ρ vs xs.toList) : xs.size = vs.length := r.length
theorem arr_le {xs : Array Value} {vs : List V} {h h₀ : Heap} {n : Nat} (r : VRs h h₀ ρ vs xs.toList) (h : vs.length ≤ n) (hn : n ≤ 16777216) : xs.size ≤ sizeLine := by
  rw [arr_size r, sizeLine_is]; exact Nat.le_trans h hn
theorem arr_lt {xs : Array Value} {vs : List V} {h h₀ : Heap} {n : Nat} (r : VRs h h₀ ρ vs xs.toList) (h : vs.length ≤ n) (hn : n < 2 ^ 62) : (xs.size : Int) < 2 ^ 63 := by
  rw [arr_size r]; lia
theorem str_lt {l : List Nat} {n : Nat} (h : l.length ≤ n) (hn : n < 2 ^ 62) : ((strV l).length : Int) < 9223372036854775808 := by
  rw [strV_len]; lia

theorem add_sound (Z : Fx X F A k) (R : Rep X F ρ vars own s.heap) (ht : 0 < s.toks) (e : addS own v w = some (r, own')) (rx : VR s.heap F.h₀ ρ v x) (ry : VR s.heap F.h₀ ρ w y)
    (H : Ok X F vars own' r ρ s Q) : wpAny (model X.prog X.w) A (binaryOp .Add x y) Q E0 s := by
  refine elim_of e (fun _ e => bind_of e fun va ha e => bind_of e fun vb hb e => if_of e fun hl e => ?_) fun a ha e => bind_of e fun b hb e => if_of e fun hl e => ?_
  · apply list_at R ha rx; intro a xs hx hvx; apply list_at R hb ry; intro b ys hy hvy
    obtain ⟨m, n⟩ := R.ns
    refine add_arrays (fr_all n) (news_all s.heap F.env.locals) hx.isList hy.isList (fun h' F' N' => ?_) (by rw [arr_size hvx, arr_size hvy, sizeLine_is]; exact Nat.le_trans hl (by decide))
    exact (H.of e).new (h' := h') Z R (XL.of_more (l := [_]) n F' N') (size_none _) ⟨0, (N' _ (.head _)).1⟩ (by simpa using hvx.append hvy) ht
  · apply rx.strE ha; intro t; apply ry.strE hb; intro u
    refine toksPos ht (PyProof.Rows.add_str (fun t' tk ht' => ?_) ?_)
    · rw [strV_app]; exact (H.of e).same R vr_str ht'
    · rw [strV_len, strV_len, sizeLine_is]; exact Nat.le_trans hl (by decide)
theorem mul_sound (Z : Fx X F A k) (R : Rep X F ρ vars own s.heap) (ht : 0 < s.toks) (e : mulS own v w = some (r, own')) (rx : VR s.heap F.h₀ ρ v x) (ry : VR s.heap F.h₀ ρ w y)
    (H : Ok X F vars own' r ρ s Q) : wpAny (model X.prog X.w) A (binaryOp .Mult x y) Q E0 s := by
  refine bind_of e fun i hi e => ?_
  apply ry.intE hi; intro t
  refine elim_of e (fun _ e => bind_of e fun va ha e => if_of e fun hl e => ?_) fun l hl2 e => if_of e fun hl e => ?_
  · apply list_at R ha rx; intro a xs hx hvx
    obtain ⟨n0, hx⟩ := hx
    obtain ⟨m, n⟩ := R.ns
    have hsz := arr_size hvx
    refine PyProof.Rows.mul_list (fr_all n) (news_all s.heap F.env.locals) hx (by lia) (by lia) ?_ (fun h' F' N' => ?_)
    · rw [hsz]
      exact Nat.le_trans (Nat.mul_le_mul hl.2.2 (Int.toNat_le.mpr hl.1)) (by decide)
    · refine (H.of e).new (h' := h') Z R (XL.of_more (l := [_]) n F' N') (size_none _) ⟨0, (N' _ (.head _)).1⟩ ?_ ht
      rw [foldl_rep]
      show VRs _ _ _ _ (rep _ _).toArray.toList
      by_cases he : xs.isEmpty = true
      · have e0 : va = [] := List.length_eq_zero_iff.mp (by rw [← hsz]; simpa using he)
        rw [if_pos he, e0, rep_nil]; simp [rep, VRs]
      · rw [if_neg he]; exact hvx.rep _
  · apply rx.strE hl2; intro u
    refine toksPos ht (SB.mul (mulOk_of 100 1000 (by rw [strV_len]; exact hl.2.2) hl.1 (by lia) (by decide) (by decide)) fun t' tk ht' => ?_)
    rw [mul_strV]; exact (H.of e).same R vr_str ht'
theorem bopI_sound {o : Bop} {a b c : Int} {t u : Tok} (e : bopI o a b = some c) (H : Q (.int c s.toks) { s with toks := s.toks + 1 }) : wpAny (model X.prog X.w) A (binaryOp (bopK o) (.int a t) (.int b u)) Q E0 s := by
  cases o with
  | add => cases e; exact PyProof.Rows.add_int H
  | sub => cases e; exact PyProof.Rows.sub_int H
  | mul =>
    refine if_of e fun hl e => ?_
    cases e
    exact PyProof.Rows.mul_int H (hl.elim (fun hl => IntMulOk.of_left (intBits_le_64 (by lia) (by lia))) fun hl => IntMulOk.of_right (intBits_le_64 (by lia) (by lia)))
  | fdiv => exact if_of e fun hl e => by cases e; exact PyProof.Rows.floordiv_int hl.1 H (.inl (PyProof.noPylong_small hl.2))
  | mod => exact if_of e fun hl e => by cases e; exact PyProof.Rows.mod_int hl H
  | pow => exact if_of e fun hl e => by cases e; exact PyProof.Rows.pow_int_small hl.1 hl.2.1 hl.2.2 H
  | shl => exact if_of e fun hl e => by cases e; exact PyProof.Rows.lshift_int hl.1 (by rw [bits_is]; exact hl.2) H
  | shr => exact if_of e fun hl e => by cases e; exact PyProof.Rows.rshift_int hl H
  | xor =>
    refine if_of e fun hl e => ?_
    cases e
    refine xor_int ?_
    rw [show Builtin.bitXor a b = Builtin.bitOr a b - Builtin.bitAnd a b from rfl, bitOr_and, bitAnd_pp hl.1 hl.2]
    rw [show ∀ x y z : Int, x + y - z - z = x + y - 2 * z by intro x y z; lia]
    exact H
theorem bop_sound (Z : Fx X F A k) (R : Rep X F ρ vars own s.heap) (ht : 0 < s.toks) (o : Bop) (e : bop own o v w = some (r, own')) (rx : VR s.heap F.h₀ ρ v x) (ry : VR s.heap F.h₀ ρ w y)
    (H : Ok X F vars own' r ρ s Q) : wpAny (model X.prog X.w) A (binaryOp (bopK o) x y) Q E0 s := by
  refine elim_of e (fun _ e => ?_) fun a ha e => bind_of e fun b hb e => bind_of e fun c hc e => ?_
  · cases o with
    | add => exact add_sound Z R ht e rx ry H
    | mul => exact mul_sound Z R ht e rx ry H
    | _ => cases e
  · apply rx.intE ha; intro t; apply ry.intE hb; intro u
    exact bopI_sound hc ((H.of e).same R vr_int (Nat.succ_pos _))
theorem aug_sound (R : Rep X F ρ vars own s.heap) (o : Bop) (ho : o = .add ∨ o = .sub) {i j : Int} {u z : V} (hu : intOf u = some i) (hz : intOf z = some j) (e : bop own o (.int i) (.int j) = some (r, own')) (rx : VR s.heap F.h₀ ρ u x) (ry : VR s.heap F.h₀ ρ z y)
    (H : Ok X F vars own' r ρ s Q) : wpAny (model X.prog X.w) A (inplaceOp (bopK o) x y) Q E0 s := by
  apply rx.intE hu; intro t; apply ry.intE hz; intro t'
  rcases ho with rfl | rfl
  · exact iadd_int ((H.of e).same R vr_int (Nat.succ_pos _))
  · exact isub_int ((H.of e).same R vr_int (Nat.succ_pos _))

theorem some1_is {α β : Type} {vs : List α} {xs : Array β} {b : Bool} (e : some1 vs = some b) (hs : xs.size = vs.length) : (xs.size : Int) < 2 ^ 63 ∧ (!xs.isEmpty) = b := if_of e fun hl e => by
  cases e
  refine ⟨by rw [hs]; lia, congrArg (!·) ?_⟩
  cases vs with
  | nil => exact Array.isEmpty_iff_size_eq_zero.mpr hs
  | cons v vs => exact Bool.eq_false_iff.mpr fun q => nomatch hs.symm.trans (Array.isEmpty_iff_size_eq_zero.mp q)
theorem some1_str {l : List Nat} {b : Bool} (e : some1 l = some b) : ((strV l).length : Int) < 9223372036854775808 ∧ (((strV l).length : Int) != 0) = b := if_of e fun hl e => by
  cases e
  refine ⟨str_lt hl (by decide), ?_⟩
  rw [strV_len]
  cases l <;> rfl
/-- truth of a value: no object turns -/
theorem truth_sound (R : Rep X F ρ vars own s.heap) (ht : 0 < s.toks) {b : Bool} (e : truth own v = some b) (rx : VR s.heap F.h₀ ρ v x) {P : Bool → Shared → Prop} (H : ∀ t', 0 < t' → P b { s with toks := t' }) :
    wpAny (model X.prog X.w) A (truthy x) P E0 s := by
  have lst : ∀ {vs : List V}, items own v = some vs → some1 vs = some b → wpAny (model X.prog X.w) A (truthy x) P E0 s := fun hi e => by
    apply list_at R hi rx; intro a xs hx hv
    obtain ⟨h1, h2⟩ := some1_is e (arr_size hv)
    exact wpAny_truthy_list hx.isList h1 (h2 ▸ H _ (Nat.succ_pos _))
  cases v with
  | non => cases e; cases rx; exact truthy_none (H s.toks ht)
  | bool b => cases e; cases rx; exact wpAny_truthy_bool (H s.toks ht)
  | int i =>
    cases e; apply rx.intE rfl; intro t
    refine truthy_int ?_
    have : (i != 0) = decide (i ≠ 0) := by by_cases h : i = 0 <;> simp [h]
    rw [this]; exact H s.toks ht
  | str l =>
    obtain ⟨h1, h2⟩ := some1_str e
    apply rx.strE rfl; intro t
    exact SBL.truthy h1 (h2 ▸ H _ (Nat.succ_pos _))
  | lst c vs => exact lst rfl e
  | ref n => exact bind_of e fun vs hi e => lst hi e
  | tup _ => cases e
  | rng _ _ _ => cases e
end
end Mine
end
section
set_option maxRecDepth 100000
set_option autoImplicit false
namespace Mine
open PySem PyProof.Rows

mutual
noncomputable def toPy : V → PyData
  | .non => .none
  | .bool b => .bool b
  | .int i => .int i
  | .str l => .str (strV l)
  | .tup vs => .tuple (toPys vs)
  | .lst _ vs => .list (toPys vs)
  | .ref _ => .none
  | .rng .. => .none
noncomputable def toPys : List V → List PyData
  | [] => []
  | v :: vs => toPy v :: toPys vs
end

theorem strV_inj {a b : List Nat} : strV a = strV b ↔ a = b := by simp [strV]
theorem strV_beq (a b : List Nat) : (strV a == strV b) = decide (a = b) := by by_cases h : a = b <;> simp [h, strV_inj]
mutual
theorem veq_is (n m : Nat) : ∀ (a b : V), okD a n = true → okD b m = true → PyData.eqv (toPy a) (toPy b) = veq a b
  | .non, b, _, h2 => by cases b <;> first | rfl | cases h2
  | .bool a, b, _, h2 => by cases b with
    | bool c => cases a <;> cases c <;> rfl
    | ref _ => cases h2
    | rng _ _ _ => cases h2
    | _ => rfl
  | .int i, b, _, h2 => by cases b <;> first | rfl | simp [toPy, PyData.eqv, veq, numOf]
  | .str l, b, _, h2 => by cases b <;> first | rfl | exact strV_beq l _
  | .tup vs, b, h1, h2 => by cases b with
    | tup ws => exact okT_of h1 fun n' _ h1 => okT_of h2 fun m' _ h2 => veqs_is n' m' vs ws h1 h2
    | _ => rfl
  | .lst _ vs, b, h1, h2 => by cases b with
    | lst _ ws => exact okT_of h1 fun n' _ h1 => okT_of h2 fun m' _ h2 => veqs_is n' m' vs ws h1 h2
    | _ => rfl
  | .ref _, b, h1, _ => nomatch h1
  | .rng .., b, h1, _ => nomatch h1
theorem veqs_is (n m : Nat) : ∀ (a b : List V), okDs a n = true → okDs b m = true → PyData.eqvAll (toPys a) (toPys b) = veqs a b
  | [], b, _, _ => by cases b <;> rfl
  | a :: as, b, h1, h2 => by cases b with
    | nil => rfl
    | cons b bs =>
      have h1 := and_true h1
      have h2 := and_true h2
      exact and_congr_b (veq_is n m a b h1.1 h2.1) (veqs_is n m as bs h1.2 h2.2)
end
mutual
theorem ok_lay (n : Nat) : ∀ (a : V), okD a n = true → (toPy a).canLay0 = true ∧ (toPy a).depth ≤ n
  | .non, _ => ⟨rfl, Nat.zero_le _⟩
  | .bool _, _ => ⟨rfl, Nat.zero_le _⟩
  | .int _, _ => ⟨rfl, Nat.zero_le _⟩
  | .str l, h => ⟨by show (strV l).cps.all _ = true; simpa [strV, okD] using h, Nat.zero_le _⟩
  | .tup vs, h => okT_of h fun m hm h => ⟨(oks_lay m vs h).1, Nat.le_trans (Nat.succ_le_succ (oks_lay m vs h).2) hm⟩
  | .lst _ vs, h => okT_of h fun m hm h => ⟨(oks_lay m vs h).1, Nat.le_trans (Nat.succ_le_succ (oks_lay m vs h).2) hm⟩
  | .ref _, h => nomatch h
  | .rng .., h => nomatch h
theorem oks_lay (n : Nat) : ∀ (a : List V), okDs a n = true → PyData.canLayAll0 (toPys a) = true ∧ PyData.depthAll (toPys a) ≤ n
  | [], _ => ⟨rfl, Nat.zero_le _⟩
  | a :: as, h => by
    have h := and_true h
    have h1 := ok_lay n a h.1
    have h2 := oks_lay n as h.2
    exact ⟨true_and h1.1 h2.1, Nat.max_le.mpr ⟨h1.2, h2.2⟩⟩
end
mutual
theorem vr_reads {h h₀ : Heap} {ρ : List Addr} (n : Nat) : ∀ (a : V) {x : Value}, okD a n = true → VR h h₀ ρ a x → ∃ as, Reads h x (toPy a) as
  | .non, x, _, r => by cases r; exact ⟨_, Reads.none⟩
  | .bool b, x, _, r => by cases r; exact ⟨_, Reads.bool b⟩
  | .int i, x, _, r => by obtain ⟨t, rfl⟩ := r; exact ⟨_, Reads.int i t⟩
  | .str l, x, _, r => by obtain ⟨t, rfl⟩ := r; exact ⟨_, Reads.str _ t⟩
  | .tup vs, x, h, r => okT_of h fun m _ h => by
    apply r.tupE; intro a xs k ho hv
    exact (vrs_reads m vs h hv).elim fun as q => ⟨_, reads_tuple_at ho rfl rfl q⟩
  | .lst _ vs, x, h, r => okT_of h fun m _ h => by
    apply r.lstE; intro a xs ho _ _ hv
    exact (vrs_reads m vs h hv).elim fun as q => ho.elim fun k ho => ⟨_, reads_list_at ho rfl rfl q⟩
  | .ref _, x, h, _ => nomatch h
  | .rng .., x, h, _ => nomatch h
theorem vrs_reads {h h₀ : Heap} {ρ : List Addr} (n : Nat) : ∀ (a : List V) {xs : List Value}, okDs a n = true → VRs h h₀ ρ a xs → ∃ as, ReadsAll h xs (toPys a) as
  | [], xs, _, r => by apply r.nilE; exact ⟨_, ReadsAll.nil⟩
  | a :: as, xs, h, r => by
    apply r.consE; intro y ys hv r
    have h := and_true h
    exact (vr_reads n a h.1 hv).elim fun bs q => (vrs_reads n as h.2 r).elim fun cs p => ⟨_, ReadsAll.cons q p⟩
end

/-- a value handed over: to a callee (b) its lists stand as they are; handed back its lists are new -/
theorem frzG {h h₀ : Heap} {ρ : List Addr} {own : Own} (O : OwnOk h₀ ρ own h) {h₁ : Heap} {σ : List Addr} (b : Bool) (fr : ∀ a, (b = false → h₀.get? a = none) → a ∉ σ ∧ (b = false → h₁.get? a = none)) :
    ∀ (n : Nat) {v w : V} {x : Value}, frz b own n v = some w → VR h h₀ ρ v x → VR h h₁ σ w x
  | 0, _, _, _, e, _ => nomatch e
  | n + 1, v, w, x, e, r => by
    have all : ∀ {vs ws : List V} {xs : List Value}, mapO (frz b own n) vs = some ws → VRs h h₀ ρ vs xs → VRs h h₁ σ ws xs := fun {vs} => by
      induction vs with
      | nil => intro ws xs e r; cases e; exact r
      | cons v vs ihs =>
        intro ws xs e r
        refine bind_of e fun w hw e => bind_of e fun us hu e => ?_
        cases e
        apply r.consE; intro y ys hv r
        exact ⟨frzG O b fr n hw hv, ihs hu r⟩
    cases v with
    | tup vs =>
      refine bind_of e fun ws hw e => ?_
      cases e; apply r.tupE; intro a xs k ho hv
      exact ⟨a, xs, k, rfl, ho, all hw hv⟩
    | lst b' vs =>
      by_cases hb : (!b && b') = true
      · rw [show frz b own (n + 1) (.lst b' vs) = none from if_pos hb] at e; cases e
      · rw [show frz b own (n + 1) (.lst b' vs) = _ from if_neg hb] at e
        refine bind_of e fun ws hw e => ?_
        cases e; apply r.lstE; intro a xs ho _ hf hv
        have q := fr a fun h => hf (by subst h; simpa using hb)
        exact ⟨a, xs, rfl, ho, q.1, q.2, all hw hv⟩
    | ref k =>
      refine bind_of e fun vs hk e => bind_of e fun ws hw e => ?_
      cases e; apply r.refE; intro a ha
      obtain ⟨c, xs, hc, hl, hv⟩ := O.at' k vs hk
      rw [ha] at hc; cases hc
      have q := fr a fun _ => O.fresh a (List.mem_of_getElem? ha)
      exact ⟨a, xs, rfl, hl, q.1, q.2, all hw hv⟩
    | rng => cases e
    | _ => cases e; exact r
theorem frzB {h h₀ h₁ : Heap} {ρ : List Addr} {own : Own} (O : OwnOk h₀ ρ own h) (n : Nat) {v w : V} {x : Value} (e : frz true own n v = some w) (r : VR h h₀ ρ v x) : VR h h₁ [] w x :=
  frzG O true (fun _ _ => ⟨List.not_mem_nil, nofun⟩) n e r
theorem frzBs {h h₀ h₁ : Heap} {ρ : List Addr} {own : Own} (O : OwnOk h₀ ρ own h) (n : Nat) : ∀ {vs ws : List V} {xs : List Value}, mapO (frz true own n) vs = some ws → VRs h h₀ ρ vs xs → VRs h h₁ [] ws xs
  | [], ws, xs, e, r => by cases e; exact r
  | v :: vs, ws, xs, e, r => bind_of e fun w hw e => bind_of e fun us hu e => by
    cases e; apply r.consE; intro y ys hv r
    exact ⟨frzB O n hw hv, frzBs O n hu r⟩
theorem frzR {h h₀ : Heap} {ρ : List Addr} {own : Own} (O : OwnOk h₀ ρ own h) {h₁ : Heap} {σ : List Addr} (al : ∀ b, (h₁.get? b).isSome → (h₀.get? b).isSome) (hσ : ∀ a ∈ σ, (h₀.get? a).isSome)
    (n : Nat) {v w : V} {x : Value} (e : frz false own n v = some w) (r : VR h h₀ ρ v x) : VR h h₁ σ w x :=
  frzG O false (fun a e => ⟨fun hm => (by have := hσ a hm; rw [e rfl] at this; cases this), fun _ => fresh_of al (e rfl)⟩) n e r

noncomputable def copK : Cop → CmpOp
  | .eq => .Eq | .ne => .NotEq | .lt => .Lt | .le => .LtE | .gt => .Gt | .ge => .GtE | .isin => .In

theorem any_is (n m : Nat) : ∀ (vs : List V) (a : V), okDs vs n = true → okD a m = true → (toPys vs).any (fun y => PyData.eqv y (toPy a)) = vs.any (fun y => veq y a)
  | [], a, _, _ => rfl
  | v :: vs, a, h, ha => or_congr_b (veq_is n m v a (and_true h).1 ha) (any_is n m vs a (and_true h).2 ha)

section
variable {X : GX} {F : Frm} {A : Around} {k : Nat} {ρ : List Addr} {vars : Vars} {own own' : Own} {s : Shared} {P : Value → Shared → Prop} {v w r : V} {x y : Value}
theorem shaped_ok {a : V} (h : okD a 8 = true) : SeqAt.shaped (toPy a) = true := by
  have := ok_lay 8 a h
  unfold SeqAt.shaped
  rw [this.1, Bool.true_and]; exact decide_eq_true (Nat.le_trans this.2 (by decide))
theorem eqG_sound (Z : Fx X F A k) (R : Rep X F ρ vars own s.heap) {b : Bool} (e : eqS own v w = some b) (rx : VR s.heap F.h₀ ρ v x) (ry : VR s.heap F.h₀ ρ w y) (n : Bool)
    (H : P (.bool (n.xor b)) s) : wpAny (model X.prog X.w) A (compareOp (bif n then .NotEq else .Eq) x y) P E0 s := by
  have hu := Z.R.units
  refine elim_of e (fun _ e => bind_of e fun a ha e => bind_of e fun b hb e => if_of e fun hk e => ?_) fun a ha e => bind_of e fun b hb e => ?_
  · cases e
    have hk := and_true hk
    obtain ⟨as, qa⟩ := vr_reads 8 a hk.1 (frzB (h₁ := s.heap) R.own _ ha rx)
    obtain ⟨bs, qb⟩ := vr_reads 8 b hk.2 (frzB (h₁ := s.heap) R.own _ hb ry)
    have hq := veq_is 8 8 a b hk.1 hk.2
    cases n
    · exact eq_dataH qa qb (shaped_ok hk.1) (shaped_ok hk.2) (by lia) (by rw [hq]; simpa using H)
    · exact ne_dataH qa qb (shaped_ok hk.1) (shaped_ok hk.2) (by lia) (by rw [hq]; simpa using H)
  · cases e
    apply rx.strE ha; intro t; apply ry.strE hb; intro u
    cases n
    · exact PyProof.Rows.eq_str (by rw [strV_beq]; simpa using H)
    · exact ne_str (by rw [bne, strV_beq]; simpa using H)
theorem in_sound (Z : Fx X F A k) (R : Rep X F ρ vars own s.heap) {b : Bool} (e : inS own v w = some b) (rx : VR s.heap F.h₀ ρ v x) (ry : VR s.heap F.h₀ ρ w y)
    (H : P (.bool b) s) : wpAny (model X.prog X.w) A (compareOp .In x y) P E0 s := by
  have hu := Z.R.units
  refine elim_of e (fun _ e => bind_of e fun a ha e => bind_of e fun u hb e => bind_of e fun vs hs e => if_of e fun hk e => ?_) fun b hb e => bind_of e fun c hc e => bind_of hc fun l hl hc => ?_
  · cases e
    have hk := and_true hk
    obtain ⟨as, qa⟩ := vr_reads 8 a hk.1 (frzB (h₁ := s.heap) R.own _ ha rx)
    have l1 := ok_lay 8 a hk.1
    have l2 := oks_lay 8 vs hk.2
    have hr := frzB (h₁ := s.heap) R.own _ hb ry
    have hq := any_is 8 8 vs a hk.2 hk.1
    have hm : A.units + 1 + min (PyData.depthAll (toPys vs)) (toPy a).depth < cLine := by lia
    cases u with
    | lst c us =>
      cases hs
      obtain ⟨bs, qb⟩ := vr_reads 9 (.lst c vs) hk.2 hr
      exact SeqAt.in_list_reads qb qa l2.1 l1.1 hm (by rw [hq]; exact H)
    | tup us =>
      cases hs
      obtain ⟨bs, qb⟩ := vr_reads 9 (.tup vs) hk.2 hr
      exact SeqAt.in_tuple_reads qb qa l2.1 l1.1 hm (by rw [hq]; exact H)
    | _ => cases hs
  · cases e
    cases only_is hc
    apply rx.strE hl; intro t; apply ry.strE hb; intro u
    refine in_str ?_
    have := StrLaws.found_one (strV b) c
    rw [show (strV [c]) = (⟨#[c]⟩ : Str) from rfl, this]
    rw [show decide (c ∈ (strV b).cps.toList) = b.contains c from by rw [Bool.eq_iff_iff, decide_eq_true_eq]; simp [strV]]; exact H
theorem copS_sound (Z : Fx X F A k) (R : Rep X F ρ vars own s.heap) (o : Cop) {b : Bool} (e : copS own v w o = some b) (rx : VR s.heap F.h₀ ρ v x) (ry : VR s.heap F.h₀ ρ w y)
    (H : P (.bool b) s) : wpAny (model X.prog X.w) A (compareOp (copK o) x y) P E0 s := by
  cases o with
  | eq => exact eqG_sound Z R e rx ry false (by simpa using H)
  | ne => exact bind_of e fun c hc e => eqG_sound Z R hc rx ry true (by cases e; simpa using H)
  | isin => exact in_sound Z R e rx ry H
  | _ => cases e
theorem cop_sound (Z : Fx X F A k) (R : Rep X F ρ vars own s.heap) (o : Cop) {b : Bool} (e : cop own o v w = some b) (rx : VR s.heap F.h₀ ρ v x) (ry : VR s.heap F.h₀ ρ w y)
    (H : P (.bool b) s) : wpAny (model X.prog X.w) A (compareOp (copK o) x y) P E0 s := by
  refine elim_of e (fun _ e => copS_sound Z R o e rx ry H) fun a ha e => elim_of e (fun _ e => copS_sound Z R o e rx ry H) fun b hb e => ?_
  apply rx.intE ha; intro t; apply ry.intE hb; intro u
  cases o with
  | lt => cases e; exact PyProof.Rows.lt_int H
  | le => cases e; exact le_int H
  | gt => cases e; exact gt_int H
  | ge => cases e; exact ge_int H
  | eq => cases e; exact PyProof.Rows.eq_int (by rw [show (a == b) = decide (a = b) from rfl]; exact H)
  | ne => cases e; exact PyProof.Rows.ne_int (by rw [show (a != b) = !decide (a = b) from rfl]; exact H)
  | isin => cases e
end
end Mine
end
section
set_option maxRecDepth 100000
set_option autoImplicit false
namespace Mine
open PySem PyProof.Rows

theorem plain_set (its : Array Value) (n j : Nat) (v : Value) : Obj.mapSeq (·.setIfInBounds j v) { cls := .type "list", data := .seq its n } = { cls := .type "list", data := .seq (its.setIfInBounds j v) n } := by
  simp [Obj.mapSeq]
/-- a store into a plain list, from either end: the kit's two rules in one -/
theorem setItem_plain {prog : Program} {w : World} {A : Around} {E : Value → Shared → Prop} {s : Shared} {l : Addr} {items : Array Value} {k : Int} {t : Tok} {v : Value} {Q : Unit → Shared → Prop} {j : Nat} (hl : s.heap.PlainList l items)
    (hk : -(2 ^ 62) ≤ k ∧ k < 2 ^ 62) (hj : idxN items.size k = some j) (hQ : ∀ h', h'.PlainList l (items.setIfInBounds j v) → Heap.SameBut l s.heap h' → Q () { s with heap := h' }) :
    wpAny (model prog w) A (setItem (.ref l) (.int k t) v) Q E s := by
  obtain ⟨ne, ho⟩ := id hl
  have fin : Q () { s with heap := s.heap.update l (Obj.mapSeq (·.setIfInBounds j v)) } :=
    hQ _ ⟨ne, by rw [Heap.get?_update_self _ ho (by rw [plain_set]; rfl), plain_set]⟩ (Heap.SameBut.update ..)
  unfold idxN at hj
  split at hj
  · split at hj
    · cases hj; exact PySem.W.ki_setAt ho (by lia) (by lia) (by lia) fin
    · cases hj
  · split at hj
    · cases hj; exact PySem.W.ki_setBack ho (by lia) (by lia) (by lia) fin
    · cases hj

section
variable {X : GX} {F : Frm} {A : Around} {k : Nat} {ρ : List Addr} {vars : Vars} {own own' : Own} {s : Shared} {Q : Value → Shared → Prop} {v w r : V} {x y : Value}

theorem getI_of {α : Type} {xs : List α} {i : Int} {c : α} (e : getI xs i = some c) {P : Prop} (k : ∀ j, seqIndex? i xs.length = some j → xs[j]? = some c → (0 ≤ i → j = i.toNat) → (i < 0 → -(xs.length : Int) ≤ i ∧ j = (i + xs.length).toNat) → P) : P := by
  unfold getI at e
  by_cases h : 0 ≤ i
  · rw [if_pos h] at e
    have hl := (List.getElem?_eq_some_iff.mp e).1
    refine k i.toNat ?_ e (fun _ => rfl) fun q => absurd h (Int.not_le.mpr q)
    unfold seqIndex?
    simp only [show ¬ i < 0 from Int.not_lt.mpr h, if_false]
    rw [if_pos (by simp only [Bool.and_eq_true, decide_eq_true_eq]; lia)]
  · rw [if_neg h] at e
    refine if_of e fun h2 e => k _ (seqIndex_neg (by lia) (by lia)) e (fun q => absurd q h) fun _ => ⟨by lia, rfl⟩
theorem get_toArray (xs : Array Value) (j : Nat) : xs[j]? = xs.toList[j]? := by simp

/-- reading an item: no object turns -/
theorem item_sound (R : Rep X F ρ vars own s.heap) (ht : 0 < s.toks) (e : itemAt own v w = some r) (rx : VR s.heap F.h₀ ρ v x) (ry : VR s.heap F.h₀ ρ w y)
    (H : ∀ z t', 0 < t' → VR s.heap F.h₀ ρ r z → Q z { s with toks := t' }) : wpAny (model X.prog X.w) A (getItem x y) Q E0 s := by
  refine bind_of e fun kk hk e => if_of e fun hb e => ?_
  apply ry.intE hk; intro u
  refine elim_of e (fun _ e => elim_of e (fun _ e => bind_of e fun vs hi e => getI_of e fun j e1 e2 e3 e4 => ?_) fun vs hv e => getI_of e fun j e1 e2 _ _ => ?_) fun l hl e => bind_of e fun c hc e => getI_of hc fun j e1 e2 _ _ => ?_
  · apply list_at R hi rx; intro a xs hl hv
    obtain ⟨z, hz, hr⟩ := hv.get e2
    by_cases h0 : 0 ≤ kk
    · exact wpAny_getItem_list hl.isList h0 (by lia) (by rw [get_toArray, ← e3 h0]; exact hz) (H z s.toks ht hr)
    · have h0 := Int.not_le.mp h0
      exact wpAny_getItem_list_neg hl.isList h0 (by rw [arr_size hv]; exact (e4 h0).1) (by lia) (by rw [get_toArray, arr_size hv, ← (e4 h0).2]; exact hz) (H z s.toks ht hr)
  · cases tupOf_is hv
    apply rx.tupE; intro a xs n ho hv
    obtain ⟨z, hz, hr⟩ := hv.get e2
    exact getItem_tuple ⟨_, ho, rfl, n, rfl⟩ (by lia) (by lia) (by rw [arr_size hv]; exact e1) (by rw [get_toArray]; exact hz) (H z s.toks ht hr)
  · cases e
    apply rx.strE hl; intro t
    refine getItem_str (by simp only [Bool.or_eq_false_iff, decide_eq_false_iff_not]; lia) (c := c) ?_ (H _ _ (Nat.succ_pos _) ⟨_, rfl⟩)
    rw [strV_len, e1]
    show (strV l).cps[j]? = some c
    simpa [strV] using e2

theorem clip_is (n : Nat) (i : Int) : clipAt n i = normI n i := by
  unfold clipAt normI
  split <;> lia
theorem cut_is {α : Type} (xs : List α) (lo hi : Option Int) : (xs.drop (lo.elim 0 (clipAt xs.length))).take (hi.elim xs.length (clipAt xs.length) - lo.elim 0 (clipAt xs.length)) = cut xs lo hi := by
  unfold cut
  cases lo <;> cases hi <;> simp only [Option.elim, clip_is]
theorem slicePick_is (items : Array Value) (lo hi : Option Int) : slicePick items lo hi none = (cut items.toList lo hi).toArray := by
  rw [slicePick_plain, ← cut_is]; simp
theorem strIdx_is (lo hi : Option Int) (n : Nat) : Builtin.Str.strSliceIndices lo hi 1 n = sliceRange (sliceBounds lo hi none n).1 (sliceBounds lo hi none n).2.1 (sliceBounds lo hi none n).2.2 := by
  cases lo <;> cases hi <;> rfl
theorem pick_nat (l : List Nat) (a b : Nat) : ((List.range b).map (a + ·)).filterMap (fun i => l[i]?) = (l.drop a).take b := by
  induction b generalizing a l with
  | zero => simp
  | succ b ih =>
    rw [List.range_succ_eq_map, List.map_cons, List.map_map, List.filterMap_cons]
    have e : ((fun x => a + x) ∘ Nat.succ) = fun x => (a + 1) + x := by funext x; simp only [Function.comp]; lia
    rw [e, ih]
    rw [Nat.add_zero]
    cases h : l[a]? with
    | none =>
      have hl := List.getElem?_eq_none_iff.mp h
      simp [List.drop_eq_nil_of_le hl, List.drop_eq_nil_of_le (Nat.le_succ_of_le hl)]
    | some c =>
      obtain ⟨hl, hc⟩ := List.getElem?_eq_some_iff.mp h
      rw [List.drop_eq_getElem_cons hl, List.take_succ_cons, hc]
theorem slice_is (l : List Nat) (lo hi : Option Int) : Txt.slice (strV l) lo hi = strV (cut l lo hi) := by
  have key : ((Builtin.Str.strSliceIndices lo hi 1 (strV l).length).filterMap ((strV l).cps[·]?)) = cut l lo hi := by
    rw [strIdx_is, strV_len, sliceBounds_plain]
    simp only [sliceRange_one]
    rw [← cut_is]
    have : (fun x : Nat => (strV l).cps[x]?) = fun x => l[x]? := by funext x; simp [strV]
    rw [this, pick_nat]
  unfold Txt.slice
  split
  · rename_i h
    simp only [beq_self_eq_true, Bool.true_and, beq_iff_eq] at h
    have hb := h
    rw [strIdx_is, strV_len, sliceBounds_plain] at h
    simp only [sliceRange_one, List.length_map, List.length_range] at h
    rw [← key, strIdx_is, strV_len, sliceBounds_plain]
    simp only [sliceRange_one]
    have h1 : ∀ o : Option Int, o.elim l.length (clipAt l.length) ≤ l.length := by
      intro o; cases o with
      | none => exact Nat.le_refl _
      | some i => simp only [Option.elim]; unfold clipAt; lia
    have h2 := h1 hi
    have h3 : lo.elim 0 (clipAt l.length) = 0 ∨ l.length = 0 := by lia
    have e : (fun x : Nat => (strV l).cps[x]?) = fun x => l[x]? := by funext x; simp [strV]
    rw [e, pick_nat, h]
    rcases h3 with h3 | h3
    · rw [h3]; simp
    · have : l = [] := List.length_eq_zero_iff.mp h3
      subst this; simp
  · rw [key]; rfl

theorem optI_part {v : V} {o : Option Int} {x : Value} {h h₀ : Heap} {ρ : List Addr} (e : optI v = some o) (r : VR h h₀ ρ v x) : IsPart x o := by
  refine elim_of e (fun _ e => bind_of e fun _ hn e => ?_) fun i hi e => if_of e fun _ e => ?_
  · cases e; cases nonOf_is hn; cases r; exact .none
  · cases e; apply r.intE hi; intro t; exact .int _ _
theorem cut_rel {h h₀ : Heap} {ρ : List Addr} {vs : List V} {xs : List Value} (r : VRs h h₀ ρ vs xs) (lo hi : Option Int) : VRs h h₀ ρ (cut vs lo hi) (cut xs lo hi) := by
  unfold cut
  rw [r.length]
  exact (r.drop _).take _

theorem slc_sound (Z : Fx X F A k) (R : Rep X F ρ vars own s.heap) (ht : 0 < s.toks) {lo hi : V} {yl yh : Value} (e : slc own v lo hi = some (r, own')) (rx : VR s.heap F.h₀ ρ v x) (rl : VR s.heap F.h₀ ρ lo yl) (rh : VR s.heap F.h₀ ρ hi yh)
    (H : Ok X F vars own' r ρ s Q) : wpAny (model X.prog X.w) A (getItem x (.ref s.heap.objs.size)) Q E0 { s with heap := s.heap.push { cls := .type "slice", data := .fields #[yl, yh, .none] } } := by
  refine bind_of e fun lo' el e => bind_of e fun hi' eh e => ?_
  have pl := optI_part el rl
  have ph := optI_part eh rh
  generalize ho : ({ cls := .type "slice", data := .fields #[yl, yh, .none] } : Obj) = o
  refine elim_of e (fun _ e => bind_of e fun vs hi2 e => if_of e fun hl e => ?_) fun l hl2 e => if_of e fun hl e => ?_
  · apply list_at R hi2 rx; intro a xs hx hv
    have hx' : (s.heap.push o).IsList a xs := hx.isList.push _
    refine wpAny_getItem_list_slice (s := { s with heap := s.heap.push o }) hx' (by rw [← ho]; exact Heap.IsSliceOf.new ..) pl ph .none (by simp) ?_ (arr_le hv hl (by decide))
    have hn : s.heap.get? (s.heap.push o).objs.size = none := by
      rw [Heap.size_push]
      cases q : s.heap.get? (s.heap.objs.size + 1) with
      | none => rfl
      | some o => exact absurd (Heap.lt_size q) (Nat.not_lt.mpr (Nat.le_succ _))
    refine (H.of e).new (h' := ((s.heap.push o).push { cls := .type "list", data := .seq (slicePick xs lo' hi' none) })) Z R
      (XL.of_ext fun b o e => Heap.get?_push_of_some _ (Heap.get?_push_of_some _ e)) hn ⟨0, Heap.get?_push_size _ rfl⟩ ?_ ht
    rw [slicePick_is]
    exact cut_rel hv lo' hi'
  · apply rx.strE hl2; intro t
    have hz : (strV l).length ≤ sizeLine := by rw [strV_len, sizeLine_is]; exact Nat.le_trans hl (by decide)
    have KP : KeptH (fun h' => ∀ b o, s.heap.get? b = some o → h'.get? b = some o) := fun h ob p b o e => Heap.get?_push_of_some _ (p b o e)
    have H := H.of e
    have fin : ∀ h' t' kk, (∀ b o, s.heap.get? b = some o → h'.get? b = some o) → (0 < kk → Q (.str (Txt.slice (strV l) lo' hi') t') { s with heap := h', toks := kk }) := fun h' t' kk q hp => by
      rw [slice_is]; exact H.xl Z R (XL.of_ext q) ⟨_, rfl⟩ hp
    have go : ItemOn (model X.prog X.w) A E0 (.str (strV l) t) (.ref s.heap.objs.size) (fun z s' => 0 < s'.toks → Q z s') { s with heap := s.heap.push o } → wpAny (model X.prog X.w) A (getItem (.str (strV l) t) (.ref s.heap.objs.size)) Q E0 { s with heap := s.heap.push o } := fun hh => by
      obtain ⟨_, _, _, _, g⟩ := hh
      exact toksPos (s := { s with heap := s.heap.push o }) ht g
    subst ho
    cases pl <;> cases ph
    · exact go (SBH.sliceItem_nn KP (fun _ _ e => e) fin hz)
    · exact go (SBH.sliceItem_ns KP (fun _ _ e => e) fin hz)
    · exact go (SBH.sliceItem_sn KP (fun _ _ e => e) fin hz)
    · exact go (SBH.sliceItem_ss KP (fun _ _ e => e) fin hz)
theorem filterMap_some {α β : Type} {f : α → Option β} {g : α → β} : ∀ {l : List α}, (∀ k ∈ l, f k = some (g k)) → l.filterMap f = l.map g
  | [], _ => rfl
  | x :: l, h => by rw [List.filterMap_cons, h x (.head _), List.map_cons, filterMap_some fun k hk => h k (.tail _ hk)]
theorem rev_pick (xs : Array Value) : slicePick xs none none (some (-1)) = xs.toList.reverse.toArray := by
  unfold slicePick
  have e : sliceBounds none none (some (-1)) xs.size = ((xs.size : Int) - 1, -1, -1) := by simp [sliceBounds]
  rw [e]
  have e2 : sliceRange ((xs.size : Int) - 1) (-1) (-1) = (List.range xs.size).map fun k => xs.size - 1 - k := by
    unfold sliceRange
    simp only [show ¬ ((-1 : Int) > 0) by lia, if_false]
    have hc : (if (xs.size : Int) - 1 > -1 then ((xs.size : Int) - 1 - -1 - -1 - 1) / (- -1) else 0).toNat = xs.size := by
      split <;> simp <;> lia
    rw [hc]
    refine List.map_congr_left fun k hk => ?_
    have := List.mem_range.mp hk
    lia
  rw [e2]
  congr 1
  apply List.ext_getElem?
  intro i
  rw [List.filterMap_map]
  have hall : ((List.range xs.size).filterMap ((fun x => xs[x]?) ∘ fun k => xs.size - 1 - k)) = (List.range xs.size).map fun k => xs.toList.getD (xs.size - 1 - k) Value.none := by
    refine filterMap_some fun k hk => ?_
    have := List.mem_range.mp hk
    simp only [Function.comp]
    have hlt : xs.size - 1 - k < xs.size := by lia
    simp [List.getD_eq_getElem?_getD, hlt]
  rw [hall]
  by_cases hi : i < xs.size
  · have hlt : xs.size - 1 - i < xs.size := by lia
    simp [hi, List.getD_eq_getElem?_getD, hlt]
  · simp [hi]
theorem rev_sound (Z : Fx X F A k) (R : Rep X F ρ vars own s.heap) (ht : 0 < s.toks) {t : Tok} (e : revd own v = some (r, own')) (rx : VR s.heap F.h₀ ρ v x)
    (H : Ok X F vars own' r ρ s Q) : wpAny (model X.prog X.w) A (getItem x (.ref s.heap.objs.size)) Q E0 { s with heap := s.heap.push { cls := .type "slice", data := .fields #[.none, .none, .int (-1) t] } } := by
  generalize ho : ({ cls := .type "slice", data := .fields #[.none, .none, .int (-1) t] } : Obj) = o
  refine bind_of e fun vs hi2 e => if_of e fun hl e => ?_
  apply list_at R hi2 rx; intro a xs hx hv
  have hx' : (s.heap.push o).IsList a xs := hx.isList.push _
  refine wpAny_getItem_list_slice (s := { s with heap := s.heap.push o }) hx' (by rw [← ho]; exact Heap.IsSliceOf.new ..) .none .none (.int _ _) (by simp) ?_ (arr_le hv hl (by decide))
  have hn : s.heap.get? (s.heap.push o).objs.size = none := by
    rw [Heap.size_push]
    cases q : s.heap.get? (s.heap.objs.size + 1) with
    | none => rfl
    | some o => exact absurd (Heap.lt_size q) (Nat.not_lt.mpr (Nat.le_succ _))
  refine (H.of e).new (h' := ((s.heap.push o).push { cls := .type "list", data := .seq (slicePick xs none none (some (-1))) })) Z R
    (XL.of_ext fun b o e => Heap.get?_push_of_some _ (Heap.get?_push_of_some _ e)) hn ⟨0, Heap.get?_push_size _ rfl⟩ ?_ ht
  rw [rev_pick]
  exact hv.reverse
end
end Mine
end
section
set_option maxRecDepth 100000
set_option autoImplicit false
namespace Mine
open PySem PyProof.Rows PySem.W

theorem one_is {α : Type} {l : List α} {c : α} (h : one l = some c) {P : Prop} (k : ∀ r, l = c :: r → P) : P := by
  cases l with
  | nil => cases h
  | cons a r => cases h; exact k r rfl
/-- a tree of questions, answered at one state -/
theorem runK_wp {α : Type} {ask : Nat → Nat → Option Bool} {cmp : Nat → Nat → (Bool → Shared → Prop) → Shared → Prop} {s : Shared} (h : ∀ i j b, ask i j = some b → ∀ C : Bool → Shared → Prop, C b s → cmp i j C s) {G : α → Shared → Prop} :
    ∀ (t : KasT α) (p : α), runK ask t = some p → G p s → t.kasWp cmp G s
  | .ret a, p, e, g => by cases e; exact g
  | .ask i j k, p, e, g => bind_of e fun b hb e => h i j b hb _ (runK_wp h (k b) p e g)

section
variable {X : GX} {F : Frm} {A : Around} {k : Nat} {ρ : List Addr} {vars : Vars} {own own' : Own} {s : Shared} {Q : Value → Shared → Prop} {v w r : V} {x y : Value} {h h₀ : Heap}

/-- a tuple with its first part -/
noncomputable def TupAt (h h₀ : Heap) (ρ : List Addr) (k : V) (x f : Value) : Prop := ∃ a o xs n, x = .ref a ∧ h.get? a = some o ∧ o.cls = .type "tuple" ∧ o.data = .seq xs n ∧ xs[0]? = some f ∧ VR h h₀ ρ k f
theorem tup_at {v c : V} {x : Value} (e : fstO v = some c) (r : VR h h₀ ρ v x) : ∃ f, TupAt h h₀ ρ c x f := bind_of e fun us hu e => one_is e fun rest hl => by
  rw [tupOf_is hu, hl] at r
  apply r.tupE; intro a xs n ho hv
  cases hx : xs.toList with
  | nil => rw [hx] at hv; exact False.elim hv
  | cons f fs =>
    rw [hx] at hv
    exact ⟨f, a, _, xs, n, rfl, ho, rfl, rfl, by rw [get_toArray, hx]; rfl, hv.1⟩
theorem tups_of : ∀ {vs ks : List V} {xs : List Value}, mapO fstO vs = some ks → VRs h h₀ ρ vs xs → ∃ fs, KatTups h xs fs ∧ VRs h h₀ ρ ks fs
  | [], ks, xs, e, r => by cases e; apply r.nilE; exact ⟨[], .nil, rfl⟩
  | v :: vs, ks, xs, e, r => bind_of e fun c hc e => bind_of e fun cs hcs e => by
    cases e
    apply r.consE; intro y ys hv r
    obtain ⟨f, a, o, zs, n, hy, ho, hk, hd, hf, hr⟩ := tup_at hc hv
    obtain ⟨fs, t, q⟩ := tups_of hcs r
    rw [hy]
    exact ⟨f :: fs, .cons ho hk hd hf t, hr, q⟩
theorem mapO_get {α β : Type} {f : α → Option β} : ∀ {l : List α} {r : List β}, mapO f l = some r → ∀ {i : Nat} {c : β}, r[i]? = some c → ∃ a, l[i]? = some a ∧ f a = some c
  | [], r, e, i, c, h => by cases e; cases h
  | a :: l, r, e, i, c, h => bind_of e fun b hb e => bind_of e fun bs hbs e => by
    cases e
    cases i with
    | zero => cases h; exact ⟨a, rfl, hb⟩
    | succ i => exact mapO_get hbs h
theorem pick_all_of {vs : List V} {xs : List Value} (r : VRs h h₀ ρ vs xs) : ∀ {l : List Nat} {ws : List V}, mapO (fun i => vs[i]?) l = some ws → VRs h h₀ ρ ws (l.map fun i => xs.getD i Value.none)
  | [], ws, e => by cases e; rfl
  | i :: l, ws, e => bind_of e fun b hb e => bind_of e fun bs hbs e => by
    cases e
    obtain ⟨x, hx, hr⟩ := r.get hb
    refine ⟨?_, pick_all_of r hbs⟩
    show VR h h₀ ρ b (xs.getD i Value.none)
    rw [List.getD_eq_getElem?_getD, hx]; exact hr
theorem looks_of {M : Model} {T : Value} : ∀ {ks : List V} {fs : List Value}, VRs h h₀ ρ ks fs → (∀ k ∈ ks, ∀ f, VR h h₀ ρ k f → Looks M h (typeOf f) T) → ∀ f ∈ fs, Looks M h (typeOf f) T
  | [], fs, r, _ => by apply r.nilE; exact fun _ h => nomatch h
  | k :: ks, fs, r, hk => by
    apply r.consE; intro y ys hv r f hf
    cases hf with
    | head => exact hk k (.head _) _ hv
    | tail _ hf => exact looks_of r (fun k hm => hk k (.tail _ hm)) f hf
theorem cons_of_zero {xs : Array Value} {f : Value} (e : xs[0]? = some f) : ∃ r, xs.toList = f :: r := by
  rw [get_toArray] at e
  cases h : xs.toList with
  | nil => rw [h] at e; cases e
  | cons a r => rw [h] at e; cases e; exact ⟨r, rfl⟩
/-- one question: which of two tuples with unlike first parts is less -/
theorem ask_sound {prog : Program} {w : World} {vs ks : List V} {xs : List Value} {n : Nat} (hks : mapO fstO vs = some ks) (r : VRs s.heap h₀ ρ vs xs) {i j : Nat} {b : Bool} (e : askO ks i j = some b) (C : Bool → Shared → Prop) (hC : C b s) :
    kas_ask prog w A (tuples' true) xs i j C s := bind_of e fun a ha e => bind_of e fun c hc e => by
  obtain ⟨u, hu, hua⟩ := mapO_get hks ha
  obtain ⟨v, hv, hvc⟩ := mapO_get hks hc
  obtain ⟨x, hx, hrx⟩ := r.get hu
  obtain ⟨y, hy, hry⟩ := r.get hv
  unfold kas_ask
  rw [List.getD_eq_getElem?_getD, hx, List.getD_eq_getElem?_getD, hy]
  obtain ⟨f, a1, o1, xs1, n1, rfl, ho1, _, hd1, hf1, hr1⟩ := tup_at hua hrx
  obtain ⟨g, a2, o2, xs2, n2, rfl, ho2, _, hd2, hf2, hr2⟩ := tup_at hvc hry
  obtain ⟨r1, e1⟩ := cons_of_zero hf1
  obtain ⟨r2, e2⟩ := cons_of_zero hf2
  refine kat_lt ho1 hd1 ho2 hd2 ?_
  rw [e1, e2, List.zip_cons_cons]
  refine kat_cons (elim_of e (fun _ e => bind_of e fun p hp e => bind_of e fun q hq e => bind_of e fun c1 hc1 e => bind_of e fun c2 hc2 e => ?_) fun p hp e => bind_of e fun q hq e => ?_)
  · apply hr1.strE hp; intro t; apply hr2.strE hq; intro t'
    rw [only_is hc1, only_is hc2]
    by_cases hne : c1 = c2
    · rw [if_pos hne] at e; cases e
    · rw [if_neg hne] at e
      refine wpAny_eqBool_str ?_
      have h0 : decide (strV [c1] = strV [c2]) = false := decide_eq_false fun q => hne (by have := strV_inj.mp q; cases this; rfl)
      rw [h0]
      refine kat_no (oneLt_str ?_)
      have : decide ((strV [c1]).cps.toList < (strV [c2]).cps.toList) = b := by
        cases e
        refine decide_eq_decide.mpr ?_
        show List.lt [c1] [c2] ↔ c1 < c2
        exact List.cons_lt_cons_iff.trans ⟨fun q => q.elim id fun q => absurd q.1 hne, .inl⟩
      rw [this]; exact hC
  · apply hr1.intE hp; intro t; apply hr2.intE hq; intro t'
    by_cases hne : p = q
    · rw [if_pos hne] at e; cases e
    · rw [if_neg hne] at e
      refine wpAny_eqBool_int ?_
      rw [show (p == q) = false from by simpa using hne]
      cases e
      exact kat_no (oneLt_int hC)
theorem sort_sound (Z : Fx X F A k) (R : Rep X F ρ vars own s.heap) (ht : 0 < s.toks) {vs ws : List V} {a : Addr} {xs : Array Value} (e : sortV vs = some ws) (hx : s.heap.PlainList a xs) (hv : VRs s.heap F.h₀ ρ vs xs.toList)
    (H : Ok X F vars (own ++ [ws]) (.ref own.length) ρ s Q) : wpAny (model X.prog X.w) A (call (.builtin "sorted") [.ref a]) Q E0 s := by
  refine bind_of e fun ks hks e => if_of e fun hc e => bind_of e fun p hp e => ?_
  obtain ⟨m, hn⟩ := R.ns
  refine kat_sorted (vs := xs.toList) (fr_all hn) (news_all s.heap F.env.locals) (by simpa using hx.isList) (by rw [hv.length]; exact hc.2.1) (by rw [hv.length]; exact hc.2.2) fun D e1 h' F' N' hlt => ?_
  have x1 := XL.of_more (l := [_]) hn F' N'
  obtain ⟨G, R'⟩ := R.xl Z.K Z.T x1
  have hv' := hv.gr G R.apart
  obtain ⟨fs, ht1, hr1⟩ := tups_of hks hv'
  have hD : s.heap.get? D = none := by
    cases q : s.heap.get? D with
    | none => rfl
    | some o => exact absurd (hlt (D, o) (allN_mem q (N' _ (.head _)).2.1)) (Nat.lt_irrefl _)
  have hlen : 0 < fs.length := by
    have h1 : ks.length = vs.length := by
      have : ∀ {l : List V} {r : List V}, mapO fstO l = some r → r.length = l.length := fun {l} => by
        induction l with
        | nil => intro r e; cases e; rfl
        | cons v l ih => exact fun {r} e => bind_of e fun _ _ e => bind_of e fun _ h e => by cases e; exact congrArg (· + 1) (ih h)
      exact this hks
    rw [hr1.length, h1]; exact Nat.lt_of_lt_of_le (by decide) hc.2.1
  have kind : ∀ {T : Value}, (T == T) = true → (T != Value.type "tuple") = true → (∀ f ∈ fs, Looks (model X.prog X.w) h' (typeOf f) T) → wpAny (model X.prog X.w) A.in1.in1 (keyKind' xs.toList.toArray) (fun κ s' => (kas_sort xs.toList.length).kasWp (kas_ask X.prog X.w A.in1.in1 κ xs.toList) (fun p s'' => KasFin {} F.env.locals m D e1 (p.toList.map fun i => xs.toList.getD i Value.none) (fun s3 => Q (.ref D) s3) s'') s') (fun _ _ => False) { s with heap := h' } := fun {T} h1 h2 h3 => by
    refine kat_kind (s := { s with heap := h' }) ht1 hlen h3 h1 ?_
    rw [h2, hv.length]
    refine runK_wp (ask := askO ks) (fun i j b hb C hC => ask_sound (s := { s with heap := h' }) (n := 0) hks hv' hb C hC) _ p hp ?_
    refine KasFin.intro (s := { s with heap := h' }) F' N' (UpdF.head fun q hq => Nat.ne_of_lt (hlt q hq)) fun h2 c F2 N2 => ?_
    exact H.new Z R (XL.of_more (l := [_]) hn F2 N2) hD ⟨c, (N2 _ (.head _)).1⟩ (pick_all_of hv e) ht
  rcases Bool.or_eq_true_iff.mp hc.1 with hi | hi
  · refine kind (T := .type "int") (by simp) (by simp) (looks_of hr1 fun c hc f r => ?_)
    obtain ⟨i, e⟩ := Option.isSome_iff_exists.mp (List.all_eq_true.mp hi c hc)
    apply r.intE e; intro t
    exact Looks.of_pure rfl
  · refine kind (T := .type "str") (by simp) (by simp) (looks_of hr1 fun c hc f r => ?_)
    obtain ⟨i, e⟩ := Option.isSome_iff_exists.mp (List.all_eq_true.mp hi c hc)
    apply r.strE e; intro t
    exact Looks.of_pure rfl
end
end Mine
end
section
set_option maxRecDepth 100000
set_option autoImplicit false
namespace Mine
open PySem PyProof.Rows

theorem ints_are {h h₀ : Heap} {ρ : List Addr} : ∀ {vs : List V} {xs : List Value} {ns : List Int}, intsO vs = some ns → VRs h h₀ ρ vs xs → IntsAre xs ns
  | [], xs, ns, e, r => by cases e; apply r.nilE; exact .nil
  | v :: vs, xs, ns, e, r => bind_of e fun i hi e => bind_of e fun q hq e => by
    cases e
    apply r.consE; intro y ys hv r
    apply hv.intE hi; intro t
    exact .cons _ _ (ints_are hq r)
theorem strs_are {h h₀ : Heap} {ρ : List Addr} : ∀ {vs : List V} {xs : List Value} {ss : List (List Nat)}, strsO vs = some ss → VRs h h₀ ρ vs xs → ∃ l : List (Str × Tok), xs = strValues l ∧ l.map (·.1) = ss.map strV
  | [], xs, ns, e, r => by cases e; apply r.nilE; exact ⟨[], rfl, rfl⟩
  | v :: vs, xs, ns, e, r => bind_of e fun i hi e => bind_of e fun q hq e => by
    cases e
    apply r.consE; intro y ys hv r
    apply hv.strE hi; intro t
    obtain ⟨l, rfl, hl⟩ := strs_are hq r
    exact ⟨(strV i, t) :: l, rfl, congrArg (strV i :: ·) hl⟩

theorem foldMin : ∀ (xs : List Int) (x : Int), let m := xs.foldl (fun m y => if y < m then y else m) x; (m = x ∨ m ∈ xs) ∧ m ≤ x ∧ ∀ y ∈ xs, m ≤ y
  | [], x => by simp
  | z :: xs, x => by
    simp only [List.foldl_cons]
    by_cases h : z < x
    · rw [if_pos h]
      obtain ⟨a, b, c⟩ := foldMin xs z
      refine ⟨.inr ?_, by lia, fun y hy => ?_⟩
      · rcases a with a | a
        · rw [a]; exact .head _
        · exact .tail _ a
      · rcases List.mem_cons.mp hy with rfl | hy
        · exact b
        · exact c y hy
    · rw [if_neg h]
      obtain ⟨a, b, c⟩ := foldMin xs x
      refine ⟨?_, b, fun y hy => ?_⟩
      · rcases a with a | a
        · exact .inl a
        · exact .inr (.tail _ a)
      · rcases List.mem_cons.mp hy with rfl | hy
        · exact Int.le_trans b (by lia)
        · exact c y hy
theorem foldMax : ∀ (xs : List Int) (x : Int), let m := xs.foldl (fun m y => if m < y then y else m) x; (m = x ∨ m ∈ xs) ∧ x ≤ m ∧ ∀ y ∈ xs, y ≤ m
  | [], x => by simp
  | z :: xs, x => by
    simp only [List.foldl_cons]
    by_cases h : x < z
    · rw [if_pos h]
      obtain ⟨a, b, c⟩ := foldMax xs z
      refine ⟨.inr ?_, by lia, fun y hy => ?_⟩
      · rcases a with a | a
        · rw [a]; exact .head _
        · exact .tail _ a
      · rcases List.mem_cons.mp hy with rfl | hy
        · exact b
        · exact c y hy
    · rw [if_neg h]
      obtain ⟨a, b, c⟩ := foldMax xs x
      refine ⟨?_, b, fun y hy => ?_⟩
      · rcases a with a | a
        · exact .inl a
        · exact .inr (.tail _ a)
      · rcases List.mem_cons.mp hy with rfl | hy
        · exact Int.le_trans (by lia) b
        · exact c y hy
theorem minL_is {ns : List Int} {m M : Int} (e : minL ns = some m) (h1 : M ∈ ns) (h2 : ∀ a ∈ ns, M ≤ a) : M = m := by
  cases ns with
  | nil => cases e
  | cons x xs =>
    simp only [minL, Option.some.injEq] at e
    obtain ⟨a, b, c⟩ := foldMin xs x
    rw [e] at a b c
    have hm : m ∈ x :: xs := by rcases a with a | a; exact a ▸ .head _; exact .tail _ a
    have l1 := h2 m hm
    rcases List.mem_cons.mp h1 with rfl | h1
    · lia
    · have := c M h1; lia
theorem maxL_is {ns : List Int} {m M : Int} (e : maxL ns = some m) (h1 : M ∈ ns) (h2 : ∀ a ∈ ns, a ≤ M) : M = m := by
  cases ns with
  | nil => cases e
  | cons x xs =>
    simp only [maxL, Option.some.injEq] at e
    obtain ⟨a, b, c⟩ := foldMax xs x
    rw [e] at a b c
    have hm : m ∈ x :: xs := by rcases a with a | a; exact a ▸ .head _; exact .tail _ a
    have l1 := h2 m hm
    rcases List.mem_cons.mp h1 with rfl | h1
    · lia
    · have := c M h1; lia

theorem rngN_is (a b c : Int) (hc : c ≠ 0) : Builtin.Range.rangeSize a b c = (rngN a b c : Int) := by
  have h : 0 ≤ Builtin.Range.rangeSize a b c := by
    unfold Builtin.Range.rangeSize
    split
    · split
      · have := Int.ediv_nonneg (a := b - a - 1) (b := c) (by lia) (by lia); lia
      · lia
    · split
      · have := Int.ediv_nonneg (a := a - b - 1) (b := -c) (by lia) (by lia); lia
      · lia
  have e : rngN a b c = (Builtin.Range.rangeSize a b c).toNat := rfl
  rw [e, Int.toNat_of_nonneg h]
theorem rng_le {a b c : Int} (hc : c ≠ 0) (ha : smallI a = true) (hb : smallI b = true) : Builtin.Range.rangeSize a b c ≤ 2000002 := by
  simp only [smallI, decide_eq_true_eq] at ha hb
  unfold Builtin.Range.rangeSize
  split
  · split
    · have : (b - a - 1) / c ≤ b - a - 1 := Int.ediv_le_self _ (by lia); lia
    · lia
  · split
    · have : (a - b - 1) / (-c) ≤ a - b - 1 := Int.ediv_le_self _ (by lia); lia
    · lia
theorem rng_small {a b c : Int} (hc : c ≠ 0) (ha : smallI a = true) (hb : smallI b = true) (hc' : smallI c = true) : Builtin.Range.small a b c = true := by
  have h1 := rng_le hc ha hb
  have h2 := rngN_is a b c hc
  have h3 : (0 : Int) ≤ (rngN a b c : Int) := Int.natCast_nonneg _
  simp only [smallI, decide_eq_true_eq] at ha hb hc'
  unfold Builtin.Range.small Builtin.Range.rangeFitsLong
  simp only [Bool.and_eq_true, Bool.or_eq_true, decide_eq_true_eq]
  refine ⟨⟨⟨⟨by lia, by lia⟩, by lia⟩, by lia⟩, .inr ?_⟩
  split <;> simp only [Bool.and_eq_true, decide_eq_true_eq] <;> lia
theorem rngL_is : ∀ (n : Nat) (a c : Int), rngL a c n = (rangeInts a c n).map V.int
  | 0, _, _ => rfl
  | n + 1, a, c => by
    rw [rngL, rngL_is n]
    unfold rangeInts
    rw [List.range_succ_eq_map, List.map_cons, List.map_cons]
    congr 1
    · simp
    · rw [List.map_map, List.map_map, List.map_map]; apply List.map_congr_left; intro k _; simp only [Function.comp, Nat.succ_eq_add_one]; push_cast; rw [Int.add_mul, Int.one_mul]; congr 1; lia
theorem carried_ints {h h₀ : Heap} {ρ : List Addr} : ∀ {ns : List Int} {ys : List Value}, CarriedAll ys (ns.map PyData.int) → VRs h h₀ ρ (ns.map V.int) ys
  | [], ys, r => by cases r; rfl
  | n :: ns, ys, r => by
    cases r with
    | cons c r => cases c; exact ⟨⟨_, rfl⟩, carried_ints r⟩

theorem join_strV (sep : List Nat) : ∀ ss : List (List Nat), Txt.join (strV sep) (ss.map strV) = strV (joinS sep ss) := by
  have key : ∀ ss : List (List Nat), Str.join (strV sep) (ss.map strV) = strV (joinS sep ss) := by
    intro ss
    induction ss with
    | nil => rfl
    | cons x xs ih =>
      cases xs with
      | nil => rfl
      | cons y ys =>
        rw [List.map_cons, List.map_cons]
        show strV x ++ strV sep ++ Str.join (strV sep) (strV y :: ys.map strV) = _
        rw [← List.map_cons, ih, strV_app, strV_app]; rfl
  intro ss
  show Builtin.Str.glued _ _ = _
  rw [StrLaws.glued_eq_join, key]
theorem foldl_len (c : Nat) : ∀ (l : List Str) (k : Nat), l.foldl (fun acc x => acc + x.length + c) k = k + (l.map fun x => x.length + c).sum
  | [], k => by simp
  | x :: l, k => by rw [List.foldl_cons, foldl_len c l]; simp; lia
theorem joinS_ge (sep : List Nat) : ∀ ss : List (List Nat), (ss.map List.length).sum ≤ (joinS sep ss).length
  | [] => by simp [joinS]
  | [x] => by simp [joinS]
  | x :: y :: r => by
    have := joinS_ge sep (y :: r)
    simp only [joinS, List.map_cons, List.sum_cons, List.length_append] at this ⊢
    lia
theorem sum_add (c : Nat) : ∀ ss : List (List Nat), ((ss.map strV).map fun x => x.length + c).sum = (ss.map List.length).sum + ss.length * c
  | [] => by simp
  | x :: r => by simp only [List.map_cons, List.sum_cons, sum_add c r, strV_len, List.length_cons, Nat.add_mul]; lia

section
variable {X : GX} {F : Frm} {A : Around} {k : Nat} {ρ : List Addr} {vars : Vars} {own own' : Own} {s : Shared} {Q : Value → Shared → Prop} {v w r : V} {x y : Value}

theorem new_tuple (Z : Fx X F A k) (R : Rep X F ρ vars own s.heap) {vs : List V} {xs : Array Value} {n t : Nat} (ht : 0 < t) (hv : VRs s.heap F.h₀ ρ vs xs.toList) (H : Ok X F vars own (.tup vs) ρ s Q) :
    Q (.ref s.heap.objs.size) { s with heap := s.heap.push { cls := .type "tuple", data := .seq xs n }, toks := t } := by
  obtain ⟨G, R'⟩ := R.xl Z.K Z.T (XL.push s.heap { cls := .type "tuple", data := .seq xs n })
  exact H _ ρ _ t ht G R' ⟨_, xs, n, rfl, Heap.get?_push_size _ rfl, hv.gr G R.apart⟩
theorem two_is {α : Type} {ns : List α} {p : α × α} (e : two ns = some p) : ns = [p.1, p.2] := by
  match ns, e with
  | [_, _], rfl => rfl
/-- two whole numbers -/
theorem VRs.twoE {h h₀ : Heap} {vs : List V} {xs : List Value} {p : Int × Int} (r : VRs h h₀ ρ vs xs) (e : (intsO vs).bind two = some p) {P : List Value → Prop} (k : ∀ t u, P [.int p.1 t, .int p.2 u]) : P xs := by
  refine bind_of e fun ns hn e => ?_
  have q := ints_are hn r
  rw [two_is e] at q
  cases q with
  | cons _ _ r => cases r with
    | cons _ _ r => cases r; exact k _ _
theorem range_sound (Z : Fx X F A k) (R : Rep X F ρ vars own s.heap) (ht : 0 < s.toks) {ns : List Int} {xs : List Value} {p : Int × Int × Int} (e : rngA ns = some p) (hb : p.2.2 ≠ 0 ∧ p.2.2.natAbs < 1073741824) (q : IntsAre xs ns)
    (H : Ok X F vars own (.rng p.1 p.2.1 p.2.2) ρ s Q) : wpAny (model X.prog X.w) A (call (.type "range") xs) Q E0 s := by
  match ns, e with
  | [b], rfl => cases q with
    | cons _ _ r => cases r; exact call_range_1 (H.xl Z R (XL.push ..) ⟨_, _, _, _, rfl, Heap.get?_push_size _ rfl⟩ (Nat.succ_pos _))
  | [a, b], rfl => cases q with
    | cons _ _ r => cases r with
      | cons _ _ r => cases r; exact call_range_2 (H.xl Z R (XL.push ..) ⟨_, _, _, _, rfl, Heap.get?_push_size _ rfl⟩ (Nat.succ_pos _))
  | [a, b, c], rfl => cases q with
    | cons _ _ r => cases r with
      | cons _ _ r => cases r with
        | cons _ _ r => cases r; exact call_range_3 hb.1 (H.xl Z R (XL.push ..) ⟨_, _, _, _, rfl, Heap.get?_push_size _ rfl⟩ ht) (.inl (PyProof.noPylong_small hb.2))
theorem rngB_is {p : Int × Int × Int} (h : rngB p = true) : (smallI p.1 = true ∧ smallI p.2.1 = true ∧ smallI p.2.2 = true) ∧ p.2.2 ≠ 0 := by
  have h := and_true h
  have h1 := and_true h.1
  have h2 := and_true h1.1
  exact ⟨⟨h2.1, h2.2, h1.2⟩, of_decide_eq_true h.2⟩
theorem pos_of {ns : List Int} {m : Int} (h : minL ns = some m) : 0 < ns.length := by
  cases ns with
  | nil => cases h
  | cons _ _ => exact Nat.succ_pos _
theorem pos_of' {ns : List Int} {m : Int} (h : maxL ns = some m) : 0 < ns.length := by
  cases ns with
  | nil => cases h
  | cons _ _ => exact Nat.succ_pos _
theorem prim_sound (Z : Fx X F A k) (R : Rep X F ρ vars own s.heap) (ht : 0 < s.toks) {p : Pf} {vs : List V} {xs : List Value} (e0 : prim own p vs = some (r, own')) (rx : VRs s.heap F.h₀ ρ vs xs)
    (H : Ok X F vars own' r ρ s Q) : wpAny (model X.prog X.w) A (call (pfK p) xs) Q E0 s := by
  have hh := Z.R.handled
  obtain ⟨m, hn⟩ := R.ns
  cases p with
  | len =>
    refine bind_of e0 fun v hv e => ?_
    cases only_is hv
    apply rx.oneE; intro y rv
    refine elim_of e (fun _ e => bind_of e fun us hi e => if_of e fun hl e => ?_) fun l hl2 e => if_of e fun hl e => ?_
    · apply list_at R hi rv; intro a ys hx hv
      refine len_list hx.isList (arr_lt hv hl (by decide)) ?_
      rw [arr_size hv]; exact (H.of e).same R vr_int (Nat.succ_pos _)
    · apply rv.strE hl2; intro t
      refine SBL.len (str_lt hl (by decide)) ?_
      rw [strV_len]; exact (H.of e).same R vr_int (Nat.succ_pos _)
  | sum =>
    refine bind_of e0 fun v hv e => bind_of e fun us hi e => bind_of e fun ns hns e => ?_
    cases only_is hv
    apply rx.oneE; intro y rv
    apply list_at R hi rv; intro a ys hx hv
    have ia := ints_are hns hv
    have hall := ia.allInts
    rw [show ys.toList.toArray = ys by simp] at hall
    obtain ⟨zs, rfl⟩ := hall.items
    refine toksPos ht (sum_intListG hh hx.isList fun h' tk t' hk htk => ?_)
    rw [preSum_eq, List.take_of_length_le (by simp), ← nums_intItems, ia.numsOf]
    exact (H.of e).xl Z R (XL.of_ext hk) vr_int htk
  | min =>
    refine elim_of e0 (fun _ e0 => bind_of e0 fun p hp e => ?_) fun v hv e0 => bind_of e0 fun us hi e => bind_of e fun ns hns e => bind_of e fun mm hm e => ?_
    · apply rx.twoE hp; intro t u
      refine toksPos ht (min_two_N hh (fr_all hn) (news_all s.heap F.env.locals) fun h' tk F' N' htk => ?_)
      exact (H.of e).xl Z R (XL.of_news hn F' N') vr_int htk
    · cases only_is hv
      apply rx.oneE; intro y rv
      apply list_at R hi rv; intro a ys hx hv
      have ia := ints_are hns hv
      refine toksPos ht (min_list_N hh (fr_all hn) (news_all s.heap F.env.locals) (by simpa using hx.isList) ia (pos_of hm) fun h' M t tk F' N' h1 h2 htk => ?_)
      rw [minL_is hm h1 h2]
      exact (H.of e).xl Z R (XL.of_news hn F' N') vr_int htk
  | max =>
    refine bind_of e0 fun v hv e0 => bind_of e0 fun us hi e => bind_of e fun ns hns e => bind_of e fun mm hm e => ?_
    cases only_is hv
    apply rx.oneE; intro y rv
    apply list_at R hi rv; intro a ys hx hv
    have ia := ints_are hns hv
    refine toksPos ht (max_list_N hh (fr_all hn) (news_all s.heap F.env.locals) (by simpa using hx.isList) ia (pos_of' hm) fun h' M t tk F' N' h1 h2 htk => ?_)
    rw [maxL_is hm h1 h2]
    exact (H.of e).xl Z R (XL.of_news hn F' N') vr_int htk
  | sorted =>
    refine bind_of e0 fun v hv e0 => bind_of e0 fun us hi e => bind_of e fun ws hs e => ?_
    cases only_is hv
    apply rx.oneE; intro y rv
    apply list_at R hi rv; intro a ys hx hv
    exact sort_sound Z R ht hs hx hv (H.of e)
  | chr =>
    refine bind_of e0 fun i hi e => if_of e fun hc e => bind_of hi fun v hv hi => ?_
    cases only_is hv
    apply rx.oneE; intro y rv
    apply rv.intE hi; intro t
    exact chr_of_range hc.1 hc.2 ((H.of e).same R ⟨_, rfl⟩ (Nat.succ_pos _))
  | divmod =>
    refine bind_of e0 fun p hp e => if_of e fun hb e => ?_
    apply rx.twoE hp; intro t u
    refine divmod_N (fr_all hn) (news_all s.heap F.env.locals) hb.1 (fun h' F' N' => ?_) (.inl (PyProof.noPylong_small hb.2))
    obtain ⟨G, R'⟩ := R.xl Z.K Z.T (XL.of_more (l := [_]) hn F' N')
    exact (H.of e) _ ρ h' _ (Nat.succ_pos _) G R' ⟨_, _, 0, rfl, (N' _ (.head _)).1, ⟨_, rfl⟩, ⟨_, rfl⟩, rfl⟩
  | range =>
    refine bind_of e0 fun p hp e => if_of e fun hb e => bind_of hp fun ns hns hp => ?_
    have hb := rngB_is hb
    refine range_sound Z R ht hp ⟨hb.2, ?_⟩ (ints_are hns rx) (H.of e)
    have := of_decide_eq_true hb.1.2.2
    lia
  | list =>
    refine bind_of e0 fun p hp e => if_of e fun hb e => bind_of hp fun v hv hp => ?_
    cases only_is hv
    cases rngOf_is hp
    have hb := rngB_is hb
    apply rx.oneE; intro y rv
    apply rv.rngE; intro q t u w ho
    have hsz := rng_le hb.2 hb.1.1 hb.1.2.1
    rw [rngN_is _ _ _ hb.2] at hsz
    refine toksPos ht (list_rangeD hh (fr_all hn) (news_all s.heap F.env.locals) ho (rng_small hb.2 hb.1.1 hb.1.2.1 hb.1.2.2) (rngN_is _ _ _ hb.2) (by lia) fun h' tk ys F' N' hk _ hl np hc htk => ?_)
    refine (H.of e).new Z R (XL.of_ext hk) (size_none _) np.1 ?_ htk
    rw [rngL_is]
    exact carried_ints hc
end
end Mine
end
section
set_option maxRecDepth 100000
set_option autoImplicit false
namespace Mine
open PySem PyProof.Rows

theorem mem_allN {h : Heap} {L : Addr} {p : Addr × Obj} (hp : p ∈ allN h L) : h.get? p.1 = some p.2 ∧ p.1 ≠ L := by
  have := news_all h L p hp
  exact ⟨this.1, this.2.1⟩

section
variable {X : GX} {F : Frm} {A : Around} {k : Nat} {ρ : List Addr} {vars : Vars} {own own' : Own} {s : Shared} {Q : Value → Shared → Prop} {v w r : V} {x y : Value}

/-- one of the frame's own lists is written -/
theorem Rep.upd {h h' : Heap} (Z : Fx X F A k) (R : Rep X F ρ vars own h) {a : Addr} {n : Nat} {vs' : List V} {ys : Array Value} (hr : ρ[n]? = some a)
    (keep : ∀ b o, b ≠ a → b ≠ F.env.locals → h.get? b = some o → h'.get? b = some o) (ns : ∀ m, h.Ns F.env.locals m → h'.Ns F.env.locals m)
    (hl : h'.PlainList a ys) (hv : VRs h F.h₀ ρ vs' ys.toList) : Gr X.T F.W ρ ρ h h' ∧ Rep X F ρ vars (own.set n vs') h' := by
  have hm : a ∈ ρ := List.mem_of_getElem? hr
  obtain ⟨xs₀, n₀, ea⟩ := R.own.lists a hm
  obtain ⟨m, hn⟩ := R.ns
  obtain ⟨oL, es, ep, eL, dL⟩ := Ns.dict hn
  have S : Step X F.env.locals ρ h h' := by
    refine ⟨fun b o e hb hb' _ => keep b o (fun q => hb (q ▸ hm)) hb' e, ns, fun b e => ?_, fun t => t.keepF fun b o us e d => ?_⟩
    · obtain ⟨o, e⟩ := Option.isSome_iff_exists.mp e
      by_cases h1 : b = a
      · subst h1; obtain ⟨q, hq⟩ := hl; rw [hq]; rfl
      · by_cases h2 : b = F.env.locals
        · subst h2; obtain ⟨o', _, _, e', _⟩ := Ns.dict (ns m hn); rw [e']; rfl
        · rw [keep b o h1 h2 e]; rfl
    · refine keep b o (fun q => ?_) (fun q => ?_) e
      · subst q; rw [ea] at e; cases e; cases d
      · subst q; rw [eL] at e; cases e; rw [dL] at d; cases d
  have hx : ∃ r, ρ = ρ ++ r ∧ ∀ b ∈ r, h.get? b = none := ⟨[], (List.append_nil ρ).symm, fun _ h => nomatch h⟩
  have G := Gr.of_step (ρ' := ρ) S Z.K.loc hx
  refine R.step Z.K Z.T S hx ⟨by simp [R.own.len], R.own.nodup, R.own.fresh, fun j us e => ?_⟩
  by_cases hj : j = n
  · subst hj
    have hlt : j < own.length := by
      have := (List.getElem?_eq_some_iff.mp e).1; simpa using this
    rw [List.getElem?_set_self hlt] at e; cases e
    exact ⟨a, ys, hr, hl, hv.gr G R.apart⟩
  · rw [List.getElem?_set_ne (Ne.symm hj)] at e
    obtain ⟨b, zs, hb, ⟨q, eb⟩, hw⟩ := R.own.at' j us e
    have hba : b ≠ a := fun q => by
      subst q
      have h1 := (List.getElem?_eq_some_iff.mp hb)
      have h2 := (List.getElem?_eq_some_iff.mp hr)
      obtain ⟨l1, e1⟩ := h1; obtain ⟨l2, e2⟩ := h2
      exact hj ((List.getElem_inj (h₀ := l1) (h₁ := l2) R.own.nodup).mp (e1.trans e2.symm))
    exact ⟨b, zs, hb, ⟨q, keep b _ hba (R.list_ne eb rfl) eb⟩, hw.gr G R.apart⟩

noncomputable def mtK : Mt → String
  | .append => "list.append" | .reverse => "list.reverse" | .index => "list.index" | .join => "str.join" | .lower => "str.lower" | .bitlen => "int.bit_length"
noncomputable def mtN : Mt → Str
  | .append => "append" | .reverse => "reverse" | .index => "index" | .join => "join" | .lower => "lower" | .bitlen => "bit_length"

theorem nodict_of {h : Heap} {a : Addr} {xs : Array Value} (e : h.PlainList a xs) : h.NoDictAt (.ref a) := by
  obtain ⟨n, e⟩ := e; exact ⟨_, e, rfl⟩

theorem own_at (R : Rep X F ρ vars own s.heap) {f : Nat → List V → Option (V × Own)} {q : V × Own} (e0 : ownAt own v f = some q) (r : VR s.heap F.h₀ ρ v x) {P : Value → Prop}
    (k : ∀ n vs a xs, ρ[n]? = some a → s.heap.PlainList a xs → VRs s.heap F.h₀ ρ vs xs.toList → vs.length ≤ 100000 → f n vs = some q → P (.ref a)) : P x := by
  refine bind_of e0 fun n hn e1 => bind_of e1 fun vs hi e2 => if_of e2 fun hl e => ?_
  cases refOf_is hn
  apply r.refE; intro a ha
  obtain ⟨b, xs, e', hp, hv⟩ := R.own.at' n vs hi
  rw [ha] at e'; cases e'
  exact k n vs a xs ha hp hv hl e

noncomputable def isS (k : Str) : Value → Bool
  | .str a _ => a == k | _ => false
theorem indexS_is {x : List Nat} : ∀ {ss : List (List Nat)} {k : Nat}, indexS x ss = some k → ss[k]? = some x ∧ ∀ m, m < k → ss[m]? ≠ some x
  | [], k, e => nomatch e
  | y :: ys, k, e => by
    unfold indexS at e
    by_cases h : y = x
    · rw [if_pos h] at e; cases e
      exact ⟨congrArg some h, fun m hm => absurd hm (Nat.not_lt_zero m)⟩
    · rw [if_neg h] at e
      refine bind_of e fun j hj e => ?_
      cases e
      have q := indexS_is hj
      refine ⟨q.1, fun m hm => ?_⟩
      cases m with
      | zero => exact fun e => h (Option.some.inj e)
      | succ m => exact q.2 m (Nat.lt_of_succ_lt_succ hm)
theorem strs_get {h h₀ : Heap} : ∀ {vs : List V} {ss : List (List Nat)} {xs : List Value}, strsO vs = some ss → VRs h h₀ ρ vs xs → ∀ {j : Nat} {s : List Nat}, ss[j]? = some s → ∃ t, xs[j]? = some (.str (strV s) t)
  | [], ss, xs, e, r, j, s, hj => by cases e; cases hj
  | v :: vs, ss, xs, e, r, j, s, hj => bind_of e fun i hi e => bind_of e fun q hq e => by
    cases e
    apply r.consE; intro y ys hv r
    apply hv.strE hi; intro t
    cases j with
    | zero => cases hj; exact ⟨t, rfl⟩
    | succ j => exact strs_get hq r hj
theorem strs_mem {h h₀ : Heap} : ∀ {vs : List V} {ss : List (List Nat)} {xs : List Value}, strsO vs = some ss → VRs h h₀ ρ vs xs → ∀ z ∈ xs, ∃ s t, z = .str s t
  | [], ss, xs, e, r => by apply r.nilE; exact fun _ h => nomatch h
  | v :: vs, ss, xs, e, r => bind_of e fun i hi e => bind_of e fun q hq e => by
    apply r.consE; intro y ys hv r
    apply hv.strE hi; intro t z hz
    cases hz with
    | head => exact ⟨_, _, rfl⟩
    | tail _ hz => exact strs_mem hq r z hz
/-- the receiver's own kind; the arguments may come later -/
theorem getM_sound (R : Rep X F ρ vars own s.heap) {own₂ : Own} {m : Mt} {vs : List V} (e : meth own₂ m v vs = some (r, own')) (rx : VR s.heap F.h₀ ρ v x) {pl : Sem Bool} {P : Value × List Value → Shared → Prop}
    (H : P (.builtin (mtK m), [x]) s) : wpAny (model X.prog X.w) A (getMethod x (mtN m) pl) P E0 s := by
  have hr : ∀ {id : String} {name : Str} {n : Nat}, v = .ref n → Slot "list" name id → typeOf (.builtin id) = pure (.type "method_descriptor") → P (.builtin id, [x]) s → wpAny (model X.prog X.w) A (getMethod x name pl) P E0 s := fun {id name n} hv h1 h2 hP => by
    cases hv
    revert hP
    apply rx.refE; intro a e' hP
    have hlt : n < own.length := by rw [← R.own.len]; exact (List.getElem?_eq_some_iff.mp e').1
    obtain ⟨b, xs, e2, hp, _⟩ := R.own.at' n _ (List.getElem?_eq_getElem hlt)
    rw [e'] at e2; cases e2
    exact getMethod_list_of h1 h2 hp.isList (nodict_of hp) hP
  cases m with
  | append => exact bind_of e fun _ _ e => bind_of e fun n hn _ => hr (refOf_is hn) PySem.F.slot_list_append PySem.F.type_list_append H
  | reverse => exact bind_of e fun _ _ e => bind_of e fun n hn _ => hr (refOf_is hn) PySem.F.slot_list_reverse PySem.F.type_list_reverse H
  | index =>
    refine bind_of e fun _ _ e => bind_of e fun us hi _ => ?_
    cases v with
    | ref n => exact hr rfl PySem.F.slot_list_index PySem.F.type_list_index H
    | lst b ws =>
      revert H
      apply rx.lstE; intro a xs hp _ _ _ H
      exact getMethod_list_of PySem.F.slot_list_index PySem.F.type_list_index hp.isList (nodict_of hp) H
    | _ => cases hi
  | join =>
    refine bind_of e fun _ hs _ => ?_
    revert H; apply rx.strE hs; intro t H
    exact GM.join H
  | lower =>
    refine bind_of e fun _ _ e => bind_of e fun _ hc _ => bind_of hc fun _ hs _ => ?_
    revert H; apply rx.strE hs; intro t H
    exact GM.lower H
  | bitlen =>
    refine bind_of e fun _ _ e => bind_of e fun _ hs _ => ?_
    revert H; apply rx.intE hs; intro t H
    exact getMethod_int_bit_length H

theorem low_is : ∀ c, c < 128 → Txt.lower (strV [c]) = strV [lowC c] := by decide +kernel
theorem join_ok (sep : List Nat) (ss : List (List Nat)) (h : (joinS sep ss).length ≤ 100000) (h2 : ss.length ≤ 1000) (h3 : sep.length ≤ 1000) : JoinOk (strV sep) (ss.map strV) = true := by
  unfold JoinOk Builtin.Str.tooLong
  simp only [List.foldl_toArray, Bool.not_eq_true', decide_eq_false_iff_not]
  have := foldl_len (strV sep).length (ss.map strV) 0
  rw [this, sum_add]
  have h4 := joinS_ge sep ss
  rw [strV_len, sizeLine_is]
  have h5 : ss.length * sep.length ≤ 1000 * 1000 := Nat.mul_le_mul h2 h3
  lia

theorem meth_sound (Z : Fx X F A k) (R : Rep X F ρ vars own s.heap) (ht : 0 < s.toks) {m : Mt} {vs : List V} {xs : List Value} (e0 : meth own m v vs = some (r, own')) (rx : VR s.heap F.h₀ ρ v x)
    (rs : VRs s.heap F.h₀ ρ vs xs) (H : Ok X F vars own' r ρ s Q) : wpAny (model X.prog X.w) A (call (.builtin (mtK m)) (x :: xs)) Q E0 s := by
  have hh := Z.R.handled
  obtain ⟨mm, hn⟩ := R.ns
  cases m with
  | append =>
    refine bind_of e0 fun u hu e => ?_
    cases only_is hu
    apply rs.oneE; intro y hy
    apply own_at R e rx; intro n us a zs hr hp hv hl e
    refine wpAny_list_append_plain hp (fun h' hp' hs' => ?_) (arr_le hv hl (by decide))
    have hne := R.list_ne hp.choose_spec rfl
    obtain ⟨G, R'⟩ := R.upd (vs' := us ++ [_]) Z hr (fun b o h1 _ e => hs'.extBut b o h1 e) (fun m n => n.extBut hs'.extBut hne.symm) hp' (by simpa using hv.append (VRs.one hy))
    exact (H.of e) _ ρ h' _ ht G R' rfl
  | reverse =>
    refine bind_of e0 fun u hu e => ?_
    cases nilOf_is hu
    apply rs.nilE
    apply own_at R e rx; intro n us a zs hr hp hv hl e
    obtain ⟨q, hp⟩ := hp
    have hne := R.list_ne hp rfl
    refine W.kl_reverse (news := (a, W.listOf zs q) :: (allN s.heap F.env.locals).filter (fun p => p.1 ≠ a)) (news' := (a, W.listOf zs.toList.reverse.toArray q) :: (allN s.heap F.env.locals).filter (fun p => p.1 ≠ a)) (fr_all hn) ?_ rfl (.head fun p hp => ?_) (by rw [Array.length_toList]; exact arr_le hv hl (by decide)) fun h' F' N' => ?_
    · intro p hp'
      rcases List.mem_cons.mp hp' with rfl | hp'
      · exact ⟨hp, hne, empty_get _⟩
      · exact news_all _ _ p (List.mem_filter.mp hp').1
    · exact of_decide_eq_true (List.mem_filter.mp hp).2
    · obtain ⟨G, R'⟩ := R.upd (vs' := us.reverse) (h' := h') (ys := zs.toList.reverse.toArray) Z hr (fun b o h1 h2 e => (N' (b, o) (.tail _ (List.mem_filter.mpr ⟨allN_mem e h2, decide_eq_true h1⟩))).1) (fun m n => by rw [Ns.unique n hn]; exact F'.ns) ⟨q, (N' _ (.head _)).1⟩ hv.reverse
      exact (H.of e) _ ρ h' _ ht G R' rfl
  | index =>
    refine bind_of e0 fun x hu e => bind_of hu fun u hu hi2 => bind_of e fun us hi e => bind_of e fun ss hss e => if_of e fun hlen e => bind_of e fun j hj e => ?_
    cases only_is hu
    apply rs.oneE; intro y hy
    apply hy.strE hi2; intro t
    apply list_at R hi rx; intro a zs hl hv
    obtain ⟨nl, hl⟩ := hl
    have q := indexS_is hj
    obtain ⟨u, hz⟩ := strs_get hss hv q.1
    rw [← get_toArray] at hz
    obtain ⟨hjs, hz⟩ := Array.getElem?_eq_some_iff.mp hz
    refine call_meets PySem.F.slot_list_index ⟨_, hl, rfl⟩ PySem.F.entry_list_index (PySem.F.args_list_index_2 _ _) (PySem.SeqAt.list_indexAt a zs nl none #[] (.str (strV x) t) (isS (strV x)) j hjs ?_ ?_ ?_) ⟨hl, fun z hz => ?_, (H.of e).same R vr_int (Nat.succ_pos _)⟩
    · have := arr_le hv hlen (by decide)
      rw [sizeLine_is] at this
      lia
    · rw [hz]
      exact beq_self_eq_true _
    · intro i hi hij
      obtain ⟨s', hs'⟩ : ∃ s', ss[i]? = some s' := Option.isSome_iff_exists.mp (by
        rw [List.getElem?_eq_getElem (Nat.lt_trans hij (List.getElem?_eq_some_iff.mp q.1).1)]; rfl)
      obtain ⟨u', hz'⟩ := strs_get hss hv hs'
      rw [← get_toArray] at hz'
      obtain ⟨_, hz'⟩ := Array.getElem?_eq_some_iff.mp hz'
      rw [hz']
      show (strV s' == strV x) = false
      rw [strV_beq]
      exact decide_eq_false fun e => q.2 i hij (e ▸ hs')
    · obtain ⟨s', t', rfl⟩ := strs_mem hss hv z (by simpa using hz)
      exact (eqGives_str s' (strV x) t' t).at _ _
  | join =>
    refine bind_of e0 fun sep hsep e1 => bind_of e1 fun u hu e2 => bind_of e2 fun us hi e => bind_of e fun ss hss e => if_of e fun hl e => ?_
    cases only_is hu
    apply rx.strE hsep; intro t
    apply rs.oneE; intro y hy
    apply list_at R hi hy; intro a zs hla hv
    obtain ⟨l, hl1, hl2⟩ := strs_are hss hv
    have e1 : zs = (strValues l).toArray := by rw [← hl1]
    subst e1
    refine toksPos ht (SC.join (texts := _) hla.isList hl2 (join_ok _ _ hl.1 hl.2.1 hl.2.2) fun t' j ht' => ?_)
    rw [join_strV]
    exact (H.of e).same R vr_str ht'
  | lower =>
    refine bind_of e0 fun u hu e => bind_of e fun c hc e => if_of e fun hl e => bind_of hc fun l hs hc => ?_
    cases nilOf_is hu
    cases only_is hc
    apply rs.nilE
    apply rx.strE hs; intro t
    refine SCL.lower (by rw [strV_len]; exact Nat.le_of_ble_eq_true rfl) fun _ => ?_
    rw [low_is _ hl]
    exact (H.of e).same R vr_str (Nat.succ_pos _)
  | bitlen =>
    refine bind_of e0 fun u hu e => bind_of e fun i hi e => ?_
    cases nilOf_is hu
    apply rs.nilE
    apply rx.intE hi; intro t
    refine call_int_bit_length ?_
    rw [bits_is]
    exact (H.of e).same R vr_int (Nat.succ_pos _)

theorem replC_app (c : Nat) (r : List Nat) : ∀ a b : List Nat, replC c r (a ++ b) = replC c r a ++ replC c r b
  | [], b => rfl
  | x :: a, b => by
    simp only [List.cons_append, replC]
    split
    · rw [replC_app c r a b, List.append_assoc]
    · rw [replC_app c r a b]; rfl
theorem replC_free (c : Nat) (r : List Nat) : ∀ a : List Nat, c ∉ a → replC c r a = a
  | [], _ => rfl
  | x :: a, h => by
    simp only [replC]
    rw [if_neg (by simp only [beq_iff_eq]; exact fun q => h (q ▸ .head _)), replC_free c r a fun q => h (.tail _ q)]
theorem replC_join (c : Nat) (b : List Nat) : ∀ ps : List Str, (∀ p ∈ ps, c ∉ p.cps.toList) → (Str.join (strV b) ps).cps.toList = replC c b (Str.join ⟨#[c]⟩ ps).cps.toList
  | [], _ => rfl
  | [p], h => by
    show p.cps.toList = replC c b p.cps.toList
    rw [replC_free c b _ (h p (.head _))]
  | p :: q :: r, h => by
    have ih := replC_join c b (q :: r) fun p hp => h p (.tail _ hp)
    show (p ++ strV b ++ Str.join (strV b) (q :: r)).cps.toList = replC c b (p ++ ⟨#[c]⟩ ++ Str.join ⟨#[c]⟩ (q :: r)).cps.toList
    simp only [Str.cps_append, Array.toList_append, replC_app, ih, replC_free c b _ (h p (.head _))]
    simp [replC, strV]
theorem repl_is (c : Nat) (b s : List Nat) : Txt.replace (strV s) (strV [c]) (strV b) = strV (replC c b s) := by
  have h1 := StrLaws.replace_one (strV s) (strV b) c
  have h2 := replC_join c b _ (StrLaws.split_free (strV s) c)
  rw [StrLaws.join_split] at h2
  show Txt.replace (strV s) ⟨#[c]⟩ (strV b) = _
  rw [h1]
  apply congrArg Str.mk
  apply Array.toList_inj.mp
  rw [h2]; rfl
end
end Mine
end
section
set_option maxRecDepth 100000
set_option autoImplicit false
namespace Mine
open PySem PyProof.Rows

abbrev Names := List (Str × NameKind)
noncomputable def kOk (N : Names) (n : Str) : Bool := match N.lookup n with
  | some .local => true | some .cell => true | some .free => true | _ => false
noncomputable def kGl (N : Names) (n : Str) : Bool := match N.lookup n with
  | some .globalImplicit => true | _ => false
noncomputable def notDbg (n : Str) : Bool := !(n == ("__debug__" : Str)) && !(n == ("__classdict__" : Str))
noncomputable def relN (N names : Names) : Names := names.map fun (n, k) => if (k == NameKind.free && true && N.lookup n == some .cell) then (n, .cell) else (n, k)
/-- a comprehension's scope: no cells of its own, its targets are local, what it captures is captured from a cell of the frame -/
noncomputable def compScope (N : Names) (ts : List Str) (sc : Scope) : Bool :=
  (sc.kind == .function) && (ts.all fun t => sc.names.lookup t == some .local) && sc.names.all fun p => !(p.2 == .cell) && (!(p.2 == .local) || (sc.names.lookup p.1 == some .local && (ts.contains p.1 || p.1 == (".0" : Str)))) &&
    (!(p.2 == .free) || N.lookup p.1 == some .cell)
noncomputable def mOk (ap p : Pos) (n : Nat) : Bool := (ap.endLine == p.line) && decide (n < 20)
noncomputable def noPart : Expr := .Constant .none 0 ⟨0, 0, 0, 0⟩
/-- what a tree is taken from: parts, small numbers, scope -/
noncomputable def kids : Expr → List Expr
  | .BoolOp _ vs _ => vs
  | .BinOp l _ r _ => [l, r]
  | .UnaryOp _ y _ => [y]
  | .IfExp u l r _ => [u, l, r]
  | .ListComp y gs _ _ => y :: gs.flatMap fun g => g.target :: g.iter :: g.ifs
  | .Compare l _ rs _ => l :: rs
  | .Call f as _ _ => f :: as
  | .Attribute o _ _ => [o]
  | .Subscript v sl _ => [v, sl]
  | .List vs _ => vs
  | .Tuple vs _ _ => vs
  | .Slice l u t _ => [l.getD noPart, u.getD noPart, t.getD noPart]
  | .Dict ks vs _ => ks.map (fun o => o.getD noPart) ++ vs
  | _ => []
/-- no call without arguments (for a receiver) -/
noncomputable def bOk (x : Expr) : Bool := !((kids x).length == 1)
noncomputable def kid (d : Expr) (n : Nat) : Expr := (kids d).getD n noPart
noncomputable def kOf : Expr → Nat
  | .Constant _ k _ => k
  | .Tuple _ k _ => k
  | _ => 0
noncomputable def scOf : Expr → Scope
  | .ListComp _ _ sc _ => sc
  | _ => ⟨.function, [], false, false, []⟩
noncomputable def sLo : Expr → Bool
  | .Slice (some _) _ _ _ => true
  | _ => false
noncomputable def sHi : Expr → Bool
  | .Slice _ (some _) _ _ => true
  | _ => false
noncomputable def optE (b : Bool) (x : Expr) : Option Expr := bif b then some x else none
noncomputable def isNon : E → Bool
  | .non => true
  | _ => false
theorem isNon_is {e : E} (h : (false || isNon e) = true) : e = .non := by
  cases e <;> first | rfl | cases h
theorem not_true {b : Bool} (h : (!b) = true) : b = false := by cases b <;> first | rfl | cases h
noncomputable def tName (nm : Nat → Str) (ts : List Nat) : Str := nm (ts.headD 0)
noncomputable def hd2 (xs : List Nat) : Nat := xs.tail.headD 0
/-- what a comprehension's items are bound to -/
noncomputable def tgtE (nm : Nat → Str) (ts : List Nat) (d : Expr) : Expr := bif ts.tail.isEmpty then .Name (tName nm ts) d.pos else .Tuple [.Name (tName nm ts) (kid d 0).pos, .Name (nm (hd2 ts)) (kid d 1).pos] (kOf d) d.pos
noncomputable def conS (l : List Nat) (d : Expr) : Expr := .Constant (.str (strV l)) (kOf d) d.pos
noncomputable def menuK : List (List Nat × List Nat) → List Expr → List (Option Expr)
  | [], _ => []
  | p :: r, ds => some (conS p.1 (ds.headD noPart)) :: menuK r ds.tail
noncomputable def menuV : List (List Nat × List Nat) → List Expr → List Expr
  | [], _ => []
  | p :: r, ds => conS p.2 (ds.headD noPart) :: menuV r ds.tail
noncomputable def nodupK : List (List Nat) → Bool
  | [] => true
  | x :: xs => !(xs.contains x) && nodupK xs
noncomputable def tsOk (ts : List Nat) : Bool := (only ts).isSome || (two ts).isSome
mutual
/-- the tree that an expression of ours stands for; positions and scopes from d -/
noncomputable def repE (nm : Nat → Str) : E → Expr → Expr
  | .non, d => .Constant .none (kOf d) d.pos
  | .bool b, d => .Constant (.bool b) (kOf d) d.pos
  | .int i, d => .Constant (.int i) (kOf d) d.pos
  | .str l, d => .Constant (.str (strV l)) (kOf d) d.pos
  | .var v, d => .Name (nm v) d.pos
  | .glob g _, d => .Name (nm g) d.pos
  | .bin o a b, d => .BinOp (repE nm a (kid d 0)) (bopK o) (repE nm b (kid d 1)) d.pos
  | .neg a, d => .UnaryOp .USub (repE nm a (kid d 0)) d.pos
  | .inv a, d => .UnaryOp .Invert (repE nm a (kid d 0)) d.pos
  | .not a, d => .UnaryOp .Not (repE nm a (kid d 0)) d.pos
  | .and es, d => .BoolOp .And (repEs nm es (kids d)) d.pos
  | .or es, d => .BoolOp .Or (repEs nm es (kids d)) d.pos
  | .cmp o a b, d => .Compare (repE nm a (kid d 0)) [copK o] [repE nm b (kid d 1)] d.pos
  | .ite t a b, d => .IfExp (repE nm t (kid d 0)) (repE nm a (kid d 1)) (repE nm b (kid d 2)) d.pos
  | .idx a i, d => .Subscript (repE nm a (kid d 0)) (repE nm i (kid d 1)) d.pos
  | .slice a lo hi, d => .Subscript (repE nm a (kid d 0)) (.Slice (optE (sLo (kid d 1)) (repE nm lo (kid (kid d 1) 0))) (optE (sHi (kid d 1)) (repE nm hi (kid (kid d 1) 1))) none (kid d 1).pos) d.pos
  | .list es, d => .List (repEs nm es (kids d)) d.pos
  | .tup es, d => .Tuple (repEs nm es (kids d)) (kOf d) d.pos
  | .call f as, d => .Call (.Name (nm f) (kid d 0).pos) (repEs nm as (kids d).tail) [] d.pos
  | .prim p as, d => .Call (.Name (pfN p) (kid d 0).pos) (repEs nm as (kids d).tail) [] d.pos
  | .meth m o as, d => .Call (.Attribute (repE nm o (kid (kid d 0) 0)) (mtN m) (kid d 0).pos) (repEs nm as (kids d).tail) [] d.pos
  | .repl o a b, d => .Call (.Attribute (repE nm o (kid (kid d 0) 0)) "replace" (kid d 0).pos) [.Constant (.str (strV a)) (kOf (kid d 1)) (kid d 1).pos, .Constant (.str (strV b)) (kOf (kid d 2)) (kid d 2).pos] [] d.pos
  | .tok a, d => .Call (.Attribute (.Name "EXACT_TOKEN_TYPES" (kid (kid d 0) 0).pos) "get" (kid d 0).pos) [repE nm a (kid d 1)] [] d.pos
  | .rev a, d => .Subscript (repE nm a (kid d 0)) (.Slice none none (some (.UnaryOp .USub (.Constant (.int 1) (kOf (kid (kid (kid d 1) 2) 0)) (kid (kid (kid d 1) 2) 0).pos) (kid (kid d 1) 2).pos)) (kid d 1).pos) d.pos
  | .menu kvs a, d => .Subscript (.Dict (menuK kvs (kids (kid d 0))) (menuV kvs ((kids (kid d 0)).drop kvs.length)) (kid d 0).pos) (repE nm a (kid d 1)) d.pos
  | .comp elt ts it, d => .ListComp (repE nm elt (kid d 0)) [⟨tgtE nm ts (kid d 1), repE nm it (kid d 2), [], 0⟩] (scOf d) d.pos
noncomputable def repEs (nm : Nat → Str) : Es → List Expr → List Expr
  | .nil, _ => []
  | .cons e es, ds => repE nm e (ds.headD noPart) :: repEs nm es ds.tail
end
section
variable (nm : Nat → Str) (gi : Nat → Option Int)
mutual
/-- the names, scopes and positions are such as the proof takes -/
noncomputable def okE : E → Names → Expr → Bool
  | .non, _, _ => true
  | .bool _, _, _ => true
  | .int _, _, _ => true
  | .str _, _, _ => true
  | .var v, N, _ => kOk N (nm v) && notDbg (nm v)
  | .glob g i, N, _ => kGl N (nm g) && notDbg (nm g) && gi g == some i
  | .bin _ a b, N, d => okE a N (kid d 0) && okE b N (kid d 1)
  | .neg a, N, d => okE a N (kid d 0)
  | .inv a, N, d => okE a N (kid d 0)
  | .not a, N, d => okE a N (kid d 0)
  | .and es, N, d => okEs es N (kids d)
  | .or es, N, d => okEs es N (kids d)
  | .cmp o a b, N, d => !(behindInMarks (copK o) (repE nm b (kid d 1))) && (okE a N (kid d 0) && okE b N (kid d 1))
  | .ite t a b, N, d => okE t N (kid d 0) && (okE a N (kid d 1) && okE b N (kid d 2))
  | .idx a i, N, d => okE a N (kid d 0) && okE i N (kid d 1)
  | .slice a lo hi, N, d => ((sLo (kid d 1) || isNon lo) && (sHi (kid d 1) || isNon hi)) && (okE a N (kid d 0) && (okE lo N (kid (kid d 1) 0) && okE hi N (kid (kid d 1) 1)))
  | .list es, N, d => okEs es N (kids d)
  | .tup es, N, d => okEs es N (kids d)
  | .call f as, N, d => (kGl N (nm f) && notDbg (nm f)) && okEs as N (kids d).tail
  | .prim p as, N, d => (kGl N (pfN p) && notDbg (pfN p)) && okEs as N (kids d).tail
  | .meth _ o as, N, d => (bOk (repE nm o (kid (kid d 0) 0)) && mOk (kid d 0).pos d.pos (repEs nm as (kids d).tail).length) && (okE o N (kid (kid d 0) 0) && okEs as N (kids d).tail)
  | .repl o a b, N, d => ((bOk (repE nm o (kid (kid d 0) 0)) && mOk (kid d 0).pos d.pos 2) && !(strV a == strV b)) && okE o N (kid (kid d 0) 0)
  | .tok a, N, d => (mOk (kid d 0).pos d.pos 1 && kGl N "EXACT_TOKEN_TYPES") && okE a N (kid d 1)
  | .rev a, N, d => okE a N (kid d 0)
  | .menu kvs a, N, d => (decide (0 < kvs.length ∧ kvs.length ≤ 15) && nodupK (kvs.map (·.1))) && okE a N (kid d 1)
  | .comp elt ts it, N, d => (tsOk ts && compScope N (ts.map nm) (scOf d)) && (okE it N (kid d 2) && okE elt (relN N (scOf d).names) (kid d 0))
noncomputable def okEs : Es → Names → List Expr → Bool
  | .nil, _, _ => true
  | .cons e es, N, ds => okE e N (ds.headD noPart) && okEs es N ds.tail
end
end
/-- what all trees of ours are not: no star, no slice, no set -/
structure Plain (z : Expr) : Prop where
  nos : (match z with | .Starred _ _ => true | _ => false) = false
  star : ∀ rest env, starEach (z :: rest) env = (false, eval z env) :: starEach rest env
  sub : ∀ x i, subscripted z false x i = operate [x, i] (getItem x i)
  aug : ∀ ov iv new, augStore z ov iv new = (do holding [new, ov, iv] (setItem ov iv new); release [new, ov, iv] []; pure Flow.next)
  set : ∀ env x, foldedSetIterable z env x = pure x
theorem repE_plain {nm : Nat → Str} (e : E) (d : Expr) : Plain (repE nm e d) := by cases e <;> exact ⟨rfl, fun _ _ => rfl, fun _ _ => rfl, fun _ _ _ => rfl, fun _ _ => rfl⟩
theorem base_rep {nm : Nat → Str} {o : E} {d : Expr} (h : bOk (repE nm o d) = true) (attr : Str) (env : Env) (whole : Sem Value) : attributeBase (repE nm o d) attr env whole = whole := by
  cases o with
  | call f as => cases as with
    | nil => cases h
    | cons _ _ => rfl
  | prim f as => cases as with
    | nil => cases h
    | cons _ _ => rfl
  | _ => rfl

/-- what a test hands on -/
noncomputable def OkB (X : GX) (F : Frm) (vars : Vars) (own' : Own) (b : Bool) (ρ : List Addr) (s : Shared) (P : Bool → Shared → Prop) : Prop :=
  ∀ ρ' h' t', 0 < t' → Gr X.T F.W ρ ρ' s.heap h' → Rep X F ρ' vars own' h' → P b { s with heap := h', toks := t' }
noncomputable def OkL (X : GX) (F : Frm) (vars : Vars) (own' : Own) (vs : List V) (ρ : List Addr) (s : Shared) (P : List Value → Shared → Prop) : Prop :=
  ∀ xs ρ' h' t', 0 < t' → Gr X.T F.W ρ ρ' s.heap h' → Rep X F ρ' vars own' h' → VRs h' F.h₀ ρ' vs xs → P xs { s with heap := h', toks := t' }

/-- what a called function hands back -/
noncomputable def CRes (X : GX) (s : Shared) (v : V) (y : Value) (s' : Shared) : Prop :=
  ∃ h' t', s' = { s with heap := h', toks := t' } ∧ 0 < t' ∧ (∀ b o, s.heap.get? b = some o → b ∉ X.T → h'.get? b = some o) ∧ (∀ b, (s.heap.get? b).isSome → (h'.get? b).isSome) ∧
    (TI X.tabs s.heap → TI X.tabs h') ∧ ∀ h₀ σ, (∀ b, (h₀.get? b).isSome → (s.heap.get? b).isSome) → (∀ a ∈ σ, (s.heap.get? a).isSome) → VR h' h₀ σ v y
noncomputable def Calls (X : GX) (C : Nat → List V → Option V) (k : Nat) : Prop :=
  ∀ f ws v, C f ws = some v → ∃ a, X.gf f = some a ∧ ∀ A s xs, Rm A k → HB X s.heap → VRs s.heap s.heap [] ws xs → 0 < s.toks → wpAny (model X.prog X.w) A (call (.ref a) xs) (CRes X s v) E0 s

/-- all that an expression's proof takes -/
structure Ctx (X : GX) (C : Nat → List V → Option V) (F : Frm) (A : Around) (k : Nat) (N : Names) : Prop where
  Z : Fx X F A k
  N : F.env.scope.names = N
  calls : Calls X C k

noncomputable def PV (X : GX) (C : Nat → List V → Option V) (e : E) (N : Names) (x : Expr) : Prop :=
  ∀ F A k ρ vars own own' s Q r, Ctx X C F A k N → ev C X.TK e vars own = some (r, own') → Rep X F ρ vars own s.heap → 0 < s.toks → Ok X F vars own' r ρ s Q → wpAny (model X.prog X.w) A (eval x F.env) Q E0 s
noncomputable def PT (X : GX) (C : Nat → List V → Option V) (e : E) (N : Names) (x : Expr) : Prop :=
  ∀ F A k ρ vars own own' s P b, Ctx X C F A k N → tstOf (ev C X.TK e vars own) = some (b, own') → Rep X F ρ vars own s.heap → 0 < s.toks → OkB X F vars own' b ρ s P → wpAny (model X.prog X.w) A (isTrue x F.env (eval x F.env)) P E0 s
noncomputable def PE (X : GX) (C : Nat → List V → Option V) (e : E) : Prop := ∀ N d, okE X.nm X.gi e N d = true → PV X C e N (repE X.nm e d) ∧ PT X C e N (repE X.nm e d)
/-- arguments, tests of a comprehension, and / or -/
structure PXs (X : GX) (C : Nat → List V → Option V) (es : Es) (N : Names) (xs : List Expr) : Prop where
  vals : ∀ F A k ρ vars own own' s P vs pos, Ctx X C F A k N → evs C X.TK es vars own = some (vs, own') → Rep X F ρ vars own s.heap → 0 < s.toks → OkL X F vars own' vs ρ s P →
      wpAny (model X.prog X.w) A (spliced (backTo pos (starEach xs F.env))) P E0 s
  and : ∀ F A k ρ vars own own' s Q r pos, Ctx X C F A k N → evAnd C X.TK es vars own = some (r, own') → Rep X F ρ vars own s.heap → 0 < s.toks → Ok X F vars own' r ρ s Q → wpAny (model X.prog X.w) A (eval (.BoolOp .And xs pos) F.env) Q E0 s
  or : ∀ F A k ρ vars own own' s Q r pos, Ctx X C F A k N → evOr C X.TK es vars own = some (r, own') → Rep X F ρ vars own s.heap → 0 < s.toks → Ok X F vars own' r ρ s Q → wpAny (model X.prog X.w) A (eval (.BoolOp .Or xs pos) F.env) Q E0 s
  tand : ∀ F A k ρ vars own own' s P b, Ctx X C F A k N → tstOf (evAnd C X.TK es vars own) = some (b, own') → Rep X F ρ vars own s.heap → 0 < s.toks → OkB X F vars own' b ρ s P → wpAny (model X.prog X.w) A (allTrue .And xs F.env) P E0 s
  tor : ∀ F A k ρ vars own own' s P b, Ctx X C F A k N → tstOf (evOr C X.TK es vars own) = some (b, own') → Rep X F ρ vars own s.heap → 0 < s.toks → OkB X F vars own' b ρ s P → wpAny (model X.prog X.w) A (allTrue .Or xs F.env) P E0 s
noncomputable def PEs (X : GX) (C : Nat → List V → Option V) (es : Es) : Prop := ∀ N ds, okEs X.nm X.gi es N ds = true → PXs X C es N (repEs X.nm es ds)

section
variable {X : GX} {C : Nat → List V → Option V} {F : Frm} {A : Around} {k : Nat} {N : Names} {ρ ρ₁ : List Addr} {vars : Vars} {own own' own₁ : Own} {s : Shared} {Q : Value → Shared → Prop} {v w r : V} {x y : Value} {h₁ : Heap} {t₁ : Nat}

theorem Ok.after (H : Ok X F vars own' r ρ s Q) (G : Gr X.T F.W ρ ρ₁ s.heap h₁) : Ok X F vars own' r ρ₁ { s with heap := h₁, toks := t₁ } Q :=
  fun x ρ' h' t' ht G' R' rv => H x ρ' h' t' ht (G.trans G') R' rv
theorem OkB.after {P : Bool → Shared → Prop} {b : Bool} (H : OkB X F vars own' b ρ s P) (G : Gr X.T F.W ρ ρ₁ s.heap h₁) : OkB X F vars own' b ρ₁ { s with heap := h₁, toks := t₁ } P :=
  fun ρ' h' t' ht G' R' => H ρ' h' t' ht (G.trans G') R'
theorem OkL.after {P : List Value → Shared → Prop} {vs : List V} (H : OkL X F vars own' vs ρ s P) (G : Gr X.T F.W ρ ρ₁ s.heap h₁) : OkL X F vars own' vs ρ₁ { s with heap := h₁, toks := t₁ } P :=
  fun xs ρ' h' t' ht G' R' rv => H xs ρ' h' t' ht (G.trans G') R' rv

/-- the test of a tree that is no and, or, not, comparison, choice -/
theorem PV.of {e : E} {z : Expr} (h : PV X C e N z) (hp : ∀ env whole, isTrue z env whole = (do let v ← whole; standAt z.pos; holding [v] (truthy v))) : PT X C e N z := by
  intro F A k ρ vars own own' s P b K e R ht H
  refine tst_inv e fun v he hb => ?_
  refine isTrue_plain (h F A k ρ vars own _ s _ v K he R ht fun x ρ' h' t' ht' G R' rv => ?_) (hp _ _)
  exact truth_sound (v := v) R' ht' hb rv fun t'' ht'' => H ρ' h' t'' ht'' G R'

theorem kindN (hN : F.env.scope.names = N) (n : Str) : F.env.kindOf n = N.lookup n := by unfold Env.kindOf; rw [hN]
theorem kOk_sees (hN : F.env.scope.names = N) {n : Str} (h : kOk N n = true) : Sees F n := by
  unfold kOk at h
  unfold Sees
  rw [kindN hN]
  cases q : N.lookup n with
  | none => rw [q] at h; cases h
  | some c => rw [q] at h; cases c <;> simp_all
theorem notDbg_1 {n : Str} (h : notDbg n = true) : (n == ("__debug__" : Str)) = false ∧ (n == ("__classdict__" : Str)) = false := by
  unfold notDbg at h; simp only [Bool.and_eq_true, Bool.not_eq_true'] at h; exact h

theorem load_var (Z : Fx X F A k) (R : Rep X F ρ vars own s.heap) {i : Nat} (e : getV i vars = some v) (hs : Sees F (X.nm i)) (hd : notDbg (X.nm i) = true)
    (H : ∀ x, VR s.heap F.h₀ ρ v x → Q x s) : wpAny (model X.prog X.w) A (loadName F.env (X.nm i)) Q E0 s := by
  obtain ⟨m, hm, hv⟩ := R.fr
  obtain ⟨x, ha, hr⟩ := hv i v e hs
  rcases ha with ⟨hk, he⟩ | ⟨hk | hk, c, hc, hx⟩
  · exact wpAny_loadName_local Z.K.kind hk hm he (H x hr)
  · exact wpAny_loadName_cell Z.K.kind hk hc hx (H x hr)
  · exact wpAny_loadName_free Z.K.kind hk hc hx (H x hr) (notDbg_1 hd).2

theorem pe_var {i : Nat} : PE X C (.var i) := by
  intro N d h
  have h := and_true h
  have hv : PV X C (.var i) N (repE X.nm (.var i) d) := fun F A k ρ vars own own' s Q r K e R ht H => bind_of e fun u hu e =>
    wpAny_Name (load_var K.Z R hu (kOk_sees K.N h.1) h.2 fun x hx => (H.of e) x ρ s.heap s.toks ht (Gr.refl ..) R hx) (notDbg_1 h.2).1
  exact ⟨hv, hv.of fun _ _ => rfl⟩

theorem load_glob (K : Ctx X C F A k N) (R : Rep X F ρ vars own s.heap) {n : Str} {p : Pos} (hk : kGl N n = true) (hd : (n == ("__debug__" : Str)) = false) {y : Value} (hy : X.mg n = some y ∨ (X.mg n = none ∧ X.mb n = some y)) (H : Q y s) :
    wpAny (model X.prog X.w) A (eval (.Name n p) F.env) Q E0 s := by
  have hk' : F.env.kindOf n = some .globalImplicit := by
    rw [kindN K.N]; unfold kGl at hk
    cases q : N.lookup n with
    | none => rw [q] at hk; cases hk
    | some c => rw [q] at hk; cases c <;> simp_all
  have g : s.heap.Ns F.env.globals X.mg := by rw [K.Z.K.glob]; exact K.Z.O.g.keeps R.hb.old
  have b : s.heap.Ns F.env.builtins X.mb := by rw [K.Z.K.blt]; exact K.Z.O.b.keeps R.hb.old
  refine PySem.Calls.Name_function_global K.Z.K.kind hk' ?_ hd
  rcases hy with hy | ⟨h1, h2⟩
  · exact PySem.Calls.loadGlobal_global g hy H
  · exact PySem.Calls.loadGlobal_builtin g h1 b h2 H

theorem pe_const {e : E} {u : V} {z : Expr} (he : ∀ vars own, ev C X.TK e vars own = some (u, own)) (hz : ∀ (M : Model) (A : Around) (env : Env) (s : Shared) (Q : Value → Shared → Prop), 0 < s.toks →
    (∀ y t', 0 < t' → (∀ h h₀ ρ, VR h h₀ ρ u y) → Q y { s with toks := t' }) → wpAny M A (eval z env) Q E0 s)
    (hp : ∀ env whole, isTrue z env whole = (do let v ← whole; standAt z.pos; holding [v] (truthy v))) : PV X C e N z ∧ PT X C e N z := by
  have hv : PV X C e N z := by
    intro F A k ρ vars own own' s Q r K e' R ht H
    rw [he] at e'; cases e'
    exact hz _ _ _ _ _ ht fun y t' ht' hy => H.same R (hy _ _ _) ht'
  exact ⟨hv, hv.of hp⟩
theorem pe_non : PE X C .non := fun N d _ => pe_const (fun _ _ => rfl) (fun M A env s Q ht H => wpAny_Constant_none (H _ s.toks ht fun _ _ _ => rfl)) fun _ _ => rfl
theorem pe_bool {b : Bool} : PE X C (.bool b) := fun N d _ => pe_const (fun _ _ => rfl) (fun M A env s Q ht H => wpAny_Constant_bool (H _ s.toks ht fun _ _ _ => rfl)) fun _ _ => rfl
theorem pe_int {i : Int} : PE X C (.int i) := fun N d _ => pe_const (fun _ _ => rfl) (fun M A env s Q ht H => wpAny_Constant_int (H _ _ (Nat.succ_pos _) fun _ _ _ => ⟨_, rfl⟩)) fun _ _ => rfl
theorem pe_str {l : List Nat} : PE X C (.str l) := fun N d _ => pe_const (fun _ _ => rfl) (fun M A env s Q ht H => wpAny_Constant_str (H _ _ (Nat.succ_pos _) fun _ _ _ => ⟨_, rfl⟩)) fun _ _ => rfl
theorem pe_glob {g : Nat} {i : Int} : PE X C (.glob g i) := by
  intro N d h
  have h := and_true h
  have h1 := and_true h.1
  have hv : PV X C (.glob g i) N (repE X.nm (.glob g i) d) := fun F A k ρ vars own own' s Q r K e R ht H =>
    (K.Z.O.gi g i (beq_iff_eq.mp h.2)).elim fun t hm => load_glob K R h1.1 (notDbg_1 h1.2).1 (.inl hm) ((H.of e).same (t := s.toks) R vr_int ht)
  exact ⟨hv, hv.of fun _ _ => rfl⟩

/-- two parts one after the other, and what the second leaves the first -/
theorem PV.two {e e' : E} {z z' : Expr} (pa : PV X C e N z) (pb : PV X C e' N z') (K : Ctx X C F A k N) {own₂ : Own} {u u' : V} (e1 : ev C X.TK e vars own = some (u, own₁)) (e2 : ev C X.TK e' vars own₁ = some (u', own₂))
    (R : Rep X F ρ vars own s.heap) (ht : 0 < s.toks) {P : Value → Value → Shared → Prop}
    (H : ∀ x y ρ' h' t', 0 < t' → Gr X.T F.W ρ ρ' s.heap h' → Rep X F ρ' vars own₂ h' → VR h' F.h₀ ρ' u x → VR h' F.h₀ ρ' u' y → P x y { s with heap := h', toks := t' }) :
    wpAny (model X.prog X.w) A (eval z F.env) (fun x s₁ => wpAny (model X.prog X.w) A (eval z' F.env) (fun y s₂ => P x y s₂) E0 s₁) E0 s :=
  pa F A k ρ vars own own₁ s _ u K e1 R ht fun x ρ₁ h₁ t₁ ht₁ G₁ R₁ rx =>
    pb F A k ρ₁ vars own₁ own₂ _ _ u' K e2 R₁ ht₁ fun y ρ₂ h₂ t₂ ht₂ G₂ R₂ ry =>
      H x y ρ₂ h₂ t₂ ht₂ (G₁.trans G₂) R₂ (rx.gr G₂ R₁.apart) ry

theorem pe_bin {o : Bop} {a b : E} (pa : PE X C a) (pb : PE X C b) : PE X C (.bin o a b) := by
  intro N d h
  have h := and_true h
  have hv : PV X C (.bin o a b) N (repE X.nm (.bin o a b) d) := fun F A k ρ vars own own' s Q r K e R ht H => ev_bin_inv e fun u own₁ u' own₂ e1 e2 e =>
    wpAny_BinOp ((pa N _ h.1).1.two (pb N _ h.2).1 K e1 e2 R ht fun x y ρ' h' t' ht' G R' rx ry => bop_sound K.Z R' ht' o e rx ry (H.after G))
  exact ⟨hv, hv.of fun _ _ => rfl⟩
end
end Mine
end
section
set_option maxRecDepth 100000
set_option autoImplicit false
namespace Mine
open PySem PyProof.Rows

section
variable {X : GX} {C : Nat → List V → Option V} {F : Frm} {A : Around} {k : Nat} {N : Names} {ρ ρ₁ : List Addr} {vars : Vars} {own own' own₁ : Own} {s : Shared} {Q : Value → Shared → Prop} {v w r : V} {x y : Value} {h₁ : Heap} {t₁ : Nat}

theorem tst_of {q : Option (V × Own)} {v : V} {o : Own} {b : Bool} (e : q = some (v, o)) (h : truth o v = some b) : tstOf q = some (b, o) := by
  rw [e]; show (truth o v).bind _ = _; rw [h]; rfl
theorem pe_neg {a : E} (pa : PE X C a) : PE X C (.neg a) := by
  intro N d h
  have hv : PV X C (.neg a) N (repE X.nm (.neg a) d) := fun F A k ρ vars own own' s Q r K e R ht H => ev_neg_inv e fun i u own₁ e1 e2 e =>
    wpAny_UnaryOp ((pa N _ h).1 F A k ρ vars own _ s _ _ K e1 R ht fun x ρ' h' t' ht' G R' rx => by
      apply rx.intE e2; intro t
      exact neg_int (((H.after G).of e).same R' vr_int (Nat.succ_pos _)))
  exact ⟨hv, hv.of fun _ _ => rfl⟩
theorem pe_inv {a : E} (pa : PE X C a) : PE X C (.inv a) := by
  intro N d h
  have hv : PV X C (.inv a) N (repE X.nm (.inv a) d) := fun F A k ρ vars own own' s Q r K e R ht H => ev_inv_inv e fun i u own₁ e1 e2 e =>
    wpAny_UnaryOp ((pa N _ h).1 F A k ρ vars own _ s _ _ K e1 R ht fun x ρ' h' t' ht' G R' rx => by
      apply rx.intE e2; intro t
      refine invert_int ?_
      rw [show Builtin.bitNot i = -i - 1 by unfold Builtin.bitNot; lia]
      exact ((H.after G).of e).same R' vr_int (Nat.succ_pos _))
  exact ⟨hv, hv.of fun _ _ => rfl⟩
theorem pe_not {a : E} (pa : PE X C a) : PE X C (.not a) := by
  intro N d h
  refine ⟨fun F A k ρ vars own own' s Q r K e R ht H => ev_not_inv e fun b o1 hb e => tst_inv hb fun u e1 hb => ?_, fun F A k ρ vars own own' s P b K e R ht H => ?_⟩
  · exact wpAny_UnaryOp ((pa N _ h).1 F A k ρ vars own _ s _ _ K e1 R ht fun x ρ' h' t' ht' G R' rx =>
      not_value (truth_sound (v := u) R' ht' hb rx fun t'' ht'' => ((H.of e).after G) _ ρ' h' t'' ht'' (Gr.refl ..) R' vr_bool))
  · refine tst_inv e fun u e hu => ev_not_inv e fun b' o1 hb e => ?_
    cases e; cases hu
    exact isTrue_not ((pa N _ h).2 F A k ρ vars own _ s _ _ K hb R ht fun ρ' h' t' ht' G R' => H ρ' h' t' ht' G R')
theorem pe_and {es : Es} (ps : PEs X C es) : PE X C (.and es) := fun N d h =>
  ⟨fun F A k ρ vars own own' s Q r K e R ht H => (ps N _ h).and F A k ρ vars own own' s Q r d.pos K e R ht H, fun F A k ρ vars own own' s P b K e R ht H => wpAny_isTrue_BoolOp ((ps N _ h).tand F A k ρ vars own own' s P b K e R ht H)⟩
theorem pe_or {es : Es} (ps : PEs X C es) : PE X C (.or es) := fun N d h =>
  ⟨fun F A k ρ vars own own' s Q r K e R ht H => (ps N _ h).or F A k ρ vars own own' s Q r d.pos K e R ht H, fun F A k ρ vars own own' s P b K e R ht H => wpAny_isTrue_BoolOp ((ps N _ h).tor F A k ρ vars own own' s P b K e R ht H)⟩
theorem pe_cmp {o : Cop} {a b : E} (pa : PE X C a) (pb : PE X C b) : PE X C (.cmp o a b) := by
  intro N d h
  have h := and_true h
  have hab := and_true h.2
  have hm := not_true h.1
  refine ⟨fun F A k ρ vars own own' s Q r K e R ht H => ev_cmp_inv e fun u own₁ u' own₂ c e1 e2 hc e => ?_, fun F A k ρ vars own own' s P b K e R ht H => tst_inv e fun u0 e hu => ev_cmp_inv e fun u own₁ u' own₂ c e1 e2 hc e => ?_⟩
  · exact wpAny_Compare1 ((pa N _ hab.1).1.two (pb N _ hab.2).1 K e1 e2 R ht fun x y ρ' h' t' ht' G R' rx ry =>
      cop_sound K.Z R' o hc rx ry (((H.of e).after (t₁ := t') G) _ ρ' h' t' ht' (Gr.refl ..) R' vr_bool)) hm
  · cases e; cases hu
    exact wpAny_isTrue_Compare1 ((pa N _ hab.1).1.two (pb N _ hab.2).1 K e1 e2 R ht fun x y ρ' h' t' ht' G R' rx ry =>
      cop_sound K.Z R' o hc rx ry (wpAny_truthy_bool ((H.after (t₁ := t') G) ρ' h' t' ht' (Gr.refl ..) R'))) hm
theorem pe_ite {t a b : E} (pt : PE X C t) (pa : PE X C a) (pb : PE X C b) : PE X C (.ite t a b) := by
  intro N d h
  have h := and_true h
  have hab := and_true h.2
  refine ⟨fun F A k ρ vars own own' s Q r K e R ht H => ev_ite_inv e fun c own₁ e1 e => ?_, fun F A k ρ vars own own' s P bb K e R ht H => tst_inv e fun u e hu => ev_ite_inv e fun c own₁ e1 e => ?_⟩
  · refine IfExp_ ((pt N _ h.1).2 F A k ρ vars own _ s _ _ K e1 R ht fun ρ' h' t' ht' G R' => ?_)
    cases c
    · exact (pb N _ hab.2).1 F A k ρ' vars _ _ _ _ _ K e R' ht' (H.after G)
    · exact (pa N _ hab.1).1 F A k ρ' vars _ _ _ _ _ K e R' ht' (H.after G)
  · refine isTrue_IfExp ((pt N _ h.1).2 F A k ρ vars own _ s _ _ K e1 R ht fun ρ' h' t' ht' G R' => ?_)
    cases c
    · exact (pb N _ hab.2).2 F A k ρ' vars _ _ _ _ _ K (tst_of e hu) R' ht' (H.after G)
    · exact (pa N _ hab.1).2 F A k ρ' vars _ _ _ _ _ K (tst_of e hu) R' ht' (H.after G)

/-- what can be read by an index or a slice -/
noncomputable def Seqy (own : Own) (v : V) : Prop := (∃ l, strOf v = some l) ∨ (∃ l, tupOf v = some l) ∨ ∃ vs, items own v = some vs
theorem tail_sound (R : Rep X F ρ vars own s.heap) (rx : VR s.heap F.h₀ ρ v x) (hv : Seqy own v) {value slice : Expr} {i : Value} {ops : List Value} (hg : wpAny (model X.prog X.w) A (getItem x i) Q E0 s)
    (hs : subscripted slice false x i = operate ops (getItem x i)) : wpAny (model X.prog X.w) A (subscriptTail value slice x i) Q E0 s := by
  revert hs hg
  rcases hv with ⟨l, h⟩ | ⟨l, h⟩ | ⟨vs, h⟩
  · apply rx.strE h; intro t hg hs
    exact tail_any (typeIs_str _ _ _) PySem.F.slot_str_getitem.lookup hg hs
  · rw [tupOf_is h] at rx
    apply rx.tupE; intro a xs n ho _ hg hs
    exact tail_any (T := "tuple") ⟨_, ho, rfl⟩ PySem.F.slot_tuple_getitem.lookup hg hs
  · apply list_at R h rx; intro a xs ho _ hg hs
    obtain ⟨n, ho⟩ := ho
    exact tail_any (T := "list") ⟨_, ho, rfl⟩ PySem.F.slot_list_getitem.lookup hg hs
theorem item_kind (e : itemAt own v w = some r) : Seqy own v := bind_of e fun _ _ e => if_of e fun _ e => elim_of e (fun _ e => elim_of e (fun _ e => bind_of e fun vs h _ => .inr (.inr ⟨vs, h⟩)) fun l h _ => .inr (.inl ⟨l, h⟩)) fun l h _ => .inl ⟨l, h⟩
theorem slc_kind {lo hi : V} {q : V × Own} (e : slc own v lo hi = some q) : Seqy own v := bind_of e fun _ _ e => bind_of e fun _ _ e => elim_of e (fun _ e => bind_of e fun vs h _ => .inr (.inr ⟨vs, h⟩)) fun l h _ => .inl ⟨l, h⟩

theorem pe_idx {a i : E} (pa : PE X C a) (pb : PE X C i) : PE X C (.idx a i) := by
  intro N d h
  have hab := and_true h
  have hv : PV X C (.idx a i) N (repE X.nm (.idx a i) d) := fun F A k ρ vars own own' s Q r K e R ht H => ev_idx_inv e fun u own₁ u' own₂ c e1 e2 hc e =>
    Subscript_ ((pa N _ hab.1).1.two (pb N _ hab.2).1 K e1 e2 R ht fun x y ρ' h' t' ht' G R' rx ry =>
      tail_sound (ops := [x, y]) R' rx (item_kind hc) (item_sound R' ht' hc rx ry fun z t'' ht'' rz => ((H.of e).after (t₁ := t') G) z ρ' h' t'' ht'' (Gr.refl ..) R' rz) ((repE_plain i _).sub x y))
  exact ⟨hv, hv.of fun _ _ => rfl⟩

theorem part_sound {lo : E} {b : Bool} {z : Expr} (pl : PV X C lo N z) (hb : (b || isNon lo) = true) (K : Ctx X C F A k N)
    {u : V} (e : ev C X.TK lo vars own = some (u, own')) (R : Rep X F ρ vars own s.heap) (ht : 0 < s.toks) (H : Ok X F vars own' u ρ s Q) : wpAny (model X.prog X.w) A (evalPart (optE b z) F.env) Q E0 s := by
  cases b with
  | true => exact pl F A k ρ vars own own' s Q u K e R ht H
  | false =>
    rw [isNon_is hb] at e
    exact evalPart_none_step ((H.of e).same R (x := .none) rfl ht)
theorem pe_slice {a lo hi : E} (pa : PE X C a) (pl : PE X C lo) (ph : PE X C hi) : PE X C (.slice a lo hi) := by
  intro N d h
  have h := and_true h
  have hq := and_true h.1
  have hr := and_true h.2
  have hs := and_true hr.2
  have hv : PV X C (.slice a lo hi) N (repE X.nm (.slice a lo hi) d) := fun F A k ρ vars own own' s Q r K e R ht H => ev_slice_inv e fun u own₁ u' own₂ u'' own₃ e1 e2 e3 e =>
    Subscript_ ((pa N _ hr.1).1 F A k ρ vars own _ s _ _ K e1 R ht fun x ρ₁ h₁ t₁ ht₁ G₁ R₁ rx =>
      wpAny_Slice (part_sound (pl N _ hs.1).1 hq.1 K e2 R₁ ht₁ fun yl ρ₂ h₂ t₂ ht₂ G₂ R₂ rl =>
        part_sound (ph N _ hs.2).1 hq.2 K e3 R₂ ht₂ fun yh ρ₃ h₃ t₃ ht₃ G₃ R₃ rh => evalPart_none_step (by
          have rx' := (rx.gr G₂ R₁.apart).gr G₃ R₂.apart
          obtain ⟨G₄, R₄⟩ := R₃.xl K.Z.K K.Z.T (XL.push h₃ { cls := .type "slice", data := .fields #[yl, yh, .none] })
          exact tail_sound (ops := [.ref h₃.objs.size, x]) (s := { s with heap := h₃.push { cls := .type "slice", data := .fields #[yl, yh, .none] }, toks := t₃ }) R₄ (rx'.gr G₄ R₃.apart) (slc_kind e)
            (slc_sound (s := { s with heap := h₃, toks := t₃ }) K.Z R₃ ht₃ e rx' (rl.gr G₃ R₂.apart) rh (((H.after (t₁ := t₁) G₁).after (t₁ := t₂) G₂).after (t₁ := t₃) G₃)) rfl)))
  exact ⟨hv, hv.of fun _ _ => rfl⟩
theorem pe_rev {a : E} (pa : PE X C a) : PE X C (.rev a) := by
  intro N d h
  have hv : PV X C (.rev a) N (repE X.nm (.rev a) d) := fun F A k ρ vars own own' s Q r K e R ht H => ev_rev_inv e fun u own₁ e1 e =>
    Subscript_ ((pa N _ h).1 F A k ρ vars own _ s _ _ K e1 R ht fun x ρ₁ h₁ t₁ ht₁ G₁ R₁ rx =>
      wpAny_Slice (evalPart_none_step (evalPart_none_step (evalPart_some_step (wpAny_UnaryOp (wpAny_Constant_int (neg_int (by
        obtain ⟨G₄, R₄⟩ := R₁.xl K.Z.K K.Z.T (XL.push h₁ { cls := .type "slice", data := .fields #[.none, .none, .int (-1) (t₁ + 1)] })
        exact tail_sound (ops := [x, .ref h₁.objs.size]) (s := { s with heap := h₁.push { cls := .type "slice", data := .fields #[.none, .none, .int (-1) (t₁ + 1)] }, toks := t₁ + 1 + 1 }) R₄ (rx.gr G₄ R₁.apart) (bind_of e fun vs hi _ => .inr (.inr ⟨vs, hi⟩))
          (rev_sound (s := { s with heap := h₁, toks := t₁ + 1 + 1 }) K.Z R₁ (Nat.succ_pos _) e rx (H.after (t₁ := t₁ + 1 + 1) G₁)) rfl))))))))
  exact ⟨hv, hv.of fun _ _ => rfl⟩
noncomputable def menuD (kvs : List (List Nat × List Nat)) : List (PyData × PyData) := kvs.map fun p => (.str (strV p.1), .str (strV p.2))
theorem menu_lit : ∀ (kvs : List (List Nat × List Nat)) (ds es : List Expr), litPairs (menuK kvs ds) (menuV kvs es) = some (menuD kvs)
  | [], _, _ => rfl
  | p :: r, ds, es => by
    show (litPairs (menuK r ds.tail) (menuV r es.tail)).bind _ = _
    rw [menu_lit r]; rfl
theorem menu_look {l w : List Nat} : ∀ {kvs : List (List Nat × List Nat)}, menuAt l kvs = some w → PySem.Spec.lookup (.str (strV l)) (menuD kvs) = some (.str (strV w))
  | [], h => nomatch h
  | p :: r, h => by
    show (if PySem.Spec.same (.str (strV p.1)) (.str (strV l)) = true then some (PyData.str (strV p.2)) else PySem.Spec.lookup (.str (strV l)) (menuD r)) = _
    rw [PyProof.V.same_str]
    unfold menuAt at h
    by_cases e : p.1 = l
    · rw [if_pos e] at h
      cases h
      rw [e, decide_eq_true rfl]; rfl
    · rw [if_neg e] at h
      rw [decide_eq_false (fun q => e (strV_inj.mp q))]
      exact menu_look h
theorem menu_str : ∀ kvs : List (List Nat × List Nat), strKeyed (menuD kvs) = true
  | [] => rfl
  | _ :: r => menu_str r
theorem menu_keys : ∀ kvs : List (List Nat × List Nat), strKeysOf (menuD kvs) = (kvs.map (·.1)).map strV
  | [] => rfl
  | p :: r => congrArg (strV p.1 :: ·) (menu_keys r)
theorem nodupK_is : ∀ {l : List (List Nat)}, nodupK l = true → (l.map strV).Nodup
  | [], _ => .nil
  | x :: xs, h => by
    have h := and_true h
    refine List.nodup_cons.mpr ⟨fun hm => ?_, nodupK_is h.2⟩
    obtain ⟨y, hy, e⟩ := List.mem_map.mp hm
    have e := strV_inj.mp e
    subst e
    have := not_true h.1
    rw [List.contains_iff_mem.mpr hy] at this; cases this
theorem menuK_len : ∀ (kvs : List (List Nat × List Nat)) (ds : List Expr), (menuK kvs ds).length = kvs.length
  | [], _ => rfl
  | _ :: r, ds => congrArg (· + 1) (menuK_len r ds.tail)
theorem menuV_len : ∀ (kvs : List (List Nat × List Nat)) (ds : List Expr), (menuV kvs ds).length = kvs.length
  | [], _ => rfl
  | _ :: r, ds => congrArg (· + 1) (menuV_len r ds.tail)
theorem menuK_all : ∀ (kvs : List (List Nat × List Nat)) (ds : List Expr), (menuK kvs ds).all (·.isSome) = true
  | [], _ => rfl
  | _ :: r, ds => menuK_all r ds.tail
/-- a place that was free is none of ours -/
theorem Rep.none_ne (R : Rep X F ρ vars own s.heap) {b : Addr} (n : s.heap.get? b = none) : b ∉ ρ ∧ b ∉ F.W ∧ b ∉ X.T := by
  refine ⟨fun hm => ?_, fun hm => ?_, fun hm => ?_⟩
  · obtain ⟨_, _, e⟩ := R.own.lists b hm
    rw [n] at e; cases e
  · obtain ⟨⟨o, e, _⟩, _⟩ := R.w b hm
    rw [n] at e; cases e
  · have h1 := R.t b hm
    cases q : F.h₀.get? b with
    | none => exact h1 q
    | some o => have := R.al b (by rw [q]; rfl); rw [n] at this; cases this
theorem pe_menu {kvs : List (List Nat × List Nat)} {a : E} (pa : PE X C a) : PE X C (.menu kvs a) := by
  intro N d h
  have h := and_true h
  have hk := and_true h.1
  have hl := of_decide_eq_true hk.1
  have hv : PV X C (.menu kvs a) N (repE X.nm (.menu kvs a) d) := fun F A k ρ vars own own' s Q r K e R ht H => ev_menu_inv e fun u l own₁ w e1 e2 e3 e => by
    refine Subscript_ (toksPos ht (Dict_lits_str (D := menuD kvs) (menu_lit kvs _ _) (menu_str kvs) (by rw [menu_keys]; exact nodupK_is hk.2) (menuK_all kvs _) (by rw [menuK_len, menuV_len]) (fun q => ?_) (by rw [menuK_len]; exact hl.2) fun ad o h₁ tk hge ho hT hkeep htk => ?_))
    · have := menuK_len kvs (kids (kid d 0))
      rw [q] at this
      exact absurd hl.1 (by rw [← this]; exact Nat.lt_irrefl _)
    · have nad : s.heap.get? ad = none := by
        cases q : s.heap.get? ad with
        | none => rfl
        | some o => exact absurd (Heap.lt_size q) (Nat.not_lt.mpr hge)
      obtain ⟨G1, R1⟩ := R.xl K.Z.K K.Z.T (XL.of_ext hkeep)
      obtain ⟨n1, n2, n3⟩ := R.none_ne nad
      refine (pa N _ h.2).1 F A k ρ vars own own₁ { s with heap := h₁, toks := tk } _ u K e1 R1 htk fun y ρ₂ h₂ t₂ ht₂ G₂ R₂ ry => ?_
      apply ry.strE e2; intro t
      obtain ⟨kv, hd, hf⟩ := hT
      have lo : (ad == sysModules) = false := beq_eq_false_iff_ne.mpr (Nat.ne_of_gt (Nat.lt_of_lt_of_le (modules_low (K.Z.O.nolimit.keeps R.hb.old)) hge))
      refine item_tab_any PyProof.V.same_str (strKind_is X.prog X.w (strV l) t) (TabAt.ofObj lo (G₂.keep ad o ho n1 n2 n3) hd hf) (menu_look e3) (fun v hfl => ?_) ((repE_plain a _).sub _ _)
      obtain ⟨t', rfl⟩ := hfl.str_inv
      exact (((H.of e).after (t₁ := tk) G1).after (t₁ := t₂) G₂) _ ρ₂ h₂ (t₂ + 1) (Nat.succ_pos _) (Gr.refl ..) R₂ vr_str
  exact ⟨hv, hv.of fun _ _ => rfl⟩
theorem size_le {l : List Value} {vs : List V} {h h₀ : Heap} (r : VRs h h₀ ρ vs l) (hl : vs.length ≤ 1000) : l.toArray.size ≤ sizeLine := by
  rw [List.size_toArray, r.length, sizeLine_is]; exact Nat.le_trans hl (by decide)
theorem pe_list {es : Es} (ps : PEs X C es) : PE X C (.list es) := by
  intro N d h
  have hv : PV X C (.list es) N (repE X.nm (.list es) d) := fun F A k ρ vars own own' s Q r K e R ht H => ev_list_inv e fun vs own₁ e1 hl e =>
    List_ ((ps N _ h).vals F A k ρ vars own _ s _ _ _ K e1 R ht fun xs ρ₁ h₁ t₁ ht₁ G₁ R₁ rx => wpAny_newObj_type
      (((H.of e).after (t₁ := t₁) G₁).new K.Z R₁ (XL.push ..) (size_none _) ⟨0, Heap.get?_push_size _ rfl⟩ (by simpa using rx) ht₁) (size_le rx hl))
  exact ⟨hv, hv.of fun _ _ => rfl⟩
theorem pe_tup {es : Es} (ps : PEs X C es) : PE X C (.tup es) := by
  intro N d h
  have hv : PV X C (.tup es) N (repE X.nm (.tup es) d) := fun F A k ρ vars own own' s Q r K e R ht H => ev_tup_inv e fun vs own₁ e1 hl e =>
    Tuple_ ((ps N _ h).vals F A k ρ vars own _ s _ _ _ K e1 R ht fun xs ρ₁ h₁ t₁ ht₁ G₁ R₁ rx => wpAny_newObj_type
      (new_tuple (s := { s with heap := h₁, toks := t₁ }) K.Z R₁ ht₁ (by simpa using rx) ((H.of e).after (t₁ := t₁) G₁)) (size_le rx hl))
  exact ⟨hv, hv.of fun _ _ => rfl⟩
end
end Mine
end
section
set_option maxRecDepth 100000
set_option autoImplicit false
namespace Mine
open PySem PyProof.Rows

theorem evalArgs_any {M : Model} {A : Around} {E : Value → Shared → Prop} {s : Shared} {f : Value} {zs : List (Bool × Sem Value)} {Q : Args → Shared → Prop} (hp : zs.any (·.1) = false)
    (h : wpAny M A (spliced zs) (fun vs s₁ => Q ⟨vs, []⟩ s₁) E s) : wpAny M A (evalArgs f true zs []) Q E s := by
  cases zs with
  | nil =>
    unfold evalArgs
    show wpAny M A (spliced [] >>= _) Q E s
    refine wpAny_bind (wpAny_mono h (fun vs s₁ h₁ => wpAny_bind (wpAny_pure ?_)) fun _ _ x => x)
    refine wpAny_holding ?_
    exact wpAny_bind (wpAny_pure (wpAny_bind (wpAny_pure (wpAny_pure (by simpa using h₁)))))
  | cons z zs =>
    obtain ⟨b, t⟩ := z
    cases b with
    | false => exact PySem.Calls.evalArgs_plain h
    | true => cases hp

theorem MethodCall_any {M : Model} {A : Around} {E : Value → Shared → Prop} {s : Shared} {env : Env} {o : Expr} {name : Str} {apos pos : Pos} {args : List Expr} {Q : Value → Shared → Prop} (hb : ∀ whole, attributeBase o name env whole = whole) (hm : mOk apos pos args.length = true)
    (hp : (backTo pos (starEach args env)).any (·.1) = false)
    (h : wpAny M A (eval o env) (fun ov s₁ => ∀ pl, wpAny M A (getMethod ov name pl) (fun fx s₂ => wpAny M A (callWith pos fx.1 fx.2 (backTo pos (starEach args env)) []) Q E s₂) E s₁) E s) :
    wpAny M A (eval (.Call (.Attribute o name apos) args [] pos) env) Q E s := by
  have hm := and_true hm
  have hf : methodCallForm args.length (backTo pos (starEach args env)) [] = true := by
    unfold methodCallForm
    have : (backTo pos (starEach args env)).all (!·.1) = true := by
      rw [List.all_eq_true]; rw [List.any_eq_false] at hp
      intro x hx; simpa using hp x hx
    have h3 := of_decide_eq_true hm.2
    rw [this]; simp; lia
  show wpAny M A (do
    let ov ← attributeBase o name env (eval o env)
    standAt apos.atName
    methodCall o name apos pos env ov (args.length + ([] : List Keyword).length) (backTo pos (starEach args env)) (backToKw pos (keywordEach [] env))) Q E s
  rw [hb]
  refine wpAny_bind (wpAny_mono h (fun ov s₁ h₁ => wpAny_bind (wpAny_standAt ?_)) fun _ _ x => x)
  show wpAny M A (methodCall o name apos pos env ov args.length (backTo pos (starEach args env)) []) Q E s₁
  unfold methodCall
  rw [hf]
  unfold calleeOf
  rw [if_pos rfl]
  refine wpAny_bind (wpAny_holding (wpAny_mono (h₁ _) (fun fx s₂ h₂ => ?_) fun _ _ x => x))
  unfold methodCallPos
  rw [hm.1]
  exact wpAny_bind (wpAny_pure h₂)

section
variable {X : GX} {C : Nat → List V → Option V} {F : Frm} {A : Around} {k : Nat} {N : Names} {ρ ρ₁ : List Addr} {vars : Vars} {own own' own₁ : Own} {s : Shared} {Q : Value → Shared → Prop} {v w r : V} {x y : Value} {h₁ : Heap} {t₁ : Nat}

theorem reps_plain {nm : Nat → Str} (env : Env) (pos : Pos) : ∀ (es : Es) (ds : List Expr), (backTo pos (starEach (repEs nm es ds) env)).any (·.1) = false
  | .nil, _ => rfl
  | .cons e es, ds => (congrArg (fun l => (backTo pos l).any (·.1)) ((repE_plain e (ds.headD noPart)).star (repEs nm es ds.tail) env)).trans (reps_plain env pos es ds.tail)

/-- behind a call -/
theorem Rep.called (Z : Fx X F A k) (R : Rep X F ρ vars own s.heap) {u : V} {s' : Shared} (H : Ok X F vars own u ρ s Q) (c : CRes X s u y s') : Q y s' := by
  obtain ⟨h', t', rfl, ht, keep, alive, ti, hv⟩ := c
  obtain ⟨m, hn⟩ := R.ns
  have hL : F.env.locals ∉ X.T := fun hm => by
    obtain ⟨q, hq, e⟩ := List.mem_map.mp hm
    obtain ⟨oL, es, ep, eL, dL⟩ := Ns.dict hn
    rcases (R.hb.ti q hq).2 with h1 | ⟨c', h1, _⟩ <;> (rw [e, eL] at h1; cases h1; cases dL)
  have S : Step X F.env.locals ρ s.heap h' := ⟨fun b o e _ _ h3 => keep b o e h3, fun m n => n.at' fun o e => keep _ o e hL, alive, ti⟩
  have hx : ∃ r, ρ = ρ ++ r ∧ ∀ b ∈ r, s.heap.get? b = none := ⟨[], (List.append_nil ρ).symm, fun _ h => nomatch h⟩
  have G := Gr.of_step (ρ' := ρ) S Z.K.loc hx
  obtain ⟨G', R'⟩ := R.step Z.K Z.T S hx ⟨R.own.len, R.own.nodup, R.own.fresh, fun n vs e => by
    obtain ⟨a, xs, hr, ⟨j, ha⟩, hw⟩ := R.own.at' n vs e
    exact ⟨a, xs, hr, ⟨j, keep a _ ha fun hT => (R.apart.t a hT _ ha).1 _ _ rfl⟩, hw.gr G R.apart⟩⟩
  refine H y ρ h' t' ht G' R' (hv F.h₀ ρ R.al fun a ha => ?_)
  obtain ⟨xs, n, e⟩ := R.own.lists a ha
  rw [e]; rfl

/-- the arguments of a call of a built-in -/
theorem args_sound {as : Es} {zs : List Expr} {vs : List V} {f : Value} {pre : List Value} {pos : Pos} (ps : PXs X C as N zs) (K : Ctx X C F A k N) (e : evs C X.TK as vars own = some (vs, own')) (R : Rep X F ρ vars own s.heap) (ht : 0 < s.toks) (hp : (backTo pos (starEach zs F.env)).any (·.1) = false)
    (H : ∀ xs ρ' h' t', 0 < t' → Gr X.T F.W ρ ρ' s.heap h' → Rep X F ρ' vars own' h' → VRs h' F.h₀ ρ' vs xs → wpAny (model X.prog X.w) A (call f (pre ++ xs)) Q E0 { s with heap := h', toks := t' }) :
    wpAny (model X.prog X.w) A (evalArgs f true (backTo pos (starEach zs F.env)) []) (fun a s₁ => wpAny (model X.prog X.w) A (call f (pre ++ a.pos) a.kw) Q E0 s₁) E0 s :=
  evalArgs_any hp (ps.vals F A k ρ vars own own' s (fun vs s₁ => wpAny (model X.prog X.w) A (call f (pre ++ vs)) Q E0 s₁) vs pos K e R ht H)

theorem pe_call {f : Nat} {as : Es} (ps : PEs X C as) : PE X C (.call f as) := by
  intro N d h
  have h := and_true h
  have hk := and_true h.1
  have hv : PV X C (.call f as) N (repE X.nm (.call f as) d) := fun F A k ρ vars own own' s Q r K e R ht H => ev_call_inv e fun vs own₁ ws u e1 e2 e3 e => by
    obtain ⟨a, hf, hc⟩ := K.calls f ws _ e3
    refine Call_ (load_glob K R hk.1 (notDbg_1 hk.2).1 (.inl (K.Z.O.gf f a hf)) ?_)
    have hp := reps_plain (nm := X.nm) F.env d.pos as (kids d).tail
    exact PySem.W.callWith_of (P := fun h => ∀ b o, X.hb.get? b = some o → h.get? b = some o) (by rw [hp]; rfl) (fun h hP => K.Z.O.keep f a h hf hP) (evalArgs_any hp ((ps N _ h.2).vals F A k ρ vars own _ s _ vs _ K e1 R ht fun xs ρ₁ h₁ t₁ ht₁ G₁ R₁ rx =>
      ⟨R₁.hb.old, wpAny_mono (hc A { s with heap := h₁, toks := t₁ } xs K.Z.R R₁.hb (frzBs (h₁ := h₁) R₁.own depthF e2 rx) ht₁) (fun y s' c => Rep.called K.Z R₁ ((H.of e).after G₁) c) fun _ _ f => f.elim⟩))
  exact ⟨hv, hv.of fun _ _ => rfl⟩

theorem pe_prim {f : Pf} {as : Es} (ps : PEs X C as) : PE X C (.prim f as) := by
  intro N d h
  have h := and_true h
  have hk := and_true h.1
  have hv : PV X C (.prim f as) N (repE X.nm (.prim f as) d) := fun F A k ρ vars own own' s Q r K e R ht H => ev_prim_inv e fun vs own₁ e1 e => by
    refine Call_ (load_glob K R hk.1 (notDbg_1 hk.2).1 (.inr (K.Z.O.pf f)) ?_)
    have hp := reps_plain (nm := X.nm) F.env d.pos as (kids d).tail
    have e2 := args_sound (f := pfK f) (pre := []) (ps N _ h.2) K e1 R ht hp fun xs ρ₁ h₁ t₁ ht₁ G₁ R₁ rx => prim_sound (s := { s with heap := h₁, toks := t₁ }) K.Z R₁ ht₁ e rx (H.after G₁)
    cases f with
    | list => exact PyProof.Rows.callWith_type hp e2
    | range => exact PyProof.Rows.callWith_type hp e2
    | _ => exact PySem.Calls.callWith_builtin hp e2
  exact ⟨hv, hv.of fun _ _ => rfl⟩

/-- what evaluating arguments leaves of the receiver's method: the receiver's kind stays -/
theorem pe_meth {m : Mt} {o : E} {as : Es} (po : PE X C o) (ps : PEs X C as) : PE X C (.meth m o as) := by
  intro N d h
  have h := and_true h
  have hb := and_true h.1
  have hk := and_true h.2
  have hv : PV X C (.meth m o as) N (repE X.nm (.meth m o as) d) := fun F A k ρ vars own own' s Q r K e R ht H => ev_meth_inv e fun u own₁ vs own₂ e1 e2 e =>
    have hp := reps_plain (nm := X.nm) F.env d.pos as (kids d).tail
    MethodCall_any (base_rep hb.1 _ _) hb.2 hp ((po N _ hk.1).1 F A k ρ vars own _ s _ u K e1 R ht fun x ρ₁ h₁ t₁ ht₁ G₁ R₁ rx pl =>
      getM_sound (s := { s with heap := h₁, toks := t₁ }) R₁ e rx (PySem.Calls.callWith_builtin hp (args_sound (s := { s with heap := h₁, toks := t₁ }) (f := .builtin (mtK m)) (pre := [x]) (ps N _ hk.2) K e2 R₁ ht₁ hp fun xs ρ₂ h₂ t₂ ht₂ G₂ R₂ rxs =>
        meth_sound (s := { s with heap := h₂, toks := t₂ }) K.Z R₂ ht₂ e (rx.gr G₂ R₁.apart) rxs ((H.after (t₁ := t₁) G₁).after G₂))))
  exact ⟨hv, hv.of fun _ _ => rfl⟩

theorem repl_fit {l b : List Nat} (hl : l.length ≤ 10000 ∧ b.length ≤ 100) : (strV l).length + ((strV l).length + 1) * (strV b).length ≤ 16777216 := by
  rw [strV_len, strV_len]
  have : (l.length + 1) * b.length ≤ 10001 * 100 := Nat.mul_le_mul (Nat.succ_le_succ hl.1) hl.2
  exact Nat.le_trans (Nat.add_le_add hl.1 this) (by decide)
theorem pe_repl {o : E} {a b : List Nat} (po : PE X C o) : PE X C (.repl o a b) := by
  intro N d h
  have h := and_true h
  have hk := and_true h.1
  have hb := and_true hk.1
  have hv : PV X C (.repl o a b) N (repE X.nm (.repl o a b) d) := fun F A k ρ vars own own' s Q r K e R ht H => ev_repl_inv e fun u l own₁ c e1 e2 e3 hl e =>
    MethodCall_any (base_rep hb.1 _ _) hb.2 rfl ((po N _ h.2).1 F A k ρ vars own _ s _ _ K e1 R ht fun x ρ₁ h₁ t₁ ht₁ G₁ R₁ rx pl => by
      apply rx.strE e2; intro t
      refine GM.replace (PySem.Calls.callWith_builtin rfl (evalArgs_any rfl (spliced_more (wpAny_Constant_str (spliced_more (wpAny_Constant_str (spliced_none ?_)))))))
      refine toksPos (s := { s with heap := h₁, toks := t₁ + 1 + 1 }) (Nat.succ_pos _) (SC.replace (Nat.ne_of_gt ht₁) (Nat.succ_ne_zero _) (Nat.ne_of_lt (Nat.lt_succ_self _)) (not_true hk.2) (repl_fit hl) fun t' j hj => ?_)
      rw [only_is e3, repl_is]
      exact ((H.of e).after (t₁ := t₁) G₁) _ ρ₁ h₁ j hj (Gr.refl ..) R₁ vr_str)
  exact ⟨hv, hv.of fun _ _ => rfl⟩

theorem pe_tok {a : E} (pa : PE X C a) : PE X C (.tok a) := by
  intro N d h
  have h := and_true h
  have hk := and_true h.1
  have hv : PV X C (.tok a) N (repE X.nm (.tok a) d) := fun F A k ρ vars own own' s Q r K e R ht H => ev_tok_inv e fun u l c own₁ e1 e2 e3 e =>
    have hpl := (repE_plain (nm := X.nm) a (kid d 1)).star [] F.env
    have hp : (backTo d.pos (starEach [repE X.nm a (kid d 1)] F.env)).any (·.1) = false := by rw [hpl]; rfl
    MethodCall_any (fun _ => rfl) hk.1 hp (load_glob K R hk.2 (by decide) (.inl K.Z.O.tk) fun pl => K.Z.O.tkM _ _ _ _ R.hb.old (PySem.Calls.callWith_builtin hp (evalArgs_any hp
      (spliced_more ((pa N _ h.2).1 F A k ρ vars own _ s _ _ K e1 R ht fun x ρ₁ h₁ t₁ ht₁ G₁ R₁ rx => spliced_none (by
        apply rx.strE e2; intro t
        cases only_is e3
        refine K.Z.O.tkC A { s with heap := h₁, toks := t₁ } c t _ K.Z.R.handled R₁.hb.old ht₁ fun y t' ht' hy => ?_
        refine ((H.of e).after (t₁ := t₁) G₁) _ ρ₁ h₁ t' ht' (Gr.refl ..) R₁ ?_
        unfold tokV
        revert hy
        cases X.TK c with
        | some i => exact fun hy => let ⟨u, e⟩ := hy; e ▸ vr_int
        | none => exact fun hy => hy)) hpl))))
  exact ⟨hv, hv.of fun _ _ => rfl⟩

theorem pes_nil : PEs X C .nil := fun N ds _ =>
  ⟨fun F A k ρ vars own own' s P vs pos K e R ht H => by cases e; exact spliced_none (H [] ρ s.heap s.toks ht (Gr.refl ..) R rfl),
   fun F A k ρ vars own own' s Q r pos K e => (nomatch e), fun F A k ρ vars own own' s Q r pos K e => (nomatch e), fun F A k ρ vars own own' s Q r K e => (nomatch e), fun F A k ρ vars own own' s Q r K e => (nomatch e)⟩
end
end Mine
end
section
set_option maxRecDepth 100000
set_option autoImplicit false
namespace Mine
open PySem PyProof.Rows

section
variable {X : GX} {C : Nat → List V → Option V} {F : Frm} {A : Around} {k : Nat} {N : Names} {ρ ρ₁ : List Addr} {vars : Vars} {own own' own₁ : Own} {s : Shared} {Q : Value → Shared → Prop} {v w r : V} {x y : Value} {h₁ : Heap} {t₁ : Nat}

theorem bool_tst {u : Bool} {o : Own} {b : Bool} {v : V} (hb : truth o v = some u) (h : truth o v = some b) : u = b := Option.some.inj (hb.symm.trans h)
theorem pes_cons {e : E} {es : Es} (pe : PE X C e) (ps : PEs X C es) : PEs X C (.cons e es) := by
  intro N ds h
  have h := and_true h
  have hs := ps N _ h.2
  have hv := (pe N _ h.1).1
  have hp := (pe N _ h.1).2
  refine ⟨fun F A k ρ vars own own' s P vs pos K e' R ht H => evs_cons_inv e' fun u own₁ us own₂ e1 e2 e3 => ?_, ?_, ?_, ?_, ?_⟩
  · cases e3
    exact spliced_more (hv F A k ρ vars own _ s _ _ K e1 R ht fun x ρ₁ h₁ t₁ ht₁ G₁ R₁ rx => hs.vals F A k ρ₁ vars own₁ _ { s with heap := h₁, toks := t₁ } _ _ _ K e2 R₁ ht₁ fun xs ρ₂ h₂ t₂ ht₂ G₂ R₂ rxs =>
      H (x :: xs) ρ₂ h₂ t₂ ht₂ (G₁.trans G₂) R₂ ⟨rx.gr G₂ R₁.apart, rxs⟩) ((repE_plain e _).star _ _)
  · intro F A k ρ vars own own' s Q r pos K e' R ht H
    cases es with
    | nil => exact BoolOp_one (hv F A k ρ vars own _ s _ _ K e' R ht H)
    | cons e2 es2 =>
      refine evAnd_cons_inv e' fun u own₁ c e1 hb e' => BoolOp_and (hv F A k ρ vars own _ s _ _ K e1 R ht fun x ρ₁ h₁ t₁ ht₁ G₁ R₁ rx => truth_sound (s := { s with heap := h₁, toks := t₁ }) R₁ ht₁ hb rx fun t₂ ht₂ => ?_)
      cases c with
      | true => exact hs.and F A k ρ₁ vars own₁ _ { s with heap := h₁, toks := t₂ } _ _ pos K e' R₁ ht₂ (H.after G₁)
      | false => exact (H.of e') x ρ₁ h₁ t₂ ht₂ G₁ R₁ rx
  · intro F A k ρ vars own own' s Q r pos K e' R ht H
    cases es with
    | nil => exact BoolOp_one (hv F A k ρ vars own _ s _ _ K e' R ht H)
    | cons e2 es2 =>
      refine evOr_cons_inv e' fun u own₁ c e1 hb e' => BoolOp_or (hv F A k ρ vars own _ s _ _ K e1 R ht fun x ρ₁ h₁ t₁ ht₁ G₁ R₁ rx => truth_sound (s := { s with heap := h₁, toks := t₁ }) R₁ ht₁ hb rx fun t₂ ht₂ => ?_)
      cases c with
      | false => exact hs.or F A k ρ₁ vars own₁ _ { s with heap := h₁, toks := t₂ } _ _ pos K e' R₁ ht₂ (H.after G₁)
      | true => exact (H.of e') x ρ₁ h₁ t₂ ht₂ G₁ R₁ rx
  · intro F A k ρ vars own own' s P b K e' R ht H
    refine isTrue_and (pos := ⟨0, 0, 0, 0⟩) (whole := pure .none) (Q := P) ?_
    cases es with
    | nil =>
      refine hp F A k ρ vars own _ s _ _ K e' R ht fun ρ₁ h₁ t₁ ht₁ G₁ R₁ => ?_
      cases b
      · exact H ρ₁ h₁ t₁ ht₁ G₁ R₁
      · exact isTrue_and_nil (H ρ₁ h₁ t₁ ht₁ G₁ R₁)
    | cons e2 es2 =>
      refine tst_inv e' fun v e' hv => evAnd_cons_inv e' fun u own₁ c e1 hb e' => hp F A k ρ vars own own₁ s _ c K (tst_of e1 hb) R ht fun ρ₁ h₁ t₁ ht₁ G₁ R₁ => ?_
      cases c with
      | true => exact hs.tand F A k ρ₁ vars own₁ _ { s with heap := h₁, toks := t₁ } _ _ K (tst_of e' hv) R₁ ht₁ (H.after G₁)
      | false => cases e'; cases bool_tst hb hv; exact H ρ₁ h₁ t₁ ht₁ G₁ R₁
  · intro F A k ρ vars own own' s P b K e' R ht H
    refine isTrue_or (pos := ⟨0, 0, 0, 0⟩) (whole := pure .none) (Q := P) ?_
    cases es with
    | nil =>
      refine hp F A k ρ vars own _ s _ _ K e' R ht fun ρ₁ h₁ t₁ ht₁ G₁ R₁ => ?_
      cases b
      · exact isTrue_or_nil (H ρ₁ h₁ t₁ ht₁ G₁ R₁)
      · exact H ρ₁ h₁ t₁ ht₁ G₁ R₁
    | cons e2 es2 =>
      refine tst_inv e' fun v e' hv => evOr_cons_inv e' fun u own₁ c e1 hb e' => hp F A k ρ vars own own₁ s _ c K (tst_of e1 hb) R ht fun ρ₁ h₁ t₁ ht₁ G₁ R₁ => ?_
      cases c with
      | false => exact hs.tor F A k ρ₁ vars own₁ _ { s with heap := h₁, toks := t₁ } _ _ K (tst_of e' hv) R₁ ht₁ (H.after G₁)
      | true => cases e'; cases bool_tst hb hv; exact H ρ₁ h₁ t₁ ht₁ G₁ R₁
end
end Mine
end
section
set_option maxRecDepth 100000
set_option autoImplicit false
namespace Mine
open PySem PyProof.Rows

section
variable {X : GX} {C : Nat → List V → Option V} {F : Frm} {A : Around} {k : Nat} {N : Names} {ρ ρ₁ : List Addr} {vars vars' : Vars} {own own' own₁ : Own} {s : Shared} {Q : Value → Shared → Prop} {v w r : V} {x y : Value} {h h' h₁ : Heap} {t₁ : Nat}

theorem Rep.congr (R : Rep X F ρ vars own h) (e : ∀ i, getV i vars' = getV i vars) : Rep X F ρ vars' own h :=
  ⟨R.hb, R.al, R.w, R.t, R.base, (let ⟨m, n, f⟩ := R.fr; ⟨m, n, fun i v q => f i v (by rw [← e]; exact q)⟩), R.own, R.cells⟩

theorem tr_but {h₀ : Heap} {I : Addr} {o : Obj} (eI : h.get? I = some o) (hw : Wk o) (keep : ∀ b o, b ≠ I → h.get? b = some o → h'.get? b = some o) {v : V} {x : Value} (r : VR h h₀ ρ v x) : VR h' h₀ ρ v x :=
  VR.keeps (I := I) (fun b o e hne => keep b o hne e) (fun o' e => by rw [eI] at e; cases e; exact ⟨hw.seq, hw.range⟩) r
theorem trs_but {h₀ : Heap} {I : Addr} {o : Obj} (eI : h.get? I = some o) (hw : Wk o) (keep : ∀ b o, b ≠ I → h.get? b = some o → h'.get? b = some o) {v : List V} {x : List Value} (r : VRs h h₀ ρ v x) : VRs h' h₀ ρ v x :=
  VRs.keeps (I := I) (fun b o e hne => keep b o hne e) (fun o' e => by rw [eI] at e; cases e; exact ⟨hw.seq, hw.range⟩) r

/-- one object that is no list, tuple, range or table turns -/
theorem Rep.turn (R : Rep X F ρ vars own h) {I : Addr} {o : Obj} (eI : h.get? I = some o) (hw : Wk o) (hb : X.hb.get? I = none) (h0 : F.h₀.get? I = none ∨ (h'.get? I).isSome)
    (hW : I ∈ F.W → ∃ o', h'.get? I = some o' ∧ Wk o') (keep : ∀ b o, b ≠ I → h.get? b = some o → h'.get? b = some o)
    (fr : ∃ m, h'.Ns F.env.locals m ∧ ∀ i v, getV i vars' = some v → Sees F (X.nm i) → ∃ x, VarAt F h' m (X.nm i) x ∧ VR h' F.h₀ ρ v x)
    (cells : ∀ n, F.env.kindOf n = some .cell → ∃ c v, F.env.cells.lookup n = some c ∧ h'.IsCell c v) : Rep X F ρ vars' own h' := by
  refine ⟨⟨fun b o e => keep b o (fun q => by subst q; rw [hb] at e; cases e) (R.hb.old b o e), R.hb.ti.keepN fun b o' _ e _ hn => keep b o' (fun z => by subst z; rw [eI] at e; cases e; exact hn hw) e⟩, fun b e => ?_, fun b hbW => ?_, R.t, R.base, fr, ⟨R.own.len, R.own.nodup, R.own.fresh, fun n vs e => ?_⟩, cells⟩
  · obtain ⟨o', e'⟩ := Option.isSome_iff_exists.mp (R.al b e)
    by_cases hbI : b = I
    · subst hbI
      rcases h0 with h0 | h0
      · rw [h0] at e; cases e
      · exact h0
    · rw [keep b o' hbI e']; rfl
  · obtain ⟨⟨o', e', w'⟩, hn⟩ := R.w b hbW
    refine ⟨?_, hn⟩
    by_cases hbI : b = I
    · subst hbI; exact hW hbW
    · exact ⟨o', keep b o' hbI e', w'⟩
  · obtain ⟨a, xs, hr, ⟨j, ha⟩, hv⟩ := R.own.at' n vs e
    exact ⟨a, xs, hr, ⟨j, keep _ _ (fun z => by subst z; rw [eI] at ha; cases ha; exact hw.seq _ _ rfl) ha⟩, trs_but eI hw keep hv⟩

/-- one object that is no list, tuple, range, cell or table turns (or goes) -/
theorem Rep.but (R : Rep X F ρ vars own h) {I : Addr} {o : Obj} (eI : h.get? I = some o) (hw : Wk o) (hnc : ∀ v, o.data ≠ .cell v) (hL : I ≠ F.env.locals) (hb : X.hb.get? I = none) (h0 : F.h₀.get? I = none)
    (hW : I ∈ F.W → ∃ o', h'.get? I = some o' ∧ Wk o') (keep : ∀ b o, b ≠ I → h.get? b = some o → h'.get? b = some o) : Rep X F ρ vars own h' := by
  refine R.turn eI hw hb (.inl h0) hW keep ?_ fun n hn => ?_
  · obtain ⟨m, n, f⟩ := R.fr
    refine ⟨m, n.at' fun o e => keep _ o (Ne.symm hL) e, fun i v e hs => ?_⟩
    obtain ⟨x, hx, hr⟩ := f i v e hs
    refine ⟨x, ?_, tr_but eI hw keep hr⟩
    rcases hx with hx | ⟨hk, c, hc, o', ho, hd⟩
    · exact .inl hx
    · exact .inr ⟨hk, c, hc, o', keep _ _ (fun z => by subst z; rw [eI] at ho; cases ho; exact hnc _ hd) ho, hd⟩
  · obtain ⟨c, v, hc, o', ho, hd⟩ := R.cells n hn
    exact ⟨c, v, hc, o', keep _ _ (fun z => by subst z; rw [eI] at ho; cases ho; exact hnc _ hd) ho, hd⟩

theorem getV_set (i t : Nat) (u : V) : ∀ vars : Vars, getV i (setV t u vars) = if i = t then some u else getV i vars
  | [] => by
    simp only [setV, getV]
    by_cases h : i = t
    · simp [h]
    · simp [h]
  | (y, w) :: r => by
    simp only [setV]
    by_cases h : t = y
    · subst h
      simp only [beq_self_eq_true, if_true, getV]
      by_cases h2 : i = t
      · simp [h2]
      · simp [h2]
    · simp only [beq_iff_eq, h, if_false, getV, getV_set i t u r]
      by_cases h2 : i = y
      · subst h2; simp [Ne.symm h]
      · simp [h2]

/-- a name of the frame's own is bound -/
theorem Rep.store (Z : Fx X F A k) (R : Rep X F ρ vars own h) {t : Nat} {u : V} {m : Str → Option Value} (hk : F.env.kindOf (X.nm t) = some .local) (hm : h.Ns F.env.locals m)
    (hns : h'.Ns F.env.locals fun z => if z = X.nm t then some y else m z) (keep : ∀ b o, b ≠ F.env.locals → h.get? b = some o → h'.get? b = some o) (ry : VR h F.h₀ ρ u y) :
    Gr X.T F.W ρ ρ h h' ∧ Rep X F ρ (setV t u vars) own h' := by
  obtain ⟨oL, es, ep, eL, dL⟩ := Ns.dict hm
  obtain ⟨oL', es', ep', eL', dL'⟩ := Ns.dict hns
  have hw : Wk oL := .inl ⟨es, ep, dL⟩
  obtain ⟨_, hbL⟩ := R.w _ Z.K.loc
  refine ⟨⟨fun b o e _ hW _ => keep b o (fun q => hW (q ▸ Z.K.loc)) e, fun b e => ?_, [], (List.append_nil ρ).symm, fun _ h => nomatch h⟩, ?_⟩
  · obtain ⟨o, e⟩ := Option.isSome_iff_exists.mp e
    by_cases q : b = F.env.locals
    · subst q; rw [eL']; rfl
    · rw [keep b o q e]; rfl
  · refine R.turn eL hw hbL (.inr (by rw [eL']; rfl)) (fun _ => ⟨oL', eL', .inl ⟨es', ep', dL'⟩⟩) keep ⟨_, hns, fun i v e hs => ?_⟩ fun n hn => ?_
    · rw [getV_set] at e
      split at e
      · rename_i hi; subst hi; cases e
        exact ⟨y, .inl ⟨hk, by simp⟩, tr_but eL hw keep ry⟩
      · rename_i hi
        obtain ⟨m', hm', f⟩ := R.fr
        cases Ns.unique hm hm'
        obtain ⟨x, hx, hr⟩ := f i v e hs
        refine ⟨x, ?_, tr_but eL hw keep hr⟩
        rcases hx with ⟨h1, h2⟩ | ⟨hk', c, hc, o', ho, hd⟩
        · exact .inl ⟨h1, by dsimp only; rw [if_neg fun q => hi (Z.O.inj _ _ q)]; exact h2⟩
        · exact .inr ⟨hk', c, hc, o', keep _ _ (fun z => by subst z; rw [eL] at ho; cases ho; rw [dL] at hd; cases hd) ho, hd⟩
    · obtain ⟨c, v, hc, o', ho, hd⟩ := R.cells n hn
      exact ⟨c, v, hc, o', keep _ _ (fun z => by subst z; rw [eL] at ho; cases ho; rw [dL] at hd; cases hd) ho, hd⟩

/-- an iterator's object -/
noncomputable def Itr (o : Obj) : Prop := itCls o.cls ∧ ∃ vs, o.data = .fields vs ∧ ∀ q t, vs[1]? ≠ some (.str q t)
theorem Itr.wk {o : Obj} (i : Itr o) : Wk o := .inr (.inr i)
theorem Itr.nc {o : Obj} (i : Itr o) (v : Option Value) : o.data ≠ .cell v := fun q => by
  obtain ⟨_, vs, hd, _⟩ := i
  rw [hd] at q; cases q
/-- what a loop runs by -/
inductive ItSt (h h₀ : Heap) (ρ : List Addr) (v : V) (I : Addr) (j : Nat) : Prop where
  | rng (p : Int × Int × Int) (e : rngOf v = some p) (t : IsRangeIter h I (p.1 + j * p.2.2) ((rngN p.1 p.2.1 p.2.2 : Int) - j) p.2.2)
  | str (l : List Nat) (ty : String) (t : Tok) (n : rngOf v = none) (e : strOf v = some l) (hty : ty = "str_ascii_iterator" ∨ ty = "str_iterator") (it : h.IsStrIter I ty (strV l) t j)
  | lst (a : Addr) (n : rngOf v = none) (n' : strOf v = none) (it : h.IsListIter I a j) (r : VR h h₀ ρ v (.ref a))
theorem iter_of {j : Nat} {u : Option V} (e : iterAt own v j = some u) {P : Prop} (k1 : ∀ p, rngOf v = some p → itR p j = some u → P) (k2 : ∀ l, rngOf v = none → strOf v = some l → some (l[j]?.map fun c => V.str [c]) = some u → P)
    (k3 : ∀ vs, rngOf v = none → strOf v = none → items own v = some vs → some vs[j]? = some u → P) : P :=
  elim_of e (fun n e => elim_of e (fun n2 e => bind_of e fun vs h e => k3 vs n n2 h e) fun l h e => k2 l n h e) k1
theorem ne_of_none {α : Type} {o : Option α} {a : α} {P : Prop} (n : o = none) (e : o = some a) : P := by rw [n] at e; cases e
theorem itr_range {I : Addr} {a n c : Int} (t : IsRangeIter h I a n c) : ∃ o, h.get? I = some o ∧ Itr o := ⟨_, t, .inr (.inl rfl), _, rfl, fun q t => by simp [rawInt]⟩
theorem itr_str {I : Addr} {ty : String} {l : Str} {t : Tok} {j : Nat} (hty : ty = "str_ascii_iterator" ∨ ty = "str_iterator") (it : h.IsStrIter I ty l t j) : ∃ o, h.get? I = some o ∧ Itr o := by
  obtain ⟨o, ho, hc, hd⟩ := it
  refine ⟨o, ho, ?_, _, hd, fun q t => by simp⟩
  rw [hc]; rcases hty with rfl | rfl
  · exact .inr (.inr (.inl rfl))
  · exact .inr (.inr (.inr (.inl rfl)))
theorem itr_list {I a : Addr} {j : Nat} (it : h.IsListIter I a j) : ∃ o, h.get? I = some o ∧ Itr o := by
  obtain ⟨o, ho, hc, hd⟩ := it
  exact ⟨o, ho, .inl hc, _, hd, fun q t => by simp⟩
theorem ItSt.itr {h₀ : Heap} {I : Addr} {j : Nat} (t : ItSt h h₀ ρ v I j) : ∃ o, h.get? I = some o ∧ Itr o := by
  cases t with
  | rng p e t => exact itr_range t
  | str l ty t n e hty it => exact itr_str hty it
  | lst a n n' it r => exact itr_list it
theorem ItSt.at {h₀ : Heap} {I : Addr} {j : Nat} (t : ItSt h h₀ ρ v I j) (keep : ∀ o, h.get? I = some o → h'.get? I = some o) (hv : ∀ x, VR h h₀ ρ v x → VR h' h₀ ρ₁ v x) : ItSt h' h₀ ρ₁ v I j := by
  cases t with
  | rng p e t => exact .rng p e (keep _ t)
  | str l ty t n e hty it => exact .str l ty t n e hty (let ⟨o, ho, r⟩ := it; ⟨o, keep _ ho, r⟩)
  | lst a n n' it r => exact .lst a n n' (let ⟨o, ho, r⟩ := it; ⟨o, keep _ ho, r⟩) (hv _ r)

theorem iter_self {E : Value → Shared → Prop} {h₀ : Heap} {I : Addr} {j : Nat} (t : ItSt s.heap h₀ ρ v I j) (H : Q (.ref I) s) : wpAny (model X.prog X.w) A (pyIter (.ref I)) Q E s := by
  cases t with
  | rng p e t => exact wpAny_pyIter_rangeiter t H
  | str l ty t n e hty it => rcases hty with rfl | rfl
                             · exact wpAny_pyIter_striter_ascii it H
                             · exact wpAny_pyIter_striter_wide it H
  | lst a n n' it r => exact wpAny_pyIter_listiter it H

/-- an iterator is made: a new object, nothing else turns -/
theorem iter_start {E : Value → Shared → Prop} {j : Nat} {u : Option V} (R : Rep X F ρ vars own s.heap) (e : iterAt own v j = some u) (rx : VR s.heap F.h₀ ρ v x)
    (H : ∀ o, Itr o → o.isFreed = false → (∀ h' ρ', h'.get? s.heap.objs.size = some o → (∀ z, VR s.heap F.h₀ ρ v z → VR h' F.h₀ ρ' v z) → ItSt h' F.h₀ ρ' v s.heap.objs.size 0) →
      Q (.ref s.heap.objs.size) { s with heap := s.heap.push o }) : wpAny (model X.prog X.w) A (pyIter x) Q E s := by
  refine iter_of e (fun p hp e => if_of e fun hb _ => ?_) (fun l n hl _ => ?_) fun vs n n' hi _ => ?_
  · have rx := rx
    rw [rngOf_is hp] at rx
    apply rx.rngE; intro q t u w ho
    have hb := rngB_is hb
    refine wpAny_pyIter_range ho (rng_small hb.2 hb.1.1 hb.1.2.1 hb.1.2.2) (H _ ⟨.inr (.inl rfl), _, rfl, fun q t => by simp [rawInt]⟩ rfl fun h' _ e' _ => .rng p hp ?_)
    rw [← rngN_is p.1 p.2.1 p.2.2 hb.2]
    simpa using e'
  · apply rx.strE hl; intro t
    cases ha : (strV l).cps.all (· < 128)
    · exact wpAny_pyIter_wide ha (H _ ⟨.inr (.inr (.inr (.inl rfl))), _, rfl, fun q t => by simp⟩ rfl fun h' _ e' _ => .str l _ t n hl (.inr rfl) ⟨_, e', rfl, rfl⟩)
    · exact wpAny_pyIter_ascii ha (H _ ⟨.inr (.inr (.inl rfl)), _, rfl, fun q t => by simp⟩ rfl fun h' _ e' _ => .str l _ t n hl (.inl rfl) ⟨_, e', rfl, rfl⟩)
  · have rx' := rx
    revert rx'
    apply list_at R hi rx; intro a ys hl hv rx'
    exact wpAny_pyIter_list hl.isList (H _ ⟨.inl rfl, _, rfl, fun q t => by simp⟩ rfl fun h' ρ' e' hv => .lst a n n' ⟨_, e', rfl, rfl⟩ (hv _ rx'))

/-- the next item -/
theorem iter_item {E : Value → Shared → Prop} {P : Option Value → Shared → Prop} {I : Addr} {j : Nat} {u : V} (R : Rep X F ρ vars own s.heap) (ht : 0 < s.toks) (t : ItSt s.heap F.h₀ ρ v I j) (e : iterAt own v j = some (some u))
    (H : ∀ y h' t', 0 < t' → VR h' F.h₀ ρ u y → (∀ b o, b ≠ I → s.heap.get? b = some o → h'.get? b = some o) → ItSt h' F.h₀ ρ v I (j + 1) → P (some y) { s with heap := h', toks := t' }) : wpAny (model X.prog X.w) A (pyNext (.ref I)) P E s := by
  obtain ⟨oI, eI, hI⟩ := t.itr
  cases t with
  | rng p hp t =>
    refine iter_of e (fun p' hp' e => if_of e fun hb e => ?_) (fun l n hl _ => ne_of_none n hp) fun vs n n' hi _ => ne_of_none n hp
    rw [hp] at hp'; cases hp'
    by_cases hj : j < rngN p.1 p.2.1 p.2.2
    · rw [if_pos hj] at e; cases e
      refine wpAny_pyNext_range_item t (by lia) fun h' hI' hs => H _ h' _ (Nat.succ_pos _) vr_int (fun b o hb e => hs.extBut b o hb e) (.rng p hp ?_)
      have e1 : p.1 + ((j + 1 : Nat) : Int) * p.2.2 = p.1 + (j : Int) * p.2.2 + p.2.2 := by rw [Int.natCast_add, Int.add_mul]; lia
      have e2 : (rngN p.1 p.2.1 p.2.2 : Int) - ((j + 1 : Nat) : Int) = (rngN p.1 p.2.1 p.2.2 : Int) - (j : Int) - 1 := by lia
      rw [e1, e2]; exact hI'
    · rw [if_neg hj] at e; cases e
  | str l ty t n hl hty hIt =>
    refine iter_of e (fun p' hp' e => ne_of_none n hp') (fun l' n hl' e => ?_) fun vs n n' hi _ => ne_of_none n' hl
    rw [hl] at hl'; cases hl'
    cases hc : l[j]? with
    | none => rw [hc] at e; cases e
    | some c =>
      rw [hc] at e; cases e
      have hx : (strV l).cps[j]? = some c := by simpa [strV] using hc
      rcases hty with rfl | rfl
      · exact wpAny_pyNext_ascii_item hIt hx fun h' hI' hs => H _ h' _ (Nat.succ_pos _) (⟨_, rfl⟩ : VR _ _ _ (.str [c]) _) (fun b o hb e => hs.extBut b o hb e) (.str l _ t n hl (.inl rfl) hI')
      · exact wpAny_pyNext_wide_item hIt hx fun h' hI' hs => H _ h' _ (Nat.succ_pos _) (⟨_, rfl⟩ : VR _ _ _ (.str [c]) _) (fun b o hb e => hs.extBut b o hb e) (.str l _ t n hl (.inr rfl) hI')
  | lst a n n' hIt rx =>
    refine iter_of e (fun p' hp' e => ne_of_none n hp') (fun l n hl e => ne_of_none n' hl) fun vs _ _ hi e => ?_
    obtain ⟨a', ys, ha, hl, hv⟩ := list_at R hi rx (P := fun z => ∃ a' xs, z = .ref a' ∧ s.heap.PlainList a' xs ∧ VRs s.heap F.h₀ ρ vs xs.toList) fun a' xs hp hv => ⟨a', xs, rfl, hp, hv⟩
    cases ha
    obtain ⟨y, hy, ry⟩ := hv.get (Option.some.inj e)
    exact wpAny_pyNext_list_item hIt hl.isList (by simpa using hy) fun h' hI' hs =>
      have hk := fun b o hb e => hs.extBut b o hb e
      H y h' s.toks ht (tr_but eI hI.wk hk ry) hk (.lst a n n' hI' (tr_but eI hI.wk hk rx))
theorem iter_end {E : Value → Shared → Prop} {P : Option Value → Shared → Prop} {I : Addr} {j : Nat} (hh : A.handled = none) (R : Rep X F ρ vars own s.heap) (t : ItSt s.heap F.h₀ ρ v I j) (e : iterAt own v j = some none)
    (H : ∀ h', (∀ b o, b ≠ I → s.heap.get? b = some o → h'.get? b = some o) → P none { s with heap := h' }) : wpAny (model X.prog X.w) A (pyNext (.ref I)) P E s := by
  cases t with
  | rng p hp t =>
    refine iter_of e (fun p' hp' e => if_of e fun hb e => ?_) (fun l n hl _ => ne_of_none n hp) fun vs n n' hi _ => ne_of_none n hp
    rw [hp] at hp'; cases hp'
    by_cases hj : j < rngN p.1 p.2.1 p.2.2
    · rw [if_pos hj] at e; cases e
    · exact wpAny_pyNext_range_end hh t (by lia) H
  | str l ty t n hl hty hIt =>
    refine iter_of e (fun p' hp' e => ne_of_none n hp') (fun l' n hl' e => ?_) fun vs n n' hi _ => ne_of_none n' hl
    rw [hl] at hl'; cases hl'
    cases hc : l[j]? with
    | some c => rw [hc] at e; cases e
    | none =>
      have hx : (strV l).cps[j]? = none := by simpa [strV] using hc
      rcases hty with rfl | rfl
      · exact wpAny_pyNext_ascii_end hh hIt hx H
      · exact wpAny_pyNext_wide_end hh hIt hx H
  | lst a n n' hIt rx =>
    refine iter_of e (fun p' hp' e => ne_of_none n hp') (fun l n hl e => ne_of_none n' hl) fun vs _ _ hi e => ?_
    obtain ⟨a', ys, ha, hl, hv⟩ := list_at R hi rx (P := fun z => ∃ a' xs, z = .ref a' ∧ s.heap.PlainList a' xs ∧ VRs s.heap F.h₀ ρ vs xs.toList) fun a' xs hp hv => ⟨a', xs, rfl, hp, hv⟩
    cases ha
    have hu := Option.some.inj e
    refine wpAny_pyNext_list_end hh hIt hl.isList ?_ H
    rw [List.getElem?_eq_none_iff] at hu
    rw [Array.getElem?_eq_none_iff, arr_size hv]; exact hu
end
end Mine
end
section
set_option maxRecDepth 100000
set_option autoImplicit false
namespace Mine
open PySem PyProof.Rows

noncomputable def closL (cells : List (Str × Addr)) : Names → List (Str × Addr) → List (Str × Addr)
  | [], acc => acc
  | (n, k) :: r, acc => if k == .free then (match cells.lookup n with | some c => closL cells r ((n, c) :: acc) | none => closL cells r acc) else closL cells r acc

theorem clos_go {env : Env} : ∀ (names : Names) (acc : List (Str × Addr)), (∀ n, (n, NameKind.free) ∈ names → ∃ c, env.cells.lookup n = some c) →
    (forIn names acc fun x r => match x with
      | (name, kind) => if (kind == NameKind.free) = true then do
            let c ← cellOf env name
            pure (ForInStep.yield ((name, c) :: r))
          else pure (ForInStep.yield r) : Sem (List (Str × Addr))) = pure (closL env.cells names acc)
  | [], acc, _ => rfl
  | (n, kd) :: r, acc, h => by
    have ih := fun acc => clos_go r acc fun n hn => h n (.tail _ hn)
    rw [List.forIn_cons]
    unfold closL
    by_cases hk : (kd == NameKind.free) = true
    · rw [if_pos hk]
      obtain ⟨c, hc⟩ := h n (by rw [beq_iff_eq.mp hk]; exact .head _)
      simp only [hk, if_true, hc, cellOf]
      exact ih _
    · rw [if_neg hk]
      simp only [hk]
      exact ih _
theorem clos_is {scope : Scope} {env : Env} (h : ∀ n, (n, NameKind.free) ∈ scope.names → ∃ c, env.cells.lookup n = some c) : closureFor scope env = pure (closL env.cells scope.names []) := by
  have := clos_go scope.names [] h
  simp only [bind_pure_comp] at this
  simp only [closureFor, bind_pure_comp]
  exact (bind_pure _).trans this

theorem clos_mem (cells : List (Str × Addr)) : ∀ (names : Names) (acc : List (Str × Addr)), (∀ n c, (n, c) ∈ acc → cells.lookup n = some c) → ∀ n c, (n, c) ∈ closL cells names acc → cells.lookup n = some c
  | [], _, h, n, c, hm => h n c hm
  | (m, kd) :: r, acc, h, n, c, hm => by
    unfold closL at hm
    split at hm
    · split at hm
      · rename_i c' hc
        exact clos_mem cells r _ (fun n c hm => by
          rcases List.mem_cons.mp hm with e | hm
          · cases e; exact hc
          · exact h n c hm) n c hm
      · exact clos_mem cells r _ h n c hm
    · exact clos_mem cells r _ h n c hm
theorem clos_has (cells : List (Str × Addr)) : ∀ (names : Names) (acc : List (Str × Addr)) (n : Str) (c : Addr), cells.lookup n = some c → ((n, NameKind.free) ∈ names ∨ (n, c) ∈ acc) → (n, c) ∈ closL cells names acc
  | [], acc, n, c, _, h => by rcases h with h | h; cases h; exact h
  | (m, kd) :: r, acc, n, c, hc, h => by
    unfold closL
    split
    · split
      · rename_i c' hc'
        refine clos_has cells r _ n c hc ?_
        rcases h with h | h
        · rcases List.mem_cons.mp h with e | h
          · cases e; rw [hc] at hc'; cases hc'; exact .inr (.head _)
          · exact .inl h
        · exact .inr (.tail _ h)
      · rename_i hc'
        refine clos_has cells r _ n c hc ?_
        rcases h with h | h
        · rcases List.mem_cons.mp h with e | h
          · cases e; rw [hc] at hc'; cases hc'
          · exact .inl h
        · exact .inr h
    · rename_i hk
      refine clos_has cells r _ n c hc ?_
      rcases h with h | h
      · rcases List.mem_cons.mp h with e | h
        · cases e; exact absurd rfl hk
        · exact .inl h
      · exact .inr h
theorem lookup_of_mem {α : Type} : ∀ {l : List (Str × α)} {n : Str} {c : α}, (n, c) ∈ l → (∀ c', (n, c') ∈ l → c' = c) → l.lookup n = some c
  | [], _, _, h, _ => by cases h
  | (m, d) :: r, n, c, h, u => by
    rw [List.lookup_cons]
    cases hb : n == m with
    | true => rw [beq_iff_eq.mp hb] at u ⊢; rw [u d (.head _)]
    | false =>
      rcases List.mem_cons.mp h with e | h
      · cases e; simp at hb
      · exact lookup_of_mem h fun c' hm => u c' (.tail _ hm)
theorem clos_lookup {cells : List (Str × Addr)} {names : Names} {n : Str} {c : Addr} (hc : cells.lookup n = some c) (h : (n, NameKind.free) ∈ names) : (closL cells names []).lookup n = some c :=
  lookup_of_mem (clos_has cells names [] n c hc (.inl h)) fun c' hm => by
    have := clos_mem cells names [] (fun _ _ h => nomatch h) n c' hm
    rw [hc] at this; cases this; rfl

theorem relN_lookup (N : Names) : ∀ (names : Names) (n : Str), (relN N names).lookup n = (names.lookup n).map fun k => if (k == NameKind.free && true && N.lookup n == some .cell) then NameKind.cell else k
  | [], _ => rfl
  | (m, kd) :: r, n => by
    have ih := relN_lookup N r n
    have e1 : relN N ((m, kd) :: r) = (m, if (kd == NameKind.free && true && N.lookup m == some .cell) then NameKind.cell else kd) :: relN N r := by
      unfold relN
      rw [List.map_cons]
      by_cases hc : (kd == NameKind.free && true && N.lookup m == some .cell) = true
      · simp only [hc, if_true]
      · simp only [hc]; rfl
    rw [e1, List.lookup_cons, List.lookup_cons]
    cases hb : n == m with
    | true => have := beq_iff_eq.mp hb; subst this; rfl
    | false => exact ih

section
variable {X : GX} {C : Nat → List V → Option V} {F : Frm} {A : Around} {k : Nat} {N : Names} {ρ ρ₁ : List Addr} {vars vars' : Vars} {own own' own₁ : Own} {s : Shared} {Q : Value → Shared → Prop} {v w r : V} {x y : Value} {h h' h₁ : Heap} {t₁ : Nat}

theorem getV_del (i : Nat) (ts : List Nat) : ∀ vars : Vars, getV i (vars.filter fun p => !(ts.contains p.1)) = if i ∈ ts then none else getV i vars
  | [] => by
    show (none : Option V) = _
    split <;> rfl
  | (y, u) :: r => by
    have ih := getV_del i ts r
    rw [List.filter_cons]
    by_cases h : y ∈ ts
    · have e : (!(ts.contains y)) = false := by simp [h]
      simp only [e, Bool.false_eq_true, if_false, ih, getV]
      by_cases h2 : i = y
      · subst h2; simp [h]
      · simp [h2]
    · have e : (!(ts.contains y)) = true := by simp [h]
      simp only [e, if_true, getV, ih]
      by_cases h2 : i = y
      · subst h2; simp [h]
      · simp [h2]

theorem wk_ns {L : Addr} {m : Str → Option Value} (n : h.Ns L m) : ∃ o, h.get? L = some o ∧ Wk o ∧ ∀ v, o.data ≠ .cell v := by
  obtain ⟨o, es, ep, e, d⟩ := Ns.dict n
  exact ⟨o, e, .inl ⟨es, ep, d⟩, fun v => by rw [d]; simp⟩
theorem Gr.wider {T W W' ρ ρ' : List Addr} (G : Gr T W ρ ρ' h h') (hw : ∀ b ∈ W, b ∈ W') : Gr T W' ρ ρ' h h' := ⟨fun b o e h1 h2 h3 => G.keep b o e h1 (fun q => h2 (hw b q)) h3, G.alive, G.ext⟩
theorem Rep.L_T (R : Rep X F ρ vars own h) : F.env.locals ∉ X.T := fun hm => by
  obtain ⟨m, hn⟩ := R.ns
  obtain ⟨q, hq, e⟩ := List.mem_map.mp hm
  obtain ⟨oL, es, ep, eL, dL⟩ := Ns.dict hn
  rcases (R.hb.ti q hq).2 with h1 | ⟨c', h1, _⟩ <;> (rw [e, eL] at h1; cases h1; cases dL)
theorem Rep.wk_ne (R : Rep X F ρ vars own h) {I : Addr} {o : Obj} (e : h.get? I = some o) (hw : Wk o) : I ∉ ρ ∧ I ∉ X.T := by
  refine ⟨fun hm => ?_, fun hm => ?_⟩
  · obtain ⟨xs, n, e'⟩ := R.own.lists I hm
    rw [e] at e'; cases e'; exact hw.seq _ _ rfl
  · obtain ⟨q, hq, rfl⟩ := List.mem_map.mp hm
    rcases (R.hb.ti q hq).2 with h1 | ⟨c', h1, _⟩ <;> (rw [e] at h1; cases h1; exact tab_nwk hw)
theorem ItSt.keep (R : Rep X F ρ vars own h) {I : Addr} {j : Nat} (t : ItSt h F.h₀ ρ v I j) {ρ' : List Addr} (G : Gr X.T F.W ρ ρ' h h') (hI : I ∉ F.W) : ItSt h' F.h₀ ρ' v I j := by
  obtain ⟨o, e, hi⟩ := t.itr
  obtain ⟨n1, n2⟩ := R.wk_ne e hi.wk
  exact t.at (fun o e => G.keep I o e n1 hI n2) fun x r => r.gr G R.apart

/-- a place that was free at h: no frame's, no base heap's -/
structure New (X : GX) (F : Frm) (b : Addr) : Prop where
  W : b ∉ F.W
  h0 : F.h₀.get? b = none
  hb : X.hb.get? b = none
theorem Rep.free (R : Rep X F ρ vars own h) {b : Addr} (n : h.get? b = none) : New X F b where
  W := fun hm => by
    obtain ⟨⟨o', e', _⟩, _⟩ := R.w _ hm
    rw [n] at e'; cases e'
  h0 := fresh_of R.al n
  hb := by
    cases q : X.hb.get? b with
    | none => rfl
    | some o' => have := R.hb.old b o' q; rw [n] at this; cases this
theorem New.L {b : Addr} (n : New X F b) (K : FOk X F) : b ≠ F.env.locals := fun q => n.W (q ▸ K.loc)
theorem ne_of_get {b c : Addr} {o : Obj} (e : h.get? b = some o) (n : h.get? c = none) : b ≠ c := fun q => by rw [q, n] at e; cases e
/-- what was free at the start may turn or go -/
theorem Gr.but {T W : List Addr} {ρ' : List Addr} {c : Addr} {h'' : Heap} (G : Gr T W ρ ρ' h h') (n : h.get? c = none) (k : ∀ b o, b ≠ c → h'.get? b = some o → h''.get? b = some o) : Gr T W ρ ρ' h h'' :=
  ⟨fun b o e h1 h2 h3 => k b o (ne_of_get e n) (G.keep b o e h1 h2 h3), fun b e => by
    obtain ⟨o0, e0⟩ := Option.isSome_iff_exists.mp e
    obtain ⟨o, e2⟩ := Option.isSome_iff_exists.mp (G.alive b e)
    rw [k b o (ne_of_get e0 n) e2]; rfl, G.ext⟩

/-- a comprehension's scope: what is known of it -/
structure CS (N : Names) (ts : List Str) (sc : Scope) : Prop where
  kind : sc.kind = .function
  tl : ∀ t ∈ ts, sc.names.lookup t = some .local
  cell : ∀ p ∈ sc.names, p.2 ≠ .cell
  loc : ∀ p ∈ sc.names, p.2 = .local → sc.names.lookup p.1 = some .local ∧ (p.1 ∈ ts ∨ p.1 = (".0" : Str))
  free : ∀ n, (n, NameKind.free) ∈ sc.names → N.lookup n = some .cell
theorem compScope_ok {N : Names} {ts : List Str} {sc : Scope} (h : compScope N ts sc = true) : CS N ts sc := by
  have h := and_true h
  have h1 := and_true h.1
  have h3 := fun p hp => and_true (List.all_eq_true.mp h.2 p hp)
  have h4 := fun p hp => and_true (h3 p hp).1
  refine ⟨beq_iff_eq.mp h1.1, fun t ht => beq_iff_eq.mp (List.all_eq_true.mp h1.2 t ht), fun p hp q => ?_, fun p hp hl => ?_, fun n hn => ?_⟩
  · have := not_true (h4 p hp).1
    rw [q] at this; cases this
  · have := (h4 p hp).2
    rw [hl] at this
    have := and_true this
    exact ⟨beq_iff_eq.mp this.1, (Bool.or_eq_true_iff.mp this.2).elim (fun q => .inl (List.contains_iff_mem.mp q)) fun q => .inr (beq_iff_eq.mp q)⟩
  · exact beq_iff_eq.mp (h3 _ hn).2
theorem CS.at {ts : List Str} {n : Str} {sc : Scope} (S : CS N ts sc) {kd : NameKind} (e : (relN N sc.names).lookup n = some kd) {P : Prop} (k1 : kd = .cell → (n, NameKind.free) ∈ sc.names → N.lookup n = some .cell → P) (k2 : kd = .local → n ∈ ts ∨ n = (".0" : Str) → P) (k3 : kd ≠ .cell → kd ≠ .local → kd ≠ .free → P) : P := by
  rw [relN_lookup] at e
  cases q : sc.names.lookup n with
  | none => rw [q] at e; cases e
  | some kd₀ =>
    have hmem := mem_of_lookup q
    rw [q] at e
    cases kd₀ with
    | free =>
      have hf := S.free n hmem
      rw [hf] at e; cases e
      exact k1 rfl hmem hf
    | cell => exact absurd rfl (S.cell _ hmem)
    | «local» => cases e; exact k2 rfl (S.loc _ hmem rfl).2
    | globalImplicit => cases e; exact k3 (by simp) (by simp) (by simp)
    | globalExplicit => cases e; exact k3 (by simp) (by simp) (by simp)

/-- the comprehension's own frame -/
noncomputable def cFrm (F : Frm) (sc : Scope) (L : Addr) : Frm := { env := compEnvC sc (closL F.env.cells sc.names []) L F.env, h₀ := F.h₀, W := [L] }
theorem cFrm_names (K : Ctx X C F A k N) (sc : Scope) (L : Addr) : (cFrm F sc L).env.scope.names = relN N sc.names := by
  show (relabel sc F.env).names = _
  unfold relabel relN Env.kindOf
  rw [K.Z.K.kind, K.N]; rfl
theorem cFrm_ctx (K : Ctx X C F A k N) {ts : List Str} {sc : Scope} (S : CS N ts sc) (L : Addr) : Ctx X C (cFrm F sc L) A k (relN N sc.names) :=
  ⟨⟨⟨S.kind, K.Z.K.glob, K.Z.K.blt, .head _⟩, K.Z.O, K.Z.T, K.Z.R⟩, cFrm_names K sc L, K.calls⟩
theorem comp_rep (K : Ctx X C F A k N) {ts : List Nat} {sc : Scope} (S : CS N (ts.map X.nm) sc) (R : Rep X F ρ vars own h) {L : Addr} {m : Str → Option Value} (hm : h.Ns L m) (hb : X.hb.get? L = none) : Rep X (cFrm F sc L) ρ (vars.filter fun p => !(ts.contains p.1)) own h := by
  have kF := kindN (cFrm_names K sc L)
  refine ⟨R.hb, R.al, fun b hbW => ?_, R.t, R.base, ⟨m, hm, fun i u e hse => ?_⟩, R.own, fun n hn => ?_⟩
  · cases List.mem_singleton.mp hbW
    obtain ⟨o', e', hw, _⟩ := wk_ns hm
    exact ⟨⟨o', e', hw⟩, hb⟩
  · rw [getV_del] at e
    by_cases hit : i ∈ ts
    · rw [if_pos hit] at e; cases e
    rw [if_neg hit] at e
    have key : (cFrm F sc L).env.kindOf (X.nm i) = some .cell → ∃ x, VarAt (cFrm F sc L) h m (X.nm i) x ∧ VR h F.h₀ ρ u x := fun q => by
      refine S.at ((kF _).symm.trans q) (fun _ hmem hc => ?_) (fun z => nomatch z) fun z => absurd rfl z
      obtain ⟨m', hm', f⟩ := R.fr
      have hkF : F.env.kindOf (X.nm i) = some .cell := by rw [kindN K.N]; exact hc
      obtain ⟨x', hx, hr⟩ := f i u e (.inr (.inl hkF))
      refine ⟨x', .inr ⟨.inl q, ?_⟩, hr⟩
      rcases hx with ⟨q, _⟩ | ⟨_, c, hc', hx⟩
      · rw [hkF] at q; cases q
      · exact ⟨c, clos_lookup hc' hmem, hx⟩
    rcases hse with q | q | q
    · exact S.at ((kF _).symm.trans q) (fun z => nomatch z) (fun _ z => z.elim (fun z => (List.mem_map.mp z).elim fun j q => absurd (K.Z.O.inj _ _ q.2 ▸ q.1) hit) fun z => absurd z (K.Z.O.dot0 _)) fun _ z => absurd rfl z
    · exact key q
    · exact S.at ((kF _).symm.trans q) (fun z => nomatch z) (fun z => nomatch z) fun _ _ z => absurd rfl z
  · refine S.at ((kF _).symm.trans hn) (fun _ hmem hc => ?_) (fun z => nomatch z) fun z => absurd rfl z
    obtain ⟨c, u, hc, hx⟩ := R.cells n (by rw [kindN K.N]; exact hc)
    exact ⟨c, u, clos_lookup hc hmem, hx⟩

theorem mem1 {b c : Addr} (l : List Addr) (h : b ∈ [c]) : b ∈ c :: l := by cases List.mem_singleton.mp h; exact .head _

theorem setVs_two {a b : Nat} {vs : List V} (e : setVs [a, b] vs vars = some vars') {P : Prop} (k : ∀ u w, vs = [u, w] → setV b w (setV a u vars) = vars' → P) : P := by
  cases vs with
  | nil => cases e
  | cons u r => cases r with
    | nil => cases e
    | cons w r => cases r with
      | nil => exact k u w rfl (Option.some.inj e)
      | cons _ _ => cases e
theorem tsOk_is {ts : List Nat} (h : tsOk ts = true) : (∃ t, ts = [t]) ∨ ∃ t u, ts = [t, u] := (Bool.or_eq_true_iff.mp h).elim
  (fun h => .inl ((Option.isSome_iff_exists.mp h).elim fun t e => ⟨t, only_is e⟩)) fun h => .inr ((Option.isSome_iff_exists.mp h).elim fun p e => ⟨p.1, p.2, two_is e⟩)
theorem getV_setc {v1 v2 : Vars} {t : Nat} {u : V} {ts : List Nat} (e : ∀ i, i ∉ t :: ts → getV i v1 = getV i v2) : ∀ i, i ∉ ts → getV i (setV t u v1) = getV i (setV t u v2) := fun i hi => by
  rw [getV_set, getV_set]
  by_cases h : i = t
  · rw [if_pos h, if_pos h]
  · rw [if_neg h, if_neg h]
    exact e i fun q => (List.mem_cons.mp q).elim h hi
/-- the targets bound, whatever the names ahead -/
theorem bindT_to {ts : List Nat} {u : V} {v1 v2 w2 : Vars} (ht : tsOk ts = true) (h : ∀ i, i ∉ ts → getV i v1 = getV i v2) (e : bindT ts u v2 = some w2) {P : Prop} (k : ∀ w1, bindT ts u v1 = some w1 → (∀ i, getV i w1 = getV i w2) → (∀ i, i ∉ ts → getV i w2 = getV i v2) → P) : P := by
  have nset : ∀ {i t : Nat} {x : V} {vs : Vars}, i ≠ t → getV i (setV t x vs) = getV i vs := fun hi => by rw [getV_set, if_neg hi]
  rcases tsOk_is ht with ⟨t, rfl⟩ | ⟨t, t', rfl⟩
  · cases e
    exact k _ rfl (fun i => getV_setc h i List.not_mem_nil) fun i hi => nset fun q => hi (q ▸ .head _)
  · cases u with
    | tup vs =>
      refine setVs_two e fun a b hv e2 => ?_
      clear e
      subst hv; subst e2
      exact k _ rfl (fun i => getV_setc (getV_setc h) i List.not_mem_nil) fun i hi => (nset (i := i) (t := t') fun q => hi (q ▸ .tail _ (.head _))).trans (nset (i := i) (t := t) fun q => hi (q ▸ .head _))
    | _ => cases e
/-- the two parts of a pair -/
theorem pair_at {u w : V} {h₀ : Heap} {xs : List Value} (r : VRs h h₀ ρ [u, w] xs) {P : List Value → Prop} (k : ∀ y z, VR h h₀ ρ u y → VR h h₀ ρ w z → P [y, z]) : P xs :=
  r.consE fun y _ ry r => r.consE (P := fun l => P (y :: l)) fun z _ rz r => r.nilE (P := fun l => P (y :: z :: l)) (k y z ry rz)
/-- an item is bound to the targets, all of them the frame's own names -/
theorem tgt_sound {ts : List Nat} {u : V} {d : Expr} {I : Addr} {j : Nat} {P : Unit → Shared → Prop} (Z : Fx X F A k) (hts : tsOk ts = true) (hkl : ∀ t ∈ ts, F.env.kindOf (X.nm t) = some .local) (R : Rep X F ρ vars own s.heap) (ht : 0 < s.toks) (it : ItSt s.heap F.h₀ ρ v I (j + 1)) (hu : iterAt own v j = some (some u))
    (ry : VR s.heap F.h₀ ρ u y) (e : bindT ts u vars = some vars') (H : ∀ h' t', 0 < t' → Gr X.T F.W ρ ρ s.heap h' → Rep X F ρ vars' own h' → P () { s with heap := h', toks := t' }) :
    wpAny (model X.prog X.w) A (letOwnedTupleGo (tgtE X.nm ts d) (.ref I) y) (fun _ s₀ => wpAny (model X.prog X.w) A (assign (tgtE X.nm ts d) F.env y) P E0 s₀) E0 s := by
  rcases tsOk_is hts with ⟨t, rfl⟩ | ⟨t, t', rfl⟩
  · cases e
    refine wpAny_pure ?_
    obtain ⟨m, hm⟩ := R.ns
    refine wpAny_assign_Name (wpAny_storeName_local (hkl t (.head _)) hm (fun h₃ hns hs => ?_) (by rw [Z.K.kind]; rfl))
    obtain ⟨G, R'⟩ := R.store (u := u) Z (hkl t (.head _)) hm hns (fun b o hb e => hs.extBut b o hb e) ry
    exact H h₃ _ (Nat.succ_pos _) G R'
  · cases u with
    | tup vs =>
      refine setVs_two e fun a b hv e2 => ?_
      clear e
      subst hv; subst e2
      revert ry
      intro ry
      apply ry.tupE; intro T ys n ho hv
      have hsz : ys.size = 2 := arr_size hv
      have go : wpAny (model X.prog X.w) A (assign (tgtE X.nm [t, t'] d) F.env (.ref T)) P E0 s := by
        show wpAny _ _ (assign (.Tuple [.Name (X.nm t) _, .Name (X.nm t') _] _ _) _ _) _ _ _
        rw [PyProof.Rows.assign_Tuple]
        refine wpAny_bind (wpAny_standAt ?_)
        refine wpAny_unpack_tuple Z.R.handled ⟨_, ho, rfl, n, rfl⟩ (by rw [hsz]; rfl) rfl fun h2 he2 => ?_
        obtain ⟨G2, R2⟩ := R.xl Z.K Z.T (XL.of_ext fun b o e => he2 b o (Nat.ne_of_lt (Heap.lt_size e)) e)
        have hv2 := hv.gr G2 R.apart
        generalize ys.toList = l at hv2 ⊢
        refine pair_at hv2 (P := fun l => wpAny (model X.prog X.w) A (assignInOrder _ l) _ E0 _) fun y z ry rz => ?_
        obtain ⟨m, hm⟩ := R2.ns
        refine wpAny_bind (wpAny_holding (wpAny_assign_Name (wpAny_storeName_local (hkl t (.head _)) hm (fun h₃ hns hs => ?_) (by rw [Z.K.kind]; rfl))))
        obtain ⟨G3, R3⟩ := R2.store (u := a) Z (hkl t (.head _)) hm hns (fun b o hb e => hs.extBut b o hb e) ry
        obtain ⟨m3, hm3⟩ := R3.ns
        refine wpAny_bind (wpAny_holding (wpAny_assign_Name (wpAny_storeName_local (hkl t' (.tail _ (.head _))) hm3 (fun h₄ hns hs => ?_) (by rw [Z.K.kind]; rfl))))
        obtain ⟨G4, R4⟩ := R3.store (u := b) Z (hkl t' (.tail _ (.head _))) hm3 hns (fun b o hb e => hs.extBut b o hb e) (rz.gr G3 R2.apart)
        exact wpAny_pure (H h₄ _ (Nat.succ_pos _) ((G2.trans G3).trans G4) R4)
      cases it with
      | lst a n n' hit rx => exact wpAny_letOwnedTupleGo_listiter hit go
      | rng p hp _ =>
        refine iter_of hu (fun p' hp' e => if_of e fun _ e => ?_) (fun l n hl _ => ne_of_none n hp) fun vs n n' hi _ => ne_of_none n hp
        revert e
        split
        · exact fun e => nomatch e
        · exact fun e => nomatch e
      | str l ty t n hl hty _ =>
        refine iter_of hu (fun p' hp' e => ne_of_none n hp') (fun l' n hl' e => ?_) fun vs n n' hi _ => ne_of_none n' hl
        cases q : l'[j]? with
        | none => rw [q] at e; cases e
        | some c => rw [q] at e; cases e
    | _ => cases e

/-- between two turns of a comprehension -/
inductive CI (X : GX) (C : Nat → List V → Option V) (F : Frm) (ts : List Nat) (elt : E) (v : V) (I : Addr) (acc : Nat) (ownF : Own) (vars : Vars) (ρ : List Addr) (h : Heap) (s : Shared) (n : Nat) : Shared → Prop where
  | mk (ρ' : List Addr) (h' : Heap) (t' : Nat) (own' : Own) (vs' : Vars) (j : Nat) (ht : 0 < t') (G : Gr X.T [F.env.locals, I] ρ ρ' h h') (R : Rep X F ρ' vs' own' h') (hv : ∀ i, i ∉ ts → getV i vs' = getV i vars) (it : ItSt h' F.h₀ ρ' v I j)
      (eq : compLoop acc v (cturn C X.TK ts elt vars) n j own' = some ownF) : CI X C F ts elt v I acc ownF vars ρ h s n { s with heap := h', toks := t' }

theorem comp_turn {ts : List Nat} {elt : E} {y d : Expr} {I D : Addr} {acc : Nat} {s' : Shared} {n : Nat} {P : Shared → Prop} {E1 E2 E3 E4 E5 : Value → Shared → Prop}
    (pe : PV X C elt N y) (K : Ctx X C F A k N) (hts : tsOk ts = true) (hkl : ∀ t ∈ ts, F.env.kindOf (X.nm t) = some .local) (hW : F.W = [F.env.locals]) (nI : New X F I) (hD : ρ[acc]? = some D) (hLD : F.env.locals ≠ D)
    (ci : CI X C F ts elt v I acc own' vars ρ h s n s')
    (done : ∀ ρ' h' vs' h'' t', 0 < t' → Gr X.T [F.env.locals, I] ρ ρ' h h' → (∀ b o, b ≠ I → h'.get? b = some o → h''.get? b = some o) → Rep X F ρ' vs' own' h'' → P { s with heap := h'', toks := t' }) :
    wpAny (model X.prog X.w) A (pyNext (.ref I)) (fun r s₁ => match r with
      | none => P s₁
      | some z => wpAny (model X.prog X.w) A (letOwnedTupleGo (tgtE X.nm ts d) (.ref I) z) (fun _ s₀ => wpAny (model X.prog X.w) A (assign (tgtE X.nm ts d) F.env z) (fun _ s₂ =>
            wpAny (model X.prog X.w) A (eval y F.env) (fun x s₄ =>
              wpAny (model X.prog X.w) A (call (.builtin "list.append") [.ref D, x]) (fun _ s₅ => ∃ m, m < n ∧ CI X C F ts elt v I acc own' vars ρ h s m s₅) E4 s₄) E3 s₂) E2 s₀) E1 s₁) E5 s' := by
  cases ci with
  | mk ρ' h' t' own' vs' j ht G R hvs it eq =>
  cases n with
  | zero => cases eq
  | succ f =>
    obtain ⟨oI, eI, hi⟩ := it.itr
    have wl : ∀ {ρa ρb : List Addr} {ha hb : Heap}, Gr X.T F.W ρa ρb ha hb → Gr X.T [F.env.locals, I] ρa ρb ha hb := fun g => g.wider fun b hb => by rw [hW] at hb; exact mem1 _ hb
    refine bind_of eq fun u hu eq => elim_of eq (fun hn eq => ?_) fun u hn eq => ?_
    · subst hn; cases eq
      exact iter_end (s := { s with heap := h', toks := t' }) K.Z.R.handled R it hu fun h'' hk => done ρ' h' vs' h'' t' ht G hk (R.but eI hi.wk hi.nc (nI.L K.Z.K) nI.hb nI.h0 (fun hm => absurd hm nI.W) hk)
    · subst hn
      refine bind_of eq fun p hturn eq => bind_of hturn fun w2 hb helt => bindT_to hts hvs hb fun w1 hb1 hw12 hw2 => ?_
      refine iter_item (s := { s with heap := h', toks := t' }) R ht it hu fun yv h₂ t₂ ht₂ ry hk it2 => ?_
      have R2 := R.but eI hi.wk hi.nc (nI.L K.Z.K) nI.hb nI.h0 (fun hm => absurd hm nI.W) hk
      obtain ⟨o2, e2, _⟩ := it2.itr
      have G2 : Gr X.T [F.env.locals, I] ρ' ρ' h' h₂ := ⟨fun b o e _ hb _ => hk b o (fun q => hb (q ▸ .tail _ (.head _))) e, fun b e => by
        obtain ⟨o, e⟩ := Option.isSome_iff_exists.mp e
        by_cases q : b = I
        · rw [q, e2]; rfl
        · rw [hk b o q e]; rfl, [], (List.append_nil _).symm, fun _ h => nomatch h⟩
      refine wpAny_mono (tgt_sound (s := { s with heap := h₂, toks := t₂ }) K.Z hts hkl R2 ht₂ it2 hu ry hb1 (P := fun _ s₂ => wpAny (model X.prog X.w) A (eval y F.env) (fun x s₄ =>
              wpAny (model X.prog X.w) A (call (.builtin "list.append") [.ref D, x]) (fun _ s₅ => ∃ m, m < f + 1 ∧ CI X C F ts elt v I acc _ vars ρ h s m s₅) E4 s₄) E3 s₂) fun h₃ t₃ ht₃ G3 R3 => ?_) (fun _ _ q => wpAny_mono q (fun _ _ x => x) fun _ _ f => f.elim) fun _ _ f => f.elim
      have it3 : ItSt h₃ F.h₀ ρ' v I (j + 1) := ItSt.keep R2 it2 G3 nI.W
      have Rc : Rep X F ρ' w2 own' h₃ := R3.congr fun i => (hw12 i).symm
      have G4 := (G.trans G2).trans (wl G3)
      refine bind_of eq fun ys hys eq => if_of eq fun hlen eq => wpAny_mono (pe F A k ρ' w2 own' p.2 { s with heap := h₃, toks := t₃ } _ p.1 K helt Rc ht₃ fun xv ρ6 h6 t6 ht6 G7 R6 rxv => ?_) (fun _ _ x => x) fun _ _ f => f.elim
      obtain ⟨a, xs, hra, hpl, hvxs⟩ := R6.own.at' _ ys hys
      have hρ6 := G7.idx (G4.idx hD)
      rw [hra] at hρ6; cases hρ6
      refine wpAny_list_append_plain hpl (fun h7 hp7 hs7 => ?_) (arr_le hvxs hlen (by decide))
      obtain ⟨G8, R7⟩ := R6.upd (vs' := ys ++ [p.1]) K.Z hra (fun b o h1 _ e => hs7.extBut b o h1 e) (fun m n => n.extBut hs7.extBut hLD) hp7 (by simpa using hvxs.append (VRs.one rxv))
      exact ⟨f, Nat.lt_succ_self f, .mk ρ6 h7 t6 _ w2 (j + 1) ht6 ((G4.trans (wl G7)).trans (wl G8)) R7 hw2 (ItSt.keep R6 (ItSt.keep Rc it3 G7 nI.W) G8 nI.W) eq⟩

/-- what a comprehension leaves: the frame as it was but for its lists; L: the comprehension's own names, not yet gone -/
inductive CompEnd (X : GX) (F : Frm) (vars : Vars) (own' : Own) (acc : Nat) (ρ : List Addr) (s : Shared) (D L : Addr) : Shared → Prop where
  | mk (ρ' : List Addr) (h' : Heap) (t' : Nat) (m : Str → Option Value) (ht : 0 < t') (hm : h'.Ns L m) (G : Gr X.T F.W ρ ρ' s.heap h') (R : Rep X F ρ' vars own' h') (hD : ρ'[acc]? = some D) (n : s.heap.get? L = none) : CompEnd X F vars own' acc ρ s D L { s with heap := h', toks := t' }

theorem comp_gone (Z : FOk X F) (R : Rep X F ρ vars own h) {L : Addr} (n : h.get? L = none) {ρ' : List Addr} {m : Str → Option Value} (G : Gr X.T F.W ρ ρ' h h') (R' : Rep X F ρ' vars' own' h') (hm : h'.Ns L m) (k : ∀ b o, b ≠ L → h'.get? b = some o → h₁.get? b = some o) :
    Gr X.T F.W ρ ρ' h h₁ ∧ Rep X F ρ' vars' own' h₁ := by
  have f := R.free n
  obtain ⟨o, e', hw, hnc⟩ := wk_ns hm
  exact ⟨G.but n k, R'.but e' hw hnc (f.L Z) f.hb f.h0 (fun q => absurd q f.W) k⟩

theorem comp_close (Z : FOk X F) (hT : ∀ b ∈ X.T, X.hb.get? b = none) {L I D : Addr} {F' : Frm} (h0 : F'.h₀ = F.h₀) {ρ' : List Addr} {h₄ h'' : Heap} {vs' : Vars} (R : Rep X F ρ vars own h) (nD : h.get? D = none) (nL : h.get? L = none) (nI : h.get? I = none) (k14 : ∀ b o, h.get? b = some o → h₄.get? b = some o)
    (G : Gr X.T [L, I] (ρ ++ [D]) ρ' h₄ h') (hk : ∀ b o, b ≠ I → h'.get? b = some o → h''.get? b = some o) (R' : Rep X F' ρ' vs' own' h'') : Gr X.T F.W ρ ρ' h h'' ∧ Rep X F ρ' vars own' h'' := by
  have keep : ∀ b o, h.get? b = some o → b ∉ ρ → b ∉ X.T → h''.get? b = some o := fun b o e h1 h3 => hk b o (ne_of_get e nI) (G.keep b o (k14 b o e) (fun q => (List.mem_append.mp q).elim h1 fun q => ne_of_get e nD (List.mem_singleton.mp q))
    (fun q => (List.mem_cons.mp q).elim (ne_of_get e nL) fun q => ne_of_get e nI (List.mem_singleton.mp q)) h3)
  obtain ⟨r', hr', hf'⟩ := G.ext
  refine R.step Z hT ⟨fun b o e h1 _ h3 => keep b o e h1 h3, fun m n => n.at' fun o e => keep _ o e (R.L_ρ Z) R.L_T, fun b e => ?_, fun _ => R'.hb.ti⟩ ⟨[D] ++ r', by rw [hr', List.append_assoc], fun a ha => ?_⟩ (by rw [← h0]; exact R'.own)
  · obtain ⟨o, e⟩ := Option.isSome_iff_exists.mp e
    obtain ⟨o', e'⟩ := Option.isSome_iff_exists.mp (G.alive b (by rw [k14 b o e]; rfl))
    rw [hk b o' (ne_of_get e nI) e']; rfl
  · rcases List.mem_append.mp ha with q | q
    · cases List.mem_singleton.mp q; exact nD
    · have := hf' a q
      cases q' : h.get? a with
      | none => rfl
      | some o' => rw [k14 a o' q'] at this; cases this

theorem iter_more {own₂ : Own} {j : Nat} {u : Option V} (e : iterAt (own ++ own₂) v j = some u) (rx : VR h h₁ ρ v x) (hl : ρ.length = own.length) : ∃ u, iterAt own v j = some u := by
  cases v with
  | ref n =>
    obtain ⟨a, _, e'⟩ := rx
    have hlt : n < own.length := by rw [← hl]; exact (List.getElem?_eq_some_iff.mp e').1
    exact bind_of e fun vs hv _ => ⟨_, show (own[n]?).bind _ = some (vs[j]?) by rw [← List.getElem?_append_left hlt (l₂ := own₂), show (own ++ own₂)[n]? = some vs from hv]; rfl⟩
  | _ => exact ⟨u, e⟩
theorem size_free {b : Addr} (hb : h.objs.size ≤ b) : h.get? b = none := by
  cases q : h.get? b with
  | none => rfl
  | some o' => exact absurd (Heap.lt_size q) (Nat.not_lt.mpr hb)

theorem comp_core {elt it : E} {ts : List Nat} {d : Expr} (pi : PE X C it) (pe : PE X C elt) (h : okE X.nm X.gi (.comp elt ts it) N d = true)
    (K : Ctx X C F A k N) (e : ev C X.TK (.comp elt ts it) vars own = some (r, own')) (R : Rep X F ρ vars own s.heap) (ht : 0 < s.toks) {use : Option (Value → Sem Unit)} {fp : Pos}
    (post : ∀ acc D L s', r = .ref acc → CompEnd X F vars own' acc ρ s D L s' → compPost (model X.prog X.w) A E0 use Q (.ref D) L (.ok .next) s') :
    wpAny (model X.prog X.w) A (comprehension (repE X.nm (.comp elt ts it) d) (scOf d) F.env fp (newList []) false (eval (repE X.nm it (kid d 2)) F.env) use) Q E0 s := by
  have h := and_true h
  have hs := and_true h.1
  have h2 := and_true h.2
  have S : CS N (ts.map X.nm) (scOf d) := compScope_ok hs.2
  have hkl : ∀ L, ∀ t ∈ ts, (cFrm F (scOf d) L).env.kindOf (X.nm t) = some .local := fun L t ht => by rw [kindN (cFrm_names K _ L), relN_lookup, S.tl _ (List.mem_map.mpr ⟨t, ht, rfl⟩)]; rfl
  have hfc : ∀ n, (n, NameKind.free) ∈ (scOf d).names → ∃ c, F.env.cells.lookup n = some c := fun n hn => by
    obtain ⟨c, v, hc, _⟩ := R.cells n (by rw [kindN K.N]; exact S.free n hn)
    exact ⟨c, hc⟩
  refine wpAny_comprehension_free (cl := closL F.env.cells (scOf d).names []) rfl ((repE_plain it _).set F.env) (clos_is hfc) S.kind (fun x hx hl => (S.loc x hx hl).1) ?_
  refine ev_comp_inv e fun v own₁ ownF e1 eL e2 => ?_
  clear e
  cases e2
  refine (pi N _ h2.1).1 F A k ρ vars own own₁ s _ v K e1 R ht fun x ρ₁ h₁ t₁ ht₁ G₁ R₁ rx => ?_
  obtain ⟨u1, hu1⟩ : ∃ u, iterAt own₁ v 0 = some u := by
    cases hf : iterFuel own₁ v with
    | zero => rw [hf] at eL; cases eL
    | succ f => rw [hf] at eL; exact bind_of eL fun u q _ => iter_more q rx R₁.own.len
  refine iter_start (s := { s with heap := h₁, toks := t₁ }) R₁ hu1 rx fun o hio hnf hit => ?_
  refine wpAny_newObj_type (wpAny_newFunctionEnv S.cell (by intro y hy; cases hy) (fun h₄ hns₄ hsb₄ => ?_) S.kind) (by show (#[] : Array Value).size ≤ sizeLine; rw [sizeLine_is]; simp)
  have up3 : ∀ b o', ((h₁.push o).push { cls := .type "list", dict := none, data := .seq ([] : List Value).toArray }).get? b = some o' → h₄.get? b = some o' := fun b o' e => hsb₄.extBut b o' (Nat.ne_of_lt (Heap.lt_size e)) (Heap.get?_push_of_some _ e)
  have keep14 : ∀ b o', h₁.get? b = some o' → h₄.get? b = some o' := fun b o' e => up3 b o' (Heap.get?_push_of_some _ (Heap.get?_push_of_some _ e))
  have eI4 : h₄.get? h₁.objs.size = some o := up3 _ o (Heap.get?_push_of_some _ (Heap.get?_push_size _ hnf))
  have eD4 : h₄.PlainList (h₁.push o).objs.size #[] := ⟨0, up3 _ _ (Heap.get?_push_size _ rfl)⟩
  have sD : (h₁.push o).objs.size = h₁.objs.size + 1 := Heap.size_push ..
  have sL : ((h₁.push o).push { cls := .type "list", dict := none, data := .seq ([] : List Value).toArray }).objs.size = h₁.objs.size + 1 + 1 := (Heap.size_push ..).trans (congrArg (· + 1) sD)
  dsimp only at hns₄ hsb₄ ⊢
  generalize ((h₁.push o).push { cls := .type "list", dict := none, data := .seq ([] : List Value).toArray }).objs.size = L at *
  generalize (h₁.push o).objs.size = D at *
  have nI : h₁.get? h₁.objs.size = none := size_none _
  have nD : h₁.get? D = none := size_free (by rw [sD]; exact Nat.le_succ _)
  have nL : h₁.get? L = none := size_free (by rw [sL]; exact Nat.le_succ_of_le (Nat.le_succ _))
  have hDL : L ≠ D := by rw [sL, sD]; exact Nat.succ_ne_self _
  have hIL : h₁.objs.size ≠ L := by rw [sL]; exact Nat.ne_of_lt (Nat.lt_succ_of_lt (Nat.lt_succ_self _))
  generalize h₁.objs.size = I at *
  obtain ⟨G14, R₄⟩ := R₁.new (vs := []) K.Z.K K.Z.T (XL.of_ext keep14) nD eD4 rfl
  have nI4 := R₁.free nI
  have it4 : ItSt h₄ F.h₀ (ρ₁ ++ [D]) v I 0 := hit h₄ _ eI4 fun z rz => rz.gr G14 R₁.apart
  have hD : (ρ₁ ++ [D])[own₁.length]? = some D := by rw [← R₁.own.len]; simp
  have hstart : ∀ tk, 0 < tk → codeAny (model X.prog X.w) A (.compLoop (repE X.nm (.comp elt ts it) d) 0 (.ref I) (.ref D) (cFrm F (scOf d) L).env) (compPost (model X.prog X.w) A E0 use Q (.ref D) L) { s with heap := h₄, toks := tk } := fun tk htk =>
    PySem.W.kcp_loop (CI X C (cFrm F (scOf d) L) ts elt v I own₁.length own' vars (ρ₁ ++ [D]) h₄ s) (fun n s' ci =>
      comp_turn (F := cFrm F (scOf d) L) (pe _ _ h2.2).1 (cFrm_ctx K S L) hs.1 (hkl L) rfl ⟨fun q => hIL (List.mem_singleton.mp q), nI4.h0, nI4.hb⟩ hD hDL ci fun ρ' h' vs' h'' t' ht' G' hk R' => by
        obtain ⟨Gf, Rf⟩ := comp_close K.Z.K K.Z.T (F' := cFrm F (scOf d) L) rfl R₁ nD nL nI keep14 G' hk R'
        obtain ⟨m'', hm''⟩ := R'.ns
        exact post _ D L _ rfl (.mk ρ' h'' t' m'' ht' hm'' (G₁.trans Gf) Rf (G'.idx hD) (fresh_of G₁.alive nL)))
      (iterFuel own₁ v) (.mk _ h₄ tk _ _ 0 htk (Gr.refl ..) (comp_rep K S R₄ hns₄ (R₁.free nL).hb) (fun i hi => by rw [getV_del, if_neg hi]) it4 eL)
  exact codeAny_compStart_list (hstart _ ht₁) (iter_self it4 (hstart _ ht₁))

theorem pe_comp {elt it : E} {ts : List Nat} (pi : PE X C it) (pe : PE X C elt) : PE X C (.comp elt ts it) := by
  intro N d h
  have hv : PV X C (.comp elt ts it) N (repE X.nm (.comp elt ts it) d) := fun F A k ρ vars own own' s Q r K e R ht H => by
    show wpAny _ _ (eval (.ListComp _ _ _ _) _) _ _ _
    rw [eval_ListComp]
    refine comp_core pi pe h K e R ht (use := none) fun acc D L s' hr ce => ?_
    cases hr
    cases ce with
    | mk ρ' h' t' m ht' hm G R' hD n =>
    refine ⟨m, hm, fun h'' hs'' => ?_⟩
    obtain ⟨G2, R2⟩ := comp_gone K.Z.K R n G R' hm fun b o hb e => hs''.extBut b o hb e
    exact H _ ρ' h'' t' ht' G2 R2 ⟨D, rfl, hD⟩
  exact ⟨hv, hv.of fun _ _ => rfl⟩
end
end Mine
end
section
set_option maxRecDepth 100000
set_option autoImplicit false
namespace Mine
open PySem PyProof.Rows

section
variable {X : GX} {C : Nat → List V → Option V}
mutual
theorem pe_all : ∀ e : E, PE X C e
  | .non => pe_non
  | .bool _ => pe_bool
  | .int _ => pe_int
  | .str _ => pe_str
  | .var _ => pe_var
  | .glob _ _ => pe_glob
  | .bin _ a b => pe_bin (pe_all a) (pe_all b)
  | .neg a => pe_neg (pe_all a)
  | .inv a => pe_inv (pe_all a)
  | .not a => pe_not (pe_all a)
  | .and es => pe_and (pes_all es)
  | .or es => pe_or (pes_all es)
  | .cmp _ a b => pe_cmp (pe_all a) (pe_all b)
  | .ite t a b => pe_ite (pe_all t) (pe_all a) (pe_all b)
  | .idx a i => pe_idx (pe_all a) (pe_all i)
  | .slice a l h => pe_slice (pe_all a) (pe_all l) (pe_all h)
  | .list es => pe_list (pes_all es)
  | .tup es => pe_tup (pes_all es)
  | .call _ as => pe_call (pes_all as)
  | .prim _ as => pe_prim (pes_all as)
  | .meth _ o as => pe_meth (pe_all o) (pes_all as)
  | .repl o _ _ => pe_repl (pe_all o)
  | .tok a => pe_tok (pe_all a)
  | .rev a => pe_rev (pe_all a)
  | .menu _ a => pe_menu (pe_all a)
  | .comp elt _ it => pe_comp (pe_all it) (pe_all elt)
theorem pes_all : ∀ es : Es, PEs X C es
  | .nil => pes_nil
  | .cons e es => pes_cons (pe_all e) (pes_all es)
end
end


noncomputable def kSt (N : Names) (n : Str) : Bool := match N.lookup n with
  | some .local => true | some .cell => true | _ => false
theorem kSt_is {N : Names} {n : Str} (h : kSt N n = true) : N.lookup n = some .local ∨ N.lookup n = some .cell := by
  unfold kSt at h
  cases q : N.lookup n with
  | none => rw [q] at h; cases h
  | some c => rw [q] at h; cases c <;> first | exact .inl rfl | exact .inr rfl | cases h
theorem kSt_loc {N : Names} {n : Str} (h : (N.lookup n == some NameKind.local) = true) : kSt N n = true := by unfold kSt; rw [beq_iff_eq.mp h]
/-- what a statement's tree is taken from -/
noncomputable def sk (d : Stmt) : List Expr := match d with
  | .Assign ts v _ => v :: ts
  | .AugAssign t _ v _ => [v, t]
  | .If t _ _ _ => [t]
  | .While t _ _ _ => [t]
  | .For t i _ _ _ => [i, t]
  | .Return v _ => v.toList
  | .Expr v _ => [v]
  | _ => []
noncomputable def sBody (d : Stmt) : List Stmt := match d with
  | .If _ a _ _ => a
  | .While _ a _ _ => a
  | .For _ _ a _ _ => a
  | .Try a _ _ _ _ => a
  | _ => []
noncomputable def sElse (d : Stmt) : List Stmt := match d with
  | .If _ _ b _ => b
  | _ => []
noncomputable def sHs (d : Stmt) : List ExceptHandler := match d with
  | .Try _ hs _ _ _ => hs
  | _ => []
noncomputable def k0 (d : Stmt) : Expr := (sk d).headD noPart
noncomputable def k1 (d : Stmt) : Expr := (sk d).tail.headD noPart
noncomputable def k2 (d : Stmt) : Expr := (sk d).tail.tail.headD noPart
noncomputable def noStmt : Stmt := .Pass ⟨0, 0, 0, 0⟩
/-- stores exchanged: the comprehension's value is bound before its names go -/
noncomputable def swB (N : Names) (n : Str) (np : Pos) (sc : Scope) (p : Pos) : Bool := N.lookup n == some .local && np.line == p.line && !(sc.names.any fun (m, k) => m == n && (k == .local || k == .cell))
noncomputable def swapOk (N : Names) (n m : Str) (np mp : Pos) (y z : Expr) : Bool :=
  (N.lookup n == some .local && N.lookup m == some .local) && ((np.line == mp.line && !(n == m)) && (!(foldedForSure 8 y && foldedForSure 8 z) && !(constantsAlone 8 y && constantsAlone 8 z)))
noncomputable def isAS : Bop → Bool
  | .add => true | .sub => true | _ => false
theorem isAS_is {o : Bop} (h : isAS o = true) : o = .add ∨ o = .sub := by cases o <;> first | exact .inl rfl | exact .inr rfl | cases h
/-- a call of a function, of a built-in or of a method, or an item -/
noncomputable def isUn : E → Bool
  | .call .. => true | .prim .. => true | .meth .. => true | .idx .. => true | _ => false
noncomputable def isCl : E → Bool
  | .call .. => true | .prim .. => true | .meth .. => true | _ => false
theorem un_a {nm : Nat → Str} {e : E} (h : isUn e = true) {d : Expr} {es : List Expr} {k : Nat} {tp : Pos} {l : Nat} {env : Env} : swapsWithSole [.Tuple es k tp] (repE nm e d) l env = pure false := by
  cases e <;> first | rfl | cases h
theorem un_b {nm : Nat → Str} {e : E} (h : isUn e = true) {d : Expr} {es : List Expr} {k : Nat} {tp : Pos} {env : Env} : swappedStores [.Tuple es k tp] (repE nm e d) env = pure none := by
  cases e <;> first | rfl | cases h
theorem isCl_is {nm : Nat → Str} {e : E} (h : isCl e = true) (d : Expr) : ∃ f as, repE nm e d = .Call f as [] d.pos := by
  cases e <;> first | exact ⟨_, _, rfl⟩ | cases h
mutual
noncomputable def repS (nm : Nat → Str) : S → Stmt → Stmt
  | .asg v e, d => .Assign [.Name (nm v) (k1 d).pos] (repE nm e (k0 d)) d.pos
  | .asg2 v w e, d => .Assign [.Name (nm v) (k1 d).pos, .Name (nm w) (k2 d).pos] (repE nm e (k0 d)) d.pos
  | .unp xs e, d => .Assign [.Tuple [.Name (tName nm xs) (kid (k1 d) 0).pos, .Name (nm (hd2 xs)) (kid (k1 d) 1).pos] (kOf (k1 d)) (k1 d).pos] (repE nm e (k0 d)) d.pos
  | .swp v w a b, d => .Assign [.Tuple [.Name (nm v) (kid (k1 d) 0).pos, .Name (nm w) (kid (k1 d) 1).pos] (kOf (k1 d)) (k1 d).pos] (repE nm (.tup (.cons a (.cons b .nil))) (k0 d)) d.pos
  | .seti o i e, d => .Assign [.Subscript (repE nm o (kid (k1 d) 0)) (repE nm i (kid (k1 d) 1)) (k1 d).pos] (repE nm e (k0 d)) d.pos
  | .aug v o e, d => .AugAssign (.Name (nm v) (k1 d).pos) (bopK o) (repE nm e (k0 d)) d.pos
  | .augi a i o e, d => .AugAssign (.Subscript (repE nm a (kid (k1 d) 0)) (repE nm i (kid (k1 d) 1)) (k1 d).pos) (bopK o) (repE nm e (k0 d)) d.pos
  | .ite t a b, d => .If (repE nm t (k0 d)) (repSs nm a (sBody d)) (repSs nm b (sElse d)) d.pos
  | .whl t b, d => .While (repE nm t (k0 d)) (repSs nm b (sBody d)) [] d.pos
  | .for ts it b, d => .For (.Name (tName nm ts) (k1 d).pos) (repE nm it (k0 d)) (repSs nm b (sBody d)) [] d.pos
  | .forrev v it b, d => .For (.Name (nm v) (k1 d).pos) (.Call (.Name "reversed" (kid (k0 d) 0).pos) [repE nm it (kid (k0 d) 1)] [] (k0 d).pos) (repSs nm b (sBody d)) [] d.pos
  | .ret e, d => .Return (optE (!(sk d).isEmpty) (repE nm e (k0 d))) d.pos
  | .exp e, d => .Expr (repE nm e (k0 d)) d.pos
  | .try b, d => .Try (repSs nm b (sBody d)) (sHs d) [] [] d.pos
noncomputable def repSs (nm : Nat → Str) : Ss → List Stmt → List Stmt
  | .nil, _ => []
  | .dead, ds => ds
  | .cons s ss, ds => repS nm s (ds.headD noStmt) :: repSs nm ss ds.tail
end
section
variable (nm : Nat → Str) (gi : Nat → Option Int)
mutual
noncomputable def okS : S → Names → Stmt → Bool
  | .asg v e, N, d => kSt N (nm v) && okE nm gi e N (k0 d)
  | .asg2 v w e, N, d => (kSt N (nm v) && kSt N (nm w)) && okE nm gi e N (k0 d)
  | .unp xs e, N, d => ((two xs).isSome && isUn e) && ((kSt N (tName nm xs) && kSt N (nm (hd2 xs))) && okE nm gi e N (k0 d))
  | .swp v w a b, N, d => swapOk N (nm v) (nm w) (kid (k1 d) 0).pos (kid (k1 d) 1).pos (repE nm a ((kids (k0 d)).headD noPart)) (repE nm b ((kids (k0 d)).tail.headD noPart)) && okE nm gi (.tup (.cons a (.cons b .nil))) N (k0 d)
  | .seti o i e, N, d => okE nm gi e N (k0 d) && (okE nm gi o N (kid (k1 d) 0) && okE nm gi i N (kid (k1 d) 1))
  | .aug v o e, N, d => (kSt N (nm v) && (notDbg (nm v) && isAS o)) && okE nm gi e N (k0 d)
  | .augi a i o e, N, d => isAS o && (okE nm gi e N (k0 d) && (okE nm gi a N (kid (k1 d) 0) && okE nm gi i N (kid (k1 d) 1)))
  | .ite t a b, N, d => okE nm gi t N (k0 d) && (okSs a N (sBody d) && okSs b N (sElse d))
  | .whl t b, N, d => okE nm gi t N (k0 d) && okSs b N (sBody d)
  | .for ts it b, N, d => ((only ts).isSome && kSt N (tName nm ts)) && (okE nm gi it N (k0 d) && okSs b N (sBody d))
  | .forrev v it b, N, d => (kSt N (nm v) && kGl N "reversed") && (okE nm gi it N (kid (k0 d) 1) && okSs b N (sBody d))
  | .ret e, N, d => (!(sk d).isEmpty || isNon e) && okE nm gi e N (k0 d)
  | .exp e, N, d => isCl e && okE nm gi e N (k0 d)
  | .try b, N, d => !(sHs d).isEmpty && okSs b N (sBody d)
noncomputable def okSs : Ss → Names → List Stmt → Bool
  | .nil, _, _ => true
  | .dead, _, _ => true
  | .cons s ss, N, ds => okS s N (ds.headD noStmt) && okSs ss N ds.tail
end
end

noncomputable def FlR (h h₀ : Heap) (ρ : List Addr) : Fl → Flow → Prop
  | .next, f => f = .next
  | .ret v, f => ∃ y, f = .ret y ∧ VR h h₀ ρ v y
noncomputable def OkS (X : GX) (F : Frm) (fl : Fl) (vars' : Vars) (own' : Own) (ρ : List Addr) (s : Shared) (Q : Flow → Shared → Prop) : Prop :=
  ∀ f ρ' h' t', 0 < t' → Gr X.T F.W ρ ρ' s.heap h' → Rep X F ρ' vars' own' h' → FlR h' F.h₀ ρ' fl f → Q f { s with heap := h', toks := t' }
structure CtxS (X : GX) (C : Nat → List V → Option V) (F : Frm) (A : Around) (k : Nat) (N : Names) : Prop extends Ctx X C F A k N where
  cw : ∀ n c, F.env.kindOf n = some .cell → F.env.cells.lookup n = some c → c ∈ F.W
  cp : F.env.cells.Pairwise fun x y => x.2 ≠ y.2

/-- a statement's tree does what the interpreter tells -/
noncomputable def PSt (X : GX) (C : Nat → List V → Option V) (N : Names) (f : Vars → Own → Option (Fl × Vars × Own)) (t : Env → Sem Flow) : Prop :=
  ∀ F A k ρ vars vars' own own' s Q fl, CtxS X C F A k N → f vars own = some (fl, vars', own') → Rep X F ρ vars own s.heap → 0 < s.toks → OkS X F fl vars' own' ρ s Q → wpAny (model X.prog X.w) A (t F.env) Q E0 s
noncomputable def PS (X : GX) (C : Nat → List V → Option V) (st : S) : Prop := ∀ N d, okS X.nm X.gi st N d = true → PSt X C N (ex C X.TK st) (exec (repS X.nm st d))
noncomputable def PSs (X : GX) (C : Nat → List V → Option V) (st : Ss) : Prop := ∀ N d, okSs X.nm X.gi st N d = true → PSt X C N (exs C X.TK st) (execs (repSs X.nm st d))

section
variable {X : GX} {C : Nat → List V → Option V} {F : Frm} {A : Around} {k : Nat} {N : Names} {ρ ρ₁ : List Addr} {vars vars' : Vars} {own own' own₁ : Own} {s : Shared} {Q : Flow → Shared → Prop} {v w r : V} {x y : Value} {h h' h₁ : Heap} {t₁ : Nat}

theorem OkS.after {fl : Fl} (H : OkS X F fl vars' own' ρ s Q) (G : Gr X.T F.W ρ ρ₁ s.heap h₁) : OkS X F fl vars' own' ρ₁ { s with heap := h₁, toks := t₁ } Q :=
  fun f ρ' h' t' ht G' R' rv => H f ρ' h' t' ht (G.trans G') R' rv
/-- the statement's last step -/
theorem OkS.next {v₁ : Vars} {o₁ : Own} {fl : Fl} (H : OkS X F fl vars' own' ρ s Q) (e : some (Fl.next, v₁, o₁) = some (fl, vars', own')) {ρ' : List Addr} (ht : 0 < t₁) (G : Gr X.T F.W ρ ρ' s.heap h') (R : Rep X F ρ' v₁ o₁ h') : Q .next { s with heap := h', toks := t₁ } := by
  cases e; exact H .next ρ' h' t₁ ht G R rfl

/-- a cell is written: what the names then mean -/
theorem Rep.storeG (K : CtxS X C F A k N) (R : Rep X F ρ vars own h) {t : Nat} {c : Addr} {v₀ : Option Value} (hk : F.env.kindOf (X.nm t) = some .cell) (hc : F.env.cells.lookup (X.nm t) = some c) (ho : h.IsCell c v₀)
    (hn : h'.IsCell c (some y)) (keep : ∀ b o, b ≠ c → h.get? b = some o → h'.get? b = some o) (hv : ∀ i v, getV i vars' = some v → (i = t ∧ VR h F.h₀ ρ v y) ∨ (i ≠ t ∧ getV i vars = some v)) :
    Gr X.T F.W ρ ρ h h' ∧ Rep X F ρ vars' own h' := by
  obtain ⟨oc, ec, dc⟩ := ho
  obtain ⟨oc', ec', dc'⟩ := hn
  have hw : Wk oc := .inr (.inl ⟨_, dc⟩)
  have hcW := K.cw _ _ hk hc
  obtain ⟨_, hbc⟩ := R.w _ hcW
  obtain ⟨m, hm, f⟩ := R.fr
  obtain ⟨oL, es, ep, eL, dL⟩ := Ns.dict hm
  have hLc : F.env.locals ≠ c := fun q => by rw [← q, eL] at ec; cases ec; rw [dL] at dc; cases dc
  refine ⟨⟨fun b o e _ hW _ => keep b o (fun q => hW (q ▸ hcW)) e, fun b e => ?_, [], (List.append_nil ρ).symm, fun _ h => nomatch h⟩, ?_⟩
  · obtain ⟨o, e⟩ := Option.isSome_iff_exists.mp e
    by_cases q : b = c
    · subst q; rw [ec']; rfl
    · rw [keep b o q e]; rfl
  · refine R.turn ec hw hbc (.inr (by rw [ec']; rfl)) (fun _ => ⟨oc', ec', .inr (.inl ⟨_, dc'⟩)⟩) keep ⟨m, hm.at' fun o e => keep _ o hLc e, fun i v e hs => ?_⟩ fun n hn => ?_
    · rcases hv i v e with ⟨hi, r⟩ | ⟨hi, e⟩
      · subst hi
        exact ⟨y, .inr ⟨.inl hk, c, hc, oc', ec', dc'⟩, tr_but ec hw keep r⟩
      · obtain ⟨x, hx, hr⟩ := f i v e hs
        refine ⟨x, hx.imp_right fun ⟨hk', c', hc', o', ho, hd⟩ => ⟨hk', c', hc', o', keep _ _ (fun z => ?_) ho, hd⟩, tr_but ec hw keep hr⟩
        subst z
        exact hi (K.Z.O.inj _ _ (name_of_addr K.cp (mem_of_lookup hc') (mem_of_lookup hc)))
    · obtain ⟨c', v, hc', o', ho, hd⟩ := R.cells n hn
      by_cases q : c' = c
      · subst q; exact ⟨c', _, hc', oc', ec', dc'⟩
      · exact ⟨c', v, hc', o', keep _ _ q ho, hd⟩
theorem Rep.storeC (K : CtxS X C F A k N) (R : Rep X F ρ vars own h) {t : Nat} {u : V} {c : Addr} {v₀ : Option Value} (hk : F.env.kindOf (X.nm t) = some .cell) (hc : F.env.cells.lookup (X.nm t) = some c) (ho : h.IsCell c v₀)
    (hn : h'.IsCell c (some y)) (keep : ∀ b o, b ≠ c → h.get? b = some o → h'.get? b = some o) (ry : VR h F.h₀ ρ u y) : Gr X.T F.W ρ ρ h h' ∧ Rep X F ρ (setV t u vars) own h' :=
  R.storeG K hk hc ho hn keep fun i v e => by
    rw [getV_set] at e
    by_cases hi : i = t
    · rw [if_pos hi] at e; cases e; exact .inl ⟨hi, ry⟩
    · rw [if_neg hi] at e; exact .inr ⟨hi, e⟩

/-- a name is bound -/
theorem store_sound (K : CtxS X C F A k N) (R : Rep X F ρ vars own s.heap) (ht : 0 < s.toks) {t : Nat} {u : V} (hk : kSt N (X.nm t) = true) (ry : VR s.heap F.h₀ ρ u y) {P : Unit → Shared → Prop}
    (H : ∀ h' t', 0 < t' → Gr X.T F.W ρ ρ s.heap h' → Rep X F ρ (setV t u vars) own h' → (∀ b o, b ∉ F.W → s.heap.get? b = some o → h'.get? b = some o) → P () { s with heap := h', toks := t' }) :
    wpAny (model X.prog X.w) A (storeName F.env (X.nm t) y) P E0 s := by
  have hk' := kSt_is hk
  rw [← kindN K.N] at hk'
  rcases hk' with hk' | hk'
  · obtain ⟨m, hm⟩ := R.ns
    refine wpAny_storeName_local hk' hm (fun h' hns hs => ?_) (by rw [K.Z.K.kind]; rfl)
    obtain ⟨G, R'⟩ := R.store (u := u) K.Z hk' hm hns (fun b o hb e => hs.extBut b o hb e) ry
    exact H h' _ (Nat.succ_pos _) G R' fun b o hb e => hs.extBut b o (fun q => hb (q ▸ K.Z.K.loc)) e
  · obtain ⟨c, v₀, hc, hx⟩ := R.cells _ hk'
    refine wpAny_storeName_cell K.Z.K.kind hk' hc hx fun h' hn hs => ?_
    obtain ⟨G, R'⟩ := R.storeC (u := u) K hk' hc hx hn (fun b o hb e => hs.extBut b o hb e) ry
    exact H h' _ ht G R' fun b o hb e => hs.extBut b o (fun q => hb (q ▸ K.cw _ _ hk' hc)) e

theorem or_comp (e : E) : (∃ elt ts it, e = .comp elt ts it) ∨ ∀ nm d t l env, swapsWith (repE nm e d) (some t) l env = pure false := by
  cases e <;> first | exact .inr fun _ _ _ _ _ => rfl | exact .inl ⟨_, _, _, rfl⟩
theorem sw_sub (e : E) (nm : Nat → Str) (d a i : Expr) (p : Pos) (l : Nat) (env : Env) : swapsWith (repE nm e d) (some (.Subscript a i p)) l env = pure false := by
  cases e <;> rfl
theorem sw_comp (K : CtxS X C F A k N) {n : Str} {np : Pos} {elt it : E} {ts : List Nat} {d : Expr} {l : Nat} : swapsWith (repE X.nm (.comp elt ts it) d) (some (.Name n np)) l F.env = pure (swB N n np (scOf d) d.pos) := by
  have hb : F.env.blockKind = .function := by unfold Env.blockKind; rw [K.Z.K.kind]; rfl
  show pure (F.env.blockKind == .function && F.env.kindOf n == some .local && _ && _) = _
  rw [hb, kindN K.N]; rfl
/-- a name is given what a tree tells -/
theorem asg_val {t : Nat} {e : E} {d : Expr} {np p : Pos} (K : CtxS X C F A k N) (hk : kSt N (X.nm t) = true) (h : okE X.nm X.gi e N d = true) {u : V} (e1 : ev C X.TK e vars own = some (u, own')) (R : Rep X F ρ vars own s.heap) (ht : 0 < s.toks) (H : OkS X F .next (setV t u vars) own' ρ s Q)
    (hsw : swapsWith (repE X.nm e d) (some (.Name (X.nm t) np)) p.line F.env = pure false) : wpAny (model X.prog X.w) A (exec (.Assign [.Name (X.nm t) np] (repE X.nm e d) p) F.env) Q E0 s :=
  wpAny_Assign_Name ((pe_all e N d h).1 F A k ρ vars own _ s _ u K.toCtx e1 R ht fun x ρ₁ h₁ t₁ ht₁ G₁ R₁ rx =>
    store_sound (s := { s with heap := h₁, toks := t₁ }) K R₁ ht₁ hk rx fun h' t' ht' G R' _ => H .next ρ₁ h' t' ht' (G₁.trans G) R' rfl) hsw
/-- a name is given a comprehension's list before the comprehension's names go -/
theorem asg_comp {t : Nat} {elt it : E} {ts : List Nat} {d : Expr} {np p : Pos} (K : CtxS X C F A k N) (hk : kSt N (X.nm t) = true) (h : okE X.nm X.gi (.comp elt ts it) N d = true) {u : V} (e1 : ev C X.TK (.comp elt ts it) vars own = some (u, own')) (R : Rep X F ρ vars own s.heap)
    (ht : 0 < s.toks) (H : OkS X F .next (setV t u vars) own' ρ s Q) (hsw : swapsWith (repE X.nm (.comp elt ts it) d) (some (.Name (X.nm t) np)) p.line F.env = pure true) :
    wpAny (model X.prog X.w) A (exec (.Assign [.Name (X.nm t) np] (repE X.nm (.comp elt ts it) d) p) F.env) Q E0 s := by
  rw [exec_Assign_Name_used _ _ _ _ hsw]
  refine wpAny_bind (wpAny_standAt (wpAny_bind ?_))
  show wpAny _ _ (do let _ ← comprehension _ _ _ _ _ _ _ _; pure ()) _ _ _
  refine wpAny_bind (comp_core (pe_all it) (pe_all elt) h K.toCtx e1 R ht (use := some _) (Q := fun _ s' => wpAny (model X.prog X.w) A (pure ()) (fun _ s'' => wpAny (model X.prog X.w) A (pure Flow.next) Q E0 s'') E0 s') fun acc D L s' hr ce => ?_)
  cases hr
  cases ce with
  | mk ρ' h' t' m ht' hm G R' hD n =>
  have hLW := (R.free n).W
  refine wpAny_assign_Name (store_sound (s := { s with heap := h', toks := t' }) (u := .ref acc) K R' ht' hk ⟨D, rfl, hD⟩ fun h2 t2 ht2 G2 R2 hk2 => ?_)
  have hm2 : h2.Ns L m := hm.at' fun o e => hk2 L o hLW e
  refine ⟨m, hm2, fun h3 hs3 => wpAny_pure (wpAny_pure ?_)⟩
  obtain ⟨G3, R3⟩ := comp_gone K.Z.K R n (G.trans G2) R2 hm2 fun b o hb e => hs3.extBut b o hb e
  exact H .next ρ' h3 t2 ht2 G3 R3 rfl
theorem ps_asg {t : Nat} {e : E} : PS X C (.asg t e) := by
  intro N d h F A k ρ vars vars' own own' s Q fl K he R ht H
  have h := and_true h
  refine bind_of he fun p e1 e2 => ?_
  cases e2
  rcases or_comp e with ⟨elt, ts, it, rfl⟩ | hn
  · have hs := sw_comp K (n := X.nm t) (np := (k1 d).pos) (elt := elt) (it := it) (ts := ts) (d := k0 d) (l := d.pos.line)
    cases hb : swB N (X.nm t) (k1 d).pos (scOf (k0 d)) (k0 d).pos with
    | false => rw [hb] at hs; exact asg_val K h.1 h.2 e1 R ht H hs
    | true => rw [hb] at hs; exact asg_comp K h.1 h.2 e1 R ht H hs
  · exact asg_val K h.1 h.2 e1 R ht H (hn ..)
end
end Mine
end
section
set_option maxRecDepth 100000
set_option autoImplicit false
namespace Mine
open PySem PyProof.Rows

section
variable {X : GX} {C : Nat → List V → Option V} {F : Frm} {A : Around} {k : Nat} {N : Names} {ρ ρ₁ : List Addr} {vars vars' : Vars} {own own' own₁ : Own} {s : Shared} {Q : Flow → Shared → Prop} {v w r : V} {x y : Value} {h h' h₁ : Heap} {t₁ : Nat}

theorem ps_asg2 {t t' : Nat} {e : E} : PS X C (.asg2 t t' e) := by
  intro N d h F A k ρ vars vars' own own' s Q fl K he R ht H
  have h := and_true h
  have hk := and_true h.1
  exact bind_of he fun p e1 e2 => wpAny_Assign_two ((pe_all e N _ h.2).1 F A k ρ vars own _ s _ p.1 K.toCtx e1 R ht fun x ρ₁ h₁ t₁ ht₁ G₁ R₁ rx =>
    wpAny_assign_Name (store_sound (s := { s with heap := h₁, toks := t₁ }) K R₁ ht₁ hk.1 rx fun h2 t2 ht2 G2 R2 _ =>
      wpAny_assign_Name (store_sound (s := { s with heap := h2, toks := t2 }) K R2 ht2 hk.2 (rx.gr G2 R₁.apart) fun h3 t3 ht3 G3 R3 _ => H.next e2 ht3 ((G₁.trans G2).trans G3) R3)))

theorem ite_t {p q : Prop} (h : p) : if true = true then p else q := by rw [if_pos rfl]; exact h
theorem ite_f {p q : Prop} (h : q) : if false = true then p else q := by rw [if_neg Bool.false_ne_true]; exact h
theorem ext_size {b : Addr} (he : Heap.ExtBut h.objs.size h h') : ∀ b o, h.get? b = some o → h'.get? b = some o := fun b o e => he b o (Nat.ne_of_lt (Heap.lt_size e)) e
/-- the names given the two parts of a pair, in either order -/
theorem two_stores (K : CtxS X C F A k N) (R : Rep X F ρ vars own s.heap) (ht : 0 < s.toks) {a b : Nat} {u w : V} {y z : Value} (ha : kSt N (X.nm a) = true) (hb : kSt N (X.nm b) = true) (ry : VR s.heap F.h₀ ρ u y) (rz : VR s.heap F.h₀ ρ w z) {P : Unit → Shared → Prop} {f g : Sem Unit}
    (hf : ∀ {Q : Unit → Shared → Prop} {s : Shared}, wpAny (model X.prog X.w) A (storeName F.env (X.nm a) y) Q E0 s → wpAny (model X.prog X.w) A f Q E0 s) (hg : ∀ {Q : Unit → Shared → Prop} {s : Shared}, wpAny (model X.prog X.w) A (storeName F.env (X.nm b) z) Q E0 s → wpAny (model X.prog X.w) A g Q E0 s)
    (H : ∀ h' t', 0 < t' → Gr X.T F.W ρ ρ s.heap h' → Rep X F ρ (setV b w (setV a u vars)) own h' → P () { s with heap := h', toks := t' }) : wpAny (model X.prog X.w) A (do f; g; pure ()) P E0 s :=
  wpAny_bind (hf (store_sound K R ht ha ry fun h1 t1 ht1 G1 R1 _ => wpAny_bind (hg (store_sound (s := { s with heap := h1, toks := t1 }) K R1 ht1 hb (rz.gr G1 R.apart) fun h2 t2 ht2 G2 R2 _ => wpAny_pure (H h2 t2 ht2 (G1.trans G2) R2)))))

theorem ps_unp {xs : List Nat} {e : E} : PS X C (.unp xs e) := by
  intro N d h F A k ρ vars vars' own own' s Q fl K he R ht H
  have h := and_true h
  have h1 := and_true h.1
  have h2 := and_true h.2
  have hk := and_true h2.1
  obtain ⟨p, hp⟩ := Option.isSome_iff_exists.mp h1.1
  cases two_is hp
  refine ex_unp_inv he fun u vs own₁ vars₂ e1 e2 hvs e3 => setVs_two hvs fun u1 w1 hv ev => ?_
  subst hv; subst ev
  cases tupOf_is e2
  refine Assign_Tuple ((pe_all e N _ h2.2).1 F A k ρ vars own _ s _ _ K.toCtx e1 R ht fun x ρ₁ h₁ t₁ ht₁ G₁ R₁ rx => ?_) (un_a h1.2) (un_b h1.2)
  rw [PyProof.Rows.assign_Tuple]
  refine wpAny_bind (wpAny_standAt ?_)
  apply rx.tupE; intro ta ys n ho hv
  have hsz : ys.size = 2 := arr_size hv
  refine wpAny_unpack_tuple (s := { s with heap := h₁, toks := t₁ }) K.Z.R.handled ⟨_, ho, rfl, n, rfl⟩ (by rw [hsz]; rfl) rfl fun h2 he2 => ?_
  obtain ⟨G2, R2⟩ := R₁.xl K.Z.K K.Z.T (XL.of_ext (ext_size (b := 0) he2))
  have hv2 := hv.gr G2 R₁.apart
  generalize ys.toList = l at hv2 ⊢
  refine pair_at hv2 (P := fun l => wpAny (model X.prog X.w) A (assignInOrder _ l) _ E0 _) fun y z ry rz => ?_
  exact two_stores (s := { s with heap := h2, toks := t₁ }) K R2 ht₁ hk.1 hk.2 ry rz (fun q => wpAny_holding (wpAny_assign_Name q)) (fun q => wpAny_holding (wpAny_assign_Name q)) fun h4 t4 ht4 G4 R4 => H.next e3 ht4 ((G₁.trans G2).trans G4) R4

theorem any_two {y z : Expr} {f : Expr → Bool} (h1 : f y = false) (h2 : f z = false) : ¬ [y, z].any f = true := fun q => by
  have q : (f y || (f z || false)) = true := q
  rw [h1, h2] at q; cases q
theorem map_two {y z : Expr} {f : Expr → Option Str} {n m : Str} (h1 : f y = some n) (h2 : f z = some m) : [y, z].filterMap f = [n, m] := by
  rw [List.filterMap_cons, h1, List.filterMap_cons, h2]; rfl
theorem dup_two {n m : Str} (h : (!(n == m)) = true) : ¬ ([n, m].length != 2 || [n, m].eraseDups.length != [n, m].length) = true := by
  have h2 : (m == n) = false := by
    have := not_true h
    rw [beq_eq_false_iff_ne] at this ⊢; exact fun q => this q.symm
  have e : [n, m].eraseDups = [n, m] := by simp [List.eraseDups, List.eraseDupsBy, List.eraseDupsBy.loop, h2]
  rw [e]; exact Bool.false_ne_true
theorem all_two {y z : Expr} {f : Expr → Bool} (h : (!(f y && f z)) = true) : ¬ [y, z].all f = true := fun q => by
  have q : (f y && (f z && true)) = true := q
  rw [Bool.and_true] at q
  rw [q] at h; cases h
theorem swp_stores (K : CtxS X C F A k N) {n m : Str} {np mp tp p2 : Pos} {kk k2 : Nat} {a b : E} {d1 d2 : Expr} (hs : swapOk N n m np mp (repE X.nm a d1) (repE X.nm b d2) = true) :
    swappedStores [.Tuple [.Name n np, .Name m mp] kk tp] (.Tuple [repE X.nm a d1, repE X.nm b d2] k2 p2) F.env = pure (some [n, m]) := by
  have hs := and_true hs
  have hl := and_true hs.1
  have hs := and_true hs.2
  have hm := and_true hs.1
  have hf := and_true hs.2
  have hb : F.env.blockKind = .function := by unfold Env.blockKind; rw [K.Z.K.kind]; rfl
  unfold swappedStores
  refine (if_neg (by rw [hb]; exact Bool.false_ne_true)).trans ((if_neg (any_two (repE_plain a d1).nos (repE_plain b d2).nos)).trans ?_)
  dsimp only
  rw [map_two (n := n) (m := m) (if_pos (by rw [kindN K.N, hl.1]; exact (beq_self_eq_true (np.line) : _))) (if_pos (by rw [kindN K.N, hl.2]; exact (beq_iff_eq.mpr (beq_iff_eq.mp hm.1).symm : (mp.line == np.line) = true)))]
  exact (if_neg (dup_two hm.2)).trans ((if_neg (all_two hf.1)).trans (if_neg (all_two hf.2)))
theorem ps_swp {p q : Nat} {a b : E} : PS X C (.swp p q a b) := by
  intro N d h F A k ρ vars vars' own own' s Q fl K he R ht H
  have h := and_true h
  refine ex_swp_inv he fun u own₁ w own₂ e1 e2 e3 => ?_
  have etup : ev C X.TK (.tup (.cons a (.cons b .nil))) vars own = some (.tup [u, w], own₂) := by
    show ((ev C X.TK a vars own).bind _).bind _ = _
    rw [e1]
    show (((ev C X.TK b vars own₁).bind _).bind _).bind _ = _
    rw [e2]; rfl
  have hl := and_true (and_true h.1).1
  refine Assign_Tuple_swapped ((pe_all _ N _ h.2).1 F A k ρ vars own _ s _ _ K.toCtx etup R ht fun x ρ₁ h₁ t₁ ht₁ G₁ R₁ rx => ?_) rfl (swp_stores K h.1)
  apply rx.tupE; intro ta ys n ho hv
  have hsz : ys.size = 2 := arr_size hv
  show wpAny _ _ (unpackItems (.ref ta) 2 none) _ _ _
  rw [← hsz]
  refine wpAny_unpackItems_tuple (s := { s with heap := h₁, toks := t₁ }) K.Z.R.handled ⟨_, ho, rfl, n, rfl⟩ fun h2 he2 => ?_
  obtain ⟨G2, R2⟩ := R₁.xl K.Z.K K.Z.T (XL.of_ext (ext_size (b := 0) he2))
  have hv2 := hv.gr G2 R₁.apart
  generalize ys.toList = l at hv2 ⊢
  refine pair_at hv2 (P := fun l => wpAny (model X.prog X.w) A (assignInOrder _ l.reverse) _ E0 _) fun y z ry rz => ?_
  exact two_stores (s := { s with heap := h2, toks := t₁ }) K R2 ht₁ (kSt_loc hl.2) (kSt_loc hl.1) rz ry (fun q => wpAny_holding (bindName_ q)) (fun q => wpAny_holding (bindName_ q)) fun h4 t4 ht4 G4 R4 => H.next e3 ht4 ((G₁.trans G2).trans G4) R4

theorem set_sound (Z : Fx X F A k) (R : Rep X F ρ vars own s.heap) {o i : V} {xo xi : Value} (e : setAt own o i v = some own') (ro : VR s.heap F.h₀ ρ o xo) (ri : VR s.heap F.h₀ ρ i xi) (rx : VR s.heap F.h₀ ρ v x) {P : Unit → Shared → Prop}
    (H : ∀ h', Gr X.T F.W ρ ρ s.heap h' → Rep X F ρ vars own' h' → P () { s with heap := h' }) : wpAny (model X.prog X.w) A (setItem xo xi x) P E0 s := by
  refine bind_of e fun n hn e => bind_of e fun kk hk e => bind_of e fun vs hi e => if_of e fun hl e => bind_of e fun j hj e6 => ?_
  clear e
  cases e6
  rw [refOf_is hn] at ro
  apply ro.refE; intro a ha
  apply ri.intE hk; intro t
  obtain ⟨b, xs, e', hp, hv⟩ := R.own.at' n vs hi
  rw [ha] at e'; cases e'
  have hb : -(2 ^ 62) ≤ kk ∧ kk < 2 ^ 62 := by
    unfold idxN at hj
    by_cases h0 : 0 ≤ kk
    · rw [if_pos h0] at hj; exact if_of hj fun h1 _ => by lia
    · rw [if_neg h0] at hj; exact if_of hj fun h1 _ => by lia
  refine setItem_plain hp hb (by rw [arr_size hv]; exact hj) fun h' hp' hs => ?_
  have hne := hp.elim fun _ hp => R.list_ne hp rfl
  obtain ⟨G, R'⟩ := R.upd (vs' := vs.set j v) Z ha (fun b o h1 _ e => hs.extBut b o h1 e) (fun m n => n.extBut hs.extBut hne.symm) hp' (by simpa using hv.set j rx)
  exact H h' G R'

theorem ps_seti {o i e : E} : PS X C (.seti o i e) := by
  intro N d h F A k ρ vars vars' own own' s Q fl K he R ht H
  have h := and_true h
  have hk := and_true h.2
  exact ex_seti_inv he fun u own₁ a own₂ kv own₃ own₄ e1 e2 e3 e4 e5 =>
    wpAny_Assign_Subscript ((pe_all e N _ h.1).1 F A k ρ vars own _ s _ _ K.toCtx e1 R ht fun x ρ₁ h₁ t₁ ht₁ G₁ R₁ rx =>
      (pe_all o N _ hk.1).1.two (pe_all i N _ hk.2).1 (s := { s with heap := h₁, toks := t₁ }) K.toCtx e2 e3 R₁ ht₁ fun xo xi ρ₃ h₃ t₃ ht₃ G₃ R₃ ro ri =>
        set_sound (s := { s with heap := h₃, toks := t₃ }) K.Z R₃ e4 ro ri (rx.gr G₃ R₁.apart) fun h4 G4 R4 => H.next e5 ht₃ ((G₁.trans G₃).trans G4) R4) (sw_sub e _ _ _ _ _ _ _)

theorem kSt_sees (hN : F.env.scope.names = N) {n : Str} (h : kSt N n = true) : Sees F n := by
  have h := kSt_is h
  rw [← kindN hN] at h
  exact h.elim .inl fun h => .inr (.inl h)

theorem ps_aug {t : Nat} {o : Bop} {e : E} : PS X C (.aug t o e) := by
  intro N d h F A k ρ vars vars' own own' s Q fl K he R ht H
  have h := and_true h
  have hk := and_true h.1
  have hd := and_true hk.2
  exact ex_aug_inv he fun u i v j own₁ r own₂ hold e1 hu hv e2 e3 =>
    wpAny_AugAssign_Name (load_var K.Z R hold (kSt_sees K.N hk.1) hd.1 fun x rx =>
      (pe_all e N _ h.2).1 F A k ρ vars own own₁ s _ _ K.toCtx e1 R ht fun y ρ₁ h₁ t₁ ht₁ G₁ R₁ ry =>
        aug_sound (s := { s with heap := h₁, toks := t₁ }) R₁ o (isAS_is hd.2) hu hv e2 (rx.gr G₁ R.apart) ry fun z ρ₂ h₂ t₂ ht₂ G₂ R₂ rz =>
          store_sound (s := { s with heap := h₂, toks := t₂ }) K R₂ ht₂ hk.1 rz fun h3 t3 ht3 G3 R3 _ => H.next e3 ht3 ((G₁.trans G₂).trans G3) R3)

theorem ps_augi {a i e : E} {o : Bop} : PS X C (.augi a i o e) := by
  intro N d h F A k ρ vars vars' own own' s Q fl K he R ht H
  have h := and_true h
  have h2 := and_true h.2
  have hk := and_true h2.2
  exact ex_augi_inv he fun av own₁ kv own₂ u xx v yy own₃ r own₄ own₅ e1 e2 e3 e4 hu hv e5 e6 e7 =>
    wpAny_AugAssign_SubscriptAny ((pe_all a N _ hk.1).1.two (pe_all i N _ hk.2).1 K.toCtx e1 e2 R ht fun xo xi ρ₂ h₂ t₂ ht₂ G₂ R₂ ro ri =>
      item_sound (s := { s with heap := h₂, toks := t₂ }) R₂ ht₂ e3 ro ri fun z t3 ht3 rz =>
        (pe_all e N _ h2.1).1 F A k ρ₂ vars own₂ own₃ { s with heap := h₂, toks := t3 } _ _ K.toCtx e4 R₂ ht3 fun y ρ₄ h₄ t₄ ht₄ G₄ R₄ ry =>
          aug_sound (s := { s with heap := h₄, toks := t₄ }) R₄ o (isAS_is h.1) hu hv e5 (rz.gr G₄ R₂.apart) ry fun zz ρ₅ h₅ t₅ ht₅ G₅ R₅ rzz =>
            set_sound (s := { s with heap := h₅, toks := t₅ }) K.Z R₅ e6 ((ro.gr G₄ R₂.apart).gr G₅ R₄.apart) ((ri.gr G₄ R₂.apart).gr G₅ R₄.apart) rzz fun h6 G6 R6 => H.next e7 ht₅ (((G₂.trans G₄).trans G₅).trans G6) R6)
      (repE_plain i _).aug

theorem ps_ite {t : E} {a b : Ss} (pa : PSs X C a) (pb : PSs X C b) : PS X C (.ite t a b) := by
  intro N d h F A k ρ vars vars' own own' s Q fl K he R ht H
  have h := and_true h
  have hk := and_true h.2
  refine ex_ite_inv he fun c own₁ e1 he => wpAny_If ((pe_all t N _ h.1).2 F A k ρ vars own _ s _ _ K.toCtx e1 R ht fun ρ₁ h₁ t₁ ht₁ G₁ R₁ => ?_)
  cases c with
  | true => exact ite_t (pa N _ hk.1 F A k ρ₁ vars _ own₁ _ { s with heap := h₁, toks := t₁ } Q fl K he R₁ ht₁ (H.after G₁))
  | false => exact ite_f (pb N _ hk.2 F A k ρ₁ vars _ own₁ _ { s with heap := h₁, toks := t₁ } Q fl K he R₁ ht₁ (H.after G₁))

theorem ps_ret {e : E} : PS X C (.ret e) := by
  intro N d h F A k ρ vars vars' own own' s Q fl K he R ht H
  have h := and_true h
  refine bind_of he fun p e1 e2 => ?_
  cases e2
  have hb := h.1
  show wpAny _ _ (exec (.Return (optE (!(sk d).isEmpty) _) _) _) _ _ _
  generalize (!(sk d).isEmpty) = b at hb ⊢
  cases b with
  | true => exact wpAny_Return_some ((pe_all e N _ h.2).1 F A k ρ vars own _ s _ _ K.toCtx e1 R ht fun x ρ₁ h₁ t₁ ht₁ G₁ R₁ rx => H (.ret x) ρ₁ h₁ t₁ ht₁ G₁ R₁ ⟨x, rfl, rx⟩)
  | false =>
    cases isNon_is hb
    cases e1
    exact wpAny_Return_none (H (.ret .none) ρ s.heap s.toks ht (Gr.refl ..) R ⟨.none, rfl, rfl⟩)

theorem ps_exp {e : E} : PS X C (.exp e) := by
  intro N d h F A k ρ vars vars' own own' s Q fl K he R ht H
  have h := and_true h
  refine bind_of he fun p e1 he => bind_of he fun _ hn e2 => ?_
  have hint : interactive F.env = false := by unfold interactive; rw [K.Z.K.kind]; rfl
  obtain ⟨f, as, hq⟩ := isCl_is (nm := X.nm) h.1 (k0 d)
  refine wpAny_Expr ((pe_all e N _ h.2).1 F A k ρ vars own _ s _ _ K.toCtx e1 R ht fun x ρ₁ h₁ t₁ ht₁ G₁ R₁ rx => ?_) hint (by rw [hq]; rfl)
  rw [nonOf_is hn] at rx
  have rx : x = .none := rx
  subst rx
  exact H.next e2 ht₁ G₁ R₁

theorem ps_try {b : Ss} (pb : PSs X C b) : PS X C (.try b) := by
  intro N d h F A k ρ vars vars' own own' s Q fl K he R ht H
  have h := and_true h
  have hh := h.1
  show wpAny _ _ (exec (.Try _ (sHs d) _ _ _) _) _ _ _
  generalize sHs d = hs at hh ⊢
  cases hs with
  | nil => cases hh
  | cons h1 hs =>
    refine wpAny_Try_except (wpAny_mono (pb N _ h.2 F A k ρ vars _ own _ s (fun f s₁ => match f with | .next => wpAny (model X.prog X.w) A (execs [] F.env) Q E0 s₁ | f => Q f s₁) fl K he R ht fun f ρ₁ h₁ t₁ ht₁ G₁ R₁ rf => ?_) (fun _ _ x => x) fun _ _ f => f.elim)
    have := H f ρ₁ h₁ t₁ ht₁ G₁ R₁ rf
    cases f with
    | next => exact wpAny_execs_nil this
    | _ => exact this

theorem pss_nil : PSs X C .nil := fun N d h F A k ρ vars vars' own own' s Q fl K he R ht H => wpAny_execs_nil (H.next he (t₁ := s.toks) ht (Gr.refl ..) R)
theorem pss_dead : PSs X C .dead := fun N d h F A k ρ vars vars' own own' s Q fl K he => nomatch he
theorem pss_cons {st : S} {ss : Ss} (p1 : PS X C st) (p2 : PSs X C ss) : PSs X C (.cons st ss) := by
  intro N d h F A k ρ vars vars' own own' s Q fl K he R ht H
  have h := and_true h
  refine exs_cons_inv he fun f vars₁ own₁ e1 he => wpAny_execs_cons (p1 N _ h.1 F A k ρ vars vars₁ own own₁ s _ f K e1 R ht fun g ρ₁ h₁ t₁ ht₁ G₁ R₁ rf => ?_)
  cases f with
  | next => cases rf; exact p2 N _ h.2 F A k ρ₁ vars₁ vars' own₁ own' { s with heap := h₁, toks := t₁ } Q fl K he R₁ ht₁ (H.after G₁)
  | ret v =>
    cases he
    have := H g ρ₁ h₁ t₁ ht₁ G₁ R₁ rf
    obtain ⟨y, rfl, _⟩ := rf; exact this
end
end Mine
end
section
set_option maxRecDepth 100000
set_option autoImplicit false
namespace Mine
open PySem PyProof.Rows

section
variable {X : GX} {C : Nat → List V → Option V} {F : Frm} {A : Around} {k : Nat} {N : Names} {ρ ρ₁ : List Addr} {vars vars' : Vars} {own own' own₁ : Own} {s : Shared} {Q P : Flow → Shared → Prop} {v w r : V} {x y : Value} {h h' h₁ : Heap} {t₁ : Nat} {E₁ E₂ : Value → Shared → Prop}

theorem Gr.narrow {T W ρ ρ' : List Addr} {I : Addr} (G : Gr T (I :: W) ρ ρ' h h') (hI : h.get? I = none) : Gr T W ρ ρ' h h' :=
  ⟨fun b o e h1 h2 h3 => G.keep b o e h1 (fun q => (List.mem_cons.mp q).elim (ne_of_get e hI) h2) h3, G.alive, G.ext⟩
theorem Gr.wide1 {T W ρ ρ' : List Addr} {I : Addr} (G : Gr T W ρ ρ' h h') : Gr T (I :: W) ρ ρ' h h' := G.wider fun b hb => .tail _ hb
theorem Gr.at1 {T W ρ : List Addr} {I : Addr} (hk : ∀ b o, b ≠ I → h.get? b = some o → h'.get? b = some o) (hI : ∃ o, h'.get? I = some o ∧ Itr o) : Gr T (I :: W) ρ ρ h h' :=
  ⟨fun b o e _ hb _ => hk b o (fun q => hb (q ▸ .head _)) e, fun b e => by
    obtain ⟨o, e⟩ := Option.isSome_iff_exists.mp e
    by_cases q : b = I
    · obtain ⟨o', e', _⟩ := hI
      rw [q, e']; rfl
    · rw [hk b o q e]; rfl, [], (List.append_nil _).symm, fun _ h => nomatch h⟩

/-- between two turns of a loop -/
inductive LI (X : GX) (F : Frm) (W : List Addr) (ρ : List Addr) (s : Shared) (J : List Addr → Vars → Own → Heap → Prop) : Shared → Prop where
  | mk (ρ' : List Addr) (h' : Heap) (t' : Nat) (vs : Vars) (o : Own) (ht : 0 < t') (G : Gr X.T W ρ ρ' s.heap h') (R : Rep X F ρ' vs o h') (j : J ρ' vs o h') : LI X F W ρ s J { s with heap := h', toks := t' }

/-- a loop's body, and what comes behind it -/
theorem body_sound {b : Ss} {d : List Stmt} (pb : PSs X C b) (hb : okSs X.nm X.gi b N d = true) (K : CtxS X C F A k N) {W : List Addr} (hW : ∀ b ∈ F.W, b ∈ W) {k' : Vars → Own → Option (Fl × Vars × Own)} {z : Fl}
    (e : ((exs C X.TK b vars own).bind fun p => fl p k') = some (z, vars', own')) (R : Rep X F ρ₁ vars own h) (ht : 0 < t₁) (G : Gr X.T W ρ ρ₁ s.heap h)
    (H : ∀ f ρ' h' t', 0 < t' → Gr X.T W ρ ρ' s.heap h' → Rep X F ρ' vars' own' h' → FlR h' F.h₀ ρ' z f → Q f { s with heap := h', toks := t' })
    (next : ∀ ρ' h' t' vs o, 0 < t' → Gr X.T F.W ρ₁ ρ' h h' → Gr X.T W ρ ρ' s.heap h' → Rep X F ρ' vs o h' → k' vs o = some (z, vars', own') → P .next { s with heap := h', toks := t' }) (ret : ∀ y s', Q (.ret y) s' → P (.ret y) s') :
    wpAny (model X.prog X.w) A (execs (repSs X.nm b d) F.env) P E₁ { s with heap := h, toks := t₁ } :=
  bind_of e fun p eb e => wpAny_mono (pb N d hb F A k ρ₁ vars p.2.1 own p.2.2 { s with heap := h, toks := t₁ } P p.1 K eb R ht fun f ρ' h' t' ht' G' R' rf => by
    have G2 := G.trans (G'.wider hW)
    refine fl_of e (fun hn e => ?_) fun v hr e => ?_
    · rw [hn] at rf; cases rf; exact next ρ' h' t' _ _ ht' G' G2 R' e
    · obtain ⟨f0, q⟩ := p
      cases hr; cases e
      have := H f ρ' h' t' ht' G2 R' rf
      obtain ⟨y, rfl, _⟩ := rf; exact ret y _ this) (fun _ _ x => x) fun _ _ f => f.elim

theorem ps_whl {t : E} {b : Ss} (pb : PSs X C b) : PS X C (.whl t b) := by
  intro N d h F A k ρ vars vars' own own' s Q fl K he R ht H
  have h := and_true h
  refine wpAny_While (codeAny_whileLoop (fun n => LI X F F.W ρ s fun _ vs o _ => whlLoop (fun vars own => tstOf (ev C X.TK t vars own)) (fun vars own => exs C X.TK b vars own) n vs o = some (fl, vars', own')) (fun n s' li => ?_) 1000 (.mk ρ s.heap s.toks vars own ht (Gr.refl ..) R he))
  cases li with
  | mk ρ' h' t' vs o ht' G' R' eq =>
  cases n with
  | zero => cases eq
  | succ f =>
    refine bind_of eq fun p etest eq => wpAny_mono ((pe_all t N _ h.1).2 F A k ρ' vs o p.2 { s with heap := h', toks := t' } _ p.1 K.toCtx etest R' ht' fun ρ₂ h₂ t₂ ht₂ G₂ R₂ => ?_) (fun _ _ x => x) fun _ _ f => f.elim
    have G3 := G'.trans G₂
    generalize p.1 = c at eq ⊢
    cases c with
    | true => exact ite_t (body_sound (s := s) pb h.2 K (fun _ hb => hb) eq R₂ ht₂ G3 H (fun ρ₃ h₃ t₃ vs₃ o₃ ht₃ _ G₃ R₃ eq => ⟨f, Nat.lt_succ_self f, .mk ρ₃ h₃ t₃ vs₃ o₃ ht₃ G₃ R₃ eq⟩) fun _ _ q => q)
    | false => exact ite_f (wpAny_execs_nil (H.next eq ht₂ G3 R₂))

/-- a loop's name given its item, and the body -/
theorem turn_sound {b : Ss} {d : List Stmt} (pb : PSs X C b) (hb : okSs X.nm X.gi b N d = true) (K : CtxS X C F A k N) {t : Nat} (hk : kSt N (X.nm t) = true) {I : Addr} {px : Pos} {k' : Vars → Own → Option (Fl × Vars × Own)} {z : Fl} {u : V}
    (e : ((exs C X.TK b (setV t u vars) own).bind fun p => fl p k') = some (z, vars', own')) (R : Rep X F ρ₁ vars own h) (ht : 0 < t₁) (G : Gr X.T (I :: F.W) ρ ρ₁ s.heap h) (n : s.heap.get? I = none) (nI : New X F I) (hI : ∃ o, h.get? I = some o ∧ Itr o) (ry : VR h F.h₀ ρ₁ u y)
    (H : OkS X F z vars' own' ρ s Q)
    (next : ∀ ρ' h' t' vs o, 0 < t' → (∀ o, h.get? I = some o → h'.get? I = some o) → (∀ v x, VR h F.h₀ ρ₁ v x → VR h' F.h₀ ρ' v x) → Gr X.T (I :: F.W) ρ ρ' s.heap h' → Rep X F ρ' vs o h' → k' vs o = some (z, vars', own') → P .next { s with heap := h', toks := t' })
    (ret : ∀ y s', Q (.ret y) s' → P (.ret y) s') : wpAny (model X.prog X.w) A (assign (.Name (X.nm t) px) F.env y) (fun _ s₂ => wpAny (model X.prog X.w) A (execs (repSs X.nm b d) F.env) P E₁ s₂) E₂ { s with heap := h, toks := t₁ } :=
  wpAny_assign_Name (wpAny_mono (store_sound (s := { s with heap := h, toks := t₁ }) K R ht hk ry (P := fun _ s₂ => wpAny (model X.prog X.w) A (execs (repSs X.nm b d) F.env) P E₁ s₂) fun h3 t3 ht3 G3 R3 _ =>
    body_sound (s := s) pb hb K (fun _ hb => .tail _ hb) e R3 ht3 (G.trans G3.wide1) (fun f ρ' h' t' ht' G' R' rf => H f ρ' h' t' ht' (G'.narrow n) R' rf) (fun ρ₃ h₃ t₃ vs₃ o₃ ht₃ G4 G₃ R₃ eq => by
      obtain ⟨oI, eI, hi⟩ := hI
      have n1 := R.wk_ne eI hi.wk
      have G5 := G3.trans G4
      exact next ρ₃ h₃ t₃ vs₃ o₃ ht₃ (fun o e => G5.keep I o e n1.1 nI.W n1.2) (fun v x r => r.gr G5 R.apart) G₃ R₃ eq) ret) (fun _ _ x => x) fun _ _ f => f.elim)

theorem iter_first {ts : List Nat} {body : Vars → Own → Option (Fl × Vars × Own)} {z : Fl × Vars × Own} {n : Nat} (e : forLoop ts v body n 0 vars own = some z) : ∃ u, iterAt own v 0 = some u := by
  cases n with
  | zero => cases e
  | succ f => exact bind_of e fun u q _ => ⟨u, q⟩
theorem ps_for {ts : List Nat} {it : E} {b : Ss} (pb : PSs X C b) : PS X C (.for ts it b) := by
  intro N d h F A k ρ vars vars' own own' s Q fl K he R ht H
  have h := and_true h
  have hk := and_true h.1
  have h2 := and_true h.2
  obtain ⟨t, hts⟩ := Option.isSome_iff_exists.mp hk.1
  cases only_is hts
  refine ex_for_inv he fun v own₁ e1 he => wpAny_For ((pe_all it N _ h2.1).1 F A k ρ vars own _ s _ _ K.toCtx e1 R ht fun x ρ₁ h₁ t₁ ht₁ G₁ R₁ rx => ?_) (fun x => (repE_plain it _).set _ x)
  obtain ⟨u0, hu0⟩ := iter_first he
  refine iter_start (s := { s with heap := h₁, toks := t₁ }) R₁ hu0 rx fun o hio hnf hit => ?_
  have eI2 := Heap.get?_push_size h₁ hnf
  dsimp only at hit ⊢
  have nI : h₁.get? h₁.objs.size = none := size_none _
  generalize h₁.objs.size = I at *
  have nIs : s.heap.get? I = none := fresh_of G₁.alive nI
  have nw := R₁.free nI
  obtain ⟨G2, R2⟩ := R₁.xl K.Z.K K.Z.T (XL.push h₁ o)
  refine codeAny_forLoop (fun n => LI X F (I :: F.W) ρ s fun ρ' vs o h' => ∃ j, ItSt h' F.h₀ ρ' v I j ∧ forLoop [t] v (fun vars own => exs C X.TK b vars own) n j vs o = some (fl, vars', own')) (fun n s' li => ?_)
    (iterFuel own₁ v) (.mk ρ₁ (h₁.push o) t₁ vars own₁ ht₁ (G₁.trans G2).wide1 R2 ⟨0, hit _ _ eI2 fun z rz => rz.gr G2 R₁.apart, he⟩) (fun _ => rfl)
  cases li with
  | mk ρ' h' t' vs o ht' G' Rl jj =>
  obtain ⟨j, itl, eq⟩ := jj
  obtain ⟨oI, eI, hi⟩ := itl.itr
  cases n with
  | zero => cases eq
  | succ f =>
    refine bind_of eq fun u hu eq => elim_of eq (fun hn eq => ?_) fun u hn eq => ?_
    · subst hn
      exact iter_end (s := { s with heap := h', toks := t' }) K.Z.R.handled Rl itl hu fun h'' hk' =>
        wpAny_execs_nil (H.next eq ht' ((G'.narrow nIs).but nIs hk') (Rl.but eI hi.wk hi.nc (nw.L K.Z.K) nw.hb nw.h0 (fun hm => absurd hm nw.W) hk'))
    · subst hn
      exact iter_item (s := { s with heap := h', toks := t' }) Rl ht' itl hu fun yv h₂ t₂ ht₂ ry hk2 it2 =>
        turn_sound (s := s) pb h2.2 K hk.2 eq (Rl.but eI hi.wk hi.nc (nw.L K.Z.K) nw.hb nw.h0 (fun hm => absurd hm nw.W) hk2) ht₂ (G'.trans (Gr.at1 hk2 it2.itr)) nIs nw it2.itr ry H
          (fun ρ₃ h₃ t₃ vs₃ o₃ ht₃ kI kv G₃ R₃ eq => ⟨f, Nat.lt_succ_self f, .mk ρ₃ h₃ t₃ vs₃ o₃ ht₃ G₃ R₃ ⟨j + 1, it2.at kI (kv v), eq⟩⟩) fun _ _ q => q

theorem take_rev {α : Type} (vs : List α) (m : Nat) (u : α) (hu : vs[m]? = some u) : (vs.take (m + 1)).reverse = u :: (vs.take m).reverse := by
  rw [List.take_add_one, hu]; simp
theorem itr_rev {I a : Addr} {i : Int} (it : h.IsRevIter I a i) : ∃ o, h.get? I = some o ∧ Itr o := by
  obtain ⟨o, ho, hc, hd⟩ := it
  exact ⟨o, ho, .inr (.inr (.inr (.inr hc))), _, hd, fun q t => by simp [rawInt]⟩
theorem ps_forrev {t : Nat} {it : E} {b : Ss} (pb : PSs X C b) : PS X C (.forrev t it b) := by
  intro N d h F A k ρ vars vars' own own' s Q fl K he R ht H
  have h := and_true h
  have hk := and_true h.1
  have h2 := and_true h.2
  have hpl := (repE_plain (nm := X.nm) it (kid (k0 d) 1)).star [] F.env
  have hp : (backTo (k0 d).pos (starEach [repE X.nm it (kid (k0 d) 1)] F.env)).any (·.1) = false := by rw [hpl]; rfl
  refine ex_forrev_inv he fun v vs own₁ e1 hv hlen he => wpAny_For (Call_ (load_glob K.toCtx R hk.2 (by decide) (.inr K.Z.O.rv) (PyProof.Rows.callWith_type hp (evalArgs_any hp (spliced_more ((pe_all it N _ h2.1).1 F A k ρ vars own _ s _ _ K.toCtx e1 R ht fun x ρ₁ h₁ t₁ ht₁ G₁ R₁ rx => spliced_none ?_) hpl))))) (fun x => rfl)
  obtain ⟨bb, hvl⟩ := lstOf_is hv
  have hit : items own₁ v = some vs := by rw [hvl]; rfl
  have rx' := rx
  revert rx'
  apply list_at (s := { s with heap := h₁, toks := t₁ }) R₁ hit rx; intro a ys hla hvv rx'
  refine call_reversed_list hla.isList ?_
  have hsz := arr_size hvv
  have eI2 := Heap.get?_push_size h₁ (o := revObj a ((ys.size : Int) - 1)) rfl
  dsimp only
  have nI : h₁.get? h₁.objs.size = none := size_none _
  generalize h₁.objs.size = I at *
  have nIs : s.heap.get? I = none := fresh_of G₁.alive nI
  have nw := R₁.free nI
  obtain ⟨G2, R2⟩ := R₁.xl K.Z.K K.Z.T (XL.push h₁ (revObj a ((ys.size : Int) - 1)))
  have hrev : (h₁.push (revObj a ((ys.size : Int) - 1))).IsRevIter I a ((ys.size : Int) - 1) := ⟨_, eI2, rfl, rfl⟩
  refine wpAny_pyIter_revIter (s := { s with heap := h₁.push (revObj a ((ys.size : Int) - 1)), toks := t₁ }) hrev ?_
  refine codeAny_forLoop (fun n => LI X F (I :: F.W) ρ s fun ρ' vs' o h' => n ≤ vs.length ∧ h'.IsRevIter I a ((n : Int) - 1) ∧ VR h' F.h₀ ρ' v (.ref a) ∧ revLoop t (fun vars own => exs C X.TK b vars own) (vs.take n).reverse vs' o = some (fl, vars', own')) (fun n s' li => ?_)
    vs.length (.mk ρ₁ _ t₁ vars own₁ ht₁ (G₁.trans G2).wide1 R2 ⟨Nat.le_refl _, by rw [← hsz]; exact hrev, rx'.gr G2 R₁.apart, by rw [List.take_length]; exact he⟩) (fun _ => rfl)
  cases li with
  | mk ρ' h' t' vs' o ht' G' Rl jj =>
  obtain ⟨hm, hrv, hlst, eq⟩ := jj
  obtain ⟨oI, eI, hi⟩ := itr_rev hrv
  cases n with
  | zero =>
    refine wpAny_pyNext_rev_end (s := { s with heap := h', toks := t' }) (l := a) K.Z.R.handled hrv fun h'' hk' => ?_
    exact wpAny_execs_nil (H.next eq ht' ((G'.narrow nIs).but nIs fun b o hb e => hk' b o hb e) (Rl.but eI hi.wk hi.nc (nw.L K.Z.K) nw.hb nw.h0 (fun hm => absurd hm nw.W) fun b o hb e => hk' b o hb e))
  | succ m =>
    have hu := List.getElem?_eq_getElem (Nat.lt_of_succ_le hm)
    generalize vs[m] = u at hu
    rw [take_rev vs m u hu] at eq
    rw [hvl] at hlst
    obtain ⟨yv, hy, ry, hla'⟩ : ∃ yv, (∃ zs : Array Value, h'.PlainList a zs ∧ zs[m]? = some yv) ∧ VR h' F.h₀ ρ' u yv ∧ True := by
      obtain ⟨a', zs, ea, hla', _, _, hv'⟩ := hlst
      cases ea
      obtain ⟨yv, hy, ry⟩ := hv'.get hu
      exact ⟨yv, ⟨zs, hla', by simpa using hy⟩, ry, trivial⟩
    obtain ⟨zs, hz, hzy⟩ := hy
    have hrv' : h'.IsRevIter I a (m : Int) := by
      have : (((m + 1 : Nat) : Int) - 1) = (m : Int) := by lia
      rw [this] at hrv; exact hrv
    refine wpAny_pyNext_rev_item (s := { s with heap := h', toks := t' }) (l := a) hrv' hz.isList (x := yv) hzy fun h₂ hrv2 hs2 => ?_
    have hk2 : ∀ b o, b ≠ I → h'.get? b = some o → h₂.get? b = some o := fun b o hb e => hs2.extBut b o hb e
    exact turn_sound (s := s) pb h2.2 K hk.1 eq (Rl.but eI hi.wk hi.nc (nw.L K.Z.K) nw.hb nw.h0 (fun hm => absurd hm nw.W) hk2) ht' (G'.trans (Gr.at1 hk2 (itr_rev hrv2))) nIs nw (itr_rev hrv2) (tr_but eI hi.wk hk2 ry) H
      (fun ρ₃ h₃ t₃ vs₃ o₃ ht₃ kI kv G₃ R₃ eq => ⟨m, Nat.lt_succ_self m, .mk ρ₃ h₃ t₃ vs₃ o₃ ht₃ G₃ R₃ ⟨Nat.le_of_succ_le hm, hrv2.at kI, kv v _ (by rw [hvl]; exact tr_but eI hi.wk hk2 hlst), eq⟩⟩) fun _ _ q => q

mutual
theorem ps_all : ∀ s : S, PS X C s
  | .asg _ _ => ps_asg
  | .asg2 _ _ _ => ps_asg2
  | .unp _ _ => ps_unp
  | .swp _ _ _ _ => ps_swp
  | .seti _ _ _ => ps_seti
  | .aug _ _ _ => ps_aug
  | .augi _ _ _ _ => ps_augi
  | .ite _ a b => ps_ite (pss_all a) (pss_all b)
  | .whl _ b => ps_whl (pss_all b)
  | .for _ _ b => ps_for (pss_all b)
  | .forrev _ _ b => ps_forrev (pss_all b)
  | .ret _ => ps_ret
  | .exp _ => ps_exp
  | .try b => ps_try (pss_all b)
theorem pss_all : ∀ ss : Ss, PSs X C ss
  | .nil => pss_nil
  | .dead => pss_dead
  | .cons s ss => pss_cons (ps_all s) (pss_all ss)
end
end
end Mine
end
section
set_option maxRecDepth 100000
set_option autoImplicit false
namespace Mine
open PySem PyProof.Rows

theorem cellsFrom_uniq : ∀ (names : Names) (n : Nat) (acc : List (Str × Addr)), (names.map (·.1)).Nodup → (∀ m c c', (m, c) ∈ acc → (m, c') ∈ acc → c = c') → (∀ m c, (m, c) ∈ acc → m ∉ names.map (·.1)) →
    ∀ m c c', (m, c) ∈ cellsFrom n names acc → (m, c') ∈ cellsFrom n names acc → c = c'
  | [], _, _, _, h, _ => h
  | (nm, kd) :: r, n, acc, hn, h, hd => by
    simp only [List.map_cons, List.nodup_cons] at hn
    unfold cellsFrom
    split
    · refine cellsFrom_uniq r _ _ hn.2 (fun m c c' h1 h2 => ?_) fun m c h1 h2 => ?_
      · rcases List.mem_cons.mp h1 with e | h1 <;> rcases List.mem_cons.mp h2 with e' | h2
        · cases e; cases e'; rfl
        · cases e; exact absurd (by simp) (hd _ _ h2)
        · cases e'; exact absurd (by simp) (hd _ _ h1)
        · exact h m c c' h1 h2
      · rcases List.mem_cons.mp h1 with e | h1
        · cases e; exact hn.1 h2
        · exact hd m c h1 (by rw [List.map_cons]; exact .tail _ h2)
    · exact cellsFrom_uniq r _ _ hn.2 h fun m c h1 h2 => hd m c h1 (by rw [List.map_cons]; exact .tail _ h2)
theorem cellsFrom_has : ∀ (names : Names) (n : Nat) (acc : List (Str × Addr)) (m : Str), ((m, NameKind.cell) ∈ names ∨ ∃ c, (m, c) ∈ acc) → ∃ c, (m, c) ∈ cellsFrom n names acc
  | [], _, _, _, h => by rcases h with h | h; cases h; exact h
  | (nm, kd) :: r, n, acc, m, h => by
    unfold cellsFrom
    split
    · refine cellsFrom_has r _ _ m ?_
      rcases h with h | ⟨c, h⟩
      · rcases List.mem_cons.mp h with e | h
        · cases e; exact .inr ⟨n, .head _⟩
        · exact .inl h
      · exact .inr ⟨c, .tail _ h⟩
    · rename_i hk
      refine cellsFrom_has r _ _ m ?_
      rcases h with h | h
      · rcases List.mem_cons.mp h with e | h
        · cases e; exact absurd rfl hk
        · exact .inl h
      · exact .inr h

/-- each cell's name is found at its cell -/
theorem cells_found {names : Names} (hn : (names.map (·.1)).Nodup) (L : Addr) {n : Str} {c : Addr} (h : (n, c) ∈ cellsFrom L names []) : (cellsFrom L names []).lookup n = some c :=
  lookup_of_mem h fun c' h' => cellsFrom_uniq names L [] hn (fun _ _ _ h => nomatch h) (fun _ _ h => nomatch h) n c' c h' h
theorem cells_look {names : Names} (hn : (names.map (·.1)).Nodup) (L : Addr) {n : Str} (h : names.lookup n = some .cell) : ∃ c, (cellsFrom L names []).lookup n = some c :=
  (cellsFrom_has names L [] n (.inl (mem_of_lookup h))).elim fun c hc => ⟨c, cells_found hn L hc⟩

/-- what is known of a function object, its text apart -/
structure FnAtH (X : GX) (ps : List Nat) (a : Addr) (o : Obj) (fd : FuncData) (body : List Stmt) : Prop where
  get : X.hb.get? a = some o
  data : o.data = .func fd
  code : X.hb.CodeRec fd.code fd.qualname
  bodyE : fd.body = .stmts body
  clos : fd.closure = []
  glob : fd.globals = mainGlobals
  blt : fd.builtins = builtinsNs
  kind : fd.scope.kind = .function
  co : fd.scope.isCoroutine = false
  gen : fd.scope.isGenerator = false
  nodup : (fd.scope.names.map (·.1)).Nodup
  par : ∀ p ∈ ps, kSt fd.scope.names (X.nm p) = true
  bind : ∀ xs : List Value, xs.length = ps.length → bindArgs fd ⟨xs, []⟩ = pure ((ps.map X.nm).zip xs)
structure FnOk (X : GX) (f : Fn) (a : Addr) (o : Obj) (fd : FuncData) (d : List Stmt) : Prop where
  toFn : FnAtH X f.params a o fd (repSs X.nm f.body d)
  chk : okSs X.nm X.gi f.body fd.scope.names d = true

/-- a name is bound to a value, in the frame's names or in a cell -/
noncomputable def BV (kind : Str → Option NameKind) (R : V → Value → Prop) (m cm : Str → Option Value) (n : Str) (v : V) : Prop := ∃ x, R v x ∧ ((kind n = some .local ∧ m n = some x) ∨ (kind n = some .cell ∧ cm n = some x))
theorem bind_vars {X : GX} (inj : ∀ i j, X.nm i = X.nm j → i = j) {kind : Str → Option NameKind} {h h₀ : Heap} {ρ : List Addr} : ∀ (ps : List Nat) (ws : List V) (xs : List Value) (vars0 vars : Vars) (m cm : Str → Option Value),
    setVs ps ws vars0 = some vars → VRs h h₀ ρ ws xs → (∀ p ∈ ps, kind (X.nm p) = some .local ∨ kind (X.nm p) = some .cell) → (∀ i v, getV i vars0 = some v → BV kind (VR h h₀ ρ) m cm (X.nm i) v) →
    ∀ i v, getV i vars = some v → BV kind (VR h h₀ ρ) (bindL kind ((ps.map X.nm).zip xs) m) (bindC kind ((ps.map X.nm).zip xs) cm) (X.nm i) v := by
  intro ps
  induction ps with
  | nil => intro ws xs vars0 vars m cm e r _ h
           cases ws with
           | nil => cases e; exact h
           | cons _ _ => cases e
  | cons p ps ih =>
    intro ws xs vars0 vars m cm e r hk h
    cases ws with
    | nil => cases e
    | cons w ws =>
      refine r.consE (P := fun l => ∀ i v, getV i vars = some v → BV kind (VR _ h₀ ρ) (bindL kind ((X.nm p :: ps.map X.nm).zip l) m) (bindC kind ((X.nm p :: ps.map X.nm).zip l) cm) (X.nm i) v) fun y ys ry r => ?_
      refine ih ws ys _ vars _ _ e r (fun q hq => hk q (.tail _ hq)) fun i v hi => ?_
      rw [getV_set] at hi
      have hp := hk p (.head _)
      by_cases hip : i = p
      · subst hip
        rw [if_pos rfl] at hi; cases hi
        refine ⟨y, ry, hp.elim (fun hl => .inl ⟨hl, ?_⟩) fun hc => .inr ⟨hc, ?_⟩⟩
        · rw [if_pos hl, if_pos rfl]
        · rw [if_neg (by rw [hc]; decide), if_pos rfl]
      · rw [if_neg hip] at hi
        obtain ⟨x, rx, hx⟩ := h i v hi
        have hne : ¬ X.nm i = X.nm p := fun z => hip (inj _ _ z)
        refine ⟨x, rx, hx.elim (fun hl => .inl ⟨hl.1, ?_⟩) fun hc => .inr ⟨hc.1, ?_⟩⟩
        · by_cases hl' : kind (X.nm p) = some .local
          · rw [if_pos hl', if_neg hne]; exact hl.2
          · rw [if_neg hl']; exact hl.2
        · by_cases hl' : kind (X.nm p) = some .local
          · rw [if_pos hl']; exact hc.2
          · rw [if_neg hl', if_neg hne]; exact hc.2

theorem setVs_len : ∀ {ps : List Nat} {ws : List V} {v0 v1 : Vars}, setVs ps ws v0 = some v1 → ws.length = ps.length
  | [], [], _, _, _ => rfl
  | [], _ :: _, _, _, e => nomatch e
  | _ :: _, [], _, _, e => nomatch e
  | _ :: _, _ :: _, _, _, e => congrArg (· + 1) (setVs_len e)

section
variable {M : Model} {A : Around} {E : Value → Shared → Prop} {s₀ s : Shared} {m cm : Str → Option Value} {env : Env}
/-- one name bound is: nothing bound, and the name stored -/
theorem env_one {scope : Scope} {globals : Addr} {n : Str} {v : Value} {qual : Str} {func : Option Addr} {code : Value} {builtins : Addr} :
    newFunctionEnv scope globals [] [(n, v)] qual func code none builtins = (newFunctionEnv scope globals [] [] qual func code none builtins >>= fun env => storeName env n v >>= fun _ => pure env) := by
  simp [newFunctionEnv]
/-- a frame's namespace written: what else stands -/
theorem ic_put {L : Addr} {cs : List (Str × Addr)} {m' : Str → Option Value} {h' : Heap} {t : Nat} (ic : InCallC s₀ L m cs cm s) (N : h'.Ns L m') (S : Heap.SameBut L s.heap h') : InCallC s₀ L m' cs cm { s with heap := h', toks := t } where
  toInCall := {
    same := by obtain ⟨_, _, e⟩ := ic.toInCall.same; rw [e]; exact ⟨h', t, rfl⟩
    ns := N
    keep := fun b o e => S.extBut b o (by rintro rfl; exact absurd (Heap.lt_size e) (Nat.not_lt.mpr ic.toInCall.fresh)) (ic.toInCall.keep b o e)
    fresh := ic.toInCall.fresh }
  cell := fun n c hc => (ic.cell n c hc).sameBut S (by rintro rfl; exact absurd (ic.above n _ (mem_of_lookup hc)) (Nat.lt_irrefl _))
  apart := ic.apart
  above := ic.above
/-- a call's frame, and a token that is above 0 -/
theorem env_pos {scope : Scope} {globals : Addr} {binds : List (Str × Value)} {qual : Str} {func : Option Addr} {code : Value} {builtins : Addr} {Q : Env → Shared → Prop}
    (hk : scope.kind = .function) (hb : ∀ x ∈ binds, scope.names.lookup x.1 = some .local ∨ (scope.names.lookup x.1 = some .cell ∧ ((cellsFrom (s.heap.objs.size + 1) scope.names []).lookup x.1).isSome = true))
    (ht : 0 < s.toks ∨ ∃ n v, binds = [(n, v)] ∧ scope.names.lookup n = some .local)
    (H : ∀ env, env = newEnv scope s.heap.objs.size globals (cellsFrom (s.heap.objs.size + 1) scope.names []) qual func code none builtins → ∀ s₁, InCallC s env.locals (bindL env.kindOf binds fun _ => none) env.cells (bindC env.kindOf binds fun _ => none) s₁ → 0 < s₁.toks → Q env s₁) :
    wpAny M A (newFunctionEnv scope globals [] binds qual func code none builtins) Q E s := by
  rcases ht with ht | ⟨n, v, rfl, hl⟩
  · exact wpAny_with_toks (n := 1) ht (wpAny_newFunctionEnv_cells hk hb fun env he s₁ ic hp => H env he s₁ ic hp)
  · rw [env_one]
    refine wpAny_bind (wpAny_newFunctionEnv_cells hk (fun _ h => nomatch h) fun env he s₁ ic => wpAny_bind ?_)
    have hle : env.kindOf n = some .local := by subst he; exact hl
    refine wpAny_storeName_local hle ic.toInCall.ns (fun h' N S => wpAny_pure (H env he _ ?_ (Nat.succ_pos _))) (by subst he; show (scope.kind == .class || (scope.kind == .module && _)) = false; rw [hk]; rfl)
    have := ic_put (t := s₁.toks + 1) ic N S
    simpa [bindL, bindC, hle] using this
end

section
variable {X : GX} {C : Nat → List V → Option V} {A : Around} {k : Nat} {s : Shared} {h h' : Heap}

/-- a called function's frame -/
structure Ent (X : GX) (C : Nat → List V → Option V) (A : Around) (k : Nat) (s : Shared) (fd : FuncData) (vars : Vars) (F : Frm) (h : Heap) : Prop where
  h0 : F.h₀ = s.heap
  W : ∀ b o, s.heap.get? b = some o → b ∉ F.W
  code : F.env.code = fd.code
  qual : F.env.qual = fd.qualname ++ ".<locals>."
  K : CtxS X C F (A.deeper F.env) k fd.scope.names
  keep : ∀ b o, s.heap.get? b = some o → h.get? b = some o
  R : Rep X F [] vars [] h

theorem TI.apart (t : TI X.tabs h) : ∀ b ∈ X.T, ∀ o, h.get? b = some o → (∀ xs n, o.data ≠ .seq xs n) ∧ o.cls ≠ .type "range" := fun b hbT o e => by
  obtain ⟨q, hq, rfl⟩ := List.mem_map.mp hbT
  rcases (t q hq).2 with h1 | ⟨c', h1, _⟩ <;> (rw [h1] at e; cases e; exact ⟨fun xs n q => (by cases q), fun q => (by cases q)⟩)
theorem len_one {xs : List Value} (h : xs.length = 1) : ∃ x, xs = [x] := by
  cases xs with
  | nil => cases h
  | cons x r => cases r with
    | nil => exact ⟨x, rfl⟩
    | cons _ _ => cases h
theorem apart_none (t : TI X.tabs h) : Apart X.T [] [] h := ⟨fun b hb => (nomatch hb), t.apart, fun b hb => (nomatch hb)⟩
theorem own_none {h₀ : Heap} : OwnOk h₀ [] [] h := ⟨rfl, .nil, fun a ha => (nomatch ha), fun n vs e => by cases n <;> cases e⟩
theorem alive_of (keep : ∀ b o, h.get? b = some o → h'.get? b = some o) (b : Addr) (e : (h.get? b).isSome) : (h'.get? b).isSome := by
  obtain ⟨o, e⟩ := Option.isSome_iff_exists.mp e
  rw [keep b o e]; rfl

theorem Gr.of_keep {T W ρ : List Addr} (keep : ∀ b o, h.get? b = some o → h'.get? b = some o) : Gr T W ρ ρ h h' := ⟨fun b o e _ _ _ => keep b o e, alive_of keep, [], (List.append_nil _).symm, fun _ h => nomatch h⟩

theorem call_enter (O : GOk X) (hT : ∀ b ∈ X.T, X.hb.get? b = none) (calls : Calls X C k) {ps : List Nat} {a : Addr} {o : Obj} {fd : FuncData} {body : List Stmt} (W : FnAtH X ps a o fd body) {ws : List V} {xs : List Value} {vars : Vars} (hv : setVs ps ws [] = some vars) (hR : Rm A (k + 1))
    (hb : HB X s.heap) (rx : VRs s.heap s.heap [] ws xs) (ht : 0 < s.toks ∨ ∃ p, ps = [p] ∧ fd.scope.names.lookup (X.nm p) = some .local) {P : Value → Shared → Prop}
    (H : ∀ F h₁ t₁, 0 < t₁ → Ent X C A k s fd vars F h₁ → wpAny (model X.prog X.w) (A.deeper F.env) (execs body F.env) (fun fl s' => P (match fl with | .ret v => v | _ => .none) s') E0 { s with heap := h₁, toks := t₁ }) :
    codeAny (model X.prog X.w) A (.call (.ref a) ⟨xs, []⟩) (fun r s' => match r with | .ok (.ret y) => P y s' | .ok _ => False | .error e => E0 e s') s := by
  have hlen : xs.length = ps.length := by rw [rx.length, setVs_len hv]
  have hks := fun p hp => kSt_is (W.par p hp)
  refine codeAny_call_function (Nat.lt_of_le_of_lt (Nat.le_add_right _ _) hR.depth) (hb.old _ _ W.get) W.data W.co W.gen W.bodyE (W.code.keeps hb.old) ?_
  rw [W.bind xs hlen, W.clos]
  refine wpAny_pure (env_pos W.kind (fun x hx => ?_) ?_ fun env he s₁ ic htk => ?_)
  · obtain ⟨p, hp, hpe⟩ := List.mem_map.mp (List.of_mem_zip (a := x.1) (b := x.2) hx).1
    rw [← hpe]
    refine (hks p hp).elim .inl fun q => .inr ⟨q, ?_⟩
    obtain ⟨c, hc⟩ := cells_look W.nodup (s.heap.objs.size + 1) q
    rw [hc]; rfl
  · refine ht.elim .inl fun q => .inr ?_
    obtain ⟨p, hp, hl⟩ := q
    rw [hp] at hlen ⊢
    obtain ⟨x, rfl⟩ := len_one hlen
    exact ⟨X.nm p, x, rfl, hl⟩
  refine ⟨(O.nolimit.keeps hb.old).keeps ic.toInCall.keep, codeAny_func ?_⟩
  obtain ⟨h₁, t₁, hs₁⟩ := ic.toInCall.same
  subst hs₁
  have hcode : env.code = fd.code := by subst he; rfl
  have hqual : env.qual = fd.qualname ++ ".<locals>." := by subst he; rfl
  have hglob : env.globals = fd.globals := by subst he; rfl
  have hblt : env.builtins = fd.builtins := by subst he; rfl
  have hloc : env.locals = s.heap.objs.size := by subst he; rfl
  have hcel : env.cells = cellsFrom (s.heap.objs.size + 1) fd.scope.names [] := by subst he; rfl
  have hscope : env.scope = fd.scope := by subst he; rfl
  clear he
  have hkind : ∀ n, env.kindOf n = fd.scope.names.lookup n := fun n => by unfold Env.kindOf; rw [hscope]
  have keep : ∀ b o, s.heap.get? b = some o → h₁.get? b = some o := ic.toInCall.keep
  have hnone : ∀ b ∈ env.locals :: env.cells.map (·.2), s.heap.get? b = none := fun b hb => by
    rcases List.mem_cons.mp hb with q | q
    · rw [q, hloc]; exact size_none _
    · obtain ⟨⟨n, c⟩, hm, rfl⟩ := List.mem_map.mp q
      have := ic.above n c hm
      rw [hloc] at this; exact size_free (Nat.le_of_lt this)
  have hcl : ∀ n c, (n, c) ∈ env.cells → env.cells.lookup n = some c := fun n c hm => by rw [hcel] at hm ⊢; exact cells_found W.nodup _ hm
  have hlook : ∀ n, env.kindOf n = some .cell → ∃ c, env.cells.lookup n = some c := fun n q => by rw [hkind] at q; rw [hcel]; exact cells_look W.nodup _ q
  have key : Ent X C A k s fd vars { env := env, h₀ := s.heap, W := env.locals :: env.cells.map (·.2) } h₁ := by
    refine ⟨rfl, fun b o e hm => ne_of_get e (hnone b hm) rfl, hcode, hqual, ⟨⟨⟨⟨by show env.scope.kind = _; rw [hscope]; exact W.kind, hglob.trans W.glob, hblt.trans W.blt, .head _⟩, O, hT, ⟨hR.handled, ?_, ?_⟩⟩, congrArg Scope.names hscope, calls⟩, fun n c _ hm => .tail _ (List.mem_map.mpr ⟨_, mem_of_lookup hm, rfl⟩), ic.apart⟩, keep, ?_⟩
    · have := hR.depth; rw [Nat.add_comm k 1, ← Nat.add_assoc] at this; exact this
    · have := hR.units; show A.units + 3 + 4 * k + 200 < cLine; lia
    refine ⟨⟨fun b o e => keep b o (hb.old b o e), hb.ti.keepF fun b o _ e _ => keep b o e⟩, alive_of keep, fun b hbW => ?_, fun b hbT => ?_, alive_of hb.old, ⟨_, ic.toInCall.ns, fun i v hi _ => ?_⟩, own_none, fun n hn => ?_⟩
    · refine ⟨?_, ?_⟩
      · rcases List.mem_cons.mp hbW with q | q
        · obtain ⟨o', e', hw, _⟩ := wk_ns ic.toInCall.ns
          exact ⟨o', q ▸ e', hw⟩
        · obtain ⟨⟨n, c⟩, hm, rfl⟩ := List.mem_map.mp q
          obtain ⟨o', e', d'⟩ := ic.cell n c (hcl n c hm)
          exact ⟨o', e', .inr (.inl ⟨_, d'⟩)⟩
      · cases q : X.hb.get? b with
        | none => rfl
        | some o' => exact absurd rfl (ne_of_get (hb.old b o' q) (hnone b hbW))
    · obtain ⟨q, hq, rfl⟩ := List.mem_map.mp hbT
      rcases (hb.ti q hq).2 with h1 | ⟨c', h1, _⟩ <;> (show s.heap.get? q.P ≠ none; rw [h1]; exact fun z => nomatch z)
    · obtain ⟨x, hr, hx⟩ := bind_vars (X := X) O.inj (kind := env.kindOf) ps ws xs [] vars (fun _ => none) (fun _ => none) hv (rx.gr (T := X.T) (W := []) (Gr.of_keep keep) (apart_none hb.ti))
        (fun p hp => by rw [hkind]; exact hks p hp) (fun i v h => by cases h) i v hi
      refine ⟨x, hx.imp_right fun h => ⟨.inl h.1, ?_⟩, hr⟩
      obtain ⟨c, hc⟩ := hlook _ h.1
      have := ic.cell _ c hc
      rw [h.2] at this
      exact ⟨c, hc, this⟩
    · obtain ⟨c, hc⟩ := hlook n hn
      exact ⟨c, _, hc, ic.cell n c hc⟩
  exact wpAny_mono (H _ h₁ t₁ htk key) (fun f s' q => q) fun _ _ q => q.elim

theorem call_code (O : GOk X) (hT : ∀ b ∈ X.T, X.hb.get? b = none) (calls : Calls X C k) {f : Fn} {a : Addr} {o : Obj} {fd : FuncData} {d : List Stmt} (W : FnOk X f a o fd d) {ws : List V} {xs : List Value} {v : V} (e : runF C X.TK f ws = some v) (hR : Rm A (k + 1))
    (hb : HB X s.heap) (rx : VRs s.heap s.heap [] ws xs) (ht : 0 < s.toks ∨ ∃ p, f.params = [p] ∧ fd.scope.names.lookup (X.nm p) = some .local) : codeAny (model X.prog X.w) A (.call (.ref a) ⟨xs, []⟩) (fun r s' => match r with | .ok (.ret y) => CRes X s v y s' | .ok _ => False | .error e => E0 e s') s :=
  runF_inv e fun vars v0 vars' own' hv ee e => call_enter O hT calls W.toFn hv hR hb rx ht fun F h₁ t₁ ht₁ en =>
    pss_all (X := X) (C := C) f.body fd.scope.names d W.chk F (A.deeper F.env) k [] vars vars' [] own' { s with heap := h₁, toks := t₁ } (fun f s' => CRes X s v (match f with | .ret v => v | _ => .none) s') (.ret v0) en.K ee en.R ht₁ fun fw ρ' h' t' ht' G R' rf => by
      obtain ⟨y, rfl, ry⟩ := rf
      refine ⟨h', t', rfl, ht', fun b o e hbT => G.keep b o (en.keep b o e) (List.not_mem_nil) (en.W b o e) hbT, fun b e => G.alive b (alive_of en.keep b e), fun _ => R'.hb.ti, fun h₀ σ al hσ => ?_⟩
      exact frzR R'.own (by rw [en.h0]; exact al) (by rw [en.h0]; exact hσ) depthF e ry
theorem call_sound (O : GOk X) (hT : ∀ b ∈ X.T, X.hb.get? b = none) (calls : Calls X C k) {f : Fn} {a : Addr} {o : Obj} {fd : FuncData} {d : List Stmt} (W : FnOk X f a o fd d) {ws : List V} {xs : List Value} {v : V} (e : runF C X.TK f ws = some v) (hR : Rm A (k + 1))
    (hb : HB X s.heap) (rx : VRs s.heap s.heap [] ws xs) (ht : 0 < s.toks) : wpAny (model X.prog X.w) A (call (.ref a) xs) (CRes X s v) E0 s :=
  wpAny_call (call_code O hT calls W e hR hb rx (.inl ht))
end
end Mine
end
section
set_option maxRecDepth 100000
set_option autoImplicit false
namespace Mine
open PySem PyProof.Rows PySem.W

noncomputable def nmS (i : Nat) : Str := match nms[i]? with
  | some s => Str.ofString s
  | none => ⟨(List.replicate (i + 100) 0).toArray⟩
theorem nms_len : nms.all (fun s => (Str.ofString s).length < 100) = true := by decide +kernel
theorem nms_dot : nms.all (fun s => !(Str.ofString s == (".0" : Str))) = true := by decide +kernel
theorem nms_nodup : (nms.map Str.ofString).Nodup := by decide +kernel
theorem nmS_in {i : Nat} {s : String} (h : nms[i]? = some s) : nmS i = Str.ofString s := by unfold nmS; rw [h]
theorem nmS_out {i : Nat} (h : nms[i]? = none) : (nmS i).length = i + 100 := by unfold nmS; rw [h]; simp [Str.length]
theorem nmS_lt {i : Nat} {s : String} (h : nms[i]? = some s) : (nmS i).length < 100 := by
  rw [nmS_in h]
  have := List.all_eq_true.mp nms_len s (List.mem_of_getElem? h)
  simpa using this
theorem nmS_inj (i j : Nat) (e : nmS i = nmS j) : i = j := by
  cases hi : nms[i]? with
  | none =>
    cases hj : nms[j]? with
    | none => have := nmS_out hi; have h2 := nmS_out hj; rw [e] at this; lia
    | some s => have := nmS_out hi; have h2 := nmS_lt hj; rw [e] at this; lia
  | some s =>
    cases hj : nms[j]? with
    | none => have := nmS_lt hi; have h2 := nmS_out hj; rw [e] at this; lia
    | some s' =>
      rw [nmS_in hi, nmS_in hj] at e
      have h1 : (nms.map Str.ofString)[i]? = some (Str.ofString s) := by rw [List.getElem?_map, hi]; rfl
      have h2 : (nms.map Str.ofString)[j]? = some (Str.ofString s') := by rw [List.getElem?_map, hj]; rfl
      obtain ⟨l1, e1⟩ := List.getElem?_eq_some_iff.mp h1
      obtain ⟨l2, e2⟩ := List.getElem?_eq_some_iff.mp h2
      exact (List.getElem_inj (h₀ := l1) (h₁ := l2) nms_nodup).mp (e1.trans (e.trans e2.symm))
theorem nmS_dot (i : Nat) : nmS i ≠ (".0" : Str) := fun e => by
  cases hi : nms[i]? with
  | none => have := nmS_out hi; rw [e] at this; revert this; show 2 = _ → _; lia
  | some s =>
    rw [nmS_in hi] at e
    have := List.all_eq_true.mp nms_dot s (List.mem_of_getElem? hi)
    rw [e] at this; simp at this

noncomputable def intV : Value → Option Int
  | .int i _ => some i | _ => none
noncomputable def refV : Value → Option Addr
  | .ref a => some a | _ => none
theorem intV_is {v : Value} {i : Int} (h : intV v = some i) : ∃ t, v = .int i t := by
  cases v <;> first | (cases h; exact ⟨_, rfl⟩) | cases h
theorem refV_is {v : Value} {a : Addr} (h : refV v = some a) : v = .ref a := by
  cases v <;> first | (cases h; rfl) | cases h
noncomputable def absent : Option (Option Value) → Bool
  | some none => true | _ => false
theorem absent_is {r : Option (Option Value)} (h : absent r = true) : r = some none := by
  cases r with
  | none => cases h
  | some o => cases o with
    | none => rfl
    | some _ => cases h
noncomputable def giK (K : Frag) (x : Nat) : Option Int := (nsIn K mainGlobals (nmS x)).bind fun o => o.bind intV
noncomputable def gfK (K : Frag) (f : Nat) : Option Addr := (nsIn K mainGlobals (nmS f)).bind fun o => o.bind fun v => (refV v).bind fun a => if keepIn K (.ref a) = true then some a else none
noncomputable def tkK (K : Frag) (a : Addr) (c : Nat) : Option Int := (nsIn K a (strV [c])).bind fun o => o.bind intV
theorem gfK_of {K : Frag} {f : Nat} {a : Addr} (h : gfK K f = some a) {P : Prop} (k : nsIn K mainGlobals (nmS f) = some (some (.ref a)) → keepIn K (.ref a) = true → P) : P :=
  bind_of h fun o e h => bind_of h fun v e2 h => bind_of h fun a' e3 h => if_of h fun hk h => by cases h; rw [e2, refV_is e3] at e; exact k e hk
noncomputable def gxK (prog : Program) (w : World) (hb : Heap) (tabs : List Tab) (mg mb : Str → Option Value) (K : Frag) (tk : Addr) : GX :=
  { prog := prog, w := w, hb := hb, tabs := tabs, mg := mg, mb := mb, nm := nmS, gi := giK K, gf := gfK K, tk := tk, TK := tkK K tk }

noncomputable def allPf : List Pf := [.len, .sum, .min, .max, .sorted, .chr, .divmod, .list, .range]
theorem allPf_all (p : Pf) : p ∈ allPf := by
  have : allPf.contains p = true := by cases p <;> rfl
  exact List.contains_iff_mem.mp this
theorem boot_pf : ∀ p ∈ allPf, bootBuiltins (pfN p) = some (pfK p) := by decide +kernel
theorem boot_rv : bootBuiltins "reversed" = some (.type "reversed") := by decide +kernel
theorem name_pf : ∀ p ∈ allPf, pfN p ≠ ("__name__" : Str) := by decide +kernel

/-- the tokens' table: keys are texts, values ints -/
noncomputable def tkOk (es : List DictEntry) : Bool := es.all fun e => !e.refKey && (intV e.val).isSome
theorem tk_spec {K : Frag} {a : Addr} {es : Array DictEntry} {n : Nat} (hl : K.lookup a = some ⟨.type "dict", none, .dict es n, #[]⟩) (h : tkOk es.toList = true) (x : Str) :
    ∃ r, nsIn K a x = some r ∧ (r = none ∨ ∃ i t, r = some (.int i t)) := by
  have h' := fun e he => and_true (List.all_eq_true.mp h e he)
  unfold nsIn
  rw [hl]
  dsimp only
  cases q : es.toList.find? (·.key.isStr x) with
  | some e =>
    obtain ⟨i, hi⟩ := Option.isSome_iff_exists.mp (h' e (List.mem_of_find?_eq_some q)).2
    obtain ⟨t, ht⟩ := intV_is hi
    exact ⟨_, rfl, .inr ⟨i, t, congrArg some ht⟩⟩
  | none =>
    refine ⟨none, ?_, .inl rfl⟩
    rw [show es.toList.any (·.refKey) = false from List.any_eq_false.mpr fun e he => by rw [not_true (h' e he).1]; exact Bool.false_ne_true]; rfl

theorem gok_of {prog : Program} {w : World} {hb : Heap} {tabs : List Tab} {mg mb : Str → Option Value} {K : Frag} {tk : Addr} {p : Program} {loose : List Str} {mean : ExcName → Option Value} (hK : K.In hb) (T : Top p loose mean mg mb hb)
    (hpf : allPf.all (fun p => absent (nsIn K mainGlobals (pfN p))) = true) (hrv : absent (nsIn K mainGlobals "reversed") = true)
    (htk : nsIn K mainGlobals "EXACT_TOKEN_TYPES" = some (some (.ref tk))) {es : Array DictEntry} {n : Nat} (hl : K.lookup tk = some ⟨.type "dict", none, .dict es n, #[]⟩) (hkeys : KeysLit w.params es.toList) (hok : tkOk es.toList = true)
    (hsys : (tk == sysModules) = false) : GOk (gxK prog w hb tabs mg mb K tk) where
  g := T.g
  b := T.b
  nolimit := T.nolimit
  inj := nmS_inj
  dot0 := nmS_dot
  gi := fun x i h => bind_of h fun o e h => bind_of h fun v e2 h => by
    obtain ⟨t, ht⟩ := intV_is h
    rw [e2, ht] at e
    exact ⟨t, mg_of hK T.g e⟩
  gf := fun f a h => gfK_of h fun e _ => mg_of hK T.g e
  pf := fun p => ⟨mg_none_of hK T.g (absent_is (List.all_eq_true.mp hpf p (allPf_all p))), (T.builtins _ (name_pf p (allPf_all p))).trans (boot_pf p (allPf_all p))⟩
  rv := ⟨mg_none_of hK T.g (absent_is hrv), (T.builtins _ (by decide)).trans boot_rv⟩
  tk := mg_of hK T.g htk
  keep := fun f a h hf hk => gfK_of hf fun _ hkeep => by
    obtain ⟨q, a1, a2⟩ := looks_keep (M := model prog w) hkeep (hK.keeps hk)
    exact ⟨q, a1.elim .inl (fun e => .inr (.inl e)), a2⟩
  bat := fun h P hk hP => by
    obtain ⟨bm, ob, b1, b2, b3, b4, b5, b6⟩ := T.bmain
    refine ⟨bm, ob, b1, b2, fun q => ?_, fun q => absurd q (ne_of_get b3 hP), hk _ _ b3, b4, b5, b6⟩
    obtain ⟨o, es, ep, e, hd, _⟩ := T.g
    rw [q, e] at b3; cases b3; rw [hd] at b6; cases b6
  tkM := fun A s pl P hk h => by
    have hm := mapOf_K (prog := prog) (w := w) (hK.keeps hk) hl hkeys
    exact getMethod_builtin hm.typeIs PySem.F.plainAttrs_dict PySem.F.slot_dict_get PySem.F.type_dict_get hm.noDict h
  tkC := fun A s c t P hh hk ht h => by
    have hm := mapOf_K (prog := prog) (w := w) (hK.keeps hk) hl hkeys
    obtain ⟨r, e, hr⟩ := tk_spec hl hok (strV [c])
    refine call_meetsIn PySem.F.slot_dict_get hm.typeIs PySem.F.entry_dict_get (PySem.F.args_dict_get_2 _ _) (meets_dict_get (strKind prog w) tk (k := strV [c]) (strKind_is prog w _ t) hsys) ⟨_, hm, ?_⟩
    rw [find_K hl e]
    refine h _ _ (Nat.lt_of_lt_of_le ht (Nat.le_add_right _ _)) ?_
    show match (nsIn K tk (strV [c])).bind fun o => o.bind intV with | some i => _ | none => _
    rw [e]
    rcases hr with rfl | ⟨i, u, rfl⟩
    · rfl
    · exact ⟨u, rfl⟩
end Mine
end
section
set_option maxRecDepth 100000
set_option autoImplicit false
namespace Mine
open PySem PyProof.Rows PySem.W

theorem zip_some : ∀ (ns : List Str) (xs : List Value), xs.length = ns.length → ∀ n ∈ ns, ((ns.zip xs).lookup n).isSome = true
  | [], _, _, _, h => by cases h
  | m :: ns, [], hl, _, _ => by simp at hl
  | m :: ns, x :: xs, hl, n, h => by
    rw [List.zip_cons_cons, List.lookup_cons]
    cases hb : n == m with
    | true => rfl
    | false =>
      rcases List.mem_cons.mp h with e | h
      · subst e; simp at hb
      · exact zip_some ns xs (by simpa using hl) n h
theorem fm_congr {α β : Type} {f g : α → Option β} : ∀ {l : List α}, (∀ n ∈ l, f n = g n) → l.filterMap f = l.filterMap g
  | [], _ => rfl
  | x :: l, h => by rw [List.filterMap_cons, List.filterMap_cons, h x (.head _), fm_congr fun n hn => h n (.tail _ hn)]
theorem zip_look : ∀ (ns : List Str) (xs : List Value), ns.Nodup → xs.length = ns.length → ns.filterMap (fun n => ((ns.zip xs).lookup n).map (n, ·)) = ns.zip xs
  | [], _, _, _ => rfl
  | m :: ns, [], _, hl => by simp at hl
  | m :: ns, x :: xs, hn, hl => by
    simp only [List.nodup_cons] at hn
    have ih := zip_look ns xs hn.2 (by simpa using hl)
    rw [List.zip_cons_cons, List.filterMap_cons]
    have h1 : List.lookup m ((m, x) :: ns.zip xs) = some x := by simp [List.lookup_cons]
    rw [h1]
    simp only [Option.map_some]
    congr 1
    refine Eq.trans (fm_congr fun n hm => ?_) ih
    have hne : (n == m) = false := by
      simp only [beq_eq_false_iff_ne]; exact fun q => hn.1 (q ▸ hm)
    rw [List.lookup_cons, hne]

theorem bind_simple {fd : FuncData} {as : List Arg} (hp : fd.params = { posonlyargs := [], args := as, vararg := none, kwonlyargs := [], kw_defaults := [], kwarg := none, defaults := [] }) (hd : fd.defaults = .none)
    (hn : (as.map (·.arg)).Nodup) (xs : List Value) (hl : xs.length = as.length) : bindArgs fd ⟨xs, []⟩ = pure ((as.map (·.arg)).zip xs) := by
  have hl' : xs.length = (as.map (·.arg)).length := by simpa using hl
  have e1 := zip_look _ xs hn hl'
  have e2 : (as.map (·.arg)).filter (fun n => (((as.map (·.arg)).zip xs).lookup n).isNone) = [] := by
    rw [List.filter_eq_nil_iff]
    intro n hm
    have := zip_some _ xs hl' n hm
    rw [Option.isSome_iff_exists] at this
    obtain ⟨y, hy⟩ := this
    rw [hy]; simp
  cases fd
  cases hp
  cases hd
  have h1 : ¬ (decide (xs.length > (as.map (·.arg)).length) && true) = true := by
    rw [hl', Bool.and_true, decide_eq_false (Nat.lt_irrefl _)]; exact Bool.false_ne_true
  have h2 : ¬ (!(((as.map (·.arg)).take ((as.map (·.arg)).length - 0)).filter fun n => (((as.map (·.arg)).zip xs).lookup n).isNone).isEmpty) = true := by
    rw [Nat.sub_zero, List.take_length, e2]; exact Bool.false_ne_true
  have h3 : ∀ (l : List Str) (n : Nat), l.zip (([] : List Value).drop n) = [] := fun l n => by rw [List.drop_nil, List.zip_nil_right]
  show (pure ((as.map (·.arg)).zip xs, []) >>= _ : Sem (List (Str × Value))) = _
  refine (pure_bind _ _).trans ?_
  show (seqItems? Value.none >>= _ : Sem (List (Str × Value))) = _
  refine (pure_bind (none : Option (Array Value)) _).trans ?_
  refine (if_neg h1).trans ?_
  have e4 : (as.map (·.arg)).take as.length = as.map (·.arg) := by rw [← List.length_map (f := (·.arg)) (as := as)]; exact List.take_length
  simp only [List.map_nil, List.nil_append, List.append_nil, List.forIn_nil, Option.getD_none, List.drop_nil, List.zip_nil_right, List.length_nil, Nat.sub_zero, List.length_map, e4, e2, e1, List.isEmpty_nil, Bool.not_true, pure_bind]
  rfl
noncomputable def nodupB : List Str → Bool
  | [] => true
  | x :: xs => !(xs.contains x) && nodupB xs
theorem nodupB_ok : ∀ {l : List Str}, nodupB l = true → l.Nodup
  | [], _ => .nil
  | x :: xs, h => by
    simp only [nodupB, Bool.and_eq_true, Bool.not_eq_true'] at h
    exact List.nodup_cons.mpr ⟨by simpa using h.1, nodupB_ok h.2⟩
noncomputable def simpleB (a : Arguments) : Bool := a.posonlyargs.isEmpty && a.vararg.isNone && a.kwonlyargs.isEmpty && a.kw_defaults.isEmpty && a.kwarg.isNone && a.defaults.isEmpty
theorem args_is {a : Arguments} (h1 : a.posonlyargs = []) (h2 : a.vararg = none) (h3 : a.kwonlyargs = []) (h4 : a.kw_defaults = []) (h5 : a.kwarg = none) (h6 : a.defaults = []) : a = { posonlyargs := [], args := a.args, vararg := none, kwonlyargs := [], kw_defaults := [], kwarg := none, defaults := [] } := by
  cases a
  cases h1; cases h2; cases h3; cases h4; cases h5; cases h6; rfl
theorem simple_ok {a : Arguments} (h : simpleB a = true) : a = { posonlyargs := [], args := a.args, vararg := none, kwonlyargs := [], kw_defaults := [], kwarg := none, defaults := [] } := by
  have h := and_true h
  have g := and_true h.1
  have g2 := and_true g.1
  have g3 := and_true g2.1
  have g4 := and_true g3.1
  exact args_is (List.isEmpty_iff.mp g4.1) (Option.isNone_iff_eq_none.mp g4.2) (List.isEmpty_iff.mp g3.2) (List.isEmpty_iff.mp g2.2) (Option.isNone_iff_eq_none.mp g.2) (List.isEmpty_iff.mp h.2)
noncomputable def codeB (K : Frag) (cd : Value) (q : Str) : Bool := match cd with
  | .ref c => (match K.lookup c with
    | some o => (match o.data with
      | .fields vs => (match (vs[1]? : Option Value) with | some (.str z _) => z == q | _ => false)
      | _ => false)
    | none => false)
  | _ => false
theorem codeB_ok {K : Frag} {h : Heap} (hK : K.In h) {cd : Value} {q : Str} (e : codeB K cd q = true) : h.CodeRec cd q := by
  unfold codeB at e
  split at e
  · rename_i c
    split at e
    · rename_i o ho
      split at e
      · rename_i vs hd
        split at e
        · rename_i z t hz
          rw [beq_iff_eq] at e; subst e
          exact ⟨c, o, vs, t, rfl, hK _ _ ho, hd, hz⟩
        · cases e
      · cases e
    · cases e
  · cases e
noncomputable def fdV : Data → Option FuncData
  | .func fd => some fd | _ => none
theorem fdV_is {d : Data} {fd : FuncData} (h : fdV d = some fd) : d = .func fd := by
  cases d <;> first | (cases h; rfl) | cases h
noncomputable def stV : FuncBody → Option (List Stmt)
  | .stmts b => some b | _ => none
theorem stV_is {d : FuncBody} {b : List Stmt} (h : stV d = some b) : d = .stmts b := by
  cases d <;> first | (cases h; rfl) | cases h
noncomputable def isNone (v : Value) : Bool := match v with
  | .none => true | _ => false
theorem isNone_is {v : Value} (h : isNone v = true) : v = .none := by cases v <;> first | rfl | cases h
noncomputable def fdIn (K : Frag) (a : Addr) : Option FuncData := (K.lookup a).bind fun o => fdV o.data
noncomputable def bodyIn (K : Frag) (a : Addr) : Option (List Stmt) := (fdIn K a).bind fun fd => stV fd.body
noncomputable def chkFd (K : Frag) (ps : List Nat) (fd : FuncData) : Bool :=
  ((fd.closure.isEmpty && decide (fd.globals = mainGlobals)) && (decide (fd.builtins = builtinsNs) && (fd.scope.kind == .function))) && ((!fd.scope.isCoroutine && !fd.scope.isGenerator) && (nodupB (fd.scope.names.map (·.1)) && ps.all (fun p => kSt fd.scope.names (nmS p)))) &&
    ((codeB K fd.code fd.qualname && simpleB fd.params) && ((decide (fd.params.args.map (·.arg) = ps.map nmS) && nodupB (fd.params.args.map (·.arg))) && isNone fd.defaults))
noncomputable def chkFn (K : Frag) (f : Fn) (d : List Stmt) (a : Addr) : Bool := (fdIn K a).any fun fd => chkFd K f.params fd && okSs nmS (giK K) f.body fd.scope.names d
theorem nil_of {α : Type} {l : List α} (h : l.isEmpty = true) : l = [] := by cases l <;> first | rfl | cases h
theorem any_of {α : Type} {o : Option α} {f : α → Bool} (h : o.any f = true) {P : Prop} (k : ∀ a, o = some a → f a = true → P) : P := by
  cases o with
  | none => cases h
  | some a => exact k a rfl h

theorem fnat_of {prog : Program} {w : World} {hb : Heap} {tabs : List Tab} {mg mb : Str → Option Value} {K : Frag} {tk : Addr} (hK : K.In hb) {ps : List Nat} {a : Addr} {fd : FuncData} {body : List Stmt} (hf : fdIn K a = some fd) (hbd : bodyIn K a = some body) (h : chkFd K ps fd = true) :
    ∃ o, FnAtH (gxK prog w hb tabs mg mb K tk) ps a o fd body := by
  have hb : stV fd.body = some body := by
    unfold bodyIn at hbd
    rw [hf] at hbd; exact hbd
  refine bind_of hf fun o ho hd => ?_
  have h := and_true h
  have h1 := and_true h.1
  have h2 := and_true h1.1
  have h3 := and_true h1.2
  have h4 := and_true h.2
  have h5 := and_true h2.1
  have h6 := and_true h2.2
  have h7 := and_true h3.1
  have h8 := and_true h3.2
  have h9 := and_true h4.1
  have h10 := and_true h4.2
  have h11 := and_true h10.1
  have h12 := of_decide_eq_true h11.1
  refine ⟨o, hK _ _ ho, fdV_is hd, codeB_ok hK h9.1, stV_is hb, nil_of h5.1, of_decide_eq_true h5.2, of_decide_eq_true h6.1, beq_iff_eq.mp h6.2, not_true h7.1, not_true h7.2, nodupB_ok h8.1, fun p hp => List.all_eq_true.mp h8.2 p hp, fun xs hl => ?_⟩
  have := bind_simple (simple_ok h9.2) (isNone_is h10.2) (nodupB_ok h11.2) xs (by rw [hl, ← List.length_map (f := (·.arg)) (as := fd.params.args), h12, List.length_map])
  rw [h12] at this
  exact this
theorem fnok_of {prog : Program} {w : World} {hb : Heap} {tabs : List Tab} {mg mb : Str → Option Value} {K : Frag} {tk : Addr} (hK : K.In hb) {f : Fn} {a : Addr} {d : List Stmt} (hbd : bodyIn K a = some (repSs nmS f.body d)) (h : chkFn K f d a = true) :
    ∃ o fd, FnOk (gxK prog w hb tabs mg mb K tk) f a o fd d := any_of h fun fd hf h => by
  have h := and_true h
  obtain ⟨o, w⟩ := fnat_of (prog := prog) (w := w) (tabs := tabs) (mg := mg) (mb := mb) (tk := tk) hK hf hbd h.1
  exact ⟨o, fd, w, h.2⟩
end Mine
end
section
set_option maxRecDepth 100000
set_option autoImplicit false
namespace Mine
open PySem PyProof.Rows PySem.W

theorem execs_append {env : Env} : ∀ (xs ys : List Stmt), execs (xs ++ ys) env = (do match ← execs xs env with | .next => execs ys env | f => pure f)
  | [], ys => by
    show execs ys env = (do match ← (pure Flow.next : Sem Flow) with | .next => execs ys env | f => pure f)
    rw [pure_bind]
  | x :: xs, ys => by
    show (do match ← exec x env with | .next => execs (xs ++ ys) env | f => pure f) = (do match ← (do match ← exec x env with | .next => execs xs env | f => pure f) with | .next => execs ys env | f => pure f)
    rw [bind_assoc]
    congr 1
    funext f
    cases f with
    | next => exact execs_append xs ys
    | _ => simp only [pure_bind]
theorem wpAny_execs_append {M : Model} {A : Around} {E : Value → Shared → Prop} {s : Shared} {env : Env} {xs ys : List Stmt} {Q : Flow → Shared → Prop}
    (h : wpAny M A (execs xs env) (fun f s' => match f with | .next => wpAny M A (execs ys env) Q E s' | f => Q f s') E s) : wpAny M A (execs (xs ++ ys) env) Q E s := by
  rw [execs_append]
  refine wpAny_bind (wpAny_mono h (fun f s' h' => ?_) fun _ _ x => x)
  cases f with
  | next => exact h'
  | _ => exact wpAny_pure h'

section
variable {X : GX} {C : Nat → List V → Option V} {F : Frm} {A : Around} {k : Nat} {N : Names} {ρ ρ₁ : List Addr} {vars vars' : Vars} {own own' own₁ : Own} {s : Shared} {Q : Value → Shared → Prop} {v w r : V} {x y : Value} {h h' h₁ : Heap} {t₁ : Nat}

theorem Rep.fn_ne (R : Rep X F ρ vars own h) {f : Addr} {o : Obj} {fd : FuncData} (e : h.get? f = some o) (hd : o.data = .func fd) : f ∉ ρ ∧ f ∉ F.W ∧ f ∉ X.T := by
  refine ⟨fun hm => ?_, fun hm => ?_, fun hm => ?_⟩
  · obtain ⟨xs, n, e'⟩ := R.own.lists f hm
    rw [e] at e'; cases e'; cases hd
  · obtain ⟨⟨o', e', hw⟩, _⟩ := R.w f hm
    rw [e] at e'; cases e'
    rcases hw with ⟨es, k, q⟩ | ⟨v, q⟩ | ⟨_, vs, q, _⟩ <;> (rw [hd] at q; cases q)
  · obtain ⟨q, hq, rfl⟩ := List.mem_map.mp hm
    rcases (R.hb.ti q hq).2 with h1 | ⟨c', h1, _⟩ <;> (rw [e] at h1; cases h1; cases hd)

/-- the facts of a nested function that a call needs: its text -/
structure NFd (X : GX) (fd : FuncData) (params : List Nat) (body : List Stmt) : Prop where
  bodyE : fd.body = .stmts body
  glob : fd.globals = mainGlobals
  blt : fd.builtins = builtinsNs
  kind : fd.scope.kind = .function
  co : fd.scope.isCoroutine = false
  gen : fd.scope.isGenerator = false
  nocell : ∀ x ∈ fd.scope.names, x.2 ≠ .cell
  par : ∀ p ∈ params, fd.scope.names.lookup (X.nm p) = some .local
  bind : ∀ xs : List Value, xs.length = params.length → bindArgs fd ⟨xs, []⟩ = pure ((params.map X.nm).zip xs)

structure NFn (X : GX) (fd : FuncData) (f : Addr) (h : Heap) : Prop where
  get : ∃ o, h.get? f = some o ∧ o.data = .func fd
  code : h.CodeRec fd.code fd.qualname

/-- what a nested call leans on: a function, a code object, a cell -/
noncomputable def Lean1 (o : Obj) : Prop := (∃ fd, o.data = .func fd) ∨ (∃ v, o.data = .cell v) ∨ ∃ us q t, o.data = .fields us ∧ us[1]? = some (.str q t)
theorem Lean1.T {o : Obj} (l : Lean1 o) (ti : TI X.tabs h) {b : Addr} (e : h.get? b = some o) : b ∉ X.T := fun hm => by
  obtain ⟨q, hq, rfl⟩ := List.mem_map.mp hm
  rcases (ti q hq).2 with h1 | ⟨c', h1, _⟩ <;> (rw [e] at h1; cases h1; rcases l with ⟨_, q⟩ | ⟨_, q⟩ | ⟨us, _, _, q, z⟩ <;> first | cases q; done | (cases q; cases z))
theorem Lean1.seq {o : Obj} (l : Lean1 o) (xs : Array Value) (n : Nat) : o.data ≠ .seq xs n := fun e => by
  rcases l with ⟨_, q⟩ | ⟨_, q⟩ | ⟨us, _, _, q, z⟩ <;> (rw [q] at e; cases e)
theorem Lean1.dict {o : Obj} (l : Lean1 o) (xs : Array DictEntry) (n : Nat) : o.data ≠ .dict xs n := fun e => by
  rcases l with ⟨_, q⟩ | ⟨_, q⟩ | ⟨us, _, _, q, z⟩ <;> (rw [q] at e; cases e)
theorem NFn.keep {fd : FuncData} {f : Addr} (n : NFn X fd f h) (keep : ∀ b o, h.get? b = some o → Lean1 o → h'.get? b = some o) : NFn X fd f h' := by
  obtain ⟨o, e, d⟩ := n.get
  obtain ⟨c, oc, ws, t, hc, e2, d2, z⟩ := n.code
  exact ⟨⟨o, keep f o e (.inl ⟨_, d⟩), d⟩, c, oc, ws, t, hc, keep c oc e2 (.inr (.inr ⟨ws, _, t, d2, z⟩)), d2, z⟩

/-- what stands around a nested call: H0 the heap at the outer call's entry -/
structure NW (X : GX) (H0 : Heap) (ρ : List Addr) (own : Own) (h : Heap) : Prop where
  hb : HB X h
  al : ∀ b, (H0.get? b).isSome → (h.get? b).isSome
  t : ∀ b ∈ X.T, H0.get? b ≠ none
  base : ∀ b, (X.hb.get? b).isSome → (H0.get? b).isSome
  own : OwnOk H0 ρ own h

theorem NW.apart {H0 : Heap} (W : NW X H0 ρ own h) : Apart X.T [] ρ h := ⟨fun b hb => (nomatch hb), W.hb.ti.apart, fun b hb o e => by
  obtain ⟨xs, n, e'⟩ := W.own.lists b hb
  rw [e] at e'; cases e'; rfl⟩
theorem look_app {α : Type} : ∀ (l m : List (Str × α)) (n : Str), (l ++ m).lookup n = match l.lookup n with | some x => some x | none => m.lookup n
  | [], m, n => rfl
  | (a, b) :: l, m, n => by
    rw [List.cons_append, List.lookup_cons, List.lookup_cons]
    cases n == a with
    | true => rfl
    | false => exact look_app l m n
theorem look_none {α : Type} : ∀ (l : List (Str × α)) (n : Str), (∀ x ∈ l, x.1 ≠ n) → l.lookup n = none
  | [], _, _ => rfl
  | (a, b) :: l, n, h => by
    rw [List.lookup_cons]
    have : (n == a) = false := by
      simp only [beq_eq_false_iff_ne]; exact fun q => h _ (.head _) q.symm
    rw [this]; exact look_none l n fun x hx => h x (.tail _ hx)
theorem bind_clo {X : GX} (inj : ∀ i j, X.nm i = X.nm j → i = j) {h h₀ : Heap} {ρ : List Addr} : ∀ (ps : List Nat) (ws : List V) (xs : List Value) (capt vars : Vars), setVs ps ws capt = some vars → VRs h h₀ ρ ws xs →
    ∀ i v, getV i vars = some v → (i ∈ ps ∧ ∃ x, ((ps.map X.nm).zip xs).reverse.lookup (X.nm i) = some x ∧ VR h h₀ ρ v x) ∨ (i ∉ ps ∧ getV i capt = some v) := by
  intro ps
  induction ps with
  | nil => intro ws xs capt vars e r i v hi
           cases ws with
           | nil => cases e; exact .inr ⟨List.not_mem_nil, hi⟩
           | cons _ _ => cases e
  | cons p ps ih =>
    intro ws xs capt vars e r i v hi
    cases ws with
    | nil => cases e
    | cons w ws =>
      refine r.consE (P := fun l => (i ∈ p :: ps ∧ ∃ x, ((X.nm p :: ps.map X.nm).zip l).reverse.lookup (X.nm i) = some x ∧ VR h h₀ ρ v x) ∨ (i ∉ p :: ps ∧ getV i capt = some v)) fun y ys ry r => ?_
      show (_ ∧ ∃ x, List.lookup _ (List.reverse ((X.nm p, y) :: (ps.map X.nm).zip ys)) = _ ∧ _) ∨ _
      rw [List.reverse_cons, look_app]
      rcases ih ws ys _ vars e r i v hi with ⟨h1, z, h2, h3⟩ | ⟨h1, h2⟩
      · exact .inl ⟨.tail _ h1, z, by rw [h2], h3⟩
      · rw [getV_set] at h2
        by_cases q : i = p
        · subst q
          rw [if_pos rfl] at h2; cases h2
          refine .inl ⟨.head _, y, ?_, ry⟩
          rw [look_none]
          · simp
          · intro z hz q
            obtain ⟨p', hp, hpe⟩ := List.mem_map.mp (List.of_mem_zip (a := z.1) (b := z.2) (List.mem_reverse.mp hz)).1
            exact h1 (inj _ _ (hpe.trans q) ▸ hp)
        · rw [if_neg q] at h2
          exact .inr ⟨fun hm => (List.mem_cons.mp hm).elim q h1, h2⟩

/-- a call of a nested function -/
theorem clo_call (O : GOk X) (hT : ∀ b ∈ X.T, X.hb.get? b = none) (calls : Calls X C k) {fd : FuncData} {f : Addr} {params : List Nat} {body : List Stmt} (S : NFd X fd params body) {H0 : Heap} {P : Value → Shared → Prop}
    (n : NFn X fd f s.heap) (W : NW X H0 ρ own s.heap) (ht : 0 < s.toks) (hR : Rm A (k + 1)) {capt vars : Vars} {ws : List V} {xs : List Value} (hv : setVs params ws capt = some vars) (rx : VRs s.heap H0 ρ ws xs)
    (hcap : ∀ i v, getV i capt = some v → fd.scope.names.lookup (X.nm i) = some .free ∧ ∃ c x, fd.closure.lookup (X.nm i) = some c ∧ s.heap.IsCell c (some x) ∧ VR s.heap H0 ρ v x)
    (hcp : fd.closure.Pairwise fun x y => x.2 ≠ y.2)
    (H : ∀ F h₁ t₁, F.env.cells = fd.closure → F.h₀ = H0 → F.W = [s.heap.objs.size] → CtxS X C F (A.deeper F.env) k fd.scope.names → 0 < t₁ → (∀ b o, s.heap.get? b = some o → h₁.get? b = some o) → Rep X F ρ vars own h₁ →
      wpAny (model X.prog X.w) (A.deeper F.env) (execs body F.env) (fun fl s' => P (match fl with | .ret v => v | _ => .none) s') E0 { s with heap := h₁, toks := t₁ }) :
    wpAny (model X.prog X.w) A (call (.ref f) xs) P E0 s := by
  have hlen : xs.length = params.length := by rw [rx.length, setVs_len hv]
  obtain ⟨o, ho, hd⟩ := n.get
  refine wpAny_call ?_
  refine codeAny_call_function (Nat.lt_of_le_of_lt (Nat.le_add_right _ _) hR.depth) ho hd S.co S.gen S.bodyE n.code ?_
  rw [S.bind xs hlen]
  have hloc : ∀ x ∈ (params.map X.nm).zip xs, fd.scope.names.lookup x.1 = some .local := fun x hx => by
    have hx1 := (List.of_mem_zip (a := x.1) (b := x.2) hx).1
    obtain ⟨p, hp, hpe⟩ := List.mem_map.mp hx1
    rw [← hpe]; exact S.par p hp
  refine wpAny_pure (wpAny_newFunctionEnv S.nocell hloc (fun h₁ hns hsb => ?_) S.kind)
  have keep : ∀ b o, s.heap.get? b = some o → h₁.get? b = some o := fun b o e => hsb.extBut b o (Nat.ne_of_lt (Heap.lt_size e)) (Heap.get?_push_of_some _ e)
  refine ⟨(O.nolimit.keeps W.hb.old).keeps keep, codeAny_func ?_⟩
  obtain ⟨env, he⟩ : ∃ env, env = newEnv fd.scope s.heap.objs.size fd.globals fd.closure (fd.qualname ++ ".<locals>.") (some f) fd.code none fd.builtins := ⟨_, rfl⟩
  rw [← he]
  have hcel : env.cells = fd.closure := by subst he; rfl
  have hscope : env.scope = fd.scope := by subst he; rfl
  have hlocs : env.locals = s.heap.objs.size := by subst he; rfl
  have hkind : ∀ n, env.kindOf n = fd.scope.names.lookup n := fun n => by unfold Env.kindOf; rw [hscope]
  obtain ⟨F, hF⟩ : ∃ F : Frm, F = { env := env, h₀ := H0, W := [s.heap.objs.size] } := ⟨_, rfl⟩
  have hFe : F.env = env := by subst hF; rfl
  have hF0 : F.h₀ = H0 := by subst hF; rfl
  have hFW : F.W = [s.heap.objs.size] := by subst hF; rfl
  have nL : s.heap.get? s.heap.objs.size = none := size_none _
  have K : CtxS X C F (A.deeper F.env) k fd.scope.names := by
    refine ⟨⟨⟨⟨by rw [hFe, hscope]; exact S.kind, by rw [hFe]; subst he; exact S.glob, by rw [hFe]; subst he; exact S.blt, by rw [hFe, hFW, hlocs]; exact .head _⟩, O, hT, ⟨hR.handled, ?_, ?_⟩⟩, by rw [hFe, hscope], calls⟩, fun n c hk hm => ?_, by rw [hFe, hcel]; exact hcp⟩
    · have := hR.depth; rw [Nat.add_comm k 1, ← Nat.add_assoc] at this; exact this
    · have := hR.units; show A.units + 3 + 4 * k + 200 < cLine; lia
    · rw [hFe, hkind] at hk
      exact absurd rfl (S.nocell _ (mem_of_lookup hk))
  have P' : Apart X.T [] ρ s.heap := W.apart
  have G : Gr X.T [] ρ ρ s.heap h₁ := Gr.of_keep keep
  have R : Rep X F ρ vars own h₁ := by
    refine ⟨⟨fun b o e => keep b o (W.hb.old b o e), W.hb.ti.keepF fun b o _ e _ => keep b o e⟩, fun b e => G.alive b (W.al b (by rw [← hF0]; exact e)), fun b hbW => ?_, by rw [hF0]; exact W.t, by rw [hF0]; exact W.base, ⟨_, by rw [hFe, hlocs]; exact hns, fun i v hi hse => ?_⟩, ?_, fun n hn => ?_⟩
    · rw [hFW] at hbW; cases List.mem_singleton.mp hbW
      obtain ⟨o', es, ep, e', d'⟩ := Ns.dict hns
      refine ⟨⟨o', e', .inl ⟨es, ep, d'⟩⟩, ?_⟩
      cases q : X.hb.get? s.heap.objs.size with
      | none => rfl
      | some o2 => have := W.hb.old _ o2 q; rw [nL] at this; cases this
    · have rx1 := rx.gr G P'
      have key := bind_clo (X := X) O.inj params ws xs capt vars hv rx1 i v hi
      rw [hF0]
      rcases key with ⟨h1, x, h2, h3⟩ | ⟨h1, h2⟩
      · exact ⟨x, .inl ⟨by rw [hFe, hkind]; exact S.par i h1, h2⟩, h3⟩
      · obtain ⟨hfree, c, x, hc, ⟨oc, eoc, doc⟩, hr⟩ := hcap i v h2
        exact ⟨x, .inr ⟨.inr (by rw [hFe, hkind]; exact hfree), c, by rw [hFe, hcel]; exact hc, oc, keep _ _ eoc, doc⟩, hr.gr G P'⟩
    · rw [hF0]
      exact ⟨W.own.len, W.own.nodup, W.own.fresh, fun n vs e => by
        obtain ⟨a, zs, hr, ⟨j, ha⟩, hw⟩ := W.own.at' n vs e
        exact ⟨a, zs, hr, ⟨j, keep a _ ha⟩, hw.gr G P'⟩⟩
    · rw [hFe, hkind] at hn
      exact absurd rfl (S.nocell _ (mem_of_lookup hn))
  have := H F h₁ (s.toks + ((params.map X.nm).zip xs).length) (by rw [hFe, hcel]) hF0 hFW K (by lia) keep R
  rw [hFe] at this
  exact wpAny_mono this (fun f s' q => q) fun _ _ q => q.elim

/-- a call of a nested function from an expression: the callee's name is read, the arguments are read, the call is made -/
theorem clo_eval (K : Ctx X C F A k N) (R : Rep X F ρ vars own s.heap) (ht : 0 < s.toks) {i : Nat} {d : Expr} {as : Es} {ws : List V} {c f : Addr} {fd : FuncData} (hk : N.lookup (X.nm i) = some .free ∨ N.lookup (X.nm i) = some .cell) (hd : notDbg (X.nm i) = true)
    (hc : F.env.cells.lookup (X.nm i) = some c) (hx : s.heap.IsCell c (some (.ref f))) (nf : NFn X fd f s.heap) (ha : okEs X.nm X.gi as N (kids d).tail = true) (e : evs C X.TK as vars own = some (ws, own'))
    (H : ∀ xs ρ' h' t', 0 < t' → Gr X.T F.W ρ ρ' s.heap h' → Rep X F ρ' vars own' h' → VRs h' F.h₀ ρ' ws xs → wpAny (model X.prog X.w) A (call (.ref f) xs) Q E0 { s with heap := h', toks := t' }) :
    wpAny (model X.prog X.w) A (eval (repE X.nm (.call i as) d) F.env) Q E0 s := by
  have hp := reps_plain (nm := X.nm) F.env d.pos as (kids d).tail
  have key : wpAny (model X.prog X.w) A (callWith d.pos (.ref f) [] (backTo d.pos (starEach (repEs X.nm as (kids d).tail) F.env)) []) Q E0 s := by
    obtain ⟨o, eo, dof⟩ := nf.get
    refine PySem.W.callWith_of (P := fun h => FnAt f h) (by rw [hp]; rfl) (fun h hP => keeps_F h hP) (evalArgs_any hp ((pes_all as N _ ha).vals F A k ρ vars own _ s _ ws _ K e R ht fun xs ρ₁ h₁ t₁ ht₁ G₁ R₁ rx => ⟨?_, H xs ρ₁ h₁ t₁ ht₁ G₁ R₁ rx⟩))
    obtain ⟨n1, n2, n3⟩ := R.fn_ne eo dof
    have := G₁.keep f o eo n1 n2 n3
    obtain ⟨oc, od, dt, sl⟩ := o
    cases dof
    exact ⟨oc, od, fd, sl, this⟩
  refine Call_ (wpAny_Name (hk.elim (fun hk => ?_) fun hk => ?_) (notDbg_1 hd).1)
  · exact wpAny_loadName_free K.Z.K.kind (by rw [kindN K.N]; exact hk) hc hx key (notDbg_1 hd).2
  · exact wpAny_loadName_cell K.Z.K.kind (by rw [kindN K.N]; exact hk) hc hx key

/-- all but the tables as it was -/
theorem Rep.keepT (Z : Fx X F A k) (R : Rep X F ρ vars own h) (keep : ∀ b o, h.get? b = some o → b ∉ X.T → h'.get? b = some o) (alive : ∀ b, (h.get? b).isSome → (h'.get? b).isSome) (ti : TI X.tabs h') : Gr X.T F.W ρ ρ h h' ∧ Rep X F ρ vars own h' := by
  have S : Step X F.env.locals ρ h h' := ⟨fun b o e _ _ h3 => keep b o e h3, fun m n => n.at' fun o e => keep _ o e R.L_T, alive, fun _ => ti⟩
  have hx : ∃ r, ρ = ρ ++ r ∧ ∀ b ∈ r, h.get? b = none := ⟨[], (List.append_nil ρ).symm, fun _ h => nomatch h⟩
  have G := Gr.of_step (ρ' := ρ) S Z.K.loc hx
  exact R.step Z.K Z.T S hx ⟨R.own.len, R.own.nodup, R.own.fresh, fun n vs e => by
    obtain ⟨a, xs, hr, ⟨j, ha⟩, hw⟩ := R.own.at' n vs e
    exact ⟨a, xs, hr, ⟨j, keep a _ ha fun hT => (R.apart.t a hT _ ha).1 _ _ rfl⟩, hw.gr G R.apart⟩⟩

/-- all that a nested call leans on -/
structure DW (X : GX) (H0 : Heap) (fd : FuncData) (f : Addr) (capt : Vars) (ρ : List Addr) (own : Own) (h : Heap) : Prop where
  nf : NFn X fd f h
  w : NW X H0 ρ own h
  cap : ∀ i v, getV i capt = some v → fd.scope.names.lookup (X.nm i) = some .free ∧ ∃ c x, fd.closure.lookup (X.nm i) = some c ∧ h.IsCell c (some x) ∧ VR h H0 ρ v x
  self : fd.scope.names.lookup (X.nm 136) = some .free ∧ ∃ c, fd.closure.lookup (X.nm 136) = some c ∧ h.IsCell c (some (.ref f))

/-- the objects leant on stand, and the captured values mean what they meant -/
theorem DW.keepC {H0 : Heap} {fd : FuncData} {f : Addr} {capt : Vars} (d : DW X H0 fd f capt ρ own h) (keep : ∀ b o, h.get? b = some o → Lean1 o → h'.get? b = some o) (alive : ∀ b, (h.get? b).isSome → (h'.get? b).isSome)
    (hb : HB X h') (hc : ∀ i v, getV i capt = some v → ∀ x, VR h H0 ρ v x → VR h' H0 ρ v x) (hO : OwnOk H0 ρ own' h') : DW X H0 fd f capt ρ own' h' := by
  have cells : ∀ {c : Addr} {x : Option Value}, h.IsCell c x → h'.IsCell c x := fun {c x} ⟨o, e, dd⟩ => ⟨o, keep c o e (.inr (.inl ⟨_, dd⟩)), dd⟩
  refine ⟨d.nf.keep keep, ⟨hb, fun b e => alive b (d.w.al b e), d.w.t, d.w.base, hO⟩, fun i v e => ?_, d.self.1, d.self.2.elim fun c h => ⟨c, h.1, cells h.2⟩⟩
  obtain ⟨h1, c, x, h2, h3, h4⟩ := d.cap i v e
  exact ⟨h1, c, x, h2, cells h3, hc i v e x h4⟩
theorem DW.keep {H0 : Heap} {fd : FuncData} {f : Addr} {capt : Vars} (d : DW X H0 fd f capt ρ own h) (keep : ∀ b o, h.get? b = some o → b ∉ ρ → b ∉ X.T → h'.get? b = some o) (alive : ∀ b, (h.get? b).isSome → (h'.get? b).isSome)
    (hb : HB X h') (hO : OwnOk H0 ρ own' h') : DW X H0 fd f capt ρ own' h' :=
  d.keepC (fun b o e l => keep b o e (fun hm => by
      obtain ⟨xs, n, e'⟩ := d.w.own.lists b hm
      rw [e] at e'; cases e'; exact l.seq _ _ rfl) (l.T d.w.hb.ti e)) alive hb
    (fun i v e x r => r.gr (T := X.T) (W := []) ⟨fun b o e h1 _ h3 => keep b o e h1 h3, alive, [], (List.append_nil _).symm, fun _ h => nomatch h⟩ d.w.apart) hO
end
end Mine
end
section
set_option maxRecDepth 100000
set_option autoImplicit false
namespace Mine
open PySem PyProof.Rows PySem.W

noncomputable def d2pre : Ss :=
  .cons (.ite (.cmp .eq (.bin .add (.var 130) (.int 1)) (.var 131)) (.cons (.ret (.idx (.var 137) (.var 130))) .nil) .nil)
  (.cons (.asg 132 (.bin .shr (.bin .add (.var 130) (.var 131)) (.int 1)))
  (.cons (.asg 133 (.bin .mul (.bin .sub (.var 132) (.var 130)) (.var 22))) .nil))
noncomputable def d2a1 : Es := .cons (.var 132) (.cons (.var 131) .nil)
noncomputable def d2a2 : Es := .cons (.var 130) (.cons (.var 132) .nil)
noncomputable def d2ret : S := .ret (.bin .add (.bin .shl (.call 136 d2a1) (.var 133)) (.call 136 d2a2))
noncomputable def valD (n : Nat) (ds : List Int) : Nat → Nat → Nat → Int
  | 0, _, _ => 0
  | d + 1, L, R => if L + 1 = R then ds.getD L 0 else valD n ds d ((L + R) / 2) R * 2 ^ (((L + R) / 2 - L) * n) + valD n ds d L ((L + R) / 2)

theorem intsO_map : ∀ {vs : List V} {ds : List Int}, intsO vs = some ds → vs = ds.map V.int
  | [], _, h => by cases h; rfl
  | v :: vs, _, h => bind_of h fun i hi h => bind_of h fun r hr h => by
    cases h
    rw [intOf_is hi, intsO_map hr]; rfl
noncomputable def d2capt (ds : List Int) (n : Nat) : Vars := [(137, .lst true (ds.map V.int)), (22, .int n)]
noncomputable def d2v (ds : List Int) (n L R : Nat) : Vars := [(137, .lst true (ds.map V.int)), (22, .int n), (130, .int L), (131, .int R)]
theorem fdiv2 (a : Nat) : Int.fdiv (a : Int) (2 ^ (1 : Int).toNat) = ((a / 2 : Nat) : Int) := by
  show Int.fdiv (a : Int) 2 = _
  rw [Int.fdiv_eq_ediv_of_nonneg _ (by decide)]; rfl
theorem mid_shr {L R : Nat} : bopI .shr ((L : Int) + R) 1 = some (((L + R) / 2 : Nat) : Int) := by
  rw [← Int.natCast_add]
  show (if (0 : Int) ≤ 1 then some (Int.fdiv ((L + R : Nat) : Int) (2 ^ (1 : Int).toNat)) else none) = _
  rw [if_pos (by decide), fdiv2]
theorem sub_nat {m L : Nat} (h : L ≤ m) : (m : Int) - (L : Int) = ((m - L : Nat) : Int) := (Int.ofNat_sub h).symm
theorem mid_is {L R d : Nat} (h : ¬ L + 1 = R) (hLR : L < R) (hd : R - L ≤ d + 1) : L < (L + R) / 2 ∧ (L + R) / 2 < R ∧ R - (L + R) / 2 ≤ d ∧ (L + R) / 2 - L ≤ d := by
  have h0 : L + 1 < R := Nat.lt_of_le_of_ne hLR h
  have a : L + 1 ≤ (L + R) / 2 := (Nat.le_div_iff_mul_le (by decide)).mpr (by rw [Nat.mul_two, Nat.add_assoc]; exact Nat.add_le_add_left (by rw [Nat.add_comm 1]; exact h0) L)
  have b : (L + R) / 2 < R := (Nat.div_lt_iff_lt_mul (by decide)).mpr (by rw [Nat.mul_two]; exact Nat.add_lt_add_right hLR R)
  refine ⟨a, b, ?_, ?_⟩
  · refine Nat.le_trans (Nat.sub_le_sub_left a R) ?_
    rw [Nat.sub_add_eq]; exact Nat.sub_le_of_le_add hd
  · exact Nat.le_of_lt_succ (Nat.lt_of_lt_of_le (Nat.sub_lt_sub_right (Nat.le_of_succ_le a) b) hd)
theorem shift_le {L R m n : Nat} (h1 : m < R) (h2 : R ≤ 1000) (hn : n < 100000) : (m - L) * n ≤ 100000000 :=
  Nat.mul_le_mul (Nat.le_trans (Nat.sub_le _ _) (Nat.le_trans (Nat.le_of_lt h1) h2)) (Nat.le_of_lt hn)
theorem lsh_ok {b : Int} {k : Nat} (hb : (bitsI b : Int) ≤ 1000000) (h : k ≤ 100000000) : (Builtin.Int.intBits b : Int) + (k : Int) ≤ 134217728 := by rw [bits_is]; lia
section
variable {C : Nat → List V → Option V} {TK : Nat → Option Int} {ds : List Int} {n L R : Nat} {vars : Vars} {own : Own}
/-- the test of both inner defs -/
theorem one_tst (hL : getV 130 vars = some (.int L)) (hR : getV 131 vars = some (.int R)) (b : Bool) (hb : decide ((L : Int) + 1 = R) = b) : tstOf (ev C TK (.cmp .eq (.bin .add (.var 130) (.int 1)) (.var 131)) vars own) = some (b, own) :=
  st_cmpI (st_binI (st_var hL) st_int rfl) (st_var hR) (congrArg some hb)
/-- the middle and the shift of both inner defs -/
theorem mid_exs (hL : getV 130 vars = some (.int L)) (hR : getV 131 vars = some (.int R)) (hn : getV 22 vars = some (.int n)) (hLR : L ≤ R) (hn2 : n < 100000) {ss : Ss} {z : Option (Fl × Vars × Own)}
    (h : exs C TK ss (setV 133 (.int ((((L + R) / 2 - L) * n : Nat) : Int)) (setV 132 (.int ((L + R) / 2 : Nat)) vars)) own = z) :
    exs C TK (.cons (.asg 132 (.bin .shr (.bin .add (.var 130) (.var 131)) (.int 1))) (.cons (.asg 133 (.bin .mul (.bin .sub (.var 132) (.var 130)) (.var 22))) ss)) vars own = z := by
  have e1 : getV 132 (setV 132 (.int ((L + R) / 2 : Nat)) vars) = some (.int ((L + R) / 2 : Nat)) := by rw [getV_set, if_pos rfl]
  have e2 : getV 130 (setV 132 (.int ((L + R) / 2 : Nat)) vars) = some (.int L) := by rw [getV_set, if_neg (by decide), hL]
  have e3 : getV 22 (setV 132 (.int ((L + R) / 2 : Nat)) vars) = some (.int n) := by rw [getV_set, if_neg (by decide), hn]
  refine st_next (st_asg (st_binI (st_binI (st_var hL) (st_var hR) rfl) st_int mid_shr)) (st_next (st_asg (st_binI (st_binI (st_var e1) (st_var e2) rfl) (st_var e3) ?_)) h)
  rw [sub_nat (by lia)]
  exact if_pos (.inr (by show n < 2 ^ 64; lia))
theorem d2_one (hL : L < ds.length) (hlen : ds.length ≤ 1000) : exs C TK d2pre (d2v ds n L (L + 1)) [] = some (.ret (.int (ds.getD L 0)), d2v ds n L (L + 1), []) := by
  refine st_stop (st_ite_t (one_tst (L := L) (R := L + 1) rfl rfl true (decide_eq_true rfl)) (st_stop (st_ret (st_idx (x := .lst true (ds.map V.int)) (y := .int L) (st_var rfl) (st_var rfl) ?_))))
  show (if -100000 ≤ (L : Int) ∧ (L : Int) ≤ 100000 then getI (ds.map V.int) (L : Int) else none) = _
  rw [if_pos (by lia)]
  unfold getI
  rw [if_pos (Int.natCast_nonneg L), Int.toNat_natCast, List.getElem?_map, List.getD, List.getElem?_eq_getElem hL]; rfl
theorem d2_more (h : L + 1 < R) (hn : n < 100000) : exs C TK d2pre (d2v ds n L R) [] = some (.next, setV 133 (.int ((((L + R) / 2 - L) * n : Nat) : Int)) (setV 132 (.int ((L + R) / 2 : Nat)) (d2v ds n L R)), []) :=
  st_next (st_ite_f (one_tst (L := L) (R := R) rfl rfl false (decide_eq_false (by lia))) st_nil) (mid_exs (L := L) (R := R) (n := n) rfl rfl rfl (by lia) hn st_nil)
end

/-- the text of _digits2int's inner def -/
noncomputable def d2r (d : List Stmt) : Stmt := (d.drop 3).headD noStmt
noncomputable def d2T (d : List Stmt) : List Stmt := repSs nmS d2pre d ++ [repS nmS d2ret (d2r d)]
noncomputable def okD2 (gi : Nat → Option Int) (N : Names) (d : List Stmt) : Bool := (okSs nmS gi d2pre N d && !(sk (d2r d)).isEmpty) && ((okEs nmS gi d2a1 N (kids (kid (kid (k0 (d2r d)) 0) 0)).tail && (okE nmS gi (.var 133) N (kid (kid (k0 (d2r d)) 0) 1) && okEs nmS gi d2a2 N (kids (kid (k0 (d2r d)) 1)).tail)) && notDbg (nmS 136))

/-- behind a nested call that keeps all -/
inductive NRes (X : GX) (ρ : List Addr) (s : Shared) (P : Heap → Value → Prop) (y : Value) : Shared → Prop where
  | mk (h' : Heap) (t' : Nat) (ht : 0 < t') (keep : ∀ b o, s.heap.get? b = some o → b ∉ ρ → b ∉ X.T → h'.get? b = some o) (alive : ∀ b, (s.heap.get? b).isSome → (h'.get? b).isSome) (hb : HB X h') (p : P h' y) : NRes X ρ s P y { s with heap := h', toks := t' }
/-- the state again, later -/
structure Lat (X : GX) (H0 : Heap) (fd : FuncData) (f : Addr) (capt : Vars) (ρ : List Addr) (own : Own) (h h' : Heap) : Prop where
  W : DW X H0 fd f capt ρ own h'
  keep : ∀ b o, h.get? b = some o → b ∉ ρ → b ∉ X.T → h'.get? b = some o
  alive : ∀ b, (h.get? b).isSome → (h'.get? b).isSome
theorem DW.later {X : GX} {H0 h h₁ h' : Heap} {fd : FuncData} {f : Addr} {capt : Vars} {ρ ρ' Ws : List Addr} {own own' : Own} (W : DW X H0 fd f capt ρ own h) (hWn : ∀ b o, h.get? b = some o → b ∉ Ws) (keep1 : ∀ b o, h.get? b = some o → h₁.get? b = some o)
    (G : Gr X.T Ws ρ ρ' h₁ h') (hb : HB X h') (hO : OwnOk H0 ρ own' h') : Lat X H0 fd f capt ρ own' h h' :=
  have keep : ∀ b o, h.get? b = some o → b ∉ ρ → b ∉ X.T → h'.get? b = some o := fun b o e h1 h3 => G.keep b o (keep1 b o e) h1 (hWn b o e) h3
  have alive : ∀ b, (h.get? b).isSome → (h'.get? b).isSome := fun b e => G.alive b (alive_of keep1 b e)
  ⟨W.keep keep alive hb hO, keep, alive⟩
theorem none_own {X : GX} {F : Frm} {ρ : List Addr} {vars : Vars} {h : Heap} (R : Rep X F ρ vars [] h) : ρ = [] := List.length_eq_zero_iff.mp R.own.len
theorem VRs.ints2 {h h₀ : Heap} {ρ : List Addr} {i j : Int} {xs : List Value} (r : VRs h h₀ ρ [.int i, .int j] xs) {P : List Value → Prop} (k : ∀ t u, P [.int i t, .int j u]) : P xs :=
  pair_at r fun y z ry rz => ry.intE (P := fun y => P [y, z]) rfl fun t => rz.intE (P := fun z => P [.int i t, z]) rfl (k t)

theorem d2_inner {X : GX} {C : Nat → List V → Option V} {k : Nat} (hnm : X.nm = nmS) (O : GOk X) (hT : ∀ b ∈ X.T, X.hb.get? b = none) (calls : ∀ j, Calls X C (k + j)) {fd : FuncData} {f : Addr} {d0 : List Stmt} (S : NFd X fd [130, 131] (d2T d0)) (hchk : okD2 X.gi fd.scope.names d0 = true)
    {H0 : Heap} (hcp : fd.closure.Pairwise fun x y => x.2 ≠ y.2) {ds : List Int} {n : Nat} (hn : n < 100000) (hlen : ds.length ≤ 1000)
    (hB : ∀ d L R, d ≤ ds.length → L < R → R ≤ ds.length → (bitsI (valD n ds d L R) : Int) ≤ 1000000) :
    ∀ (d : Nat) (A : Around) (s : Shared) (L R : Nat) (tL tR : Tok), Rm A (k + d) → DW X H0 fd f (d2capt ds n) [] [] s.heap → 0 < s.toks → d ≤ ds.length → L < R → R ≤ ds.length → R - L ≤ d →
      wpAny (model X.prog X.w) A (call (.ref f) [.int L tL, .int R tR]) (NRes X [] s fun _ y => ∃ t, y = .int (valD n ds d L R) t) E0 s := by
  have h := and_true hchk
  have h1 := and_true h.1
  have h2 := and_true h.2
  have h3 := and_true h2.1
  have h4 := and_true h3.2
  rw [← hnm] at h1 h2 h3 h4
  intro d
  induction d with
  | zero => intro A s L R tL tR _ _ _ _ h1 _ h3; exact absurd (Nat.sub_pos_of_lt h1) (Nat.not_lt.mpr h3)
  | succ d ih =>
    intro A s L R tL tR hR W ht hdl hLR hRl hd
    refine clo_call (k := k + d) O hT (calls d) S W.nf W.w ht (by rw [Nat.add_assoc]; exact hR) (capt := d2capt ds n) (vars := d2v ds n L R) (ws := [.int L, .int R]) rfl ⟨⟨tL, rfl⟩, ⟨tR, rfl⟩, rfl⟩ W.cap hcp fun F h₁ t₁ hcel hF0 hFW K ht₁ keep1 R1 => ?_
    have hWn : ∀ b o, s.heap.get? b = some o → b ∉ F.W := fun b o e hm => by
      rw [hFW] at hm; exact ne_of_get e (size_none _) (List.mem_singleton.mp hm)
    refine wpAny_execs_append ?_
    rw [← hnm]
    by_cases hone : L + 1 = R
    · subst hone
      refine pss_all d2pre _ _ h1.1 F _ (k + d) [] _ _ [] _ { s with heap := h₁, toks := t₁ } _ _ K (d2_one hRl hlen) R1 ht₁ fun fw ρ' h' t' ht' G R' rf => ?_
      obtain ⟨y, rfl, t, rfl⟩ := rf
      have Lt := W.later hWn keep1 G R'.hb own_none
      exact .mk h' t' ht' Lt.keep Lt.alive R'.hb ⟨t, by rw [valD, if_pos rfl]⟩
    · refine pss_all d2pre _ _ h1.1 F _ (k + d) [] _ _ [] _ { s with heap := h₁, toks := t₁ } _ _ K (d2_more (Nat.lt_of_le_of_ne hLR hone) hn) R1 ht₁ fun fw ρ₂ h₂ t₂ ht₂ G₂ R₂ rf => ?_
      cases rf
      have L2 := W.later hWn keep1 G₂ R₂.hb own_none
      have hval : valD n ds (d + 1) L R = valD n ds d ((L + R) / 2) R * 2 ^ (((L + R) / 2 - L) * n) + valD n ds d L ((L + R) / 2) := by rw [valD, if_neg hone]
      rw [hval]
      clear hval
      obtain ⟨hm1, hm2, hm3, hm4⟩ := mid_is hone hLR hd
      generalize (L + R) / 2 = m at *
      have hρ₂ := none_own R₂
      subst hρ₂
      have hret : repS X.nm d2ret (d2r d0) = .Return (some (repE X.nm (.bin .add (.bin .shl (.call 136 d2a1) (.var 133)) (.call 136 d2a2)) (k0 (d2r d0)))) (d2r d0).pos := by
        show Stmt.Return (optE (!(sk (d2r d0)).isEmpty) _) _ = _
        rw [h1.2]; rfl
      rw [hret]
      refine wpAny_execs_cons (wpAny_Return_some (wpAny_BinOp (wpAny_BinOp ?_)))
      obtain ⟨c, hc, hx⟩ := L2.W.self.2
      refine clo_eval (s := { s with heap := h₂, toks := t₂ }) K.toCtx R₂ ht₂ (.inl W.self.1) h2.2 (by rw [hcel]; exact hc) hx L2.W.nf h3.1 (ws := [.int (m : Nat), .int R]) (own' := []) (st_evs (st_var rfl) (st_evs (st_var rfl) st_evs_nil)) fun xs ρ₃ h₃ t₃ ht₃ G₃ R₃ rx => ?_
      have L3 := W.later hWn keep1 (G₂.trans G₃) R₃.hb own_none
      apply rx.ints2; intro tm tr
      refine wpAny_mono (ih (A.deeper F.env) { s with heap := h₃, toks := t₃ } m R tm tr K.Z.R L3.W ht₃ (Nat.le_of_succ_le hdl) hm2 hRl hm3) (fun y s' hy => ?_) fun _ _ f => f.elim
      cases hy with
      | mk h₄ t₄ ht₄ keep4 alive4 hb4 hp =>
      obtain ⟨t5, rfl⟩ := hp
      obtain ⟨G4, R4⟩ := R₃.keepT (h' := h₄) K.Z (fun b o e h3 => keep4 b o e List.not_mem_nil h3) alive4 hb4.ti
      refine (pe_all (.var 133) _ _ h4.1).1 F _ (k + d) _ _ [] [] { s with heap := h₄, toks := t₄ } _ (.int (((m - L) * n : Nat) : Int)) K.toCtx (st_var rfl) R4 ht₄ fun ysh ρ₅ h₅ t₅ ht₅ G₅ R₅ rsh => ?_
      apply rsh.intE rfl; intro tsh
      refine PyProof.Rows.lshift_int (Int.natCast_nonneg _) (lsh_ok (hB d m R (Nat.le_of_succ_le hdl) hm2 hRl) (shift_le hm2 (Nat.le_trans hRl hlen) hn)) ?_
      have hρ₅ := none_own R₅
      subst hρ₅
      have L5 := W.later hWn keep1 (((G₂.trans G₃).trans G4).trans G₅) R₅.hb own_none
      obtain ⟨c2, hc2, hx2⟩ := L5.W.self.2
      refine clo_eval (s := { s with heap := h₅, toks := t₅ + 1 }) K.toCtx R₅ (Nat.succ_pos _) (.inl W.self.1) h2.2 (by rw [hcel]; exact hc2) hx2 L5.W.nf h4.2 (ws := [.int L, .int (m : Nat)]) (own' := []) (st_evs (st_var rfl) (st_evs (st_var rfl) st_evs_nil)) fun xs ρ₆ h₆ t₆ ht₆ G₆ R₆ rx => ?_
      have L6 := W.later hWn keep1 ((((G₂.trans G₃).trans G4).trans G₅).trans G₆) R₆.hb own_none
      apply rx.ints2; intro tl tm2
      refine wpAny_mono (ih (A.deeper F.env) { s with heap := h₆, toks := t₆ } L m tl tm2 K.Z.R L6.W ht₆ (Nat.le_of_succ_le hdl) hm1 (Nat.le_trans (Nat.le_of_lt hm2) hRl) hm4) (fun y s' hy => ?_) fun _ _ f => f.elim
      cases hy with
      | mk h₇ t₇ ht₇ keep7 alive7 hb7 hp =>
      obtain ⟨t8, rfl⟩ := hp
      exact PyProof.Rows.add_int (.mk h₇ (t₇ + 1) (Nat.succ_pos _) (fun b o e h1 h3 => keep7 b o (L6.keep b o e h1 h3) h1 h3) (fun b e => alive7 b (L6.alive b e)) hb7 ⟨t₇, by rw [Int.toNat_natCast]⟩)
end Mine
end
section
set_option maxRecDepth 100000
set_option autoImplicit false
namespace Mine
open PySem PyProof.Rows PySem.W

section
variable {X : GX} {C : Nat → List V → Option V} {F : Frm} {A : Around} {k : Nat} {N : Names} {ρ ρ₁ : List Addr} {vars vars' : Vars} {own own' own₁ : Own} {s : Shared} {Q : Flow → Shared → Prop} {v w r : V} {x y : Value} {h h' h₁ : Heap} {t₁ : Nat}
theorem Rep.storeX (K : CtxS X C F A k N) (R : Rep X F ρ vars own h) {t : Nat} {c : Addr} {v₀ : Option Value} (hk : F.env.kindOf (X.nm t) = some .cell) (hc : F.env.cells.lookup (X.nm t) = some c) (ho : h.IsCell c v₀) (hno : getV t vars = none)
    (hn : h'.IsCell c (some y)) (keep : ∀ b o, b ≠ c → h.get? b = some o → h'.get? b = some o) : Gr X.T F.W ρ ρ h h' ∧ Rep X F ρ vars own h' :=
  R.storeG K hk hc ho hn keep fun i v e => .inr ⟨fun q => (by rw [q, hno] at e; cases e), e⟩
theorem CodeRec.keepN {c : Value} {qual : Str} {P : Addr} {vs : Array Value} (r : h.CodeRec c qual) (eP : h.get? P = some (tabObj vs)) (hvs : ∀ q t, vs[1]? ≠ some (.str q t)) (k : ∀ b o, b ≠ P → h.get? b = some o → h'.get? b = some o) : h'.CodeRec c qual := by
  obtain ⟨c, oc, ws, tt, hc, e2, d2, z⟩ := r
  exact ⟨c, oc, ws, tt, hc, k _ _ (fun y => by rw [y, eP] at e2; cases e2; cases d2; exact hvs _ _ z) e2, d2, z⟩
/-- a code table is filled -/
theorem TI.made {tabs : List Tab} (t : TI tabs h) {q : Tab} (huniq : ∀ q' ∈ tabs, q'.P = q.P → q' = q) (eP : h.get? q.P = some (tabObj #[])) (kp : ∀ b o, b ≠ q.P → h.get? b = some o → h'.get? b = some o) {c' : Addr}
    (htab : h'.get? q.P = some (tabObj #[rawInt q.line, rawInt q.col, .ref c'])) (hrec : h'.CodeRec (.ref c') q.qual) : TI tabs h' := fun q' hq' => by
  obtain ⟨⟨o₁, vs, file, tf, fl, tg, inF, tx, tt, e, e1, e2, r⟩, hP'⟩ := t q' hq'
  refine ⟨⟨o₁, vs, file, tf, fl, tg, inF, tx, tt, kp _ _ (fun z => by rw [z, eP] at e; cases e; cases e1) e, e1, e2, r⟩, ?_⟩
  by_cases z : q'.P = q.P
  · cases huniq q' hq' z
    exact .inr ⟨c', htab, hrec⟩
  · exact hP'.imp (kp _ _ z) fun ⟨c2, h1, hr⟩ => ⟨c2, kp _ _ z h1, CodeRec.keepN hr eP (fun _ _ q => by simp at q) kp⟩
/-- the function stands: its cell is written -/
theorem def_fin (K : CtxS X C F A k N) (R : Rep X F ρ vars own s.heap) {t : Nat} (hk : N.lookup (X.nm t) = some .cell) (hno : getV t vars = none) {h2 : Heap} {f : Addr} {tk : Nat} {o : Obj} {qual : Str} {c' : Value} (keep : ∀ b o, s.heap.get? b = some o → b ∉ X.T → h2.get? b = some o)
    (alive : ∀ b, (s.heap.get? b).isSome → (h2.get? b).isSome) (ti : TI X.tabs h2) (hf : h2.get? f = some o) (hfc : ∀ v, o.data ≠ .cell v) (hrec : h2.CodeRec c' qual) {Q : Shared → Prop}
    (H : ∀ h', Gr X.T F.W ρ ρ s.heap h' → Rep X F ρ vars own h' → h'.get? f = some o → h'.CodeRec c' qual → (∃ c, F.env.cells.lookup (X.nm t) = some c ∧ h'.IsCell c (some (.ref f))) → Q { s with heap := h', toks := tk }) :
    wpAny (model X.prog X.w) A (storeName F.env (X.nm t) (.ref f)) (fun _ s'' => Q s'') E0 { s with heap := h2, toks := tk } := by
  have hk' : F.env.kindOf (X.nm t) = some .cell := by rw [kindN K.N]; exact hk
  obtain ⟨cc, v₀, hcc, o0, e0, d0⟩ := R.cells _ hk'
  obtain ⟨G2, R2⟩ := R.keepT (h' := h2) K.Z keep alive ti
  have e2 := keep _ _ e0 (R.cell_ne ⟨o0, e0, d0⟩).2.2
  refine wpAny_storeName_cell K.Z.K.kind hk' hcc ⟨o0, e2, d0⟩ fun h3 hn3 hs3 => ?_
  obtain ⟨G3, R3⟩ := R2.storeX K hk' hcc ⟨o0, e2, d0⟩ hno hn3 fun b o hb e => hs3.extBut b o hb e
  refine H h3 (G2.trans G3) R3 (hs3.extBut _ _ (fun z => by rw [z, e2] at hf; cases hf; exact hfc _ d0) hf) ?_ ⟨cc, hcc, hn3⟩
  obtain ⟨c, oc', ws, tt, hc, e3, d3, z⟩ := hrec
  exact ⟨c, oc', ws, tt, hc, hs3.extBut _ _ (fun y => by rw [y, e2] at e3; cases e3; rw [d0] at d3; cases d3) e3, d3, z⟩

/-- a def in a call: the function is made, its cell is written -/
theorem def_sound (K : CtxS X C F A k N) (R : Rep X F ρ vars own s.heap) (ht : 0 < s.toks) {q : Tab} (hq : q ∈ X.tabs) (huniq : ∀ q' ∈ X.tabs, q'.P = q.P → q' = q) {name : Str} {params : Arguments} {body : List Stmt} {scope : Scope} {pos : Pos} {t : Nat}
    (hd0 : params.defaults = []) (hk0 : params.kw_defaults = []) (ha : annTrees params none F.env = []) (hname : X.nm t = name) (hk : N.lookup name = some .cell) (hno : getV t vars = none)
    (hcode : F.env.code = .ref q.c) (hqual : qualnameIn F.env name name = q.qual) (hline : q.line = (pos.line : Int)) (hcol : q.col = (pos.col : Int)) (hfree : ∀ n, (n, NameKind.free) ∈ scope.names → N.lookup n = some .cell) {Q : Flow → Shared → Prop}
    (H : ∀ f c' ctv doc pm h' t', 0 < t' → Gr X.T F.W ρ ρ s.heap h' → Rep X F ρ vars own h' → h'.get? f = some (fnMade name q.qual params body scope (closL F.env.cells scope.names []) doc pm c' ctv) → h'.CodeRec (.ref c') q.qual →
      (∃ c, F.env.cells.lookup name = some c ∧ h'.IsCell c (some (.ref f))) → Q .next { s with heap := h', toks := t' }) :
    wpAny (model X.prog X.w) A (exec (.FunctionDef name params body [] none [] scope none name pos) F.env) Q E0 s := by
  cases hname
  have hPT : q.P ∈ X.T := List.mem_map.mpr ⟨q, hq, rfl⟩
  have hcl : closureFor scope F.env = pure (closL F.env.cells scope.names []) := clos_is fun n hn =>
    (R.cells n (by rw [kindN K.N]; exact hfree n hn)).elim fun c h => h.elim fun _ h => ⟨c, h.1⟩
  obtain ⟨hC, hP⟩ := R.hb.ti q hq
  have hg : s.heap.Ns mainGlobals X.mg := K.Z.O.g.keeps R.hb.old
  have hbat := K.Z.O.bat s.heap q.P R.hb.old (K.Z.T _ hPT)
  have hgP : mainGlobals ≠ q.P := fun z => by
    obtain ⟨oL, es, ep, eL, dL⟩ := Ns.dict hg
    rcases hP with h1 | ⟨c', h1, _⟩ <;> (rw [← z, eL] at h1; cases h1; cases dL)
  refine nestDef_K hd0 hk0 ha ?_
  rw [hqual]
  rcases hP with hP | ⟨c', hP, hrec⟩
  · refine wpAny_with_toks (n := 1) ht (makeFunction_K hcl K.Z.K.glob hg hcode hC hP True.intro rfl hgP hbat fun c' ctv doc h2 tk hx hge hlt hrec htab htk => ?_)
    have kp := fun b o z e => Heap.get?_push_of_some (fnMade (X.nm t) q.qual params body scope (closL F.env.cells scope.names []) doc ((X.mg "__name__").getD .none) c' ctv) (hx b o z e)
    have htab' := Heap.get?_push_of_some (fnMade (X.nm t) q.qual params body scope (closL F.env.cells scope.names []) doc ((X.mg "__name__").getD .none) c' ctv) htab
    refine def_fin K R hk hno (fun b o e h3 => kp b o (fun z => h3 (z ▸ hPT)) e) (fun b e => ?_) (R.hb.ti.made huniq hP kp (by rw [hline, hcol]; simpa using htab') (hrec.push _)) (Heap.get?_push_size _ rfl) (fun v q => nomatch q) (hrec.push _) fun h' => H h2.objs.size c' ctv doc _ h' tk htk
    obtain ⟨o, e⟩ := Option.isSome_iff_exists.mp e
    by_cases z : b = q.P
    · rw [z, htab']; rfl
    · rw [kp b o z e]; rfl
  · refine wpAny_with_toks (n := 1) ht (makeFunction_hit (cv := .ref c') hcl K.Z.K.glob hg hcode hC hP (by simp [TriplesOk, rawInt]) (by simp [codeAmong, rawInt, hline, hcol]) hbat fun ctv doc h2 tk hx hsz htk => ?_)
    have kp := fun b o e => Heap.get?_push_of_some (fnMade (X.nm t) q.qual params body scope (closL F.env.cells scope.names []) doc ((X.mg "__name__").getD .none) c' ctv) (hx b o e)
    exact def_fin K R hk hno (fun b o e _ => kp b o e) (alive_of kp) (R.hb.ti.keepF fun b o _ e _ => kp b o e) (Heap.get?_push_size _ rfl) (fun v q => nomatch q) (hrec.keeps kp) fun h' => H h2.objs.size c' ctv doc _ h' tk htk
end
end Mine
end
section
set_option maxRecDepth 100000
set_option autoImplicit false
namespace Mine
open PySem PyProof.Rows PySem.W

theorem ann_nil {params : Arguments} (hs : simpleB params = true) (ha : params.args.all (·.annotation.isNone) = true) (env : Env) : annTrees params none env = [] := by
  have : ∀ as : List Arg, as.all (·.annotation.isNone) = true → annotationsOf as env = [] := by
    intro as
    induction as with
    | nil => intro _; rfl
    | cons a as ih =>
      intro h
      simp only [List.all_cons, Bool.and_eq_true, Option.isNone_iff_eq_none] at h
      obtain ⟨aa, an, ap⟩ := a
      simp only at h
      rw [h.1]
      exact ih h.2
  rw [simple_ok hs]
  simp only [annTrees, List.append_nil, Option.toList]
  rw [this params.args ha]; rfl

theorem closL_pair {cells : List (Str × Addr)} (hp : cells.Pairwise fun x y => x.2 ≠ y.2) : ∀ (names : Names) (acc : List (Str × Addr)), (names.map (·.1)).Nodup → (∀ n c, (n, c) ∈ acc → cells.lookup n = some c ∧ n ∉ names.map (·.1)) →
    (acc.Pairwise fun x y => x.2 ≠ y.2) → (closL cells names acc).Pairwise fun x y => x.2 ≠ y.2
  | [], _, _, _, h => h
  | (m, kd) :: r, acc, hn, ha, h => by
    simp only [List.map_cons, List.nodup_cons] at hn
    have ha' : ∀ n c, (n, c) ∈ acc → cells.lookup n = some c ∧ n ∉ r.map (·.1) := fun n c hm => ⟨(ha n c hm).1, fun q => (ha n c hm).2 (by rw [List.map_cons]; exact .tail _ q)⟩
    unfold closL
    split
    · split
      · rename_i c hc
        refine closL_pair hp r _ hn.2 (fun n c' hm => ?_) (List.pairwise_cons.mpr ⟨fun y hy => ?_, h⟩)
        · rcases List.mem_cons.mp hm with e | hm
          · cases e; exact ⟨hc, hn.1⟩
          · exact ha' n c' hm
        · obtain ⟨n, c'⟩ := y
          intro q
          have q' : c = c' := q
          subst q'
          have := name_of_addr hp (mem_of_lookup hc) (mem_of_lookup (ha n c hy).1)
          subst this
          exact (ha _ _ hy).2 (by simp)
      · exact closL_pair hp r _ hn.2 ha' h
    · exact closL_pair hp r _ hn.2 ha' h

/-- what a made function's text must be -/
noncomputable def chkNF (params : List Nat) (ps : Arguments) (isc : Scope) (N : Names) : Bool :=
  ((simpleB ps && ps.args.all (·.annotation.isNone)) && (decide (ps.args.map (·.arg) = params.map nmS) && nodupB (ps.args.map (·.arg)))) && (((isc.kind == .function) && (!isc.isCoroutine && !isc.isGenerator)) &&
    ((isc.names.all (fun p => !(p.2 == .cell) && (!(p.2 == .free) || N.lookup p.1 == some .cell)) && nodupB (isc.names.map (·.1))) && (params.all (fun p => isc.names.lookup (nmS p) == some .local) && (isc.names.lookup (nmS 136) == some .free))))
structure NFk (params : List Nat) (ps : Arguments) (isc : Scope) (N : Names) : Prop where
  simple : simpleB ps = true
  ann : ps.args.all (·.annotation.isNone) = true
  args : ps.args.map (·.arg) = params.map nmS
  nd : (ps.args.map (·.arg)).Nodup
  kind : isc.kind = .function
  co : isc.isCoroutine = false
  gen : isc.isGenerator = false
  nocell : ∀ x ∈ isc.names, x.2 ≠ .cell
  free : ∀ n, (n, NameKind.free) ∈ isc.names → N.lookup n = some .cell
  ndn : (isc.names.map (·.1)).Nodup
  par : ∀ p ∈ params, isc.names.lookup (nmS p) = some .local
  self : isc.names.lookup (nmS 136) = some .free
theorem nfk_of {params : List Nat} {ps : Arguments} {isc : Scope} {N : Names} (h : chkNF params ps isc N = true) : NFk params ps isc N := by
  have h := and_true h
  have h1 := and_true h.1
  have h2 := and_true h1.1
  have h3 := and_true h1.2
  have h4 := and_true h.2
  have h5 := and_true h4.1
  have h6 := and_true h5.2
  have h7 := and_true h4.2
  have h8 := and_true h7.1
  have h9 := and_true h7.2
  have hn := fun p hp => and_true (List.all_eq_true.mp h8.1 p hp)
  refine ⟨h2.1, h2.2, of_decide_eq_true h3.1, nodupB_ok h3.2, beq_iff_eq.mp h5.1, not_true h6.1, not_true h6.2, fun x hx q => ?_, fun n hm => ?_, nodupB_ok h8.2, fun p hp => beq_iff_eq.mp (List.all_eq_true.mp h9.1 p hp), beq_iff_eq.mp h9.2⟩
  · have := (hn x hx).1
    rw [q] at this; cases this
  · exact beq_iff_eq.mp (hn _ hm).2

theorem nf_of {X : GX} (hnm : X.nm = nmS) {params : List Nat} {ps : Arguments} {isc : Scope} {N : Names} {ib : List Stmt} (h : NFk params ps isc N) (name qual : Str) (clos : List (Str × Addr)) (doc pm ctv : Value) (c' : Addr) :
    NFd X (fnX name qual ps ib isc clos .none .none doc pm none (.ref c') ctv) params ib := by
  refine ⟨rfl, rfl, rfl, h.kind, h.co, h.gen, h.nocell, fun p hp => by rw [hnm]; exact h.par p hp, fun xs hl => ?_⟩
  have := bind_simple (fd := fnX name qual ps ib isc clos .none .none doc pm none (.ref c') ctv) (simple_ok h.simple) rfl h.nd xs (by
    show xs.length = ps.args.length
    rw [hl, ← List.length_map (f := (·.arg)) (as := ps.args), h.args, List.length_map])
  rw [show (fnX name qual ps ib isc clos .none .none doc pm none (.ref c') ctv).params.args.map (·.arg) = params.map nmS from h.args] at this
  rw [hnm]; exact this

/-- a def, as taken from a donor -/
noncomputable def dfV : Stmt → Arguments × List Stmt × Scope × Pos
  | .FunctionDef _ ps ib _ _ _ sc _ _ p => (ps, ib, sc, p)
  | _ => (⟨[], [], none, [], [], none, []⟩, [], ⟨.function, [], false, false, []⟩, ⟨0, 0, 0, 0⟩)
noncomputable def dfT (T : List Stmt → List Stmt) (x : Stmt) : Stmt := .FunctionDef (nmS 136) (dfV x).1 (T (dfV x).2.1) [] none [] (dfV x).2.2.1 none (nmS 136) (dfV x).2.2.2
/-- the def's place and its cell -/
noncomputable def okDf (q : Tab) (fd : FuncData) (x : Stmt) : Bool := ((fd.scope.names.lookup (nmS 136) == some .cell) && ((fd.code == .ref q.c) && (fd.qualname ++ ".<locals>." ++ nmS 136 == q.qual))) && ((decide (q.line = ((dfV x).2.2.2.line : Int)) && decide (q.col = ((dfV x).2.2.2.col : Int))) && notDbg (nmS 136))

section
variable {X : GX} {C : Nat → List V → Option V} {F : Frm} {A : Around} {k : Nat} {N : Names} {ρ ρ₁ : List Addr} {vars vars' : Vars} {own own' own₁ : Own} {s : Shared} {v w r : V} {x y : Value} {h h' h₁ : Heap} {t₁ : Nat}
theorem Rep.less {W' : List Addr} (R : Rep X F ρ vars own h) (hw : ∀ b ∈ W', b ∈ F.W) : Rep X { F with W := W' } ρ vars own h :=
  ⟨R.hb, R.al, fun b hb => R.w b (hw b hb), R.t, R.base, R.fr, R.own, R.cells⟩
/-- the frame, its cells now left alone -/
noncomputable def Frm.lo (F : Frm) : Frm := { F with W := [F.env.locals] }
theorem Ctx.lo (K : Ctx X C F A k N) : Ctx X C F.lo A k N := ⟨⟨⟨K.Z.K.kind, K.Z.K.glob, K.Z.K.blt, .head _⟩, K.Z.O, K.Z.T, K.Z.R⟩, K.N, K.calls⟩
theorem Rep.lo (K : FOk X F) (R : Rep X F ρ vars own h) : Rep X F.lo ρ vars own h := R.less fun b hb => by cases List.mem_singleton.mp hb; exact K.loc
/-- what a nested call leans on stands while only the frame's names and lists turn -/
theorem Lean1.keep {o : Obj} (l : Lean1 o) (R : Rep X F.lo ρ vars own h) (G : Gr X.T F.lo.W ρ ρ₁ h h') {b : Addr} (e : h.get? b = some o) : h'.get? b = some o := by
  refine G.keep b o e (fun hm => ?_) (fun hm => ?_) (l.T R.hb.ti e)
  · obtain ⟨xs, n, e'⟩ := R.own.lists b hm
    rw [e] at e'; cases e'; exact l.seq _ _ rfl
  · obtain ⟨m, n⟩ := R.ns
    obtain ⟨oL, es, ep, eL, dL⟩ := Ns.dict n
    rw [List.mem_singleton.mp hm] at e
    rw [show h.get? F.env.locals = some oL from eL] at e; cases e
    exact l.dict _ _ dL
/-- a def of an inner function: what it leaves -/
structure Made (X : GX) (F : Frm) (H0 : Heap) (fd : FuncData) (f cself : Addr) (capt : Vars) (ρ : List Addr) (own : Own) (h : Heap) : Prop where
  W : DW X H0 fd f capt ρ own h
  cl : F.env.cells.lookup (X.nm 136) = some cself
  cs : h.IsCell cself (some (.ref f))
theorem Made.later {H0 : Heap} {fd : FuncData} {f cself : Addr} {capt : Vars} {σ : List Addr} {own₂ own₃ : Own} (M : Made X F H0 fd f cself capt σ own₂ h) (R : Rep X F.lo ρ vars own h) (G : Gr X.T F.lo.W ρ ρ₁ h h') (hb : HB X h')
    (hc : ∀ i v, getV i capt = some v → ∀ x, VR h H0 σ v x → VR h' H0 σ v x) (hO : OwnOk H0 σ own₃ h') : Made X F H0 fd f cself capt σ own₃ h' :=
  ⟨M.W.keepC (fun b o e l => l.keep R G e) G.alive hb hc hO, M.cl, let ⟨o, e, d⟩ := M.cs; ⟨o, Lean1.keep (.inr (.inl ⟨_, d⟩)) R G e, d⟩⟩
/-- what the caller had stands -/
theorem Ent.keeps {fd : FuncData} {F : Frm} (en : Ent X C A k s fd vars F h₁) (R : Rep X F ρ vars' own h) (G : Gr X.T F.W [] ρ h₁ h) (G' : Gr X.T F.lo.W ρ ρ₁ h h') : (∀ b o, s.heap.get? b = some o → b ∉ X.T → h'.get? b = some o) ∧ ∀ b, (s.heap.get? b).isSome → (h'.get? b).isSome :=
  ⟨fun b o e h3 => G'.keep b o (G.keep b o (en.keep b o e) List.not_mem_nil (en.W b o e) h3) (fun hm => by
      have := R.own.fresh b hm
      rw [en.h0, e] at this; cases this) (fun hm => en.W b o e (List.mem_singleton.mp hm ▸ en.K.Z.K.loc)) h3, fun b e => G'.alive b (G.alive b (alive_of en.keep b e))⟩
/-- a def in a function that was entered -/
theorem made_sound (hnm : X.nm = nmS) {fd : FuncData} {vs0 : Vars} (en : Ent X C A k s fd vs0 F h₁) {vs : Vars} (R : Rep X F ρ vs own h) (ht : 0 < t₁) (G : Gr X.T F.W [] ρ h₁ h) {q : Tab} (hq : q ∈ X.tabs) (huniq : ∀ q' ∈ X.tabs, q'.P = q.P → q' = q) {params : List Nat} {x : Stmt} {T : List Stmt → List Stmt}
    (hNF : NFk params (dfV x).1 (dfV x).2.2.1 fd.scope.names) (hD : okDf q fd x = true) (hno : getV 136 vs = none) {capt : Vars} {σ : List Addr} {own₂ : Own} {Q : Flow → Shared → Prop}
    (hcap : ∀ i v, getV i capt = some v → (dfV x).2.2.1.names.lookup (X.nm i) = some .free ∧ ∃ u, getV i vs = some u ∧ ∀ h' y, VR h' s.heap ρ u y → VR h' s.heap σ v y) (hO : ∀ h', OwnOk F.h₀ ρ own h' → OwnOk s.heap σ own₂ h')
    (H : ∀ fi f cself h' t', 0 < t' → NFd X fi params (T (dfV x).2.1) → fi.scope = (dfV x).2.2.1 → fi.closure.Pairwise (fun x y => x.2 ≠ y.2) → Gr X.T F.W ρ ρ h h' → Rep X F ρ vs own h' → Made X F s.heap fi f cself capt σ own₂ h' → Q .next { s with heap := h', toks := t' }) :
    wpAny (model X.prog X.w) (A.deeper F.env) (exec (dfT T x) F.env) Q E0 { s with heap := h, toks := t₁ } := by
  have hD := and_true hD
  have h1 := and_true hD.1
  have h2 := and_true h1.2
  have h3 := and_true (and_true hD.2).1
  have hcell := beq_iff_eq.mp h1.1
  have hsimple := simple_ok hNF.simple
  have K := en.K
  refine def_sound (s := { s with heap := h, toks := t₁ }) K R ht hq huniq (t := 136) (by rw [hsimple]) (by rw [hsimple]) (ann_nil hNF.simple hNF.ann _) (by rw [hnm]) hcell hno (en.code.trans (beq_iff_eq.mp h2.1)) ?_ (of_decide_eq_true h3.1) (of_decide_eq_true h3.2) hNF.free fun f c' ctv doc pm h₃ t₃ ht₃ G₃ R₃ hf hrec hself => ?_
  · unfold qualnameIn
    rw [kindN K.N, hcell, if_neg (by decide), en.qual]; exact beq_iff_eq.mp h2.2
  obtain ⟨cself, hcs, hxs⟩ := hself
  refine H (fnX (nmS 136) q.qual (dfV x).1 (T (dfV x).2.1) (dfV x).2.2.1 (closL F.env.cells (dfV x).2.2.1.names []) .none .none doc pm none (.ref c') ctv) f cself h₃ t₃ ht₃ (nf_of hnm hNF _ _ _ _ _ _ _) rfl (closL_pair K.cp _ _ hNF.ndn (fun _ _ h => nomatch h) .nil) G₃ R₃ ⟨⟨⟨⟨_, hf, rfl⟩, hrec⟩, ⟨R₃.hb, fun b e => (G.trans G₃).alive b (alive_of en.keep b e), fun b hbT => ?_, fun b e => ?_, hO _ R₃.own⟩, fun i v hi => ?_, by rw [hnm]; exact hNF.self, cself, ?_, hxs⟩, by rw [hnm]; exact hcs, hxs⟩
  · rw [← en.h0]; exact R₃.t b hbT
  · rw [← en.h0]; exact R₃.base b e
  · obtain ⟨hfi, u, hu, hr⟩ := hcap i v hi
    obtain ⟨m, hm, fr⟩ := R₃.fr
    have hc1 := hNF.free _ (mem_of_lookup hfi)
    obtain ⟨y, hy, ry⟩ := fr i u hu (.inr (.inl (by rw [kindN K.N]; exact hc1)))
    refine ⟨hfi, hy.elim (fun hk => ?_) fun ⟨_, c, hc, hy⟩ => ⟨c, y, clos_lookup hc (mem_of_lookup hfi), hy, hr _ _ (by rw [← en.h0]; exact ry)⟩⟩
    rw [kindN K.N, hc1] at hk; cases hk.1
  · rw [hnm]; exact clos_lookup hcs (mem_of_lookup hNF.self)
end

noncomputable def d2oa : Es := .cons (.int 0) (.cons (.prim .len (.cons (.var 137) .nil)) .nil)
noncomputable def d2oret : S := .ret (.ite (.var 137) (.call 136 d2oa) (.int 0))
noncomputable def d2or (d : List Stmt) : Stmt := d.tail.headD noStmt
noncomputable def d2oT (d : List Stmt) : List Stmt := [dfT d2T (d.headD noStmt), repS nmS d2oret (d2or d)]
noncomputable def okD2o (gi : Nat → Option Int) (q : Tab) (fd : FuncData) (d : List Stmt) : Bool :=
  ((chkNF [130, 131] (dfV (d.headD noStmt)).1 (dfV (d.headD noStmt)).2.2.1 fd.scope.names && okD2 gi (dfV (d.headD noStmt)).2.2.1.names (dfV (d.headD noStmt)).2.1) && (okDf q fd (d.headD noStmt) && !(sk (d2or d)).isEmpty)) &&
    ((okE nmS gi (.var 137) fd.scope.names (kid (k0 (d2or d)) 0) && okEs nmS gi d2oa fd.scope.names (kids (kid (k0 (d2or d)) 1)).tail) && (((dfV (d.headD noStmt)).2.2.1.names.lookup (nmS 137) == some .free) && ((dfV (d.headD noStmt)).2.2.1.names.lookup (nmS 22) == some .free)))
theorem getV_two {a b : Nat} {u w : V} {i : Nat} {v : V} (h : getV i [(a, u), (b, w)] = some v) {P : Nat → V → Prop} (k1 : P a u) (k2 : P b w) : P i v := by
  have h : (if (i == a) = true then some u else if (i == b) = true then some w else none) = some v := h
  by_cases ha : (i == a) = true
  · rw [if_pos ha] at h; cases h; rw [beq_iff_eq.mp ha]; exact k1
  · rw [if_neg ha] at h
    by_cases hb : (i == b) = true
    · rw [if_pos hb] at h; cases h; rw [beq_iff_eq.mp hb]; exact k2
    · rw [if_neg hb] at h; cases h
theorem cres_int {X : GX} {s : Shared} {i : Int} {t t' : Nat} {h' : Heap} (ht : 0 < t') (k : (∀ b o, s.heap.get? b = some o → b ∉ X.T → h'.get? b = some o) ∧ ∀ b, (s.heap.get? b).isSome → (h'.get? b).isSome) (hb : HB X h') : CRes X s (.int i) (.int i t) { s with heap := h', toks := t' } :=
  ⟨h', t', rfl, ht, k.1, k.2, fun _ => hb.ti, fun _ _ _ _ => ⟨t, rfl⟩⟩

theorem d2o_sound {X : GX} {C : Nat → List V → Option V} {k : Nat} (hnm : X.nm = nmS) (O : GOk X) (hT : ∀ b ∈ X.T, X.hb.get? b = none) (calls : ∀ j, Calls X C (k + j)) {q : Tab} (hq : q ∈ X.tabs) (huniq : ∀ q' ∈ X.tabs, q'.P = q.P → q' = q)
    {a : Addr} {o : Obj} {fd : FuncData} {d0 : List Stmt} (W : FnAtH X [137, 22] a o fd (d2oT d0)) (hchk : okD2o X.gi q fd d0 = true) {ds : List Int} {n : Nat} (hn : n < 100000) (hlen : ds.length ≤ 1000)
    (hB : ∀ d L R, d ≤ ds.length → L < R → R ≤ ds.length → (bitsI (valD n ds d L R) : Int) ≤ 1000000) {A : Around} {s : Shared} {xs : List Value} (hR : Rm A (k + ds.length + 1)) (hb : HB X s.heap) (rx : VRs s.heap s.heap [] [.lst true (ds.map V.int), .int n] xs) (ht : 0 < s.toks) :
    wpAny (model X.prog X.w) A (call (.ref a) xs) (CRes X s (.int (if ds = [] then 0 else valD n ds ds.length 0 ds.length))) E0 s := by
  have h := and_true hchk
  have h1 := and_true h.1
  have h2 := and_true h1.1
  have h3 := and_true h1.2
  have h4 := and_true h.2
  have h5 := and_true h4.1
  have h6 := and_true h4.2
  have hdbg := (and_true (and_true h3.1).2).2
  have hcell := beq_iff_eq.mp (and_true (and_true h3.1).1).1
  have hNF := nfk_of h2.1
  rw [← hnm] at h5 h6 hdbg hcell
  refine wpAny_call (call_enter (k := k + ds.length) O hT (calls _) W (vars := d2capt ds n) rfl hR hb rx (.inl ht) fun F h₁ t₁ ht₁ en => ?_)
  have K := en.K
  refine wpAny_execs_cons (made_sound hnm en en.R ht₁ (Gr.refl ..) hq huniq hNF h3.1 rfl (capt := d2capt ds n) (σ := []) (own₂ := []) (fun i v hi => ?_) (fun h' hO => own_none) fun fi f cself h₂ t₂ ht₂ SN hsc hcp G₂ R₂ M => ?_)
  · refine ⟨?_, v, hi, fun _ _ r => r⟩
    exact getV_two hi (P := fun i _ => (dfV (d0.headD noStmt)).2.2.1.names.lookup (X.nm i) = some .free) (beq_iff_eq.mp h6.1) (beq_iff_eq.mp h6.2)
  have K' := K.toCtx.lo
  have R2' := R₂.lo K.Z.K
  have hret : repS nmS d2oret (d2or d0) = .Return (some (repE X.nm (.ite (.var 137) (.call 136 d2oa) (.int 0)) (k0 (d2or d0)))) (d2or d0).pos := by
    rw [hnm]
    show Stmt.Return (optE (!(sk (d2or d0)).isEmpty) _) _ = _
    rw [h3.2]; rfl
  rw [hret]
  have later : ∀ {h' : Heap} {ρ' : List Addr} {vars' : Vars} {own' : Own}, Gr X.T F.lo.W [] ρ' h₂ h' → Rep X F.lo ρ' vars' own' h' → Made X F s.heap fi f cself (d2capt ds n) [] [] h' := fun {h' ρ' vars' own'} G R' =>
    M.later R2' G R'.hb (fun i v hi x r => r.gr (ρ' := []) (T := X.T) (W := F.lo.W) ⟨G.keep, G.alive, [], rfl, fun _ h => nomatch h⟩ R2'.apart) own_none
  have htst : ∀ b, truth ([] : Own) (.lst true (ds.map V.int)) = some b → tstOf (ev C X.TK (.var 137) (d2capt ds n) []) = some (b, []) := fun b hb => st_tst (r := (.lst true (ds.map V.int), [])) (st_var rfl) hb
  refine wpAny_execs_cons (wpAny_Return_some (IfExp_ ?_))
  by_cases hds : ds = []
  · subst hds
    refine (pe_all (.var 137) _ _ h5.1).2 F.lo _ _ _ _ [] [] { s with heap := h₂, toks := t₂ } _ false K' (htst _ rfl) R2' ht₂ fun ρ₃ h₃ t₃ ht₃ G₃ R₃ => ite_f ?_
    refine (pe_all (.int 0) _ _ rfl).1 F.lo _ _ _ _ [] [] { s with heap := h₃, toks := t₃ } _ (.int 0) K' st_int R₃ ht₃ fun y ρ₄ h₄ t₄ ht₄ G₄ R₄ ry => ?_
    apply ry.intE rfl; intro t
    exact cres_int ht₄ (en.keeps R₂ G₂ (G₃.trans G₄)) R₄.hb
  · rw [if_neg hds]
    have hpos : 0 < ds.length := List.length_pos_iff.mpr hds
    refine (pe_all (.var 137) _ _ h5.1).2 F.lo _ _ _ _ [] [] { s with heap := h₂, toks := t₂ } _ true K' (htst _ ?_) R2' ht₂ fun ρ₃ h₃ t₃ ht₃ G₃ R₃ => ite_t ?_
    · show (if (ds.map V.int).length ≤ 100000 then some (!(ds.map V.int).isEmpty) else none) = _
      rw [List.length_map, if_pos (Nat.le_trans hlen (by decide)), List.isEmpty_eq_false_iff.mpr (fun z => hds (List.map_eq_nil_iff.mp z))]; rfl
    have hρ₃ := none_own R₃
    subst hρ₃
    have M3 := later G₃ R₃
    have hargsE : evs C X.TK d2oa (d2capt ds n) [] = some ([.int 0, .int (ds.length : Nat)], []) :=
      st_evs st_int (st_evs (own₁ := []) (v := .int (ds.length : Nat)) (by
        show (evs C X.TK (.cons (.var 137) .nil) _ _).bind _ = _
        rw [st_evs (st_var (v := .lst true (ds.map V.int)) rfl) st_evs_nil]
        show (if (ds.map V.int).length ≤ 1000000 then some (V.int (ds.map V.int).length, ([] : Own)) else none) = _
        rw [List.length_map, if_pos (Nat.le_trans hlen (by decide))]) st_evs_nil)
    refine clo_eval (s := { s with heap := h₃, toks := t₃ }) K' R₃ ht₃ (.inr hcell) hdbg M3.cl M3.cs M3.W.nf h5.2 hargsE fun xs ρ₄ h₄ t₄ ht₄ G₄ R₄ rx4 => ?_
    apply rx4.ints2; intro t0 tl
    refine wpAny_mono (d2_inner (k := k) hnm O hT calls SN (by rw [hsc]; exact h2.2) hcp hn hlen hB ds.length (A.deeper F.env) { s with heap := h₄, toks := t₄ } 0 ds.length t0 tl K.Z.R (later (G₃.trans G₄) R₄).W ht₄ (Nat.le_refl _) hpos (Nat.le_refl _) (Nat.sub_le _ _)) (fun y s' hy => ?_) fun _ _ f => f.elim
    cases hy with
    | mk h₅ t₅ ht₅ kp5 al5 hb5 hp =>
    obtain ⟨t6, rfl⟩ := hp
    have kk := en.keeps R₂ G₂ (G₃.trans G₄)
    exact cres_int ht₅ ⟨fun b o e h3 => kp5 b o (kk.1 b o e h3) List.not_mem_nil h3, fun b e => al5 b (kk.2 b e)⟩ hb5
end Mine
end
section
set_option maxRecDepth 100000
set_option autoImplicit false
namespace Mine
open PySem PyProof.Rows PySem.W

noncomputable def i2pre : Ss :=
  .cons (.ite (.cmp .eq (.bin .add (.var 130) (.int 1)) (.var 131)) (.cons (.seti (.var 32) (.var 130) (.var 36)) (.cons (.ret .non) .nil)) .nil)
  (.cons (.asg 132 (.bin .shr (.bin .add (.var 130) (.var 131)) (.int 1)))
  (.cons (.asg 133 (.bin .mul (.bin .sub (.var 132) (.var 130)) (.var 22)))
  (.cons (.asg 134 (.bin .shr (.var 36) (.var 133)))
  (.cons (.asg 135 (.bin .xor (.var 36) (.bin .shl (.var 134) (.var 133)))) .nil))))
noncomputable def i2a1 : Es := .cons (.var 135) (.cons (.var 130) (.cons (.var 132) .nil))
noncomputable def i2a2 : Es := .cons (.var 134) (.cons (.var 132) (.cons (.var 131) .nil))
noncomputable def i2capt (n : Nat) : Vars := [(32, .ref 0), (22, .int n)]
noncomputable def putD (n : Nat) : Nat → Nat → Nat → Nat → List V → List V
  | 0, _, _, _, vs => vs
  | d + 1, x, L, R, vs => if L + 1 = R then vs.set L (.int x) else
      putD n d (x / 2 ^ (((L + R) / 2 - L) * n)) ((L + R) / 2) R (putD n d (x % 2 ^ (((L + R) / 2 - L) * n)) L ((L + R) / 2) vs)
theorem putD_len (n : Nat) : ∀ (d x L R : Nat) (vs : List V), (putD n d x L R vs).length = vs.length
  | 0, _, _, _, _ => rfl
  | d + 1, x, L, R, vs => by
    unfold putD
    split
    · simp
    · rw [putD_len, putD_len]

theorem fdiv_nat (a b : Nat) : Int.fdiv (a : Int) (b : Int) = ((a / b : Nat) : Int) := by
  rw [Int.fdiv_eq_ediv_of_nonneg _ (by lia)]; rfl
theorem land_hi (x s : Nat) : x &&& (x / 2 ^ s * 2 ^ s) = x / 2 ^ s * 2 ^ s := by
  have e : x / 2 ^ s * 2 ^ s = (x >>> s) <<< s := by rw [Nat.shiftLeft_eq, Nat.shiftRight_eq_div_pow]
  rw [e]
  apply Nat.eq_of_testBit_eq
  intro i
  rw [Nat.testBit_and, Nat.testBit_shiftLeft, Nat.testBit_shiftRight]
  by_cases h : i ≥ s
  · simp [h, Nat.add_sub_cancel' h]
  · simp [h]
theorem bits_lt {x B : Nat} (h : x < 2 ^ B) : bitsI (x : Int) ≤ B := by
  unfold bitsI
  split
  · lia
  · rename_i hx
    have : x ≠ 0 := by lia
    have := (Nat.log2_lt this).mpr h
    simp only [Int.natAbs_natCast]; lia

noncomputable def i2v (n x L R : Nat) : Vars := [(32, .ref 0), (22, .int n), (36, .int x), (130, .int L), (131, .int R)]
theorem pow_nat (s : Nat) : ((2 : Int) ^ ((s : Nat) : Int).toNat) = ((2 ^ s : Nat) : Int) := by rw [Int.toNat_natCast, Int.natCast_pow]; rfl
section
variable {C : Nat → List V → Option V} {TK : Nat → Option Int} {vs : List V} {n x L R B : Nat}
theorem idxN_nat {m : Nat} (h : L < m) : idxN m (L : Int) = some L := by
  unfold idxN
  rw [if_pos (Int.natCast_nonneg L), if_pos (Int.ofNat_lt.mpr h), Int.toNat_natCast]
theorem i2_one (hL : L < vs.length) (hlen : vs.length ≤ 1000) : exs C TK i2pre (i2v n x L (L + 1)) [vs] = some (.ret .non, i2v n x L (L + 1), [vs.set L (.int x)]) := by
  refine st_stop (st_ite_t (one_tst (L := L) (R := L + 1) rfl rfl true (decide_eq_true rfl)) (st_next (st_seti (v := .int x) (a := .ref 0) (k := .int L) (st_var rfl) (st_var rfl) (st_var rfl) (own' := [vs.set L (.int x)]) ?_) (st_stop (st_ret st_non))))
  show (if vs.length ≤ 100000 then (idxN vs.length (L : Int)).bind fun j => some ([vs].set 0 (vs.set j (.int x))) else none) = _
  rw [if_pos (Nat.le_trans hlen (by decide)), idxN_nat hL]; rfl
theorem shr_nat {x s : Nat} : bopI .shr (x : Int) (s : Int) = some ((x / 2 ^ s : Nat) : Int) := by
  show (if (0 : Int) ≤ (s : Int) then some (Int.fdiv (x : Int) (2 ^ ((s : Nat) : Int).toNat)) else none) = _
  rw [if_pos (Int.natCast_nonneg s), pow_nat, fdiv_nat]
theorem shl_nat {x s : Nat} (h : bitsI (x : Int) ≤ 1000000) (hs : s ≤ 100000000) : bopI .shl (x : Int) (s : Int) = some ((x * 2 ^ s : Nat) : Int) := by
  show (if (0 : Int) ≤ (s : Int) ∧ (bitsI (x : Int) : Int) + (s : Int) ≤ 134217728 then some ((x : Int) * 2 ^ ((s : Nat) : Int).toNat) else none) = _
  rw [if_pos ⟨Int.natCast_nonneg s, by lia⟩, pow_nat, Int.natCast_mul]
theorem xor_hi {x s : Nat} : bopI .xor (x : Int) ((x / 2 ^ s * 2 ^ s : Nat) : Int) = some ((x % 2 ^ s : Nat) : Int) := by
  show (if (0 : Int) ≤ (x : Nat) ∧ (0 : Int) ≤ ((x / 2 ^ s * 2 ^ s : Nat) : Int) then some ((x : Int) + ((x / 2 ^ s * 2 ^ s : Nat) : Int) - 2 * ((((x : Nat) : Int).toNat &&& (((x / 2 ^ s * 2 ^ s : Nat) : Int)).toNat : Nat) : Int)) else none) = _
  rw [if_pos ⟨Int.natCast_nonneg _, Int.natCast_nonneg _⟩, Int.toNat_natCast, Int.toNat_natCast, land_hi]
  have h2 := Nat.div_add_mod x (2 ^ s)
  rw [Nat.mul_comm] at h2
  generalize x / 2 ^ s * 2 ^ s = a at *
  generalize x % 2 ^ s = b at *
  subst h2
  congr 1; lia
theorem i2_more (h : L + 1 < R) (hR : R ≤ 1000) (hn : n < 100000) (hx : x < 2 ^ B) (hB : B ≤ 1000000) : ∃ vars, exs C TK i2pre (i2v n x L R) [vs] = some (.next, vars, [vs]) ∧ getV 130 vars = some (.int L) ∧ getV 131 vars = some (.int R) ∧ getV 132 vars = some (.int ((L + R) / 2 : Nat)) ∧
    getV 134 vars = some (.int ((x / 2 ^ (((L + R) / 2 - L) * n) : Nat) : Int)) ∧ getV 135 vars = some (.int ((x % 2 ^ (((L + R) / 2 - L) * n) : Nat) : Int)) := by
  have hb : bitsI ((x / 2 ^ (((L + R) / 2 - L) * n) : Nat) : Int) ≤ 1000000 := Nat.le_trans (bits_lt (Nat.lt_of_le_of_lt (Nat.div_le_self _ _) hx)) hB
  have hs : ((L + R) / 2 - L) * n ≤ 100000000 := shift_le (m := (L + R) / 2) (R := R) (Nat.div_lt_of_lt_mul (by lia)) hR hn
  refine ⟨_, st_next (st_ite_f (one_tst (L := L) (R := R) rfl rfl false (decide_eq_false (by lia))) st_nil) (mid_exs (L := L) (R := R) (n := n) rfl rfl rfl (by lia) hn
    (st_next (st_asg (st_binI (i := (x : Int)) (j := ((((L + R) / 2 - L) * n : Nat) : Int)) (st_var rfl) (st_var rfl) shr_nat))
      (st_next (st_asg (st_binI (i := (x : Int)) (st_var rfl) (st_binI (i := ((x / 2 ^ (((L + R) / 2 - L) * n) : Nat) : Int)) (j := ((((L + R) / 2 - L) * n : Nat) : Int)) (st_var rfl) (st_var rfl) (shl_nat hb hs)) xor_hi)) st_nil))), rfl, rfl, rfl, rfl, rfl⟩
end

/-- the text of _int2digits's inner def -/
noncomputable def i2r (d : List Stmt) : Stmt := (d.drop 5).headD noStmt
noncomputable def i2s (d : List Stmt) : Stmt := (d.drop 6).headD noStmt
noncomputable def i2T (d : List Stmt) : List Stmt := repSs nmS i2pre d ++ [repS nmS (.exp (.call 136 i2a1)) (i2r d), repS nmS (.exp (.call 136 i2a2)) (i2s d)]
noncomputable def okI2 (gi : Nat → Option Int) (N : Names) (d : List Stmt) : Bool := okSs nmS gi i2pre N d && ((okEs nmS gi i2a1 N (kids (k0 (i2r d))).tail && okEs nmS gi i2a2 N (kids (k0 (i2s d))).tail) && notDbg (nmS 136))
theorem one_own {X : GX} {F : Frm} {D : Addr} {ρ' : List Addr} {vars : Vars} {vs : List V} {T W : List Addr} {ha h : Heap} (G : Gr T W [D] ρ' ha h) (R : Rep X F ρ' vars [vs] h) : ρ' = [D] := by
  obtain ⟨r, hr, _⟩ := G.ext
  have := R.own.len
  rw [hr] at this ⊢
  cases r with
  | nil => rfl
  | cons _ _ => exact absurd (Nat.succ.inj this) (Nat.succ_ne_zero _)
theorem VRs.ints3 {h h₀ : Heap} {ρ : List Addr} {i j l : Int} {xs : List Value} (r : VRs h h₀ ρ [.int i, .int j, .int l] xs) {P : List Value → Prop} (k : ∀ t u w, P [.int i t, .int j u, .int l w]) : P xs :=
  r.consE fun y _ ry r => ry.intE (P := fun y => P (y :: _)) rfl fun t => r.ints2 (P := fun l => P (_ :: l)) (k t)

theorem i2_inner {X : GX} {C : Nat → List V → Option V} {k : Nat} (hnm : X.nm = nmS) (O : GOk X) (hT : ∀ b ∈ X.T, X.hb.get? b = none) (calls : ∀ j, Calls X C (k + j)) {fd : FuncData} {f : Addr} {d0 : List Stmt} (S : NFd X fd [36, 130, 131] (i2T d0)) (hchk : okI2 X.gi fd.scope.names d0 = true)
    {H0 : Heap} {D : Addr} (hcp : fd.closure.Pairwise fun x y => x.2 ≠ y.2) {n B : Nat} (hn : n < 100000) (hB : B ≤ 1000000) :
    ∀ (d : Nat) (A : Around) (s : Shared) (vs : List V) (x L R : Nat) (tx tL tR : Tok), Rm A (k + d) → DW X H0 fd f (i2capt n) [D] [vs] s.heap → 0 < s.toks → vs.length ≤ 1000 → L < R → R ≤ vs.length → R - L ≤ d → x < 2 ^ B →
      wpAny (model X.prog X.w) A (call (.ref f) [.int x tx, .int L tL, .int R tR]) (NRes X [D] s fun h' y => y = .none ∧ OwnOk H0 [D] [putD n d x L R vs] h') E0 s := by
  have h := and_true hchk
  have h2 := and_true h.2
  have h3 := and_true h2.1
  rw [← hnm] at h h2 h3
  intro d
  induction d with
  | zero => intro A s vs x L R tx tL tR _ _ _ _ h1 _ h3; exact absurd (Nat.sub_pos_of_lt h1) (Nat.not_lt.mpr h3)
  | succ d ih =>
    intro A s vs x L R tx tL tR hR W ht hlen hLR hRl hd hx
    refine clo_call (k := k + d) O hT (calls d) S W.nf W.w ht (by rw [Nat.add_assoc]; exact hR) (capt := i2capt n) (vars := i2v n x L R) (ws := [.int x, .int L, .int R]) rfl ⟨⟨tx, rfl⟩, ⟨tL, rfl⟩, ⟨tR, rfl⟩, rfl⟩ W.cap hcp fun F h₁ t₁ hcel hF0 hFW K ht₁ keep1 R1 => ?_
    have hWn : ∀ b o, s.heap.get? b = some o → b ∉ F.W := fun b o e hm => by
      rw [hFW] at hm; exact ne_of_get e (size_none _) (List.mem_singleton.mp hm)
    refine wpAny_execs_append ?_
    rw [← hnm]
    by_cases hone : L + 1 = R
    · subst hone
      refine pss_all i2pre _ _ h.1 F _ (k + d) [D] _ _ _ _ { s with heap := h₁, toks := t₁ } _ _ K (i2_one hRl hlen) R1 ht₁ fun fw ρ' h' t' ht' G R' rf => ?_
      obtain ⟨y, rfl, ry⟩ := rf
      cases one_own G R'
      have Lt := W.later hWn keep1 G R'.hb (by rw [← hF0]; exact R'.own)
      exact .mk h' t' ht' Lt.keep Lt.alive R'.hb ⟨ry, by rw [putD, if_pos rfl]; exact Lt.W.w.own⟩
    · obtain ⟨vars, hexs, g130, g131, g132, g134, g135⟩ := i2_more (C := C) (TK := X.TK) (vs := vs) (Nat.lt_of_le_of_ne hLR hone) (Nat.le_trans hRl hlen) hn hx hB
      refine pss_all i2pre _ _ h.1 F _ (k + d) [D] _ _ _ _ { s with heap := h₁, toks := t₁ } _ _ K hexs R1 ht₁ fun fw ρ₂ h₂ t₂ ht₂ G₂ R₂ rf => ?_
      cases rf
      cases one_own G₂ R₂
      obtain ⟨hm1, hm2, hm3, hm4⟩ := mid_is hone hLR hd
      have hput : putD n (d + 1) x L R vs = putD n d (x / 2 ^ (((L + R) / 2 - L) * n)) ((L + R) / 2) R (putD n d (x % 2 ^ (((L + R) / 2 - L) * n)) L ((L + R) / 2) vs) := by rw [putD, if_neg hone]
      rw [hput]
      clear hput hexs
      generalize (L + R) / 2 = m at *
      generalize (m - L) * n = sh at *
      have hint : interactive F.env = false := by unfold interactive; rw [K.Z.K.kind]; rfl
      -- a nested call as a statement
      have one : ∀ {ha : Heap} {ta : Nat} {vsa : List V} {as : Es} {x1 : Stmt} {xx ll rr : Nat} {Q : Flow → Shared → Prop}, 0 < ta → Gr X.T F.W [D] [D] h₁ ha → Rep X F [D] vars [vsa] ha → okEs X.nm X.gi as fd.scope.names (kids (k0 x1)).tail = true →
          evs C X.TK as vars [vsa] = some ([.int xx, .int ll, .int rr], [vsa]) → vsa.length = vs.length → ll < rr → rr ≤ vsa.length → rr - ll ≤ d → xx < 2 ^ B →
          (∀ hb' tb, 0 < tb → Gr X.T F.W [D] [D] h₁ hb' → Rep X F [D] vars [putD n d xx ll rr vsa] hb' → Q .next { s with heap := hb', toks := tb }) →
          wpAny (model X.prog X.w) (A.deeper F.env) (exec (repS X.nm (.exp (.call 136 as)) x1) F.env) Q E0 { s with heap := ha, toks := ta } := by
        intro ha ta vsa as x1 xx ll rr Q hta Ga Ra hc he hl1 hl2 hl3 hl4 hl5 HQ
        have La := W.later hWn keep1 Ga Ra.hb (by rw [← hF0]; exact Ra.own)
        obtain ⟨c, hcc, hxc⟩ := La.W.self.2
        refine wpAny_Expr (clo_eval (s := { s with heap := ha, toks := ta }) K.toCtx Ra hta (.inl W.self.1) h2.2 (by rw [hcel]; exact hcc) hxc La.W.nf hc he fun xs ρ₃ h₃ t₃ ht₃ G₃ R₃ rx => ?_) hint rfl
        cases one_own G₃ R₃
        apply rx.ints3; intro t1 t2 t3
        refine wpAny_mono (ih (A.deeper F.env) { s with heap := h₃, toks := t₃ } vsa xx ll rr t1 t2 t3 K.Z.R (W.later hWn keep1 (Ga.trans G₃) R₃.hb (by rw [← hF0]; exact R₃.own)).W ht₃ (by rw [hl1]; exact hlen) hl2 hl3 hl4 hl5) (fun y s' hy => ?_) fun _ _ f => f.elim
        cases hy with
        | mk h₄ t₄ ht₄ keep4 alive4 hb4 hp =>
        obtain ⟨rfl, hO4⟩ := hp
        obtain ⟨G4, R4⟩ := R₃.step K.Z.K K.Z.T ⟨fun b o e h1 _ h3 => keep4 b o e h1 h3, fun m n => n.at' fun o e => keep4 _ o e (R₃.L_ρ K.Z.K) R₃.L_T, alive4, fun _ => hb4.ti⟩ ⟨[], (List.append_nil _).symm, fun _ h => nomatch h⟩ (by rw [hF0]; exact hO4)
        exact HQ h₄ t₄ ht₄ ((Ga.trans G₃).trans G4) R4
      refine wpAny_execs_cons (one ht₂ G₂ R₂ h3.1 (st_evs (st_var g135) (st_evs (st_var g130) (st_evs (st_var g132) st_evs_nil))) rfl hm1 (Nat.le_trans (Nat.le_of_lt hm2) hRl) hm4 (Nat.lt_of_le_of_lt (Nat.mod_le _ _) hx) fun h₃ t₃ ht₃ G₃ R₃ => ?_)
      refine wpAny_execs_cons (one ht₃ G₃ R₃ h3.2 (st_evs (st_var g134) (st_evs (st_var g132) (st_evs (st_var g131) st_evs_nil))) (putD_len ..) hm2 (by rw [putD_len]; exact hRl) hm3 (Nat.lt_of_le_of_lt (Nat.div_le_self _ _) hx) fun h₄ t₄ ht₄ G₄ R₄ => ?_)
      have L4 := W.later hWn keep1 G₄ R₄.hb (by rw [← hF0]; exact R₄.own)
      exact wpAny_execs_nil (.mk h₄ t₄ ht₄ L4.keep L4.alive R₄.hb ⟨rfl, L4.W.w.own⟩)
end Mine
end
section
set_option maxRecDepth 100000
set_option autoImplicit false
namespace Mine
open PySem PyProof.Rows PySem.W

noncomputable def allI (vs : List V) : Prop := ∀ v ∈ vs, ∃ i, v = .int i
theorem allI_VRs {h h₀ h' h₀' : Heap} {ρ ρ' : List Addr} {vs : List V} {xs : List Value} (ha : allI vs) (r : VRs h h₀ ρ vs xs) : VRs h' h₀' ρ' vs xs :=
  VRs.ind (P := fun vs xs => allI vs → VRs h' h₀' ρ' vs xs) (fun _ => rfl) (fun v vs y ys hv _ ih ha => ⟨by obtain ⟨i, rfl⟩ := ha v (.head _); exact hv, ih fun v hv => ha v (.tail _ hv)⟩) r ha
theorem putD_allI (n : Nat) : ∀ (d x L R : Nat) (vs : List V), allI vs → allI (putD n d x L R vs)
  | 0, _, _, _, _, h => h
  | d + 1, x, L, R, vs, h => by
    unfold putD
    split
    · intro v hv
      rcases List.mem_or_eq_of_mem_set hv with hv | hv
      · exact h v hv
      · exact ⟨_, hv⟩
    · exact putD_allI n d _ _ _ _ (putD_allI n d _ _ _ _ h)
theorem frz_ints (b : Bool) (own : Own) (k : Nat) : ∀ vs : List V, allI vs → mapO (frz b own (k + 1)) vs = some vs
  | [], _ => rfl
  | v :: vs, h => by
    obtain ⟨i, rfl⟩ := h v (.head _)
    show (mapO (frz b own (k + 1)) vs).bind _ = _
    rw [frz_ints b own k vs fun v hv => h v (.tail _ hv)]; rfl

noncomputable def cntD (n x : Nat) : Nat := (bitsI (x : Int) + n - 1) / n
noncomputable def i2o1 : Ss := .cons (.asg 32 (.bin .mul (.list (.cons (.int 0) .nil)) (.bin .fdiv (.bin .sub (.bin .add (.meth .bitlen (.var 6) .nil) (.var 22)) (.int 1)) (.var 22)))) .nil
noncomputable def i2oa : Es := .cons (.var 6) (.cons (.int 0) (.cons (.prim .len (.cons (.var 32) .nil)) .nil))
noncomputable def zerosD (n x : Nat) : List V := rep (cntD n x) [V.int 0]
theorem rep_one {α : Type} (a : α) (n : Nat) : rep n [a] = List.replicate n a := by
  unfold rep
  induction n with
  | zero => rfl
  | succ n ih => rw [List.replicate_succ, List.flatten_cons, ih, List.replicate_succ]; rfl
theorem zeros_len (n x : Nat) : (zerosD n x).length = cntD n x := by unfold zerosD; rw [rep_one]; simp
theorem zeros_all (n x : Nat) : allI (zerosD n x) := fun v hv => by
  unfold zerosD at hv; rw [rep_one] at hv
  exact ⟨0, (List.mem_replicate.mp hv).2⟩
theorem cnt_nat {b n : Nat} (hn : 0 < n) (hn2 : n < 100000) : bopI .fdiv ((b : Int) + n - 1) n = some (((b + n - 1) / n : Nat) : Int) := by
  have hnat : ((b : Int) + n - 1) = ((b + n - 1 : Nat) : Int) := by lia
  show (if (n : Int) ≠ 0 ∧ (n : Int).natAbs < 1073741824 then some (Int.fdiv ((b : Int) + n - 1) n) else none) = _
  rw [if_pos ⟨by lia, by show n < 1073741824; lia⟩, hnat, fdiv_nat]
theorem i2o_exs (C : Nat → List V → Option V) (TK : Nat → Option Int) (n x : Nat) (hn : 0 < n) (hn2 : n < 100000) (hc : cntD n x ≤ 1000) :
    exs C TK i2o1 [(6, .int x), (22, .int n)] [] = some (.next, [(6, .int x), (22, .int n), (32, .ref 1)], [[.int 0], zerosD n x]) := by
  refine st_next (own₁ := [[.int 0], zerosD n x]) (st_asg (v := .ref 1) (st_bin (x := .ref 0) (own₁ := [[.int 0]]) (own₂ := [[.int 0]]) (y := .int (cntD n x : Nat)) rfl
    (st_binI (own₁ := [[.int 0]]) (own₂ := [[.int 0]]) (st_binI (i := (bitsI (x : Int) : Int) + n) (j := 1) (own₁ := [[.int 0]]) (own₂ := [[.int 0]]) (st_binI (i := (bitsI (x : Int) : Int)) (j := n) (own₁ := [[.int 0]]) (own₂ := [[.int 0]]) rfl (st_var rfl) rfl) st_int rfl) (st_var rfl) (cnt_nat hn hn2)) ?_)) st_nil
  show (if ((cntD n x : Nat) : Int) ≤ 1000 ∧ -1000 ≤ ((cntD n x : Nat) : Int) ∧ ([V.int 0] : List V).length ≤ 100 then some (V.ref 1, ([[V.int 0]] : Own) ++ [rep ((cntD n x : Nat) : Int).toNat [V.int 0]]) else none) = _
  rw [if_pos ⟨by lia, by lia, by show 1 ≤ 100; decide⟩, Int.toNat_natCast]; rfl

noncomputable def i2oif : S := .ite (.var 6) (.cons (.exp (.call 136 i2oa)) .nil) .nil
noncomputable def i2oD (d : List Stmt) : Stmt := d.tail.headD noStmt
noncomputable def i2oI (d : List Stmt) : Stmt := (d.drop 2).headD noStmt
noncomputable def i2oR (d : List Stmt) : Stmt := (d.drop 3).headD noStmt
noncomputable def i2oT (d : List Stmt) : List Stmt := repSs nmS i2o1 d ++ [dfT i2T (i2oD d), repS nmS i2oif (i2oI d), repS nmS (.ret (.var 32)) (i2oR d)]
noncomputable def okI2o (gi : Nat → Option Int) (q : Tab) (fd : FuncData) (d : List Stmt) : Bool :=
  ((chkNF [36, 130, 131] (dfV (i2oD d)).1 (dfV (i2oD d)).2.2.1 fd.scope.names && okI2 gi (dfV (i2oD d)).2.2.1.names (dfV (i2oD d)).2.1) && (okDf q fd (i2oD d) && !(sk (i2oR d)).isEmpty)) &&
    (((okSs nmS gi i2o1 fd.scope.names d && okE nmS gi (.var 6) fd.scope.names (k0 (i2oI d))) && (okE nmS gi (.var 32) fd.scope.names (k0 (i2oR d)) && okEs nmS gi i2oa fd.scope.names (kids (k0 ((sBody (i2oI d)).headD noStmt))).tail)) &&
      (((dfV (i2oD d)).2.2.1.names.lookup (nmS 32) == some .free) && ((dfV (i2oD d)).2.2.1.names.lookup (nmS 22) == some .free)))
noncomputable def digD (n x : Nat) : List V := if x = 0 then zerosD n x else putD n (cntD n x) x 0 (cntD n x) (zerosD n x)
theorem own_tail {h₀ h : Heap} {D0 D : Addr} {us vs : List V} (ha : allI vs) (O : OwnOk h₀ [D0, D] [us, vs] h) : OwnOk h₀ [D] [vs] h := by
  refine ⟨rfl, (List.nodup_cons.mp O.nodup).2, fun a h => O.fresh a (.tail _ h), fun m us e => ?_⟩
  cases m with
  | succ m => cases m <;> cases e
  | zero =>
    cases e
    obtain ⟨a', zs, e1, e2, e3⟩ := O.at' 1 _ rfl
    cases e1
    exact ⟨_, zs, rfl, e2, allI_VRs ha e3⟩
theorem own_back {h₀ h h' h2 : Heap} {D0 D : Addr} {us vs vs' : List V} (hu : allI us) (ha : allI vs') (O : OwnOk h₀ [D0, D] [us, vs] h) (O' : OwnOk h2 [D] [vs'] h') (keep : ∀ o, h.get? D0 = some o → (∃ xs n, o.data = .seq xs n) → h'.get? D0 = some o) : OwnOk h₀ [D0, D] [us, vs'] h' :=
  ⟨rfl, O.nodup, O.fresh, fun m ws e => by
    cases m with
    | zero =>
      cases e
      obtain ⟨a0, zs, e1, ⟨j, e2⟩, e3⟩ := O.at' 0 _ rfl
      cases e1
      exact ⟨_, zs, rfl, ⟨j, keep _ e2 ⟨_, _, rfl⟩⟩, allI_VRs hu e3⟩
    | succ m => cases m with
      | zero =>
        cases e
        obtain ⟨a0, zs, e1, e2, e3⟩ := O'.at' 0 _ rfl
        cases e1
        exact ⟨_, zs, rfl, e2, allI_VRs ha e3⟩
      | succ m => cases e⟩
theorem two_own {X : GX} {F : Frm} {D0 D : Addr} {ρ' : List Addr} {vars : Vars} {us vs : List V} {T W : List Addr} {ha h : Heap} (G : Gr T W [D0, D] ρ' ha h) (R : Rep X F ρ' vars [us, vs] h) : ρ' = [D0, D] := by
  obtain ⟨r, hr, _⟩ := G.ext
  have := R.own.len
  rw [hr] at this ⊢
  cases r with
  | nil => rfl
  | cons _ _ => exact absurd (Nat.succ.inj (Nat.succ.inj this)) (Nat.succ_ne_zero _)
theorem two_at {ρ : List Addr} (h : ρ.length = 2) : ∃ a b, ρ = [a, b] := by
  cases ρ with
  | nil => cases h
  | cons a r => cases r with
    | nil => cases h
    | cons b r => cases r with
      | nil => exact ⟨a, b, rfl⟩
      | cons _ _ => cases h
theorem i2o_frz {own0 : List V} {vs : List V} (ha : allI vs) : frz false [own0, vs] depthF (.ref 1) = some (.lst false vs) := by
  show (mapO (frz false [own0, vs] (3 + 1)) vs).bind _ = _
  rw [frz_ints false _ 3 _ ha]; rfl

theorem i2o_sound {X : GX} {C : Nat → List V → Option V} {k : Nat} (hnm : X.nm = nmS) (O : GOk X) (hT : ∀ b ∈ X.T, X.hb.get? b = none) (calls : ∀ j, Calls X C (k + j)) {q : Tab} (hq : q ∈ X.tabs) (huniq : ∀ q' ∈ X.tabs, q'.P = q.P → q' = q)
    {a : Addr} {o : Obj} {fd : FuncData} {d0 : List Stmt} (W : FnAtH X [6, 22] a o fd (i2oT d0)) (hchk : okI2o X.gi q fd d0 = true)
    {n x B : Nat} (hn0 : 0 < n) (hn : n < 100000) (hcnt : cntD n x ≤ 1000) (hx : x < 2 ^ B) (hB : B ≤ 1000000) {A : Around} {s : Shared} {xs : List Value} (hR : Rm A (k + cntD n x + 1)) (hb : HB X s.heap) (rx : VRs s.heap s.heap [] [.int x, .int n] xs) (ht : 0 < s.toks) :
    wpAny (model X.prog X.w) A (call (.ref a) xs) (CRes X s (.lst false (digD n x))) E0 s := by
  have h := and_true hchk
  have h1 := and_true h.1
  have h2 := and_true h1.1
  have h3 := and_true h1.2
  have h4 := and_true h.2
  have h5 := and_true h4.1
  have h6 := and_true h5.1
  have h7 := and_true h5.2
  have h8 := and_true h4.2
  have hdbg := (and_true (and_true h3.1).2).2
  have hcell := beq_iff_eq.mp (and_true (and_true h3.1).1).1
  have hNF := nfk_of h2.1
  rw [← hnm] at h6 h7 h8 hdbg hcell
  refine wpAny_call (call_enter (k := k + cntD n x) O hT (calls _) W (vars := [(6, .int x), (22, .int n)]) rfl hR hb rx (.inl ht) fun F h₁ t₁ ht₁ en => ?_)
  have K := en.K
  refine wpAny_execs_append ?_
  rw [← hnm]
  refine pss_all i2o1 _ _ h6.1 F _ _ [] _ _ _ _ { s with heap := h₁, toks := t₁ } _ _ K (i2o_exs C X.TK n x hn0 hn hcnt) en.R ht₁ fun fw ρ₂ h₂ t₂ ht₂ G₂ R₂ rf => ?_
  cases rf
  obtain ⟨D0, D, rfl⟩ := two_at R₂.own.len
  refine wpAny_execs_cons (made_sound hnm en R₂ ht₂ G₂ hq huniq hNF h3.1 rfl (capt := i2capt n) (σ := [D]) (own₂ := [zerosD n x]) (fun i v hi => ?_) (fun h' hO => by rw [← en.h0]; exact own_tail (zeros_all n x) hO) fun fi f cself h₃ t₃ ht₃ SN hsc hcp G₃ R₃ M => ?_)
  · refine getV_two hi (P := fun i v => (dfV (i2oD d0)).2.2.1.names.lookup (X.nm i) = some .free ∧ ∃ u, getV i [(6, V.int x), (22, V.int n), (32, V.ref 1)] = some u ∧ ∀ h' y, VR h' s.heap [D0, D] u y → VR h' s.heap [D] v y)
      ⟨beq_iff_eq.mp h8.1, .ref 1, rfl, fun h' y r => r.refE fun a e => ⟨a, rfl, e⟩⟩ ⟨beq_iff_eq.mp h8.2, .int n, rfl, fun h' y r => r⟩
  have K' := K.toCtx.lo
  have R3' := R₃.lo K.Z.K
  have G23 := G₂.trans G₃
  -- the end: the list is handed back
  have fin : ∀ {h' : Heap} {t' : Nat}, 0 < t' → allI (digD n x) → Gr X.T F.lo.W [D0, D] [D0, D] h₃ h' → Rep X F.lo [D0, D] [(6, V.int x), (22, V.int n), (32, V.ref 1)] [[.int 0], digD n x] h' →
      wpAny (model X.prog X.w) (A.deeper F.env) (execs [repS X.nm (.ret (.var 32)) (i2oR d0)] F.env) (fun fl s' => CRes X s (.lst false (digD n x)) (match fl with | .ret v => v | _ => .none) s') E0 { s with heap := h', toks := t' } := by
    intro h' t' ht' ha G R'
    have hret : repS X.nm (.ret (.var 32)) (i2oR d0) = .Return (some (repE X.nm (.var 32) (k0 (i2oR d0)))) (i2oR d0).pos := by
      show Stmt.Return (optE (!(sk (i2oR d0)).isEmpty) _) _ = _
      rw [h3.2]; rfl
    rw [hret]
    refine wpAny_execs_cons (wpAny_Return_some ((pe_all (.var 32) _ _ h7.1).1 F.lo _ _ _ _ _ _ { s with heap := h', toks := t' } _ (.ref 1) K' (st_var rfl) R' ht' fun y ρ₄ h₄ t₄ ht₄ G₄ R₄ ry => ?_))
    cases two_own G₄ R₄
    have kk := en.keeps R₃ G23 (G.trans G₄)
    refine ⟨h₄, t₄, rfl, ht₄, kk.1, kk.2, fun _ => R₄.hb.ti, fun h₀ σ al0 hσ => ?_⟩
    exact frzR R₄.own (by show ∀ b, _ → (F.h₀.get? b).isSome; rw [en.h0]; exact al0) (by show ∀ a ∈ σ, (F.h₀.get? a).isSome; rw [en.h0]; exact hσ) depthF (v := .ref 1) (i2o_frz ha) ry
  by_cases hx0 : x = 0
  · have hdig : digD n x = zerosD n x := by unfold digD; rw [if_pos hx0]
    refine wpAny_execs_cons (wpAny_If ((pe_all (.var 6) _ _ h6.2).2 F.lo _ _ _ _ _ _ { s with heap := h₃, toks := t₃ } _ false K' (st_tst (r := (.int x, _)) (st_var rfl) (by subst hx0; rfl)) R3' ht₃ fun ρ₄ h₄ t₄ ht₄ G₄ R₄ => ite_f (wpAny_execs_nil ?_)))
    cases two_own G₄ R₄
    exact fin ht₄ (by rw [hdig]; exact zeros_all n x) G₄ (by rw [hdig]; exact R₄)
  · have hdig : digD n x = putD n (cntD n x) x 0 (cntD n x) (zerosD n x) := by unfold digD; rw [if_neg hx0]
    have hcpos : 0 < cntD n x := by
      have : 1 ≤ bitsI (x : Int) := by unfold bitsI; rw [if_neg (by lia)]; exact Nat.succ_pos _
      exact Nat.div_pos (by lia) hn0
    refine wpAny_execs_cons (wpAny_If ((pe_all (.var 6) _ _ h6.2).2 F.lo _ _ _ _ _ _ { s with heap := h₃, toks := t₃ } _ true K' (st_tst (r := (.int x, _)) (st_var rfl) (congrArg some (decide_eq_true (by lia)))) R3' ht₃ fun ρ₄ h₄ t₄ ht₄ G₄ R₄ => ite_t ?_))
    cases two_own G₄ R₄
    have later : ∀ {h' : Heap}, Gr X.T F.lo.W [D0, D] [D0, D] h₃ h' → Rep X F.lo [D0, D] [(6, V.int x), (22, V.int n), (32, V.ref 1)] [[.int 0], zerosD n x] h' → Made X F s.heap fi f cself (i2capt n) [D] [zerosD n x] h' := fun {h'} G R =>
      M.later R3' G R.hb (fun i v hi => getV_two hi (P := fun _ v => ∀ x, VR h₃ s.heap [D] v x → VR h' s.heap [D] v x) (fun _ r => r) fun _ r => r) (by rw [← en.h0]; exact own_tail (zeros_all n x) R.own)
    have M4 := later G₄ R₄
    have hargsE : evs C X.TK i2oa [(6, V.int x), (22, V.int n), (32, V.ref 1)] [[.int 0], zerosD n x] = some ([.int x, .int 0, .int (cntD n x : Nat)], [[.int 0], zerosD n x]) :=
      st_evs (st_var rfl) (st_evs st_int (st_evs (own₁ := [[.int 0], zerosD n x]) (v := .int (cntD n x : Nat)) (by
        show (evs C X.TK (.cons (.var 32) .nil) _ _).bind _ = _
        rw [st_evs (st_var (v := .ref 1) rfl) st_evs_nil]
        show (if (zerosD n x).length ≤ 1000000 then some (V.int (zerosD n x).length, ([[.int 0], zerosD n x] : Own)) else none) = _
        rw [zeros_len, if_pos (Nat.le_trans hcnt (by decide))]) st_evs_nil))
    have hint : interactive F.env = false := by unfold interactive; rw [K.Z.K.kind]; rfl
    refine wpAny_execs_cons (wpAny_Expr (clo_eval (s := { s with heap := h₄, toks := t₄ }) K' R₄ ht₄ (.inr hcell) hdbg M4.cl M4.cs M4.W.nf h7.2 hargsE fun xs ρ₅ h₅ t₅ ht₅ G₅ R₅ rx5 => ?_) hint rfl)
    cases two_own G₅ R₅
    apply rx5.ints3; intro u1 u2 u3
    refine wpAny_mono (i2_inner (k := k) hnm O hT calls SN (by rw [hsc]; exact h2.2) hcp hn hB (cntD n x) (A.deeper F.env) { s with heap := h₅, toks := t₅ } (zerosD n x) x 0 (cntD n x) u1 u2 u3 K.Z.R (later (G₄.trans G₅) R₅).W ht₅ (by rw [zeros_len]; exact hcnt) hcpos (by rw [zeros_len]; exact Nat.le_refl _) (Nat.sub_le _ _) hx) (fun y s' hy => ?_) fun _ _ f => f.elim
    cases hy with
    | mk h₆ t₆ ht₆ kp6 al6 hb6 hp =>
    obtain ⟨rfl, hO6⟩ := hp
    refine wpAny_execs_nil ?_
    have hall := putD_allI n (cntD n x) x 0 (cntD n x) _ (zeros_all n x)
    have hn2 : ∀ b, b ∉ [D0, D] → b ∉ [D] := fun b h1 h2 => h1 (.tail _ h2)
    obtain ⟨G6, R6⟩ := R₅.step (own' := [[.int 0], putD n (cntD n x) x 0 (cntD n x) (zerosD n x)]) K'.Z.K K'.Z.T ⟨fun b o e h1 _ h3 => kp6 b o e (hn2 b h1) h3, fun m n => n.at' fun o e => kp6 _ o e (hn2 _ (R₅.L_ρ K'.Z.K)) R₅.L_T, al6, fun _ => hb6.ti⟩ ⟨[], (List.append_nil _).symm, fun _ h => nomatch h⟩
      (own_back (fun v hv => ⟨0, List.mem_singleton.mp hv⟩) hall R₅.own hO6 fun o e hs => kp6 _ _ e (fun hm => (List.nodup_cons.mp R₅.own.nodup).1 hm) fun hT' => hs.elim fun xs hs => hs.elim fun m hs => (R₅.apart.t _ hT' _ e).1 xs m hs)
    exact fin ht₆ (by rw [hdig]; exact hall) ((G₄.trans G₅).trans G6) (by rw [hdig]; exact R6)
end Mine
end
section
set_option maxRecDepth 100000
set_option autoImplicit false
namespace Mine
open PySem PyProof.Rows PySem.W

noncomputable def smallD (ds : List Int) : Bool := ds.all fun i => decide (i.natAbs < 2 ^ 10000)
noncomputable def brwOf : V → Option (List V)
  | .lst true vs => some vs | _ => none
theorem brwOf_is {v : V} {vs : List V} (h : brwOf v = some vs) : v = .lst true vs := by
  cases v with
  | lst b us => cases b <;> cases h; rfl
  | _ => cases h
noncomputable def digA (ws : List V) : Option V := (two ws).bind fun p => (intOf p.1).bind fun a => (intOf p.2).bind fun n => if 0 < n ∧ n < 200 ∧ 0 ≤ a ∧ bitsI a ≤ 20000 ∧ cntD n.toNat a.toNat ≤ 60 then some (.lst false (digD n.toNat a.toNat)) else none
noncomputable def digB (ws : List V) : Option V := (two ws).bind fun p => (brwOf p.1).bind fun vs => (intOf p.2).bind fun n => (intsO vs).bind fun ds =>
  if 0 ≤ n ∧ n < 200 ∧ ds.length ≤ 60 ∧ smallD ds = true then some (.int (if ds = [] then 0 else valD n.toNat ds ds.length 0 ds.length)) else none
/-- the two functions with an inner def, as plain functions -/
noncomputable def digC (f : Nat) (ws : List V) : Option V := if f = 25 then digA ws else if f = 26 then digB ws else none
theorem Rm.le {A : Around} {j k : Nat} (h : Rm A k) (e : j ≤ k) : Rm A j := ⟨h.handled, by have := h.depth; lia, by have := h.units; lia⟩

theorem valD_small (n : Nat) (hn : n < 200) (ds : List Int) (hs : smallD ds = true) (hl : ds.length ≤ 60) : ∀ (d L R : Nat), L ≤ R → R ≤ ds.length → (valD n ds d L R).natAbs < 2 ^ (10000 + d * 12001)
  | 0, L, R, _, _ => by simp only [valD, Int.natAbs_zero]; exact Nat.pow_pos (by decide)
  | d + 1, L, R, hLR, hR => by
    unfold valD
    split
    · have h1 : (ds.getD L 0).natAbs < 2 ^ 10000 := by
        by_cases h : L < ds.length
        · have := List.all_eq_true.mp hs (ds[L]) (List.getElem_mem h)
          simpa [List.getD, h] using this
        · rw [show ds.getD L 0 = 0 by simp [List.getD, List.getElem?_eq_none (Nat.not_lt.mp h)]]
          exact Nat.pow_pos (by decide)
      exact Nat.lt_of_lt_of_le h1 (Nat.pow_le_pow_right (by decide) (by lia))
    · generalize hm : (L + R) / 2 = m
      have h1 := valD_small n hn ds hs hl d m R (by lia) hR
      by_cases hmR : m ≤ ds.length
      · have h2 := valD_small n hn ds hs hl d L m (by lia) hmR
        have hsh : (m - L) * n ≤ 60 * 200 := Nat.mul_le_mul (by lia) (by lia)
        generalize (m - L) * n = sh at *
        generalize valD n ds d m R = a at *
        generalize valD n ds d L m = b at *
        have h3 : (a * 2 ^ sh + b).natAbs ≤ a.natAbs * 2 ^ sh + b.natAbs := by
          refine Nat.le_trans (Int.natAbs_add_le _ _) ?_
          rw [Int.natAbs_mul, Int.natAbs_pow]; exact Nat.le_refl _
        have h4 : a.natAbs * 2 ^ sh ≤ a.natAbs * 2 ^ 12000 := Nat.mul_le_mul_left _ (Nat.pow_le_pow_right (by decide) hsh)
        have e1 : 10000 + (d + 1) * 12001 = (10000 + d * 12001) + 12000 + 1 := by lia
        rw [e1, Nat.pow_succ, Nat.pow_add]
        have hp : 1 ≤ 2 ^ 12000 := Nat.one_le_two_pow
        generalize 2 ^ (10000 + d * 12001) = P at *
        generalize 2 ^ 12000 = W at *
        have h5 : a.natAbs * W ≤ (P - 1) * W := Nat.mul_le_mul_right _ (by lia)
        have h6 : (P - 1) * W = P * W - W := by rw [Nat.sub_mul, Nat.one_mul]
        have h7 : W ≤ P * W := Nat.le_mul_of_pos_left _ (by lia)
        have h8 : P ≤ P * W := Nat.le_mul_of_pos_right _ (by lia)
        lia
      · lia

theorem none_calls {X : GX} (j : Nat) : Calls X (fun _ _ => none) j := fun f ws v h => by cases h

/-- what the program's two functions with an inner def must be -/
structure DigOk (X : GX) : Prop where
  i2 : ∃ a q o fd d, X.gf 25 = some a ∧ q ∈ X.tabs ∧ (∀ q' ∈ X.tabs, q'.P = q.P → q' = q) ∧ FnAtH X [6, 22] a o fd (i2oT d) ∧ okI2o X.gi q fd d = true
  d2 : ∃ a q o fd d, X.gf 26 = some a ∧ q ∈ X.tabs ∧ (∀ q' ∈ X.tabs, q'.P = q.P → q' = q) ∧ FnAtH X [137, 22] a o fd (d2oT d) ∧ okD2o X.gi q fd d = true

theorem bits_pow {a : Nat} (h : bitsI (a : Int) ≤ 20000) : a < 2 ^ 20000 := by
  unfold bitsI at h
  by_cases z : (a : Int) = 0
  · rw [Int.ofNat_eq_zero.mp z]; exact Nat.pow_pos (by decide)
  · rw [if_neg z] at h
    exact (Nat.log2_lt (fun q => z (by rw [q]; rfl))).mp h
theorem bits_val {n : Nat} (hn : n < 200) {ds : List Int} (h4 : smallD ds = true) (hl : ds.length ≤ 60) (d L R : Nat) (hd : d ≤ ds.length) (hLR : L < R) (hR : R ≤ ds.length) : (bitsI (valD n ds d L R) : Int) ≤ 1000000 := by
  have h5 := valD_small n hn ds h4 hl d L R (Nat.le_of_lt hLR) hR
  have h6 : (valD n ds d L R).natAbs < 2 ^ 1000000 := Nat.lt_of_lt_of_le h5 (Nat.pow_le_pow_right (by decide) (Nat.le_trans (Nat.add_le_add_left (Nat.mul_le_mul_right _ (Nat.le_trans hd hl)) _) (by decide)))
  generalize valD n ds d L R = v at *
  unfold bitsI
  by_cases z : v = 0
  · rw [if_pos z]; exact Int.natCast_nonneg _
  · rw [if_neg z]
    have := (Nat.log2_lt (fun q => z (Int.natAbs_eq_zero.mp q))).mpr h6
    exact Int.ofNat_le.mpr this
theorem calls_dig {X : GX} (hnm : X.nm = nmS) (O : GOk X) (hT : ∀ b ∈ X.T, X.hb.get? b = none) (D : DigOk X) : Calls X digC 62 := by
  intro f ws v h
  unfold digC at h
  by_cases hf : f = 25
  · subst hf
    rw [if_pos rfl] at h
    refine bind_of h fun p hp h => bind_of h fun a ha h => bind_of h fun n hn h => if_of h fun hc h => ?_
    cases h
    obtain ⟨h1, h2, h3, h4, h5⟩ := hc
    obtain ⟨fa, q, o, fd, d, hg, hq, hu, W, hk⟩ := D.i2
    refine ⟨fa, hg, fun A s xs hR hb rx ht => ?_⟩
    rw [two_is hp, intOf_is ha, intOf_is hn] at rx
    clear hp ha hn
    obtain ⟨n, rfl⟩ := Int.eq_ofNat_of_zero_le (Int.le_of_lt h1)
    obtain ⟨a, rfl⟩ := Int.eq_ofNat_of_zero_le h3
    rw [Int.toNat_natCast, Int.toNat_natCast] at h5 ⊢
    exact i2o_sound (C := fun _ _ => none) (k := 0) hnm O hT (fun j => none_calls _) hq hu W hk (Int.ofNat_lt.mp h1) (by lia) (Nat.le_trans h5 (by decide)) (bits_pow h4) (by decide) (hR.le (by lia)) hb rx ht
  · rw [if_neg hf] at h
    by_cases hf : f = 26
    · subst hf
      rw [if_pos rfl] at h
      refine bind_of h fun p hp h => bind_of h fun vs ha h => bind_of h fun n hn h => bind_of h fun ds hds h => if_of h fun hc h => ?_
      cases h
      obtain ⟨h1, h2, h3, h4⟩ := hc
      obtain ⟨fa, q, o, fd, d, hg, hq, hu, W, hk⟩ := D.d2
      refine ⟨fa, hg, fun A s xs hR hb rx ht => ?_⟩
      rw [two_is hp, brwOf_is ha, intOf_is hn, intsO_map hds] at rx
      clear hp ha hn
      obtain ⟨n, rfl⟩ := Int.eq_ofNat_of_zero_le h1
      rw [Int.toNat_natCast]
      have hn : n < 200 := Int.ofNat_lt.mp h2
      exact d2o_sound (C := fun _ _ => none) (k := 0) hnm O hT (fun j => none_calls _) hq hu W hk (Nat.lt_trans hn (by decide)) (Nat.le_trans h3 (by decide)) (fun d L R hd hLR hR => bits_val hn h4 h3 d L R hd hLR hR) (hR.le (by lia)) hb rx ht
    · rw [if_neg hf] at h; cases h
end Mine
end
section
set_option maxRecDepth 100000
set_option autoImplicit false
namespace Mine
open PySem PyProof.Rows

noncomputable def asc (l : List Nat) : Bool := l.all fun c => decide (c < 128)
noncomputable def three {α : Type} (l : List α) : Option (α × α × α) := l.head?.bind fun a => (two l.tail).bind fun p => some (a, p)
theorem three_is {α : Type} {l : List α} {p : α × α × α} (h : three l = some p) : l = [p.1, p.2.1, p.2.2] :=
  bind_of h fun a ha h => bind_of h fun q hq h => by
    cases h
    cases l with
    | nil => cases ha
    | cons x l => cases ha; exact congrArg _ (two_is hq)
noncomputable def levN (ws : List V) : Option V := (three ws).bind fun p => (strOf p.1).bind fun a => (strOf p.2.1).bind fun b => (intOf p.2.2).bind fun mc => if (asc a && asc b) = true ∧ a.length ≤ 400 ∧ b.length ≤ 400 then some (.int (levG a b mc)) else none
noncomputable def cstN (ws : List V) : Option V := (two ws).bind fun p => ((strOf p.1).bind only).bind fun c => ((strOf p.2).bind only).bind fun d => if c < 128 ∧ d < 128 then some (.int (cst c d)) else none
/-- the calls, with the edit distance and what xt names as functions of their own -/
noncomputable def CNat (xt : Nat → Option (List V → Option V)) (fns : Nat → Option Fn) (TK : Nat → Option Int) : Nat → Nat → List V → Option V
  | 0 => fun f ws => if f = 0 then cstN ws else digC f ws
  | d + 1 => fun f ws => if f = 0 then cstN ws else if f = 5 then levN ws else (xt f).elim ((fns f).elim (digC f ws) fun fn => runF (CNat xt fns TK d) TK fn ws) fun g => g ws
theorem cstN_run {C : Nat → List V → Option V} {TK : Nat → Option Int} {ws : List V} {v : V} (h : cstN ws = some v) : runF C TK p_substitution_cost ws = some v :=
  bind_of h fun p e h => bind_of h fun c e1 h => bind_of h fun d e2 h => if_of h fun hc h => by
    cases h
    rw [two_is e]
    refine bind_of e1 fun s hs e1 => bind_of e2 fun s2 hs2 e2 => ?_
    rw [strOf_is hs, strOf_is hs2, only_is e1, only_is e2]
    exact cst_run _ _ hc.1 hc.2
theorem levN_run {C : Nat → List V → Option V} {TK : Nat → Option Int} (hC : ∀ c d, c < 128 → d < 128 → C 0 [.str [c], .str [d]] = some (.int (cst c d))) {ws : List V} {v : V} (h : levN ws = some v) : runF C TK p_levenshtein_distance ws = some v :=
  bind_of h fun p e h => bind_of h fun a e1 h => bind_of h fun b e2 h => bind_of h fun mc e3 h => if_of h fun hc h => by
    cases h
    rw [three_is e, strOf_is e1, strOf_is e2, intOf_is e3]
    have h1 := and_true hc.1
    exact lev_run hC _ _ _ (fun x hx => of_decide_eq_true (List.all_eq_true.mp h1.1 x hx)) (fun x hx => of_decide_eq_true (List.all_eq_true.mp h1.2 x hx)) hc.2.1 hc.2.2
theorem nat0 {xt : Nat → Option (List V → Option V)} {fns : Nat → Option Fn} {TK : Nat → Option Int} (d c e : Nat) (hc : c < 128) (he : e < 128) : CNat xt fns TK d 0 [.str [c], .str [e]] = some (.int (cst c e)) := by
  cases d <;> exact if_pos ⟨hc, he⟩
theorem calls_nat {X : GX} (hnm : X.nm = nmS) (O : GOk X) (hT : ∀ b ∈ X.T, X.hb.get? b = none) (D : DigOk X) {xt : Nat → Option (List V → Option V)} {fns : Nat → Option Fn} (hf : ∀ f fn, fns f = some fn → ∃ a, X.gf f = some a ∧ ∃ o fd d, FnOk X fn a o fd d)
    (h0 : fns 0 = some p_substitution_cost) (h5 : fns 5 = some p_levenshtein_distance) (hx : ∀ f g, xt f = some g → ∃ fn, fns f = some fn ∧ ∀ (C : Nat → List V → Option V) ws v, g ws = some v → runF C X.TK fn ws = some v) :
    ∀ d, Calls X (CNat xt fns X.TK d) (62 + d) := by
  have go : ∀ {C : Nat → List V → Option V} {k : Nat}, Calls X C k → ∀ {f : Nat} {fn : Fn}, fns f = some fn → ∀ {ws : List V} {v : V}, runF C X.TK fn ws = some v →
      ∃ a, X.gf f = some a ∧ ∀ A s xs, Rm A (k + 1) → HB X s.heap → VRs s.heap s.heap [] ws xs → 0 < s.toks → wpAny (PySem.model X.prog X.w) A (PySem.call (.ref a) xs) (CRes X s v) E0 s := fun {C k} cs {f fn} hfn {ws v} h => by
    obtain ⟨a, hg, o, fd, d, W⟩ := hf f fn hfn
    exact ⟨a, hg, fun A s xs hR hb rx ht => call_sound O hT cs W h hR hb rx ht⟩
  have dig : ∀ k, 62 ≤ k → Calls X digC k := fun k hk f ws v h => by
    obtain ⟨a, hg, hc⟩ := calls_dig hnm O hT D f ws v h
    exact ⟨a, hg, fun A s xs hR hb rx ht => hc A s xs (hR.le hk) hb rx ht⟩
  intro d
  induction d with
  | zero =>
    intro f ws v h
    by_cases e : f = 0
    · subst e
      exact go (none_calls 61) h0 (cstN_run (show cstN ws = some v from h))
    · exact dig 62 (Nat.le_refl _) f ws v (by rw [← h]; exact (if_neg e).symm)
  | succ d ih =>
    intro f ws v h
    by_cases e : f = 0
    · subst e
      exact go ih h0 (cstN_run (show cstN ws = some v from h))
    have h' : (if f = 5 then levN ws else (xt f).elim ((fns f).elim (digC f ws) fun fn => runF (CNat xt fns X.TK d) X.TK fn ws) fun g => g ws) = some v := by rw [← h]; exact (if_neg e).symm
    by_cases e5 : f = 5
    · subst e5
      exact go ih h5 (levN_run (nat0 d) (show levN ws = some v from h'))
    rw [if_neg e5] at h'
    refine elim_of h' (fun _ h' => elim_of h' (fun _ h' => dig _ (Nat.le_add_right 62 (d + 1)) f ws v h') fun fn hn h' => go ih hn h') fun g hq h' => ?_
    obtain ⟨fn, h1, h2⟩ := hx f g hq
    exact go ih h1 (h2 _ ws v h')
end Mine
end
section
set_option maxRecDepth 100000
set_option autoImplicit false
namespace Mine
open PySem PyProof.Rows PySem.W

noncomputable def tabs2 (c1 P1 c2 P2 : Addr) : List Tab := [⟨c1, P1, 32, 4, "_int2digits.<locals>.inner"⟩, ⟨c2, P2, 47, 4, "_digits2int.<locals>.inner"⟩]

theorem ints_vr {h h₀ : Heap} : ∀ {xs : List Value} {ns : List Int}, IntsAre xs ns → VRs h h₀ [] (ns.map V.int) xs := fun hi => by
  induction hi with
  | nil => exact rfl
  | cons i t _ ih => exact ⟨⟨t, rfl⟩, ih⟩
theorem script_vr {h h₀ : Heap} {a : Addr} {xs : List Value} {ns : List Int} (e : h.get? a = some { cls := .type "list", data := .seq xs.toArray }) (hi : IntsAre xs ns) : VRs h h₀ [] [.lst true (ns.map V.int)] [.ref a] :=
  ⟨⟨a, xs.toArray, rfl, ⟨0, e⟩, (fun h => nomatch h), (fun q => by cases q), ints_vr hi⟩, rfl⟩

noncomputable def inFd (K : Frag) (a : Addr) (c : FuncData → Bool) : Bool := (fdIn K a).any c
/-- the law's own call, at last -/
theorem law_code {prog : Program} {w : World} {s₁ : Shared} {mg mb : Str → Option Value} {K : Frag} {tk c1 P1 c2 P2 fa la : Addr} {p : Program} {loose : List Str} {mean mean' : ExcName → Option Value} {T2 : List (Addr × Addr)}
    (hT2 : T2.map (·.2) = [P2, P1]) (hq1 : (c1, P1) ∈ T2) (hq2 : (c2, P2) ∈ T2) (hPP : P1 ≠ P2) (hT9 : TabsAt T2 s₁.heap) (KX : K.In s₁.heap) (T : Top p loose mean mg mb s₁.heap) (hno : noTabs K = true)
    (hpf : allPf.all (fun p => absent (nsIn K mainGlobals (pfN p))) = true) (hrv : absent (nsIn K mainGlobals "reversed") = true)
    (htk : nsIn K mainGlobals "EXACT_TOKEN_TYPES" = some (some (.ref tk))) {es : Array DictEntry} {n : Nat} (hl : K.lookup tk = some ⟨.type "dict", none, .dict es n, #[]⟩) (hkeys : KeysLit w.params es.toList) (hok : tkOk es.toList = true) (hsys : (tk == sysModules) = false)
    {fns : Nat → Option Fn} (hfns : ∀ f fn, fns f = some fn → ∃ a d, gfK K f = some a ∧ bodyIn K a = some (repSs nmS fn.body d) ∧ chkFn K fn d a = true)
    {a1 a2 : Addr} {d1 d2 : List Stmt} (ha1 : gfK K 25 = some a1) (hb1 : bodyIn K a1 = some (i2oT d1)) (hd1 : inFd K a1 (fun fd => chkFd K [6, 22] fd && okI2o (giK K) ⟨c1, P1, 32, 4, "_int2digits.<locals>.inner"⟩ fd d1) = true)
    (ha2 : gfK K 26 = some a2) (hb2 : bodyIn K a2 = some (d2oT d2)) (hd2 : inFd K a2 (fun fd => chkFd K [137, 22] fd && okD2o (giK K) ⟨c2, P2, 47, 4, "_digits2int.<locals>.inner"⟩ fd d2) = true)
    {law : Fn} (hpar : law.params = [49]) (hlaw : fns 81 = some law) (hfa : mg (nmS 81) = some (.ref fa)) (hloc : inFd K fa (fun fd => fd.scope.names.lookup (nmS 49) == some .local) = true)
    {xt : Nat → Option (List V → Option V)} (h0 : fns 0 = some p_substitution_cost) (h5 : fns 5 = some p_levenshtein_distance) (hx : ∀ f g, xt f = some g → ∃ fn, fns f = some fn ∧ ∀ (C : Nat → List V → Option V) ws v, g ws = some v → runF C (tkK K tk) fn ws = some v)
    {d : Nat} (hd : d < 300) {ns : List Int} (hrun : runF (CNat xt fns (tkK K tk) d) (tkK K tk) law [.lst true (ns.map V.int)] = some (.bool true))
    {xs : List Value} (hla : s₁.heap.get? la = some { cls := .type "list", data := .seq xs.toArray }) (hI : IntsAre xs ns)
    {cw : ClaimW} {cl : Str → Option Addr} {args : List WData} (hr : ∀ a x, cw.raises a x = false) (hpost : cw.post args (.bool true) args = true) (hg : s₁.gens = #[]) (hgr : ∀ {h' : Heap}, GrownAt P1 h' → GrownAt P2 h' → GrownAll T2 h') :
    codeAny (model prog w) callerA (.call (.ref fa) ⟨[.ref la], []⟩) (fun r s' => GoodW cw cl mean' args { s₁ with heap := ghostOf s₁.heap T2 } r s' ∧ GrownAll T2 s'.heap) s₁ := by
  have hK := ghost_K hT9 KX hno
  have T' := ghost_top hT9 T
  have O : GOk (gxK prog w (ghostOf s₁.heap T2) (tabs2 c1 P1 c2 P2) mg mb K tk) := gok_of hK T' hpf hrv htk hl hkeys hok hsys
  generalize hX : gxK prog w (ghostOf s₁.heap T2) (tabs2 c1 P1 c2 P2) mg mb K tk = X at O
  have hXT : X.T = [P1, P2] := by subst hX; rfl
  have hnm : X.nm = nmS := by subst hX; rfl
  have hXhb : X.hb = ghostOf s₁.heap T2 := by subst hX; rfl
  have hXtabs : X.tabs = tabs2 c1 P1 c2 P2 := by subst hX; rfl
  have hXTK : X.TK = tkK K tk := by subst hX; rfl
  have hT : ∀ b ∈ X.T, X.hb.get? b = none := fun b hb => by
    rw [hXT] at hb; rw [hXhb]
    refine hideAll_none _ ?_
    rw [hT2]
    exact List.mem_reverse.mpr hb
  have huniq : ∀ q ∈ X.tabs, ∀ q' ∈ X.tabs, q'.P = q.P → q' = q := by
    rw [hXtabs]
    intro q hq q' hq' e
    cases hq with
    | head => cases hq' with
      | head => rfl
      | tail _ hq' => cases hq' with
        | head => exact absurd e.symm hPP
        | tail _ hq' => cases hq'
    | tail _ hq => cases hq with
      | head => cases hq' with
        | head => exact absurd e hPP
        | tail _ hq' => cases hq' with
          | head => rfl
          | tail _ hq' => cases hq'
      | tail _ hq => cases hq
  have fnat : ∀ {ps : List Nat} {a : Addr} {fd : FuncData} {body : List Stmt}, fdIn K a = some fd → bodyIn K a = some body → chkFd K ps fd = true → ∃ o, FnAtH X ps a o fd body := fun h1 h2 h3 => by subst hX; exact fnat_of hK h1 h2 h3
  have gfX : X.gf = gfK K := by subst hX; rfl
  have giX : X.gi = giK K := by subst hX; rfl
  have fnok : ∀ f fn, fns f = some fn → ∃ a, X.gf f = some a ∧ ∃ o fd d, FnOk X fn a o fd d := fun f fn h => by
    obtain ⟨a, d, h1, h2, h3⟩ := hfns f fn h
    have := fnok_of (prog := prog) (w := w) (tabs := tabs2 c1 P1 c2 P2) (mg := mg) (mb := mb) (tk := tk) hK h2 h3
    rw [hX] at this
    obtain ⟨o, fd, W⟩ := this
    exact ⟨a, by rw [gfX]; exact h1, o, fd, d, W⟩
  have D : DigOk X := by
    refine ⟨any_of hd1 fun fd hf h => ?_, any_of hd2 fun fd hf h => ?_⟩
    · have h := and_true h
      obtain ⟨o, W⟩ := fnat hf hb1 h.1
      exact ⟨a1, ⟨c1, P1, 32, 4, "_int2digits.<locals>.inner"⟩, o, fd, d1, by rw [gfX]; exact ha1, by rw [hXtabs]; exact .head _, huniq _ (by rw [hXtabs]; exact .head _), W, by rw [giX]; exact h.2⟩
    · have h := and_true h
      obtain ⟨o, W⟩ := fnat hf hb2 h.1
      exact ⟨a2, ⟨c2, P2, 47, 4, "_digits2int.<locals>.inner"⟩, o, fd, d2, by rw [gfX]; exact ha2, by rw [hXtabs]; exact .tail _ (.head _), huniq _ (by rw [hXtabs]; exact .tail _ (.head _)), W, by rw [giX]; exact h.2⟩
  have hbs : HB X s₁.heap := by
    refine ⟨fun b o e => by rw [hXhb] at e; exact of_hideAll _ e, fun q hq => ?_⟩
    rw [hXtabs] at hq
    cases hq with
    | head => exact ⟨(hT9 _ hq1).1, .inl (hT9 _ hq1).2⟩
    | tail _ hq => cases hq with
      | head => exact ⟨(hT9 _ hq2).1, .inl (hT9 _ hq2).2⟩
      | tail _ hq => cases hq
  have calls := calls_nat hnm O hT D (xt := xt) (fns := fns) fnok h0 h5 (by rw [hXTK]; exact hx) d
  obtain ⟨fa', hga, o, fd, db, W⟩ := fnok 81 law hlaw
  have hfa' : fa' = fa := by
    have := O.gf 81 fa' hga
    have e : X.mg = mg := by subst hX; rfl
    rw [e, hnm, hfa] at this; cases this; rfl
  subst hfa'
  have hl0 : ∃ p, law.params = [p] ∧ fd.scope.names.lookup (X.nm p) = some .local := any_of hloc fun fd' hf h => bind_of hf fun o' ho' hf => by
    have e1 := hK _ _ ho'
    have e2 := W.toFn.get
    rw [hXhb, e1] at e2; cases e2
    have e3 := fdV_is hf
    rw [W.toFn.data] at e3; cases e3
    exact ⟨49, hpar, by rw [hnm]; exact beq_iff_eq.mp h⟩
  have hRm : Rm callerA (62 + d + 1) := ⟨rfl, by show 301 + (62 + d + 1) < 1000; omega, by show 4 + 4 * (62 + d + 1) + 200 < 9900; omega⟩
  have main := call_code (A := callerA) (s := s₁) O hT calls W (v := .bool true) (ws := [.lst true (ns.map V.int)]) (xs := [.ref la]) (by rw [hXTK]; exact hrun) hRm hbs (script_vr hla hI) (.inr hl0)
  have eprog : X.prog = prog := by subst hX; rfl
  have ew : X.w = w := by subst hX; rfl
  rw [eprog, ew] at main
  refine codeAny_mono main fun r s' h => ?_
  cases r with
  | error e => exact h.elim
  | ok f => cases f with
    | ret y =>
      obtain ⟨h', t', rfl, ht', keep, alive, ti, hv⟩ := h
      have hy := hv s₁.heap [] (fun _ e => e) (fun _ h => nomatch h)
      have hy : y = .bool true := hy
      subst hy
      have hti := ti hbs.ti
      have gr : ∀ q ∈ X.tabs, GrownAt q.P h' := fun q hq => by
        rcases (hti q hq).2 with h1 | ⟨c', h1, _⟩
        · exact ⟨_, h1⟩
        · exact ⟨_, h1⟩
      refine ⟨⟨.inl ⟨.bool true, .bool true, [], rfl, fun c => hr _ _, .bool true, hpost, fun _ => ⟨.nil, fun _ h => nomatch h⟩⟩, fun b o e => ?_, rfl, hg⟩, ?_⟩
      · have e' : (ghostOf s₁.heap T2).get? b = some o := e
        refine keep b o (of_hideAll _ e') fun hm => ?_
        have := hT b hm
        rw [hXhb, e'] at this; cases this
      · have g1 : GrownAt P1 h' := gr ⟨c1, P1, 32, 4, _⟩ (by rw [hXtabs]; exact .head _)
        have g2 : GrownAt P2 h' := gr ⟨c2, P2, 47, 4, _⟩ (by rw [hXtabs]; exact .tail _ (.head _))
        exact hgr g1 g2
    | _ => exact h.elim
end Mine
end
section
set_option maxRecDepth 100000
set_option autoImplicit false
set_option maxHeartbeats 0
namespace Mine
open PySem PyProof.Rows PySem.W

noncomputable def fns2 : List (Nat × Fn) := [(0, p_substitution_cost), (5, p_levenshtein_distance), (21, p_div2n1n), (27, p_divmod_pos), (34, p_int_divmod), (35, p_ISTERMINAL), (38, p_ISNONTERMINAL), (39, p_ISEOF),
  (42, p_escape_cdata), (44, p_escape_attrib), (45, p_escape_attrib_html), (46, p_escape_cdata_c14n), (47, p_escape_attrib_c14n), (48, l2_law_cells), (52, l2_law_spelled), (100, l2_law_joined), (105, l2_law_document),
  (109, l2_law_leaves), (110, l2_law_marks), (112, l2_law_read), (66, l2_law_words), (120, l2_law_in_order), (122, l2_law_fewest), (81, l2_law)]
noncomputable def fnF (l : List (Nat × Fn)) (f : Nat) : Option Fn := (l.find? (·.1 == f)).map (·.2)
noncomputable def chkAll (K : Frag) (dn : Nat → List Stmt) (l : List (Nat × Fn)) : Bool := l.all fun q => (gfK K q.1).any fun a => chkFn K q.2 (dn q.1) a
noncomputable def bods (K : Frag) (l : List (Nat × Fn)) : List (Option (List Stmt)) := l.map fun q => (gfK K q.1).bind (bodyIn K)
noncomputable def repd (dn : Nat → List Stmt) (l : List (Nat × Fn)) : List (Option (List Stmt)) := l.map fun q => some (repSs nmS q.2.body (dn q.1))
theorem chkAll_ok {K : Frag} {dn : Nat → List Stmt} {l : List (Nat × Fn)} (h : chkAll K dn l = true) (hb : bods K l = repd dn l) (f : Nat) (fn : Fn) (e : fnF l f = some fn) : ∃ a d, gfK K f = some a ∧ bodyIn K a = some (repSs nmS fn.body d) ∧ chkFn K fn d a = true := by
  obtain ⟨p, q, e⟩ := Option.map_eq_some_iff.mp e
  have h1 := List.mem_of_find?_eq_some q
  have h2 := List.find?_some q
  rw [beq_iff_eq] at h2
  subst e
  subst h2
  exact any_of (List.all_eq_true.mp h p h1) fun a ha hc => by
    have := List.map_inj_left.mp hb p h1
    rw [ha] at this
    exact ⟨a, _, ha, this, hc⟩
end Mine
end
section
set_option maxRecDepth 100000
set_option autoImplicit false
set_option maxHeartbeats 0
namespace Mine
open PySem PySem.W

noncomputable def keyV : Value → Option Str
  | .str x _ => some x | _ => none
theorem keyV_is {v : Value} {x : Str} (h : keyV v = some x) : ∃ t, v = .str x t := by
  cases v <;> first | (cases h; exact ⟨_, rfl⟩) | cases h
noncomputable def codeOf (e : DictEntry) : List Nat × Int := ((keyV e.key).elim [] (·.cps.toList), (intV e.val).getD 0)
noncomputable def tabL (l : List (List Nat × Int)) (c : Nat) : Option Int := (l.find? fun p => decide (p.1 = [c])).map (·.2)
noncomputable def keysOk (es : List DictEntry) : Bool := es.all fun e => (keyV e.key).isSome && (intV e.val).isSome
theorem strV_eq (x : Str) (l : List Nat) : (x == strV l) = decide (x.cps.toList = l) := by
  by_cases h : x.cps.toList = l
  · rw [decide_eq_true h]
    refine beq_iff_eq.mpr ?_
    obtain ⟨⟨a⟩⟩ := x
    have h : a = l := h
    rw [h]; rfl
  · rw [decide_eq_false h]
    exact beq_false_of_ne fun q => h (by rw [q]; rfl)
theorem tab_find (c : Nat) : ∀ (l : List DictEntry), keysOk l = true → (l.find? (·.key.isStr (strV [c]))).bind (fun e => intV e.val) = tabL (l.map codeOf) c
  | [], _ => rfl
  | e :: l, h => by
    have h := and_true h
    have h1 := and_true h.1
    have ih := tab_find c l h.2
    obtain ⟨x, hx⟩ := Option.isSome_iff_exists.mp h1.1
    obtain ⟨i, hi⟩ := Option.isSome_iff_exists.mp h1.2
    obtain ⟨t, ht⟩ := keyV_is hx
    have e1 : e.key.isStr (strV [c]) = decide (x.cps.toList = [c]) := by rw [ht]; exact strV_eq x [c]
    have e2 : codeOf e = (x.cps.toList, i) := by unfold codeOf; rw [hx, hi]; rfl
    unfold tabL at ih ⊢
    rw [List.find?_cons, List.map_cons, List.find?_cons, e1, e2]
    cases decide (x.cps.toList = [c]) with
    | true => exact hi
    | false => exact ih
theorem tk_tab {K : Frag} {a : Addr} {es : Array DictEntry} {n : Nat} (hl : K.lookup a = some ⟨.type "dict", none, .dict es n, #[]⟩) (h : keysOk es.toList = true) (ho : tkOk es.toList = true) (c : Nat) : tkK K a c = tabL (es.toList.map codeOf) c := by
  rw [← tab_find c es.toList h]
  unfold tkK nsIn
  rw [hl]
  dsimp only
  cases q : es.toList.find? (·.key.isStr (strV [c])) with
  | some e => rfl
  | none => rw [show es.toList.any (·.refKey) = false from List.any_eq_false.mpr fun e he => by rw [not_true (and_true (List.all_eq_true.mp ho e he)).1]; exact Bool.false_ne_true]; rfl
noncomputable def tkCodes : List (List Nat × Int) := [([33], 54), ([33, 61], 28), ([37], 24), ([37, 61], 40), ([38], 19), ([38, 61], 41), ([40], 7), ([41], 8), ([42], 16), ([42, 42], 35), ([42, 42, 61], 46), ([42, 61], 38), ([43], 14), ([43, 61], 36), ([44], 12), ([45], 15), ([45, 61], 37), ([45, 62], 51), ([46], 23), ([46, 46, 46], 52), ([47], 17), ([47, 47], 47), ([47, 47, 61], 48), ([47, 61], 39), ([58], 11), ([58, 61], 53), ([59], 13), ([60], 20), ([60, 60], 33), ([60, 60, 61], 44), ([60, 61], 29), ([61], 22), ([61, 61], 27), ([62], 21), ([62, 61], 30), ([62, 62], 34), ([62, 62, 61], 45), ([64], 49), ([64, 61], 50), ([91], 9), ([93], 10), ([94], 32), ([94, 61], 43), ([123], 25), ([124], 18), ([124, 61], 42), ([125], 26), ([126], 31)]
noncomputable def TK1 (c : Nat) : Option Int := tabL tkCodes c
end Mine
end
section
set_option maxRecDepth 100000
set_option autoImplicit false
set_option maxHeartbeats 0
namespace Mine
open PySem PySem.W PyProof.Rows

noncomputable def fldsV : Data → Bool
  | .fields _ => true | _ => false
noncomputable def isTab (o : Obj) : Bool := isNone o.cls && fldsV o.data
/-- what a heap holds at some places, code tables left out -/
noncomputable def fragH (h : Heap) (as : List Addr) : Frag := (as.filterMap fun a => (h.get? a).map fun o => (a, o)).filter fun p => !isTab p.2
theorem frag_in (h : Heap) (as : List Addr) : (fragH h as).In h := fun a o e => by
  obtain ⟨b, _, q⟩ := List.mem_filterMap.mp (List.mem_filter.mp (mem_of_lookupK e)).1
  obtain ⟨x, hx, e⟩ := Option.map_eq_some_iff.mp q
  cases e
  exact hx
theorem frag_tabs (h : Heap) (as : List Addr) : noTabs (fragH h as) = true := by
  refine List.all_eq_true.mpr fun p hp => ?_
  have h1 := not_true (List.mem_filter.mp hp).2
  revert h1
  unfold isTab
  cases p.2.cls with
  | none => cases p.2.data with
    | fields _ => exact fun h => nomatch h
    | _ => exact fun _ => rfl
  | _ => exact fun _ => rfl
noncomputable def dictV : Data → Option (Array DictEntry × Nat)
  | .dict es n => some (es, n) | _ => none
theorem dictV_is {d : Data} {p : Array DictEntry × Nat} (h : dictV d = some p) : d = .dict p.1 p.2 := by
  cases d <;> first | (cases h; rfl) | cases h
noncomputable def typV : Value → Option String
  | .type s => some s | _ => none
theorem typV_is {v : Value} {s : String} (h : typV v = some s) : v = .type s := by
  cases v <;> first | (cases h; rfl) | cases h
noncomputable def dictOf (o : Obj) : Option (Array DictEntry × Nat) := if typV o.cls = some "dict" ∧ o.dict = none ∧ o.slots.toList = [] then dictV o.data else none
theorem dictOf_is {o : Obj} {p : Array DictEntry × Nat} (h : dictOf o = some p) : o = ⟨.type "dict", none, .dict p.1 p.2, #[]⟩ :=
  if_of h fun hc h => by
    obtain ⟨c, d, t, s⟩ := o
    obtain ⟨h1, h2, h3⟩ := hc
    have h1 := typV_is h1
    have h4 := dictV_is h
    obtain ⟨s⟩ := s
    cases h1; cases h2; cases h3; cases h4; rfl
noncomputable def tkIn (K : Frag) : Option Addr := (nsIn K mainGlobals "EXACT_TOKEN_TYPES").bind fun o => o.bind refV
noncomputable def esIn (K : Frag) : Option (Array DictEntry × Nat) := (tkIn K).bind fun tk => (K.lookup tk).bind dictOf
noncomputable def tkChk (K : Frag) : Bool := (tkIn K).any (fun tk => !(tk == sysModules)) && (esIn K).any fun p => keysOk p.1.toList && (tkOk p.1.toList && decide (p.1.toList.map codeOf = tkCodes))
noncomputable def tkHash (K : Frag) : List Int := (esIn K).elim [] fun p => p.1.toList.map (·.hash)
noncomputable def bod (K : Frag) (f : Nat) : Option (List Stmt) := (gfK K f).bind (bodyIn K)
noncomputable def inChk (K : Frag) (f : Nat) (c : FuncData → Bool) : Bool := (gfK K f).any fun a => inFd K a c
noncomputable def okA (K : Frag) (dn : Nat → List Stmt) (fd : FuncData) : Bool := chkFd K [6, 22] fd && okI2o (giK K) ⟨34, 30, 32, 4, "_int2digits.<locals>.inner"⟩ fd (dn 25)
noncomputable def okB (K : Frag) (dn : Nat → List Stmt) (fd : FuncData) : Bool := chkFd K [137, 22] fd && okD2o (giK K) ⟨41, 37, 47, 4, "_digits2int.<locals>.inner"⟩ fd (dn 26)
noncomputable def okL (fd : FuncData) : Bool := fd.scope.names.lookup (nmS 49) == some .local
noncomputable def bigChk (fns : List (Nat × Fn)) (dn : Nat → List Stmt) (K : Frag) : Bool :=
  ((allPf.all (fun p => absent (nsIn K mainGlobals (pfN p))) && absent (nsIn K mainGlobals "reversed")) && (tkChk K && chkAll K dn fns)) &&
    (((inChk K 25 (okA K dn) && inChk K 26 (okB K dn)) && inChk K 81 okL) && (codeHdIn K 41 37 && codeHdIn K 34 30))
abbrev Seen := ((Bool × List Int) × (List (Option (List Stmt)) × Option (List Stmt) × Option (List Stmt))) × (Option Obj × Option Obj)
noncomputable def yfK (fns : List (Nat × Fn)) (dn : Nat → List Stmt) (K : Frag) : (Bool × List Int) × (List (Option (List Stmt)) × Option (List Stmt) × Option (List Stmt)) :=
  ((bigChk fns dn K, tkHash K), (bods K fns, bod K 25, bod K 26))
noncomputable def yf (fns : List (Nat × Fn)) (dn : Nat → List Stmt) (s : Shared) : Seen := (yfK fns dn (fragH s.heap (List.range 240)), (s.heap.get? 30, s.heap.get? 37))
noncomputable def ya (fns : List (Nat × Fn)) (dn : Nat → List Stmt) (w : World) : Seen :=
  (((true, tkCodes.map fun c => PyData.keyHash w.params (strV c.1)), (repd dn fns, some (i2oT (dn 25)), some (d2oT (dn 26)))), (some (tabObj #[]), some (tabObj #[])))

noncomputable def lawNm : Str := Str.ofString "law"
theorem said2 : PySem.Challenge.rw_wf0098_02.wellSaid = true := by
  rw [PySem.W.Fast.te9446332074065402090]
  kernel_rfl
noncomputable def qq : Program := PySem.W.view PySem.Challenge.pw_wf0098_02 [87]
noncomputable def loose2 : List Str := PySem.Challenge.pw_wf0098_02.boundNames.filter fun n => !(n == lawNm)
/-- the tree of a def of the program, for positions alone -/
noncomputable def dn2 (f : Nat) : List Stmt := ((defOf PySem.Challenge.pw_wf0098_02 (nmS f)).map fun p => p.1.body).getD []
theorem left2 : LeftO PySem.Challenge.pw_wf0098_02 qq loose2 (fun _ => true) (yf fns2 dn2) (ya fns2 dn2) 5000 := by
  refine LeftO.of_split "special-get-raises" (fun w => ?_)
  unfold fencedOpening topFrom
  rw [PySem.W.Fast.te14082659384304107361, PySem.W.Fast.te4187177175401517315, PySem.W.Fast.te10274390034422433532, PySem.W.Fast.te14364793385576792824, PySem.W.Fast.te14289696077712309145]
  kernel_rfl
end Mine
end
section
set_option maxRecDepth 100000
set_option autoImplicit false
namespace Mine

/-- m digits of x to the base B, the lowest first; the last one takes all that is left -/
noncomputable def digs (B : Nat) : Nat → Nat → List Nat
  | 0, _ => []
  | 1, x => [x]
  | m + 2, x => (x % B) :: digs B (m + 1) (x / B)
theorem digs_len (B : Nat) : ∀ (m x : Nat), (digs B m x).length = m
  | 0, _ => rfl
  | 1, _ => rfl
  | m + 2, x => by simp only [digs, List.length_cons]; rw [digs_len B (m + 1)]
theorem digs_app (B : Nat) : ∀ (s t x : Nat), digs B (s + 1 + (t + 1)) x = digs B (s + 1) (x % B ^ (s + 1)) ++ digs B (t + 1) (x / B ^ (s + 1))
  | 0, t, x => by
    have e : 0 + 1 + (t + 1) = t + 2 := by lia
    rw [e]; simp [digs]
  | s + 1, t, x => by
    have e : s + 1 + 1 + (t + 1) = (s + 1 + t) + 2 := by lia
    have e2 : s + 1 + t + 1 = s + 1 + (t + 1) := by lia
    rw [e]
    simp only [digs]
    rw [e2, digs_app B s t (x / B)]
    have h1 : x % B ^ (s + 1 + 1) % B = x % B := Nat.mod_mod_of_dvd _ ⟨B ^ (s + 1), by rw [Nat.pow_succ, Nat.mul_comm]⟩
    have h2 : x % B ^ (s + 1 + 1) / B = x / B % B ^ (s + 1) := by rw [Nat.pow_succ, Nat.mul_comm, Nat.mod_mul_right_div_self]
    have h3 : x / B / B ^ (s + 1) = x / B ^ (s + 1 + 1) := by rw [Nat.div_div_eq_div_mul, Nat.pow_succ B (s + 1), Nat.mul_comm]
    rw [h1, h2, h3]; rfl

theorem putD_eq (n : Nat) : ∀ (d x L R : Nat) (vs : List V), L < R → R ≤ vs.length → R - L ≤ d → putD n d x L R vs = vs.take L ++ (digs (2 ^ n) (R - L) x).map (fun k : Nat => V.int k) ++ vs.drop R
  | 0, _, _, _, _, h, _, h2 => by lia
  | d + 1, x, L, R, vs, h, hR, hd => by
    unfold putD
    split
    · rename_i e
      subst e
      have : L + 1 - L = 1 := by lia
      rw [this, List.set_eq_take_append_cons_drop, if_pos (by lia)]
      simp [digs]
    · generalize hm : (L + R) / 2 = m
      have h1 : L < m := by lia
      have h2 : m < R := by lia
      have ih1 := putD_eq n d (x % 2 ^ ((m - L) * n)) L m vs h1 (by lia) (by lia)
      have hl1 : (vs.take L ++ (digs (2 ^ n) (m - L) (x % 2 ^ ((m - L) * n))).map (fun k : Nat => V.int k) ++ vs.drop m).length = vs.length := by
        simp [digs_len]; lia
      have ih2 := putD_eq n d (x / 2 ^ ((m - L) * n)) m R (vs.take L ++ (digs (2 ^ n) (m - L) (x % 2 ^ ((m - L) * n))).map (fun k : Nat => V.int k) ++ vs.drop m) h2 (by rw [hl1]; exact hR) (by lia)
      rw [ih1, ih2]
      have hA : (vs.take L ++ (digs (2 ^ n) (m - L) (x % 2 ^ ((m - L) * n))).map (fun k : Nat => V.int k)).length = m := by simp [digs_len]; lia
      have ht : (vs.take L ++ (digs (2 ^ n) (m - L) (x % 2 ^ ((m - L) * n))).map (fun k : Nat => V.int k) ++ vs.drop m).take m = vs.take L ++ (digs (2 ^ n) (m - L) (x % 2 ^ ((m - L) * n))).map (fun k : Nat => V.int k) := by
        rw [List.take_append_of_le_length (by lia), List.take_of_length_le (by lia)]
      have hdr : (vs.take L ++ (digs (2 ^ n) (m - L) (x % 2 ^ ((m - L) * n))).map (fun k : Nat => V.int k) ++ vs.drop m).drop R = vs.drop R := by
        rw [List.drop_append, List.drop_of_length_le (by lia), hA, List.drop_drop, List.nil_append]
        congr 1; lia
      rw [ht, hdr]
      obtain ⟨s, hs⟩ : ∃ s, m - L = s + 1 := ⟨m - L - 1, by lia⟩
      obtain ⟨t, ht'⟩ : ∃ t, R - m = t + 1 := ⟨R - m - 1, by lia⟩
      have hst : R - L = s + 1 + (t + 1) := by lia
      have hp : 2 ^ ((s + 1) * n) = (2 ^ n) ^ (s + 1) := by rw [← Nat.pow_mul, Nat.mul_comm]
      rw [hst, digs_app, hs, ht', hp]
      simp [List.append_assoc]
end Mine
end
section
set_option maxRecDepth 100000
set_option autoImplicit false
namespace Mine

noncomputable def polyv (x : Int) : List Int → Int
  | [] => 0
  | d :: r => d + x * polyv x r
theorem polyv_app (x : Int) : ∀ a b : List Int, polyv x (a ++ b) = polyv x a + x ^ a.length * polyv x b
  | [], b => by simp [polyv]
  | d :: a, b => by
    simp only [List.cons_append, polyv, List.length_cons, polyv_app x a b]
    rw [Int.pow_succ, Int.mul_add, ← Int.add_assoc, ← Int.mul_assoc, Int.mul_comm x (x ^ a.length)]
theorem valD_eq (n : Nat) (ds : List Int) : ∀ (d L R : Nat), L < R → R ≤ ds.length → R - L ≤ d → valD n ds d L R = polyv ((2 : Int) ^ n) ((ds.drop L).take (R - L))
  | 0, L, R, h, _, h2 => by lia
  | d + 1, L, R, h, hR, hd => by
    unfold valD
    split
    · rename_i e
      subst e
      have e1 : L + 1 - L = 1 := by lia
      rw [e1]
      have hL : L < ds.length := by lia
      rw [List.drop_eq_getElem_cons hL, List.take_succ_cons, List.take_zero]
      simp [polyv, List.getD, hL]
    · generalize hm : (L + R) / 2 = m
      rw [valD_eq n ds d m R (by lia) hR (by lia), valD_eq n ds d L m (by lia) (by lia) (by lia)]
      have e1 : (ds.drop L).take (R - L) = (ds.drop L).take (m - L) ++ (ds.drop m).take (R - m) := by
        have e2 : R - L = (m - L) + (R - m) := by lia
        rw [e2, List.take_add, List.drop_drop]
        congr 3; lia
      rw [e1, polyv_app]
      have hl : ((ds.drop L).take (m - L)).length = m - L := by simp; lia
      rw [hl, ← Int.pow_mul, Nat.mul_comm n (m - L), Int.mul_comm, Int.add_comm]
theorem valD_all (n : Nat) (ds : List Int) (h : ds ≠ []) : valD n ds ds.length 0 ds.length = polyv ((2 : Int) ^ n) ds := by
  have : 0 < ds.length := List.length_pos_iff.mpr h
  rw [valD_eq n ds ds.length 0 ds.length this (Nat.le_refl _) (by lia)]
  simp
theorem digs_val (B : Nat) : ∀ (m x : Nat), 0 < m → polyv (B : Int) ((digs B m x).map fun (k : Nat) => (k : Int)) = x
  | 1, x, _ => by simp [digs, polyv]
  | m + 2, x, _ => by
    simp only [digs, List.map_cons, polyv]
    rw [digs_val B (m + 1) (x / B) (by lia)]
    have := Nat.mod_add_div x B
    exact_mod_cast this
theorem digD_eq (n x : Nat) (hn : 0 < n) (hx : x ≠ 0) : digD n x = (digs (2 ^ n) (cntD n x) x).map (fun k : Nat => V.int k) := by
  unfold digD
  rw [if_neg hx]
  have hcpos : 0 < cntD n x := by
    have : 1 ≤ bitsI (x : Int) := by unfold bitsI; rw [if_neg (by lia)]; lia
    exact Nat.div_pos (by lia) hn
  rw [putD_eq n (cntD n x) x 0 (cntD n x) _ hcpos (by rw [zeros_len]; exact Nat.le_refl _) (by lia)]
  simp only [List.take_zero, List.nil_append, Nat.sub_zero]
  rw [List.drop_of_length_le (by rw [zeros_len]; exact Nat.le_refl _), List.append_nil]
end Mine
end
section
set_option maxRecDepth 100000
set_option autoImplicit false
namespace Mine

noncomputable def polyN (B : Nat) : List Nat → Nat
  | [] => 0
  | d :: r => d + B * polyN B r
theorem polyN_cast (B : Nat) : ∀ ws : List Nat, polyv (B : Int) (ws.map fun (k : Nat) => (k : Int)) = (polyN B ws : Nat)
  | [] => rfl
  | d :: r => by simp only [List.map_cons, polyv, polyN, polyN_cast B r]; push_cast; rfl
theorem polyN_lt (B : Nat) : ∀ ws : List Nat, (∀ w ∈ ws, w < B) → polyN B ws < B ^ ws.length
  | [], _ => by simp [polyN]
  | d :: r, h => by
    have h1 := polyN_lt B r fun w hw => h w (.tail _ hw)
    have h2 := h d (.head _)
    simp only [polyN, List.length_cons, Nat.pow_succ]
    have : B * polyN B r + B ≤ B * B ^ r.length := by
      rw [← Nat.mul_succ]; exact Nat.mul_le_mul_left _ h1
    rw [Nat.mul_comm (B ^ r.length)]; lia
theorem digs_poly (B : Nat) (hB : 0 < B) : ∀ (m : Nat) (ws : List Nat), (∀ w ∈ ws, w < B) → m + 1 ≤ ws.length → digs B (m + 1) (polyN B ws) = ws.take m ++ [polyN B (ws.drop m)]
  | 0, ws, _, _ => by simp [digs]
  | m + 1, [], _, h => by simp at h
  | m + 1, d :: r, h, hl => by
    have hd := h d (.head _)
    simp only [digs, polyN, List.take_succ_cons, List.drop_succ_cons]
    have e1 : (d + B * polyN B r) % B = d := by rw [Nat.add_mul_mod_self_left, Nat.mod_eq_of_lt hd]
    have e2 : (d + B * polyN B r) / B = polyN B r := by rw [Nat.add_mul_div_left _ _ hB, Nat.div_eq_of_lt hd, Nat.zero_add]
    rw [e1, e2, digs_poly B hB m r (fun w hw => h w (.tail _ hw)) (by simpa using hl)]
    rfl
theorem poly_div (B : Nat) (hB : 0 < B) : ∀ (m : Nat) (ws : List Nat), (∀ w ∈ ws, w < B) → polyN B ws / B ^ m = polyN B (ws.drop m)
  | 0, ws, _ => by simp
  | m + 1, [], _ => by simp [polyN]
  | m + 1, d :: r, h => by
    have hd := h d (.head _)
    simp only [polyN, List.drop_succ_cons]
    rw [Nat.pow_succ, Nat.mul_comm (B ^ m) B, ← Nat.div_div_eq_div_mul, Nat.add_mul_div_left _ _ hB, Nat.div_eq_of_lt hd, Nat.zero_add]
    exact poly_div B hB m r fun w hw => h w (.tail _ hw)
theorem poly_zero (B : Nat) (hB : 0 < B) : ∀ ws : List Nat, polyN B ws = 0 → ws = List.replicate ws.length 0
  | [], _ => rfl
  | d :: r, h => by
    simp only [polyN] at h
    have h1 : d = 0 := by lia
    have h2 : B * polyN B r = 0 := by lia
    have h3 : polyN B r = 0 := by
      rcases Nat.mul_eq_zero.mp h2 with z | z
      · lia
      · exact z
    rw [h1, List.length_cons, List.replicate_succ, ← poly_zero B hB r h3]
/-- the digits of the weights' number are the weights, but for their last zeros -/
theorem digs_weights (B : Nat) (hB : 0 < B) (m : Nat) (ws : List Nat) (h : ∀ w ∈ ws, w < B) (hm : m + 1 ≤ ws.length) (hlt : polyN B ws < B ^ (m + 1)) : digs B (m + 1) (polyN B ws) ++ List.replicate (ws.length - (m + 1)) 0 = ws := by
  rw [digs_poly B hB m ws h hm]
  have h1 : polyN B (ws.drop (m + 1)) = 0 := by
    rw [← poly_div B hB (m + 1) ws h]; exact Nat.div_eq_of_lt hlt
  have h2 := poly_zero B hB _ h1
  have hlen : (ws.drop (m + 1)).length = ws.length - (m + 1) := by simp
  rw [hlen] at h2
  have h3 : ws.drop m = ws[m] :: ws.drop (m + 1) := List.drop_eq_getElem_cons (by lia)
  rw [h3]
  simp only [polyN, h1, Nat.mul_zero, Nat.add_zero]
  rw [← h2, List.append_assoc]
  have : ws = ws.take m ++ ws.drop m := (List.take_append_drop m ws).symm
  conv => rhs; rw [this, h3]
  rfl
end Mine
end
section
set_option maxRecDepth 100000
set_option autoImplicit false
namespace Mine
section
variable {C : Nat → List V → Option V} {TK : Nat → Option Int} {vars vars' vars₁ vars₂ : Vars} {own own' own₁ own₂ own₃ : Own}
theorem st_tup {es : Es} {vs : List V} (h : evs C TK es vars own = some (vs, own₁)) (hl : vs.length ≤ 1000) : ev C TK (.tup es) vars own = some (.tup vs, own₁) := by show (evs C TK es vars own).bind _ = _; rw [h]; exact if_pos hl
theorem st_list {es : Es} {vs : List V} (h : evs C TK es vars own = some (vs, own₁)) (hl : vs.length ≤ 1000) : ev C TK (.list es) vars own = some (.ref own₁.length, own₁ ++ [vs]) := by show (evs C TK es vars own).bind _ = _; rw [h]; exact if_pos hl
theorem st_unp {xs : List Nat} {e : E} {vs : List V} (h : ev C TK e vars own = some (.tup vs, own₁)) (h2 : setVs xs vs vars = some vars₁) : ex C TK (.unp xs e) vars own = some (.next, vars₁, own₁) := by show (ev C TK e vars own).bind _ = _; rw [h]; show (setVs xs vs vars).bind _ = _; rw [h2]; rfl
theorem st_exp {e : E} (h : ev C TK e vars own = some (.non, own₁)) : ex C TK (.exp e) vars own = some (.next, vars, own₁) := by show (ev C TK e vars own).bind _ = _; rw [h]; rfl
theorem st_forrev {x : Nat} {it : E} {b : Ss} {bb : Bool} {vs : List V} {r : Option (Fl × Vars × Own)} (h : ev C TK it vars own = some (.lst bb vs, own₁)) (hl : vs.length ≤ 100000) (h2 : revLoop x (fun vars own => exs C TK b vars own) vs.reverse vars own₁ = r) : ex C TK (.forrev x it b) vars own = r := by
  show (ev C TK it vars own).bind _ = _; rw [h]; exact (if_pos hl).trans h2
theorem bits_le {a n : Nat} (h : a < 2 ^ n) : bitsI (a : Int) ≤ n := by
  unfold bitsI
  split
  · lia
  · rename_i h0
    have h0 : a ≠ 0 := by lia
    rw [Int.natAbs_natCast]
    have := (Nat.log2_lt h0).mpr h
    lia
theorem d21 (a b n : Nat) (ha : a < 2 ^ 28) (hb : 0 < b) (hb2 : b < 2 ^ 14) : runF C TK p_div2n1n [.int a, .int b, .int n] = some (.tup [.int (a / b : Nat), .int (a % b : Nat)]) := by
  have hbits : ((bitsI (a : Int) : Int) - n) ≤ 4000 := by have := bits_le (n := 28) ha; lia
  have key : exs C TK p_div2n1n.body [(6, .int a), (7, .int b), (22, .int n)] [] = some (.ret (.tup [.int (a / b : Nat), .int (a % b : Nat)]), [(6, .int a), (7, .int b), (22, .int n)], []) := by
    refine st_stop (st_ite_t (own₁ := []) (st_tst (r := (.bool true, [])) (st_cmp (x := .int ((bitsI (a : Int) : Int) - n)) (y := .int 4000) (own₁ := []) (own₂ := []) (st_bin (x := .int (bitsI (a : Int))) (y := .int n) (st_meth (st_var rfl) st_evs_nil rfl) (st_var rfl) rfl) st_glob ?_) rfl) (st_stop (st_ret (st_prim (st_evs (st_var rfl) (st_evs (st_var rfl) st_evs_nil)) ?_))))
    · show some (decide _) = _; rw [decide_eq_true hbits]
    · show (if (b : Int) ≠ 0 ∧ (b : Int).natAbs < 1073741824 then _ else none) = _
      rw [if_pos ⟨by lia, by lia⟩]
      have e1 : Int.fdiv (a : Int) b = ((a / b : Nat) : Int) := by rw [Int.fdiv_eq_ediv_of_nonneg _ (by lia)]; rfl
      have e2 : Int.fmod (a : Int) b = ((a % b : Nat) : Int) := by rw [Int.fmod_eq_emod_of_nonneg _ (by lia)]; rfl
      rw [e1, e2]
  exact runF_of rfl key rfl

/-- the long division to the base B, the highest digit first -/
noncomputable def lng (B b : Nat) : List Nat → Nat → List Nat × Nat
  | [], r => ([], r)
  | d :: us, r => ((r * B + d) / b :: (lng B b us ((r * B + d) % b)).1, (lng B b us ((r * B + d) % b)).2)
theorem lng_len (B b : Nat) : ∀ us r, (lng B b us r).1.length = us.length
  | [], _ => rfl
  | d :: us, r => by simp only [lng, List.length_cons, lng_len B b us]
theorem polyN_app (B : Nat) : ∀ a c : List Nat, polyN B (a ++ c) = polyN B a + B ^ a.length * polyN B c
  | [], c => by simp [polyN]
  | d :: a, c => by
    simp only [List.cons_append, polyN, List.length_cons, polyN_app B a c]
    rw [Nat.pow_succ, Nat.mul_add, ← Nat.add_assoc, ← Nat.mul_assoc, Nat.mul_comm B (B ^ a.length)]
theorem lng_ok (B b : Nat) (hb : 0 < b) : ∀ us r, r < b → (lng B b us r).2 < b ∧ b * polyN B (lng B b us r).1.reverse + (lng B b us r).2 = r * B ^ us.length + polyN B us.reverse
  | [], r, h => by simp [lng, polyN, h]
  | d :: us, r, h => by
    have ih := lng_ok B b hb us ((r * B + d) % b) (Nat.mod_lt _ hb)
    simp only [lng, List.reverse_cons, polyN_app, List.length_reverse, lng_len, polyN, Nat.mul_zero, Nat.add_zero]
    refine ⟨ih.1, ?_⟩
    have e := ih.2
    have hd := Nat.div_add_mod (r * B + d) b
    generalize (r * B + d) / b = q at hd ⊢
    generalize (r * B + d) % b = m at *
    generalize (lng B b us m).1 = z at *
    generalize polyN B z.reverse = y at *
    generalize (lng B b us m).2 = t at *
    rw [List.length_cons, Nat.pow_succ]
    generalize B ^ us.length = p at *
    have : b * (y + p * q) + t = (b * y + t) + p * (b * q) := by rw [Nat.mul_add, Nat.mul_left_comm]; lia
    rw [this, e]
    have h3 : p * (b * q) + m * p = p * (r * B + d) := by rw [← hd, Nat.mul_add, Nat.mul_comm m p]
    rw [Nat.mul_add] at h3
    have h4 : r * (p * B) = p * (r * B) := by rw [Nat.mul_left_comm]
    rw [h4]; lia
theorem lng_small (B b : Nat) (hb : 0 < b) : ∀ us r, r < b → (∀ d ∈ us, d < B) → ∀ q ∈ (lng B b us r).1, q < B
  | [], _, _, _, q, hq => by simp [lng] at hq
  | d :: us, r, h, hd, q, hq => by
    simp only [lng, List.mem_cons] at hq
    rcases hq with rfl | hq
    · have := hd d (.head _)
      refine (Nat.div_lt_iff_lt_mul hb).mpr ?_
      have h2 : r * B + B ≤ b * B := by rw [← Nat.succ_mul]; exact Nat.mul_le_mul_right _ h
      rw [Nat.mul_comm B b]
      exact Nat.lt_of_lt_of_le (Nat.add_lt_add_left this _) h2
    · exact lng_small B b hb us _ (Nat.mod_lt _ hb) (fun d hd' => hd d (.tail _ hd')) q hq

noncomputable def dmBody : Ss :=
  (.cons (.unp [33, 28] (.call 21 (.cons (.bin .add (.bin .shl (.var 28) (.var 22)) (.var 31)) (.cons (.var 7) (.cons (.var 22) .nil)))))
  (.cons (.exp (.meth .append (.var 30) (.cons (.var 33) .nil)))
  .nil))
theorem dm_loop {b n B : Nat} (hB : B = 2 ^ n) (hn : n ≤ 14) (hb : 0 < b) (hb2 : b < 2 ^ 14) (hC : ∀ a, a < 2 ^ 28 → C 21 [.int (a : Nat), .int b, .int n] = some (.tup [.int (a / b : Nat), .int (a % b : Nat)])) : ∀ (us : List Nat) (r : Nat) (acc : List V) (vars : Vars), r < b → (∀ d ∈ us, d < B) → acc.length + us.length ≤ 1000 →
    getV 7 vars = some (.int b) → getV 22 vars = some (.int n) → getV 28 vars = some (.int r) → getV 30 vars = some (.ref 0) →
    ∃ vars', revLoop 31 (fun vars own => exs C TK dmBody vars own) (us.map fun (k : Nat) => V.int k) vars [acc] = some (.next, vars', [acc ++ (lng B b us r).1.map fun (k : Nat) => V.int k]) ∧ getV 22 vars' = some (.int n) ∧ getV 28 vars' = some (.int (lng B b us r).2) ∧ getV 30 vars' = some (.ref 0)
  | [], r, acc, vars, _, _, _, g7, g22, g28, g30 => ⟨vars, by simp [revLoop, lng], g22, g28, g30⟩
  | d :: us, r, acc, vars, hr, hd, hl, g7, g22, g28, g30 => by
    have hd0 := hd d (.head _)
    have ha : r * B + d < 2 ^ 28 := by
      have h1 : r * B + B ≤ b * B := by rw [← Nat.succ_mul]; exact Nat.mul_le_mul_right _ hr
      have h2 : B ≤ 2 ^ 14 := by rw [hB]; exact Nat.pow_le_pow_right (by decide) hn
      have h3 : b * B ≤ 2 ^ 14 * 2 ^ 14 := Nat.mul_le_mul (Nat.le_of_lt hb2) h2
      lia
    have hC' := hC _ ha
    obtain ⟨vars', ih, i1, i2, i3⟩ := dm_loop hB hn hb hb2 hC us ((r * B + d) % b) (acc ++ [.int ((r * B + d) / b : Nat)]) (setV 28 (.int ((r * B + d) % b : Nat)) (setV 33 (.int ((r * B + d) / b : Nat)) (setV 31 (.int d) vars))) (Nat.mod_lt _ hb) (fun x hx => hd x (.tail _ hx)) (by simp only [List.length_append, List.length_cons, List.length_nil] at hl ⊢; lia)
      (gv_ne (by decide) (gv_ne (by decide) (gv_ne (by decide) g7))) (gv_ne (by decide) (gv_ne (by decide) (gv_ne (by decide) g22))) gv_same (gv_ne (by decide) (gv_ne (by decide) (gv_ne (by decide) g30)))
    refine ⟨vars', ?_, i1, i2, i3⟩
    have hb : exs C TK dmBody (setV 31 (.int d) vars) [acc] = some (.next, setV 28 (.int ((r * B + d) % b : Nat)) (setV 33 (.int ((r * B + d) / b : Nat)) (setV 31 (.int d) vars)), [acc ++ [.int ((r * B + d) / b : Nat)]]) := by
      refine st_next (vars₁ := setV 28 (.int ((r * B + d) % b : Nat)) (setV 33 (.int ((r * B + d) / b : Nat)) (setV 31 (.int d) vars))) (own₁ := [acc]) (st_unp (vs := [.int ((r * B + d) / b : Nat), .int ((r * B + d) % b : Nat)]) (st_call (own₁ := [acc]) (vs := [.int (r * B + d : Nat), .int b, .int n]) (st_evs (st_binI (i := (r * B : Nat)) (j := d) (own₁ := [acc]) (own₂ := [acc]) (st_binI (i := r) (j := n) (own₁ := [acc]) (own₂ := [acc]) (st_var (gv_ne (by decide) g28)) (st_var (gv_ne (by decide) g22)) ?_) (st_var gv_same) rfl) (st_evs (st_var (gv_ne (by decide) g7)) (st_evs (st_var (gv_ne (by decide) g22)) st_evs_nil))) rfl hC') rfl) (st_next (st_exp (own₁ := [acc ++ [.int ((r * B + d) / b : Nat)]]) (st_meth (x := .ref 0) (vs := [.int ((r * B + d) / b : Nat)]) (own₁ := [acc]) (own₂ := [acc]) (st_var (gv_ne (by decide) (gv_ne (by decide) (gv_ne (by decide) g30)))) (st_evs (st_var (gv_ne (by decide) gv_same)) st_evs_nil) ?_)) st_nil)
      · show (if 0 ≤ (n : Int) ∧ (bitsI (r : Int) : Int) + n ≤ 134217728 then some ((r : Int) * 2 ^ (n : Int).toNat) else none) = _
        have := bits_le (a := r) (n := 14) (by lia)
        rw [if_pos ⟨Int.natCast_nonneg n, by lia⟩, Int.natCast_mul, Int.toNat_natCast, hB, Int.natCast_pow]; rfl
      · show (if acc.length ≤ 100000 then some (V.non, [acc ++ [_]]) else none) = _
        rw [if_pos (by lia)]
    refine rev_next hb (ih.trans ?_)
    simp [lng]
end
end Mine
end
section
set_option maxRecDepth 100000
set_option autoImplicit false
namespace Mine
section
variable {C : Nat → List V → Option V} {TK : Nat → Option Int} {vars vars' vars₁ vars₂ : Vars} {own own' own₁ own₂ own₃ : Own}
theorem frz_nats (b : Bool) (own : Own) (n : Nat) : ∀ l : List Nat, mapO (frz b own (n + 1)) (l.map fun (k : Nat) => V.int k) = some (l.map fun (k : Nat) => V.int k)
  | [] => rfl
  | d :: l => by
    show (mapO (frz b own (n + 1)) (l.map fun (k : Nat) => V.int k)).bind _ = _
    rw [frz_nats b own n l]; rfl
theorem intsO_nat : ∀ l : List Nat, intsO (l.map fun (k : Nat) => V.int k) = some (l.map fun (k : Nat) => (k : Int))
  | [] => rfl
  | d :: l => by
    show (intsO (l.map fun (k : Nat) => V.int k)).bind _ = _
    rw [intsO_nat l]; rfl
theorem digs_lt (B : Nat) (hB : 0 < B) : ∀ (m x : Nat), x < B ^ m → ∀ d ∈ digs B m x, d < B
  | 0, _, _, d, h => by simp [digs] at h
  | 1, x, h, d, hd => by simp [digs] at hd; subst hd; simpa using h
  | m + 2, x, h, d, hd => by
    simp only [digs, List.mem_cons] at hd
    rcases hd with rfl | hd
    · exact Nat.mod_lt _ hB
    · refine digs_lt B hB (m + 1) (x / B) ((Nat.div_lt_iff_lt_mul hB).mpr ?_) d hd
      rw [← Nat.pow_succ]; exact h
theorem digs_polyN (B m x : Nat) (hm : 0 < m) : polyN B (digs B m x) = x := by
  have := digs_val B m x hm
  rw [polyN_cast] at this
  exact_mod_cast this
theorem cnt_up (n x : Nat) (hn : 0 < n) (hx : x ≠ 0) : x < (2 ^ n) ^ cntD n x := by
  rw [← Nat.pow_mul]
  have h1 : x < 2 ^ (x.log2 + 1) := Nat.lt_log2_self
  refine Nat.lt_of_lt_of_le h1 (Nat.pow_le_pow_right (by decide) ?_)
  unfold cntD bitsI
  rw [if_neg (by lia), Int.natAbs_natCast]
  have h2 := Nat.div_add_mod (x.log2 + 1 + n - 1) n
  have h3 := Nat.mod_lt (x.log2 + 1 + n - 1) hn
  lia
theorem cnt_le (n x P : Nat) (hn : 0 < n) (hx : x < (2 ^ n) ^ P) : cntD n x ≤ P := by
  rw [← Nat.pow_mul] at hx
  have h := bits_le hx
  unfold cntD
  have : (bitsI (x : Int) + n - 1) / n < P + 1 := by
    refine (Nat.div_lt_iff_lt_mul hn).mpr ?_
    rw [Nat.add_mul, Nat.mul_comm P]; lia
  lia
theorem cnt_pos (n x : Nat) (hn : 0 < n) (hx : x ≠ 0) : 0 < cntD n x := by
  have : 1 ≤ bitsI (x : Int) := by unfold bitsI; rw [if_neg (by lia)]; lia
  exact Nat.div_pos (by lia) hn
theorem dig_zero (n : Nat) (hn : 0 < n) : digD n 0 = [] := by
  unfold digD
  rw [if_pos rfl]
  have : cntD n 0 = 0 := by
    unfold cntD bitsI
    simp
    lia
  unfold zerosD
  rw [this]; rfl
/-- what the digits of a number are, and what they stand for -/
theorem dig_spec (n x : Nat) (hn : 0 < n) : ∃ ds : List Nat, digD n x = ds.map (fun (k : Nat) => V.int k) ∧ ds.length = cntD n x ∧ polyN (2 ^ n) ds = x ∧ (∀ d ∈ ds, d < 2 ^ n) := by
  by_cases h : x = 0
  · subst h
    refine ⟨[], by rw [dig_zero n hn]; rfl, ?_, rfl, by simp⟩
    have : cntD n 0 = 0 := by
      unfold cntD bitsI
      simp
      lia
    rw [this]; rfl
  · exact ⟨digs (2 ^ n) (cntD n x) x, digD_eq n x hn h, digs_len _ _ _, digs_polyN _ _ _ (cnt_pos n x hn h), digs_lt _ (Nat.pow_pos (by decide)) _ _ (cnt_up n x hn h)⟩
theorem digC25 (n x : Nat) (hn : 0 < n) (hn2 : n < 200) (hx : x < (2 ^ n) ^ 60) : digC 25 [.int x, .int n] = some (.lst false (digD n x)) := by
  have h2 : bitsI (x : Int) ≤ 20000 := by
    rw [← Nat.pow_mul] at hx
    have := bits_le hx
    lia
  have h3 := cnt_le n x 60 hn hx
  show (if 0 < (n : Int) ∧ (n : Int) < 200 ∧ 0 ≤ (x : Int) ∧ bitsI (x : Int) ≤ 20000 ∧ cntD (n : Int).toNat (x : Int).toNat ≤ 60 then some (V.lst false (digD (n : Int).toNat (x : Int).toNat)) else none) = _
  rw [Int.toNat_natCast, Int.toNat_natCast, if_pos ⟨by lia, by lia, by lia, h2, h3⟩]
theorem digC26 (n : Nat) (hn2 : n < 200) (ds : List Nat) (hl : ds.length ≤ 60) (hs : ∀ d ∈ ds, d < 2 ^ 10000) : digC 26 [.lst true (ds.map fun (k : Nat) => V.int k), .int n] = some (.int (polyN (2 ^ n) ds : Nat)) := by
  show (intsO (ds.map fun (k : Nat) => V.int k)).bind _ = _
  rw [intsO_nat]
  show (if 0 ≤ (n : Int) ∧ (n : Int) < 200 ∧ (ds.map fun (k : Nat) => (k : Int)).length ≤ 60 ∧ smallD (ds.map fun (k : Nat) => (k : Int)) = true then some (V.int (if (ds.map fun (k : Nat) => (k : Int)) = [] then 0 else valD (n : Int).toNat (ds.map fun (k : Nat) => (k : Int)) (ds.map fun (k : Nat) => (k : Int)).length 0 (ds.map fun (k : Nat) => (k : Int)).length)) else none) = _
  rw [if_pos ⟨Int.natCast_nonneg _, Int.ofNat_lt.mpr hn2, by rw [List.length_map]; exact hl, by
    unfold smallD
    rw [List.all_map, List.all_eq_true]
    intro d hd
    exact decide_eq_true (hs d hd)⟩, Int.toNat_natCast]
  by_cases h : ds = []
  · subst h; rfl
  · have h' : (ds.map fun (k : Nat) => (k : Int)) ≠ [] := fun q => h (List.map_eq_nil_iff.mp q)
    rw [if_neg h', valD_all n _ h']
    have e2 : ((2 : Int) ^ n) = ((2 ^ n : Nat) : Int) := (Int.natCast_pow 2 n).symm
    rw [e2, polyN_cast]

theorem dmp_run {b x n : Nat} (hn0 : 0 < n) (hn : n ≤ 14) (hb : 0 < b) (hb2 : b < 2 ^ 14) (hbits : bitsI (b : Int) = n) (hx : x < (2 ^ n) ^ 60) (hC : ∀ a, a < 2 ^ 28 → C 21 [.int (a : Nat), .int b, .int n] = some (.tup [.int (a / b : Nat), .int (a % b : Nat)]))
    (h25 : C 25 = digC 25) (h26 : C 26 = digC 26) : runF C TK p_divmod_pos [.int x, .int b] = some (.tup [.int (x / b : Nat), .int (x % b : Nat)]) := by
  have hn200 : n < 200 := Nat.lt_of_le_of_lt hn (by decide)
  obtain ⟨ds, e1, e2, e3, e4⟩ := dig_spec n x hn0
  have hl : ds.length ≤ 60 := by rw [e2]; exact cnt_le n x 60 hn0 hx
  have c25 := digC25 n x hn0 hn200 hx
  rw [e1] at c25
  obtain ⟨B, hB⟩ : ∃ B, B = 2 ^ n := ⟨_, rfl⟩
  rw [← hB] at e3 e4
  have hr := lng_ok B b hb ds.reverse 0 hb
  have hsm := lng_small B b hb ds.reverse 0 hb (fun d hd => e4 d (List.mem_reverse.mp hd))
  rw [List.reverse_reverse] at hr
  rw [e3, Nat.zero_mul, Nat.zero_add] at hr
  have hq : polyN B (lng B b ds.reverse 0).1.reverse = x / b := by
    rw [← hr.2, Nat.mul_add_div hb, Nat.div_eq_of_lt hr.1, Nat.add_zero]
  have hm : (lng B b ds.reverse 0).2 = x % b := by
    rw [← hr.2, Nat.mul_add_mod, Nat.mod_eq_of_lt hr.1]
  have c26 := digC26 n hn200 (lng B b ds.reverse 0).1.reverse (by rw [List.length_reverse, lng_len, List.length_reverse]; exact hl) (fun d hd => Nat.lt_of_lt_of_le (hsm d (List.mem_reverse.mp hd)) (by rw [hB]; exact Nat.pow_le_pow_right (by decide) (Nat.le_trans hn (by decide))))
  rw [← hB, hq] at c26
  obtain ⟨vars', hlp, i1, i2, i3⟩ := dm_loop (TK := TK) hB hn hb hb2 hC ds.reverse 0 [] [(6, .int x), (7, .int b), (22, .int n), (32, .lst false (ds.map fun (k : Nat) => V.int k)), (28, .int 0), (30, .ref 0)] hb (fun d hd => e4 d (List.mem_reverse.mp hd)) (by simp; lia) rfl rfl rfl rfl
  rw [List.nil_append] at hlp
  rw [hm] at i2
  have key : exs C TK p_divmod_pos.body [(6, .int x), (7, .int b)] [] = some (.ret (.tup [.int (x / b : Nat), .int (x % b : Nat)]), setV 29 (.int (x / b : Nat)) vars', [(lng B b ds.reverse 0).1.reverse.map fun (k : Nat) => V.int k]) := by
    refine st_next (st_asg (v := .int n) (own₁ := []) (st_meth (x := .int b) (vs := []) (own₁ := []) (own₂ := []) (st_var rfl) st_evs_nil (by show some (V.int (bitsI (b : Int) : Nat), ([] : Own)) = _; rw [hbits]))) ?_
    refine st_next (st_asg (v := .lst false (ds.map fun (k : Nat) => V.int k)) (own₁ := []) (st_call (vs := [.int x, .int n]) (ws := [.int x, .int n]) (st_evs (st_var rfl) (st_evs (st_var rfl) st_evs_nil)) rfl (by rw [h25]; exact c25))) ?_
    refine st_next (st_asg st_int) ?_
    refine st_next (st_asg (st_list (own₁ := []) st_evs_nil (by decide))) ?_
    refine st_next (vars₁ := vars') (own₁ := [(lng B b ds.reverse 0).1.map fun (k : Nat) => V.int k]) ?_ ?_
    · exact st_forrev (st_var (v := .lst false (ds.map fun (k : Nat) => V.int k)) rfl) (by simp; lia) (by rw [← List.map_reverse]; exact hlp)
    · refine st_next (own₁ := [(lng B b ds.reverse 0).1.reverse.map fun (k : Nat) => V.int k]) (st_exp (st_meth (x := .ref 0) (vs := []) (st_var i3) st_evs_nil ?_)) ?_
      · show (if ((lng B b ds.reverse 0).1.map fun (k : Nat) => V.int k).length ≤ 100000 then some (V.non, [((lng B b ds.reverse 0).1.map fun (k : Nat) => V.int k).reverse]) else none) = _
        rw [if_pos (by rw [List.length_map, lng_len, List.length_reverse]; lia), List.map_reverse]
      · refine st_next (st_asg (v := .int (x / b : Nat)) (st_call (vs := [.ref 0, .int n]) (ws := [.lst true ((lng B b ds.reverse 0).1.reverse.map fun (k : Nat) => V.int k), .int n]) (st_evs (st_var i3) (st_evs (st_var i1) st_evs_nil)) ?_ (by rw [h26]; exact c26))) ?_
        · have := frz_nats true [(lng B b ds.reverse 0).1.reverse.map fun (k : Nat) => V.int k] 3 (lng B b ds.reverse 0).1.reverse
          show (((mapO (frz true _ (3 + 1)) _).bind _).bind _) = _
          rw [this]; rfl
        · exact st_stop (st_ret (st_tup (st_evs (st_var gv_same) (st_evs (st_var (gv_ne (by decide) i2)) st_evs_nil)) (by simp)))
  exact runF_of rfl key rfl
theorem idm_run {b x : Nat} (hb : 0 < b) (hC : C 27 [.int x, .int b] = some (.tup [.int (x / b : Nat), .int (x % b : Nat)])) : runF C TK p_int_divmod [.int x, .int b] = some (.tup [.int (x / b : Nat), .int (x % b : Nat)]) := by
  have key : exs C TK p_int_divmod.body [(6, .int x), (7, .int b)] [] = some (.ret (.tup [.int (x / b : Nat), .int (x % b : Nat)]), [(6, .int x), (7, .int b)], []) := by
    refine st_stop (st_ite_f (own₁ := []) (st_cmpI (i := b) (j := 0) (st_var rfl) st_int (by show some (decide _) = _; rw [decide_eq_false (by lia)])) ?_)
    refine st_stop (st_ite_f (own₁ := []) (st_cmpI (i := b) (j := 0) (st_var rfl) st_int (by show some (decide _) = _; rw [decide_eq_false (by lia)])) ?_)
    refine st_stop (st_ite_f (own₁ := []) (st_cmpI (i := x) (j := 0) (st_var rfl) st_int (by show some (decide _) = _; rw [decide_eq_false (by lia)])) ?_)
    exact st_stop (st_ret (st_call (vs := [.int x, .int b]) (ws := [.int x, .int b]) (st_evs (st_var rfl) (st_evs (st_var rfl) st_evs_nil)) rfl hC))
  exact runF_of rfl key rfl
theorem st_inv {a : E} {i : Int} (h : ev C TK a vars own = some (.int i, own₁)) : ev C TK (.inv a) vars own = some (.int (-i - 1), own₁) := by show (ev C TK a vars own).bind _ = _; rw [h]; rfl
theorem idm_neg {b x : Nat} (hb : 0 < b) (hC : C 34 [.int x, .int b] = some (.tup [.int (x / b : Nat), .int (x % b : Nat)])) : runF C TK p_int_divmod [.int (-(x : Int) - 1), .int b] = some (.tup [.int (-((x / b : Nat) : Int) - 1), .int (b + (-((x % b : Nat) : Int) - 1))]) := by
  have key : exs C TK p_int_divmod.body [(6, .int (-(x : Int) - 1)), (7, .int b)] [] = some (.ret (.tup [.int (-((x / b : Nat) : Int) - 1), .int (b + (-((x % b : Nat) : Int) - 1))]), [(6, .int (-(x : Int) - 1)), (7, .int b), (29, .int (x / b : Nat)), (28, .int (x % b : Nat))], []) := by
    refine st_stop (st_ite_f (own₁ := []) (st_cmpI (i := b) (j := 0) (st_var rfl) st_int (by show some (decide _) = _; rw [decide_eq_false (by lia)])) ?_)
    refine st_stop (st_ite_f (own₁ := []) (st_cmpI (i := b) (j := 0) (st_var rfl) st_int (by show some (decide _) = _; rw [decide_eq_false (by lia)])) ?_)
    refine st_stop (st_ite_t (own₁ := []) (st_cmpI (i := -(x : Int) - 1) (j := 0) (st_var rfl) st_int (by show some (decide _) = _; rw [decide_eq_true (by lia)])) ?_)
    refine st_next (own₁ := []) (st_unp (vs := [.int (x / b : Nat), .int (x % b : Nat)]) (st_call (vs := [.int x, .int b]) (ws := [.int x, .int b]) (st_evs (v := .int x) (own₁ := []) ?_ (st_evs (st_var rfl) st_evs_nil)) rfl hC) rfl) ?_
    · have := st_inv (C := C) (TK := TK) (vars := [(6, V.int (-(x : Int) - 1)), (7, .int b)]) (own := []) (own₁ := []) (a := .var 6) (i := -(x : Int) - 1) (st_var rfl)
      rw [this]
      have e : -(-(x : Int) - 1) - 1 = x := by lia
      rw [e]
    · exact st_stop (st_ret (st_tup (st_evs (st_inv (st_var rfl)) (st_evs (st_binI (st_var rfl) (st_inv (st_var rfl)) rfl) st_evs_nil)) (show 2 ≤ 1000 by decide)))
  exact runF_of rfl key rfl
theorem fdm_nat (x b : Nat) : (x : Int).fdiv b = ((x / b : Nat) : Int) ∧ (x : Int).fmod b = ((x % b : Nat) : Int) :=
  ⟨by rw [Int.fdiv_eq_ediv_of_nonneg _ (Int.natCast_nonneg b)]; rfl, by rw [Int.fmod_eq_emod_of_nonneg _ (Int.natCast_nonneg b)]; rfl⟩
theorem fdm_neg (x b : Nat) (hb : 0 < b) : (-(x : Int) - 1).fdiv b = -((x / b : Nat) : Int) - 1 ∧ (-(x : Int) - 1).fmod b = b + (-((x % b : Nat) : Int) - 1) := by
  rw [Int.fdiv_eq_ediv_of_nonneg _ (Int.natCast_nonneg b), Int.fmod_eq_emod_of_nonneg _ (Int.natCast_nonneg b)]
  refine (Int.ediv_emod_unique (Int.ofNat_lt.mpr hb)).mpr ⟨?_, ?_, ?_⟩
  · have h := Nat.div_add_mod x b
    have h : (b : Int) * ((x / b : Nat) : Int) + ((x % b : Nat) : Int) = x := by exact_mod_cast h
    rw [Int.mul_sub, Int.mul_neg]
    lia
  · have := Nat.mod_lt x hb; lia
  · lia
end
end Mine
end
section
set_option maxRecDepth 100000
set_option autoImplicit false
namespace Mine
section
variable {C : Nat → List V → Option V} {TK : Nat → Option Int}
theorem repl_id (c : Nat) (r : List Nat) : ∀ s : List Nat, c ∉ s → replC c r s = s
  | [], _ => rfl
  | x :: s, h => by
    simp only [List.mem_cons, not_or] at h
    have hx : (x == c) = false := by simp; lia
    simp only [replC, hx, repl_id c r s h.2]
    rfl
theorem repl_all {P : Nat → Prop} (c : Nat) {r : List Nat} (hr : ∀ x ∈ r, P x) : ∀ s : List Nat, (∀ x ∈ s, P x) → ∀ x ∈ replC c r s, P x
  | [], h => h
  | y :: s, h => by
    intro x hx
    simp only [replC] at hx
    have ih := repl_all (P := P) c hr s fun x hx => h x (.tail _ hx)
    split at hx
    · rcases List.mem_append.mp hx with q | q
      · exact hr x q
      · exact ih x q
    · rcases List.mem_cons.mp hx with q | q
      · subst q; exact h x (.head _)
      · exact ih x q
theorem repl_len (c : Nat) {r : List Nat} (hr : r.length ≤ 5) : ∀ s : List Nat, (replC c r s).length ≤ 5 * s.length
  | [] => by simp [replC]
  | y :: s => by
    have ih := repl_len c hr s
    simp only [replC]
    split
    · rw [List.length_append, List.length_cons]; lia
    · rw [List.length_cons, List.length_cons]; lia
theorem esc_step {c : Nat} {r s : List Nat} {rest : Ss} {res : Option (Fl × Vars × Own)} (hl : s.length ≤ 10000 ∨ c ∉ s) (hr : r.length ≤ 100) (h : exs C TK rest [(43, .str (replC c r s))] [] = res) :
    exs C TK (.cons (.ite (.cmp .isin (.str [c]) (.var 43)) (.cons (.asg 43 (.repl (.var 43) [c] r)) .nil) .nil) rest) [(43, .str s)] [] = res := by
  have t1 : tstOf (ev C TK (.cmp .isin (.str [c]) (.var 43)) [(43, .str s)] []) = some (s.contains c, []) := st_tst (r := (.bool (s.contains c), [])) (st_cmp (x := .str [c]) (y := .str s) st_str (st_var rfl) rfl) rfl
  by_cases hc : c ∈ s
  · have e : s.contains c = true := by simpa using hc
    have hl2 : s.length ≤ 10000 := by
      rcases hl with h | h
      · exact h
      · exact absurd hc h
    rw [e] at t1
    refine st_next (vars₁ := [(43, .str (replC c r s))]) (own₁ := []) (st_ite_t t1 (st_next (st_asg (v := .str (replC c r s)) (own₁ := []) ?_) st_nil)) h
    show (ev C TK (.var 43) [(43, .str s)] []).bind _ = _
    rw [st_var (v := .str s) rfl]
    exact if_pos ⟨hl2, hr⟩
  · have e : s.contains c = false := by simpa using hc
    rw [e] at t1
    rw [repl_id c r s hc] at h
    exact st_next (st_ite_f t1 st_nil) h
noncomputable def escT (s : List Nat) : List Nat := replC 62 [38, 103, 116, 59] (replC 60 [38, 108, 116, 59] (replC 38 [38, 97, 109, 112, 59] s))
noncomputable def bad4 (c : Nat) : Bool := !(c == 34 || c == 9 || c == 10 || c == 13)
theorem esc_ret {s : List Nat} : exs C TK (.cons (.ret (.var 43)) .nil) [(43, .str s)] [] = some (.ret (.str s), [(43, .str s)], []) := st_stop (st_ret (st_var rfl))
theorem esc_fin {f : Fn} {b : Ss} {s s' : List Nat} (hf : f = ⟨[43], .cons (.try b) .nil⟩) (h : exs C TK b [(43, .str s)] [] = some (.ret (.str s'), [(43, .str s')], [])) : runF C TK f [.str s] = some (.str s') := by
  subst hf
  exact runF_of rfl (st_stop (v := .str s') (vars₁ := [(43, .str s')]) (own₁ := []) h) rfl
theorem ne_of_bad {s : List Nat} (h : ∀ x ∈ s, bad4 x = true) : 34 ∉ s ∧ 9 ∉ s ∧ 10 ∉ s ∧ 13 ∉ s :=
  ⟨fun q => by simpa [bad4] using h _ q, fun q => by simpa [bad4] using h _ q, fun q => by simpa [bad4] using h _ q, fun q => by simpa [bad4] using h _ q⟩
theorem spelled_all {s : List Nat} (hl : s.length ≤ 400) (hb : ∀ x ∈ s, bad4 x = true) :
    runF C TK p_escape_cdata [.str s] = some (.str (escT s)) ∧ runF C TK p_escape_cdata_c14n [.str s] = some (.str (escT s)) ∧ runF C TK p_escape_attrib [.str s] = some (.str (escT s)) ∧
    (62 ∉ s → runF C TK p_escape_attrib_c14n [.str s] = some (.str (escT s))) ∧ (60 ∉ s → runF C TK p_escape_attrib_html [.str s] = some (.str (escT s))) := by
  unfold escT
  have b1 := repl_all (P := fun c => bad4 c = true) 38 (r := [38, 97, 109, 112, 59]) (by decide) s hb
  have l1 := repl_len 38 (r := [38, 97, 109, 112, 59]) (by decide) s
  have n1 : 62 ∉ s → 62 ∉ replC 38 [38, 97, 109, 112, 59] s := fun h q => repl_all (P := fun c => c ≠ 62) 38 (r := [38, 97, 109, 112, 59]) (by decide) s (fun x hx e => h (e ▸ hx)) _ q rfl
  have m1 : 60 ∉ s → 60 ∉ replC 38 [38, 97, 109, 112, 59] s := fun h q => repl_all (P := fun c => c ≠ 60) 38 (r := [38, 97, 109, 112, 59]) (by decide) s (fun x hx e => h (e ▸ hx)) _ q rfl
  generalize hs1 : replC 38 [38, 97, 109, 112, 59] s = s1 at *
  have b2 := repl_all (P := fun c => bad4 c = true) 60 (r := [38, 108, 116, 59]) (by decide) s1 b1
  have l2 := repl_len 60 (r := [38, 108, 116, 59]) (by decide) s1
  have n2 : 62 ∉ s → 62 ∉ replC 60 [38, 108, 116, 59] s1 := fun h q => repl_all (P := fun c => c ≠ 62) 60 (r := [38, 108, 116, 59]) (by decide) s1 (fun x hx e => n1 h (e ▸ hx)) _ q rfl
  have m2 : 60 ∉ s → replC 60 [38, 108, 116, 59] s1 = s1 := fun h => repl_id _ _ _ (m1 h)
  generalize hs2 : replC 60 [38, 108, 116, 59] s1 = s2 at *
  have b3 := repl_all (P := fun c => bad4 c = true) 62 (r := [38, 103, 116, 59]) (by decide) s2 b2
  have n3 : 62 ∉ s → replC 62 [38, 103, 116, 59] s2 = s2 := fun h => repl_id _ _ _ (n2 h)
  generalize hs3 : replC 62 [38, 103, 116, 59] s2 = s3 at *
  obtain ⟨q1, q2, q3, q4⟩ := ne_of_bad b3
  have i1 : ∀ r, replC 34 r s3 = s3 := fun r => repl_id _ _ _ q1
  have i2 : ∀ r, replC 9 r s3 = s3 := fun r => repl_id _ _ _ q2
  have i3 : ∀ r, replC 10 r s3 = s3 := fun r => repl_id _ _ _ q3
  have i4 : ∀ r, replC 13 r s3 = s3 := fun r => repl_id _ _ _ q4
  refine ⟨?_, ?_, ?_, fun h => ?_, fun h => ?_⟩ <;> refine esc_fin rfl ?_
  · (refine esc_step (.inl (by lia)) (by decide) ?_; rw [hs1])
    (refine esc_step (.inl (by lia)) (by decide) ?_; rw [hs2])
    (refine esc_step (.inl (by lia)) (by decide) ?_; rw [hs3])
    exact esc_ret
  · (refine esc_step (.inl (by lia)) (by decide) ?_; rw [hs1])
    (refine esc_step (.inl (by lia)) (by decide) ?_; rw [hs2])
    (refine esc_step (.inl (by lia)) (by decide) ?_; rw [hs3])
    (refine esc_step (.inr q4) (by decide) ?_; rw [i4])
    exact esc_ret
  · (refine esc_step (.inl (by lia)) (by decide) ?_; rw [hs1])
    (refine esc_step (.inl (by lia)) (by decide) ?_; rw [hs2])
    (refine esc_step (.inl (by lia)) (by decide) ?_; rw [hs3])
    (refine esc_step (.inr q1) (by decide) ?_; rw [i1])
    (refine esc_step (.inr q4) (by decide) ?_; rw [i4])
    (refine esc_step (.inr q3) (by decide) ?_; rw [i3])
    (refine esc_step (.inr q2) (by decide) ?_; rw [i2])
    exact esc_ret
  · have e3 := n3 h; subst e3
    (refine esc_step (.inl (by lia)) (by decide) ?_; rw [hs1])
    (refine esc_step (.inl (by lia)) (by decide) ?_; rw [hs2])
    (refine esc_step (.inr q1) (by decide) ?_; rw [i1])
    (refine esc_step (.inr q2) (by decide) ?_; rw [i2])
    (refine esc_step (.inr q3) (by decide) ?_; rw [i3])
    (refine esc_step (.inr q4) (by decide) ?_; rw [i4])
    exact esc_ret
  · have e2 := m2 h; subst e2
    (refine esc_step (.inl (by lia)) (by decide) ?_; rw [hs1])
    (refine esc_step (.inl (by lia)) (by decide) ?_; rw [hs3])
    (refine esc_step (.inr q1) (by decide) ?_; rw [i1])
    exact esc_ret
end
end Mine
end
section
set_option maxRecDepth 100000
set_option autoImplicit false
namespace Mine
section
variable {C : Nat → List V → Option V} {TK : Nat → Option Int} {vars vars' vars₁ vars₂ : Vars} {own own' own₁ own₂ own₃ : Own}
theorem sp_bin {o : Bop} {a b : E} {x y r : V} (h1 : ev C TK a vars own = some (x, own)) (h2 : ev C TK b vars own = some (y, own)) (h3 : bop own o x y = some (r, own)) : ev C TK (.bin o a b) vars own = some (r, own) := st_bin h1 h2 h3
theorem sp_cmp {o : Cop} {a b : E} {x y : V} {r : Bool} (h1 : ev C TK a vars own = some (x, own)) (h2 : ev C TK b vars own = some (y, own)) (h3 : cop own o x y = some r) : ev C TK (.cmp o a b) vars own = some (.bool r, own) := st_cmp h1 h2 h3
theorem sp_idx {a b : E} {x y r : V} (h1 : ev C TK a vars own = some (x, own)) (h2 : ev C TK b vars own = some (y, own)) (h3 : itemAt own x y = some r) : ev C TK (.idx a b) vars own = some (r, own) := st_idx h1 h2 h3
theorem sp_evs {e : E} {es : Es} {v : V} {vs : List V} (h : ev C TK e vars own = some (v, own)) (h2 : evs C TK es vars own = some (vs, own)) : evs C TK (.cons e es) vars own = some (v :: vs, own) := st_evs h h2
theorem sp_prim {p : Pf} {as : Es} {vs : List V} {r : V} (h : evs C TK as vars own = some (vs, own)) (h2 : prim own p vs = some (r, own)) : ev C TK (.prim p as) vars own = some (r, own) := st_prim h h2
theorem sp_meth {m : Mt} {o : E} {as : Es} {x : V} {vs : List V} {r : V} (h : ev C TK o vars own = some (x, own)) (h2 : evs C TK as vars own = some (vs, own)) (h3 : meth own m x vs = some (r, own)) : ev C TK (.meth m o as) vars own = some (r, own) := st_meth h h2 h3
theorem sp_call {f : Nat} {as : Es} {vs ws : List V} {v : V} (h : evs C TK as vars own = some (vs, own)) (h2 : mapO (frz true own depthF) vs = some ws) (h3 : C f ws = some v) : ev C TK (.call f as) vars own = some (v, own) := st_call h h2 h3
theorem sp_neg {e : E} {i : Int} (h : ev C TK e vars own = some (.int i, own)) : ev C TK (.neg e) vars own = some (.int (-i), own) := by show (ev C TK e vars own).bind _ = _; rw [h]; rfl
theorem sp_tst {e : E} {v : V} {b : Bool} (h : ev C TK e vars own = some (v, own)) (ht : truth own v = some b) : tstOf (ev C TK e vars own) = some (b, own) := st_tst (r := (v, own)) h ht
/-- a comprehension's loop; a turn may leave lists of its own behind the new list -/
theorem comp_x {v : V} {turn : V → Own → Option (V × Own)} {vs : List V} {g : Nat → V} {ex : Nat → List (List V)} (hi : ∀ (o : Own) (j : Nat), iterAt (own₁ ++ o) v j = some vs[j]?)
    (ht : ∀ (j : Nat) (u : V), vs[j]? = some u → turn u (own₁ ++ (List.range j).map g :: ex j) = some (g j, own₁ ++ (List.range j).map g :: ex (j + 1))) (hl : vs.length ≤ 1000) :
    ∀ (k j : Nat), j + k = vs.length → compLoop own₁.length v turn (k + 1) j (own₁ ++ (List.range j).map g :: ex j) = some (own₁ ++ (List.range vs.length).map g :: ex vs.length)
  | 0, j, e => by
    have e : j = vs.length := e
    subst e
    rw [compLoop, hi, List.getElem?_eq_none (Nat.le_refl _)]; rfl
  | k + 1, j, e => by
    have hj : j < vs.length := by lia
    have hu := List.getElem?_eq_getElem hj
    rw [compLoop, hi, hu]
    show (turn _ _).bind _ = _
    rw [ht j _ hu]
    show ((own₁ ++ (List.range j).map g :: ex (j + 1))[own₁.length]?).bind _ = _
    rw [List.getElem?_append_right (Nat.le_refl _), Nat.sub_self]
    show (if ((List.range j).map g).length ≤ 100000 then _ else none) = _
    rw [if_pos (by rw [List.length_map, List.length_range]; lia), List.set_append_right _ _ (Nat.le_refl _), Nat.sub_self]
    show compLoop own₁.length v turn (k + 1) (j + 1) (own₁ ++ ((List.range j).map g ++ [g j]) :: ex (j + 1)) = _
    have e2 : (List.range j).map g ++ [g j] = (List.range (j + 1)).map g := by rw [List.range_succ, List.map_append]; rfl
    rw [e2]
    exact comp_x hi ht hl k (j + 1) (by lia)
theorem st_compx {elt it : E} {ts : List Nat} {v : V} {vs : List V} {g : Nat → V} {ex : Nat → List (List V)} (hex : ex 0 = []) (hit : ev C TK it vars own = some (v, own₁)) (hi : ∀ (o : Own) (j : Nat), iterAt (own₁ ++ o) v j = some vs[j]?) (hf : iterFuel own₁ v = vs.length + 1) (hl : vs.length ≤ 1000)
    (ht : ∀ (j : Nat) (u : V), vs[j]? = some u → ∃ vars', bindT ts u vars = some vars' ∧ ev C TK elt vars' (own₁ ++ (List.range j).map g :: ex j) = some (g j, own₁ ++ (List.range j).map g :: ex (j + 1))) :
    ev C TK (.comp elt ts it) vars own = some (.ref own₁.length, own₁ ++ (List.range vs.length).map g :: ex vs.length) := by
  show (ev C TK it vars own).bind _ = _
  rw [hit]
  show (compLoop own₁.length v _ (iterFuel own₁ v) 0 (own₁ ++ [[]])).bind _ = _
  have h := comp_x (own₁ := own₁) (turn := fun u own => (bindT ts u vars).bind fun vars' => ev C TK elt vars' own) hi (fun j u hu => by
    obtain ⟨v', q1, q2⟩ := ht j u hu
    rw [q1]; exact q2) hl vs.length 0 (Nat.zero_add _)
  rw [hex] at h
  rw [hf]
  exact (congrArg (fun o => Option.bind o fun own' => some (V.ref own₁.length, own')) h)
theorem range_map {vs : List V} {f : V → V} {g : Nat → V} (h : ∀ j u, vs[j]? = some u → g j = f u) : (List.range vs.length).map g = vs.map f := by
  apply List.ext_getElem?
  intro i
  rw [List.getElem?_map, List.getElem?_map]
  by_cases hi : i < vs.length
  · rw [List.getElem?_range hi, List.getElem?_eq_getElem hi]
    exact congrArg some (h i _ (List.getElem?_eq_getElem hi))
  · rw [List.getElem?_eq_none (by rw [List.length_range]; exact Nat.le_of_not_lt hi), List.getElem?_eq_none (Nat.le_of_not_lt hi)]; rfl
/-- a comprehension whose turns leave nothing but the new list -/
theorem st_map {elt it : E} {ts : List Nat} {v : V} {vs : List V} {f : V → V} (hit : ev C TK it vars own = some (v, own₁)) (hi : ∀ (o : Own) (j : Nat), iterAt (own₁ ++ o) v j = some vs[j]?) (hf : iterFuel own₁ v = vs.length + 1) (hl : vs.length ≤ 1000)
    (ht : ∀ u ∈ vs, ∀ ys : List V, ∃ vars', bindT ts u vars = some vars' ∧ ev C TK elt vars' (own₁ ++ [ys]) = some (f u, own₁ ++ [ys])) :
    ev C TK (.comp elt ts it) vars own = some (.ref own₁.length, own₁ ++ [vs.map f]) := by
  have h := st_compx (C := C) (TK := TK) (elt := elt) (ts := ts) (it := it) (vars := vars) (own := own) (g := fun j => f (vs.getD j .non)) (ex := fun _ => []) rfl hit hi hf hl fun j u hu => by
    obtain ⟨v', q1, q2⟩ := ht u (List.mem_of_getElem? hu) ((List.range j).map fun j => f (vs.getD j .non))
    have e : vs.getD j .non = u := by rw [List.getD_eq_getElem?_getD, hu]; rfl
    exact ⟨v', q1, by rw [e]; exact q2⟩
  rw [range_map (f := f) fun j u hu => by rw [List.getD_eq_getElem?_getD, hu]; rfl] at h
  exact h
theorem it_rng {n : Nat} (hn : n ≤ 1000) (o : Own) (j : Nat) : iterAt o (.rng 0 n 1) j = some ((List.range n).map fun (k : Nat) => V.int k)[j]? := by
  rw [iter01 hn, List.getElem?_map]
  by_cases h : j < n
  · rw [if_pos h, List.getElem?_range h]; rfl
  · rw [if_neg h, List.getElem?_eq_none (by rw [List.length_range]; exact Nat.le_of_not_lt h)]; rfl
theorem it_own {k : Nat} {vs : List V} (h : own[k]? = some vs) (o : Own) (j : Nat) : iterAt (own ++ o) (.ref k) j = some vs[j]? := by
  show ((own ++ o)[k]?).bind _ = _
  rw [List.getElem?_append_left (List.getElem?_eq_some_iff.mp h).1, h]; rfl
theorem fuel_own {k : Nat} {vs : List V} (h : own[k]? = some vs) : iterFuel own (.ref k) = vs.length + 1 := by
  show (own[k]?).elim 0 _ = _
  rw [h]; rfl
/-- over a range -/
theorem st_mapr {elt it : E} {t n : Nat} {f : Nat → V} (hn : n ≤ 1000) (hit : ev C TK it vars own = some (.rng 0 n 1, own₁)) (ht : ∀ k, k < n → ∀ ys : List V, ev C TK elt (setV t (.int (k : Nat)) vars) (own₁ ++ [ys]) = some (f k, own₁ ++ [ys])) :
    ev C TK (.comp elt [t] it) vars own = some (.ref own₁.length, own₁ ++ [(List.range n).map f]) := by
  have h := st_compx (C := C) (TK := TK) (elt := elt) (ts := [t]) (it := it) (vars := vars) (own := own) (vs := (List.range n).map fun (k : Nat) => V.int k) (g := f) (ex := fun _ => []) rfl hit (fun o j => it_rng hn _ j) (by
    show rngN 0 (n : Int) 1 + 1 = _
    rw [rng01, List.length_map, List.length_range]) (by rw [List.length_map, List.length_range]; exact hn) fun j u hu => by
    rw [List.getElem?_map] at hu
    obtain ⟨k, hk, rfl⟩ := Option.map_eq_some_iff.mp hu
    have hj := (List.getElem?_eq_some_iff.mp hk).1
    rw [List.length_range] at hj
    rw [List.getElem?_range hj] at hk
    cases hk
    exact ⟨_, rfl, ht j hj _⟩
  rw [List.length_map, List.length_range] at h
  exact h

theorem frz_intz (b : Bool) (own : Own) (n : Nat) : ∀ l : List Int, mapO (frz b own (n + 1)) (l.map V.int) = some (l.map V.int)
  | [] => rfl
  | d :: l => by
    show (frz b own (n + 1) (.int d)).bind _ = _
    show (mapO (frz b own (n + 1)) (l.map V.int)).bind _ = _
    rw [frz_intz b own n l]; rfl
theorem mapO_c {α β : Type} {f : α → Option β} {x : α} {y : β} {xs : List α} {ys : List β} (h : f x = some y) (h2 : mapO f xs = some ys) : mapO f (x :: xs) = some (y :: ys) := by
  show (f x).bind _ = _
  rw [h]
  show (mapO f xs).bind _ = _
  rw [h2]; rfl
theorem frz_lstI {b : Bool} {own : Own} (n : Nat) {l : List Int} : frz b own (n + 2) (.lst false (l.map V.int)) = some (.lst b (l.map V.int)) := by
  show (if (!b && false) = true then none else (mapO (frz b own (n + 1)) (l.map V.int)).bind _) = _
  rw [Bool.and_false, if_neg Bool.false_ne_true, frz_intz]; rfl
theorem frz_refI {b : Bool} {own : Own} (n : Nat) {l : List Int} {k : Nat} (h : own[k]? = some (l.map V.int)) : frz b own (n + 2) (.ref k) = some (.lst b (l.map V.int)) := by
  show (own[k]?).bind _ = _
  rw [h]
  show (mapO (frz b own (n + 1)) (l.map V.int)).bind _ = _
  rw [frz_intz]; rfl
theorem st_cat {a b : E} {x y : List Nat} (h1 : ev C TK a vars own = some (.str x, own₁)) (h2 : ev C TK b vars own₁ = some (.str y, own₂)) (hl : x.length + y.length ≤ 100000) : ev C TK (.bin .add a b) vars own = some (.str (x ++ y), own₂) :=
  st_bin h1 h2 (if_pos hl)
theorem st_mulS {a b : E} {x : List Nat} {n : Nat} (h1 : ev C TK a vars own = some (.str x, own₁)) (h2 : ev C TK b vars own₁ = some (.int (n : Nat), own₂)) (hn : n ≤ 1000) (hl : x.length ≤ 100) : ev C TK (.bin .mul a b) vars own = some (.str (rep n x), own₂) :=
  st_bin h1 h2 (by
    show (if (n : Int) ≤ 1000 ∧ -1000 ≤ (n : Int) ∧ x.length ≤ 100 then some (V.str (rep (n : Int).toNat x), own₂) else none) = _
    rw [if_pos ⟨Int.ofNat_le.mpr hn, Int.le_trans (by decide) (Int.natCast_nonneg n), hl⟩, Int.toNat_natCast])
noncomputable def okC (m c : Nat) : Bool := bad4 c && (c == m || !(c == 60 || c == 62))
noncomputable def okText (m : Nat) (s : List Nat) : Bool := decide (s.length ≤ 400) && s.all (okC m)
/-- which sign a pick may have as its mark -/
noncomputable def okPick (p : Int) (m : Nat) : Bool := (p == 0 || p == 1 || p == 2 || (p == 3 && m != 62) || (p == 4 && m != 60))
theorem spelled_run (h42 : ∀ s, s.length ≤ 400 → (∀ x ∈ s, bad4 x = true) → C 42 [.str s] = some (.str (escT s))) (h46 : ∀ s, s.length ≤ 400 → (∀ x ∈ s, bad4 x = true) → C 46 [.str s] = some (.str (escT s))) (h44 : ∀ s, s.length ≤ 400 → (∀ x ∈ s, bad4 x = true) → C 44 [.str s] = some (.str (escT s)))
    (h47 : ∀ s, s.length ≤ 400 → (∀ x ∈ s, bad4 x = true) → 62 ∉ s → C 47 [.str s] = some (.str (escT s))) (h45 : ∀ s, s.length ≤ 400 → (∀ x ∈ s, bad4 x = true) → 60 ∉ s → C 45 [.str s] = some (.str (escT s)))
    {p : Int} {m : Nat} {s : List Nat} (hp : okPick p m = true) (hs : okText m s = true) : runF C TK l2_law_spelled [.int p, .str s] = some (.str (escT s)) := by
  simp only [okText, Bool.and_eq_true, decide_eq_true_eq, List.all_eq_true] at hs
  have hb : ∀ x ∈ s, bad4 x = true := fun x hx => by have := hs.2 x hx; simp only [okC, Bool.and_eq_true] at this; exact this.1
  have hne : ∀ k, (k = 60 ∨ k = 62) → m ≠ k → k ∉ s := fun k hk hm hx => by
    have := hs.2 k hx
    simp only [okC, Bool.and_eq_true, Bool.or_eq_true, beq_iff_eq, Bool.not_eq_true', Bool.or_eq_false_iff, beq_eq_false_iff_ne] at this
    lia
  have go : ∀ {b : Ss}, l2_law_spelled.body = b → exs C TK b [(53, .int p), (43, .str s)] [] = some (.ret (.str (escT s)), [(53, .int p), (43, .str s)], []) → runF C TK l2_law_spelled [.int p, .str s] = some (.str (escT s)) := fun {b} e h => by
    exact runF_of rfl (by rw [e]; exact h) rfl
  have call : ∀ {f : Nat}, C f [.str s] = some (.str (escT s)) → ∀ v' : Vars, getV 43 v' = some (.str s) → ev C TK (.call f (.cons (.var 43) .nil)) v' [] = some (.str (escT s), []) := fun h v' g => st_call (vs := [.str s]) (ws := [.str s]) (st_evs (st_var g) st_evs_nil) rfl h
  simp only [okPick, Bool.or_eq_true, beq_iff_eq, Bool.and_eq_true, bne_iff_ne] at hp
  rcases hp with (((rfl | rfl) | rfl) | ⟨rfl, hm⟩) | ⟨rfl, hm⟩ <;> refine go rfl ?_
  · exact st_stop (st_ite_t (own₁ := []) rfl (st_stop (st_ret (call (h42 s hs.1 hb) _ rfl))))
  · refine st_next (st_ite_f (own₁ := []) rfl st_nil) ?_
    exact st_stop (st_ite_t (own₁ := []) rfl (st_stop (st_ret (call (h46 s hs.1 hb) _ rfl))))
  · refine st_next (st_ite_f (own₁ := []) rfl st_nil) ?_
    refine st_next (st_ite_f (own₁ := []) rfl st_nil) ?_
    exact st_stop (st_ite_t (own₁ := []) rfl (st_stop (st_ret (call (h44 s hs.1 hb) _ rfl))))
  · refine st_next (st_ite_f (own₁ := []) rfl st_nil) ?_
    refine st_next (st_ite_f (own₁ := []) rfl st_nil) ?_
    refine st_next (st_ite_f (own₁ := []) rfl st_nil) ?_
    exact st_stop (st_ite_t (own₁ := []) rfl (st_stop (st_ret (call (h47 s hs.1 hb (hne 62 (.inr rfl) hm)) _ rfl))))
  · refine st_next (st_ite_f (own₁ := []) rfl st_nil) ?_
    refine st_next (st_ite_f (own₁ := []) rfl st_nil) ?_
    refine st_next (st_ite_f (own₁ := []) rfl st_nil) ?_
    refine st_next (st_ite_f (own₁ := []) rfl st_nil) ?_
    exact st_stop (st_ret (call (h45 s hs.1 hb (hne 60 (.inl rfl) hm)) _ rfl))
end
end Mine
end
section
set_option maxRecDepth 100000
set_option autoImplicit false
namespace Mine

/-- the trees that a law's rules put together -/
inductive Tr where
  | leaf (k : Nat) | node (a b : Tr)
noncomputable def hgt : Tr → Nat
  | .leaf _ => 0
  | .node a b => max (hgt a) (hgt b) + 1
noncomputable def leavesT : Tr → Nat → List (Nat × Nat)
  | .leaf k, d => [(k, d)]
  | .node a b, d => leavesT a (d + 1) ++ leavesT b (d + 1)
/-- the tree that stands at a symbol -/
noncomputable def repT (rules : List (Nat × Nat)) : Tr → Nat → Bool
  | .leaf k, s => decide (s + k = 255) && decide (k ≤ 4)
  | .node a b, s => decide (256 ≤ s) && (rules[s - 256]?.any fun p => repT rules a p.1 && repT rules b p.2)
noncomputable def menu3 : List (List Nat × List Nat) := [([38], [97, 109, 112, 59]), ([60], [108, 116, 59]), ([62], [103, 116, 59])]
noncomputable def nameT (m : Nat) : List Nat := (menuAt [m] menu3).getD []
noncomputable def markT (m sz d : Nat) : List Nat := rep sz ([38] ++ rep (d - 1) [97, 109, 112, 59] ++ nameT m)
noncomputable def leafT (m sz k : Nat) : List Nat := rep sz [m] ++ [65 + k]
noncomputable def docT (m : Nat) (sz : List Nat) : Tr → List Nat
  | .leaf k => leafT m (sz.getD k 0) k
  | .node a b => escT (docT m sz a) ++ escT (docT m sz b)
noncomputable def escI : Nat → List Nat → List Nat
  | 0, t => t
  | d + 1, t => escI d (escT t)
theorem escT_app (a b : List Nat) : escT (a ++ b) = escT a ++ escT b := by
  unfold escT
  rw [replC_app, replC_app, replC_app]
theorem escI_app : ∀ (d : Nat) (a b : List Nat), escI d (a ++ b) = escI d a ++ escI d b
  | 0, _, _ => rfl
  | d + 1, a, b => by
    show escI d (escT (a ++ b)) = escI d (escT a) ++ escI d (escT b)
    rw [escT_app, escI_app d]
noncomputable def bitT (m : Nat) (sz : List Nat) (p : Nat × Nat) : List Nat := escI p.2 (leafT m (sz.getD p.1 0) p.1)
theorem doc_esc (m : Nat) (sz : List Nat) : ∀ (t : Tr) (d : Nat), escI d (docT m sz t) = ((leavesT t d).map (bitT m sz)).flatten
  | .leaf k, d => (List.append_nil _).symm
  | .node a b, d => by
    show escI d (escT _ ++ escT _) = ((leavesT a (d + 1) ++ leavesT b (d + 1)).map _).flatten
    rw [escI_app, List.map_append, List.flatten_append, ← doc_esc m sz a (d + 1), ← doc_esc m sz b (d + 1)]; rfl

/-- the leaves' texts: short, and of signs that every escape takes alike -/
noncomputable def okBt (m s d k : Nat) : Bool := decide ((escI d (leafT m s k)).length ≤ 52) && (escI d (leafT m s k)).all (okC m) && (decide (d = 0) || escI d (leafT m s k) == markT m s d ++ [65 + k])
theorem bits_all : ([38, 60, 62].all fun m => [1, 2, 3].all fun s => [0, 1, 2, 3, 4].all fun d => [0, 1, 2, 3, 4].all fun k => okBt m s d k) = true := by decide +kernel
theorem bit_ok {m s d k : Nat} (hm : m = 38 ∨ m = 60 ∨ m = 62) (hs : 1 ≤ s ∧ s ≤ 3) (hd : d ≤ 4) (hk : k ≤ 4) : okBt m s d k = true := by
  have h1 := List.all_eq_true.mp bits_all m (by rcases hm with rfl | rfl | rfl <;> simp)
  have h2 := List.all_eq_true.mp h1 s (by obtain ⟨a, b⟩ := hs; match s, a, b with | 1, _, _ => simp | 2, _, _ => simp | 3, _, _ => simp)
  have h3 := List.all_eq_true.mp h2 d (by match d, hd with | 0, _ => simp | 1, _ => simp | 2, _ => simp | 3, _ => simp | 4, _ => simp)
  exact List.all_eq_true.mp h3 k (by match k, hk with | 0, _ => simp | 1, _ => simp | 2, _ => simp | 3, _ => simp | 4, _ => simp)
theorem bit_len {m s d k : Nat} (h : okBt m s d k = true) : (escI d (leafT m s k)).length ≤ 52 := of_decide_eq_true (and_true (and_true h).1).1
theorem bit_c {m s d k : Nat} (h : okBt m s d k = true) : (escI d (leafT m s k)).all (okC m) = true := (and_true (and_true h).1).2
theorem bit_mark {m s d k : Nat} (h : okBt m s d k = true) (hd : d ≠ 0) : escI d (leafT m s k) = markT m s d ++ [65 + k] :=
  (Bool.or_eq_true_iff.mp (and_true h).2).elim (fun q => absurd (of_decide_eq_true q) hd) fun q => beq_iff_eq.mp q

/-- the leaves of a tree: few, not deep, of known sizes -/
structure OkLv (sz : List Nat) (l : List (Nat × Nat)) : Prop where
  len : l.length ≤ 5
  all : ∀ p ∈ l, p.1 ≤ 4 ∧ p.2 ≤ 4 ∧ 1 ≤ sz.getD p.1 0 ∧ sz.getD p.1 0 ≤ 3
theorem leaves_up : ∀ (t : Tr) (d : Nat), leavesT t (d + 1) = (leavesT t d).map fun p => (p.1, p.2 + 1)
  | .leaf _, _ => rfl
  | .node a b, d => by
    show leavesT a (d + 1 + 1) ++ leavesT b (d + 1 + 1) = (leavesT a (d + 1) ++ leavesT b (d + 1)).map _
    rw [leaves_up a (d + 1), leaves_up b (d + 1), List.map_append]
theorem OkLv.down {sz : List Nat} {t : Tr} {d : Nat} (h : OkLv sz (leavesT t (d + 1))) : OkLv sz (leavesT t d) := by
  rw [leaves_up] at h
  refine ⟨by have := h.len; rw [List.length_map] at this; exact this, fun p hp => ?_⟩
  have q := h.all _ (List.mem_map.mpr ⟨p, hp, rfl⟩)
  exact ⟨q.1, Nat.le_of_succ_le q.2.1, q.2.2⟩
theorem OkLv.left {sz : List Nat} {a b : List (Nat × Nat)} (h : OkLv sz (a ++ b)) : OkLv sz a :=
  ⟨Nat.le_trans (by rw [List.length_append]; exact Nat.le_add_right _ _) h.len, fun p hp => h.all p (List.mem_append_left _ hp)⟩
theorem OkLv.right {sz : List Nat} {a b : List (Nat × Nat)} (h : OkLv sz (a ++ b)) : OkLv sz b :=
  ⟨Nat.le_trans (by rw [List.length_append]; exact Nat.le_add_left _ _) h.len, fun p hp => h.all p (List.mem_append_right _ hp)⟩
theorem flat_ok {m : Nat} {sz : List Nat} (hm : m = 38 ∨ m = 60 ∨ m = 62) : ∀ {l : List (Nat × Nat)}, (∀ p ∈ l, p.1 ≤ 4 ∧ p.2 ≤ 4 ∧ 1 ≤ sz.getD p.1 0 ∧ sz.getD p.1 0 ≤ 3) → ((l.map (bitT m sz)).flatten).length ≤ 52 * l.length ∧ ((l.map (bitT m sz)).flatten).all (okC m) = true
  | [], _ => ⟨Nat.le_refl _, rfl⟩
  | p :: l, h => by
    have hp := h p (.head _)
    have q := bit_ok hm hp.2.2 hp.2.1 hp.1
    have ih := flat_ok hm (l := l) fun p hp => h p (.tail _ hp)
    rw [List.map_cons, List.flatten_cons]
    refine ⟨?_, ?_⟩
    · rw [List.length_append, List.length_cons, Nat.mul_succ, Nat.add_comm]
      exact Nat.add_le_add ih.1 (bit_len q)
    · rw [List.all_append]
      exact true_and (bit_c q) ih.2
theorem doc_ok {m : Nat} {sz : List Nat} {t : Tr} (hm : m = 38 ∨ m = 60 ∨ m = 62) (h : OkLv sz (leavesT t 0)) : okText m (docT m sz t) = true := by
  have e := doc_esc m sz t 0
  have q := flat_ok hm h.all
  rw [← e] at q
  exact true_and (decide_eq_true (Nat.le_trans q.1 (Nat.le_trans (Nat.mul_le_mul_left 52 h.len) (by decide)))) q.2
theorem doc_len {m : Nat} {sz : List Nat} {t : Tr} (hm : m = 38 ∨ m = 60 ∨ m = 62) (d : Nat) (h : OkLv sz (leavesT t d)) : (escI d (docT m sz t)).length ≤ 260 := by
  have q := flat_ok hm h.all
  rw [← doc_esc m sz t d] at q
  exact Nat.le_trans q.1 (Nat.mul_le_mul_left 52 h.len)
end Mine
end
section
set_option maxRecDepth 100000
set_option autoImplicit false
namespace Mine
noncomputable abbrev CF (d : Nat) : Nat → List V → Option V := CNat (fun _ => none) (fnF fns2) TK1 d
theorem cf_run {d f : Nat} {fn : Fn} {ws : List V} (h0 : f ≠ 0) (h5 : f ≠ 5) (hf : fnF fns2 f = some fn) : CF (d + 1) f ws = runF (CF d) TK1 fn ws := by
  show (if f = 0 then cstN ws else if f = 5 then levN ws else (fnF fns2 f).elim (digC f ws) fun fn => runF (CF d) TK1 fn ws) = _
  rw [if_neg h0, if_neg h5, hf]; rfl
theorem cf_dig (d : Nat) : CF d 25 = digC 25 ∧ CF d 26 = digC 26 := by cases d <;> exact ⟨rfl, rfl⟩
section
variable {C : Nat → List V → Option V} {TK : Nat → Option Int} {vars vars' vars₁ vars₂ : Vars} {own own' own₁ own₂ own₃ : Own}
theorem term_run (s : Int) : runF C TK p_ISTERMINAL [.int s] = some (.bool (decide (s < 256))) := rfl
theorem nonterm_run (s : Int) : runF C TK p_ISNONTERMINAL [.int s] = some (.bool (decide (256 ≤ s))) := rfl
theorem eof_run (s : Int) : runF C TK p_ISEOF [.int s] = some (.bool (decide (s = 0))) := rfl
theorem spell {d : Nat} {p : Int} {m : Nat} {s : List Nat} (hp : okPick p m = true) (hs : okText m s = true) : CF (d + 2) 52 [.int p, .str s] = some (.str (escT s)) := by
  rw [cf_run (by decide) (by decide) rfl]
  have a : ∀ s : List Nat, s.length ≤ 400 → (∀ x ∈ s, bad4 x = true) → _ := fun s hl hb => spelled_all (C := CF d) (TK := TK1) hl hb
  exact spelled_run (fun s hl hb => by rw [cf_run (by decide) (by decide) rfl]; exact (a s hl hb).1) (fun s hl hb => by rw [cf_run (by decide) (by decide) rfl]; exact (a s hl hb).2.1) (fun s hl hb => by rw [cf_run (by decide) (by decide) rfl]; exact (a s hl hb).2.2.1)
    (fun s hl hb h => by rw [cf_run (by decide) (by decide) rfl]; exact (a s hl hb).2.2.2.1 h) (fun s hl hb h => by rw [cf_run (by decide) (by decide) rfl]; exact (a s hl hb).2.2.2.2 h) hp hs

noncomputable def encP (p : Nat × Nat) : V := .tup [.int p.1, .int p.2]
noncomputable def encR (rules : List (Nat × Nat)) : List V := rules.map encP
noncomputable def encN (l : List Nat) : List V := l.map fun (k : Nat) => V.int k
theorem frz_pairs (b : Bool) (own : Own) (n : Nat) : ∀ l : List (Nat × Nat), mapO (frz b own (n + 2)) (encR l) = some (encR l)
  | [] => rfl
  | p :: l => mapO_c rfl (frz_pairs b own n l)
theorem frz_lstT {own : Own} (n : Nat) {vs : List V} (h : mapO (frz true own n) vs = some vs) (b : Bool) : frz true own (n + 1) (.lst b vs) = some (.lst true vs) := by
  show (if (!true && b) = true then none else (mapO (frz true own n) vs).bind _) = _
  rw [show (!true && b) = false from rfl, if_neg Bool.false_ne_true, h]; rfl
theorem frz_lstF {own : Own} (n : Nat) {vs : List V} (h : mapO (frz false own n) vs = some vs) : frz false own (n + 1) (.lst false vs) = some (.lst false vs) := by
  show (if (!false && false) = true then none else (mapO (frz false own n) vs).bind _) = _
  rw [show (!false && false) = false from rfl, if_neg Bool.false_ne_true, h]; rfl
theorem frz_refS {b : Bool} {own : Own} (n : Nat) {vs : List V} {k : Nat} (hk : own[k]? = some vs) (h : mapO (frz b own n) vs = some vs) : frz b own (n + 1) (.ref k) = some (.lst b vs) := by
  show (own[k]?).bind _ = _
  rw [hk]
  show (mapO (frz b own n) vs).bind _ = _
  rw [h]; rfl
noncomputable def docA (rules : List (Nat × Nat)) (sz : List Nat) (p : Int) (m s : Nat) : List V := [.int s, .lst true (encR rules), .lst true (encN sz), .int p, .str [m]]
theorem docA_frz (rules : List (Nat × Nat)) (sz : List Nat) (p : Int) (m s : Nat) : mapO (frz true own depthF) (docA rules sz p m s) = some (docA rules sz p m s) :=
  mapO_c rfl (mapO_c (frz_lstT 4 (frz_pairs true own 2 rules) true) (mapO_c (frz_lstT 4 (frz_nats true own 3 sz) true) rfl))
theorem rep_len {α : Type} : ∀ (n : Nat) (l : List α), (rep n l).length = n * l.length
  | 0, l => by simp [rep]
  | n + 1, l => by
    show ((List.replicate (n + 1) l).flatten).length = _
    rw [List.replicate_succ, List.flatten_cons, List.length_append, Nat.succ_mul, Nat.add_comm]
    exact congrArg (· + _) (rep_len n l)
theorem chr_ev {e : E} {k : Nat} (h : ev C TK e vars own = some (.int (k : Nat), own)) (hk : k ≤ 1000) : ev C TK (.prim .chr (.cons e .nil)) vars own = some (.str [k], own) := by
  refine sp_prim (sp_evs h st_evs_nil) ?_
  show (if 0 ≤ (k : Int) ∧ (k : Int) ≤ 1114111 then some (V.str [(k : Int).toNat], own) else none) = _
  rw [if_pos ⟨Int.natCast_nonneg k, Int.ofNat_le.mpr (Nat.le_trans hk (by decide))⟩, Int.toNat_natCast]
theorem sz_at {sz : List Nat} {k : Nat} (h : 1 ≤ sz.getD k 0) : (encN sz)[k]? = some (.int (sz.getD k 0 : Nat)) := by
  unfold encN
  rw [List.getElem?_map, List.getD_eq_getElem?_getD] at *
  cases q : sz[k]? with
  | none => rw [q] at h; exact absurd h (by decide)
  | some c => rfl
theorem doc_run {rules : List (Nat × Nat)} {sz : List Nat} {m : Nat} {p : Int} (hm : m = 38 ∨ m = 60 ∨ m = 62) (hp : okPick p m = true) (hsz : sz.length ≤ 100) (hr : rules.length ≤ 100) :
    ∀ (t : Tr) (s d : Nat), repT rules t s = true → OkLv sz (leavesT t 0) → hgt t + 3 ≤ d → CF d 105 (docA rules sz p m s) = some (.str (docT m sz t))
  | .leaf k, s, d, h, ok, hd => by
    obtain ⟨d, rfl⟩ : ∃ e, d = e + 3 := ⟨d - 3, by lia⟩
    have h := and_true h
    have h1 := of_decide_eq_true h.1
    have h2 := of_decide_eq_true h.2
    have hs := ok.all _ (.head _)
    rw [cf_run (by decide) (by decide) rfl]
    obtain ⟨vs, hvs⟩ : ∃ vs : Vars, vs = [(92, .int s), (102, .lst true (encR rules)), (101, .lst true (encN sz)), (53, .int p), (59, .str [m])] := ⟨_, rfl⟩
    have g92 : getV 92 vs = some (.int s) := by rw [hvs]; rfl
    have g101 : getV 101 vs = some (.lst true (encN sz)) := by rw [hvs]; rfl
    have g59 : getV 59 vs = some (.str [m]) := by rw [hvs]; rfl
    have e1 : ev (CF (d + 2)) TK1 (.bin .sub (.int 255) (.var 92)) vs [] = some (.int (k : Nat), []) := st_binI st_int (st_var g92) (congrArg some (by lia))
    have e2 : ev (CF (d + 2)) TK1 (.bin .sub (.int 320) (.var 92)) vs [] = some (.int (65 + k : Nat), []) := st_binI st_int (st_var g92) (congrArg some (by lia))
    have key : exs (CF (d + 2)) TK1 l2_law_document.body vs [] = some (.ret (.str (leafT m (sz.getD k 0) k)), vs, []) := by
      refine st_stop (st_ite_t (own₁ := []) (sp_tst (v := .bool true) (sp_call (ws := [.int s]) (sp_evs (st_var g92) st_evs_nil) rfl ?_) rfl) (st_stop (st_ret (st_cat (st_mulS (st_var g59) (sp_idx (st_var g101) e1 (it_lst (sz_at hs.2.2.1) ?_)) ?_ ?_) (chr_ev e2 ?_) ?_))))
      · rw [cf_run (by decide) (by decide) rfl, term_run, decide_eq_true (by lia)]
      · unfold encN; rw [List.length_map]; lia
      · exact Nat.le_trans hs.2.2.2 (by decide)
      · exact Nat.le_of_ble_eq_true rfl
      · lia
      · rw [rep_len]; show (sz.getD k 0) * 1 + 1 ≤ _; have := hs.2.2.2; lia
    rw [hvs] at key
    exact runF_of rfl key rfl
  | .node a b, s, d, h, ok, hd => by
    obtain ⟨d, rfl⟩ : ∃ e, d = e + 3 := ⟨d - 3, by lia⟩
    have h := and_true h
    have h1 := of_decide_eq_true h.1
    obtain ⟨⟨l, r⟩, hq, h2⟩ : ∃ q, rules[s - 256]? = some q ∧ (repT rules a q.1 && repT rules b q.2) = true := by
      have h2 := h.2
      cases q : rules[s - 256]? with
      | none => rw [q] at h2; cases h2
      | some q' => rw [q] at h2; exact ⟨q', rfl, h2⟩
    have h2 := and_true h2
    have hga : hgt a + 3 ≤ d + 2 := by
      have : hgt (.node a b) = max (hgt a) (hgt b) + 1 := rfl
      lia
    have hgb : hgt b + 3 ≤ d + 2 := by
      have : hgt (.node a b) = max (hgt a) (hgt b) + 1 := rfl
      lia
    have ok' : OkLv sz (leavesT a 1 ++ leavesT b 1) := ok
    have oka := ok'.left.down
    have okb := ok'.right.down
    have ia := doc_run hm hp hsz hr a l (d + 2) h2.1 oka hga
    have ib := doc_run hm hp hsz hr b r (d + 2) h2.2 okb hgb
    have la := doc_len hm 1 ok'.left
    have lb := doc_len hm 1 ok'.right
    rw [cf_run (by decide) (by decide) rfl]
    obtain ⟨vs, hvs⟩ : ∃ vs : Vars, vs = [(92, .int s), (102, .lst true (encR rules)), (101, .lst true (encN sz)), (53, .int p), (59, .str [m])] := ⟨_, rfl⟩
    have g92 : getV 92 vs = some (.int s) := by rw [hvs]; rfl
    have g102 : getV 102 vs = some (.lst true (encR rules)) := by rw [hvs]; rfl
    have call : ∀ {x c : Nat} {t : Tr} {v' : Vars}, getV x v' = some (.int (c : Nat)) → getV 102 v' = some (.lst true (encR rules)) → getV 101 v' = some (.lst true (encN sz)) → getV 53 v' = some (.int p) → getV 59 v' = some (.str [m]) → CF (d + 2) 105 (docA rules sz p m c) = some (.str (docT m sz t)) → OkLv sz (leavesT t 0) →
        ev (CF (d + 2)) TK1 (.call 52 (.cons (.var 53) (.cons (.call 105 (.cons (.var x) (.cons (.var 102) (.cons (.var 101) (.cons (.var 53) (.cons (.var 59) .nil)))))) .nil))) v' [] = some (.str (escT (docT m sz t)), []) := fun g0 g1 g2 g3 g4 hc ho =>
      sp_call (ws := [.int p, .str _]) (sp_evs (st_var g3) (sp_evs (sp_call (sp_evs (st_var g0) (sp_evs (st_var g1) (sp_evs (st_var g2) (sp_evs (st_var g3) (sp_evs (st_var g4) st_evs_nil))))) (docA_frz rules sz p m _) hc) st_evs_nil)) rfl (spell hp (doc_ok hm ho))
    have e1 : ev (CF (d + 2)) TK1 (.bin .sub (.var 92) (.int 256)) vs [] = some (.int (s - 256 : Nat), []) := st_binI (st_var g92) st_int (congrArg some (by lia))
    have key : ∃ v', exs (CF (d + 2)) TK1 l2_law_document.body vs [] = some (.ret (.str (escT (docT m sz a) ++ escT (docT m sz b))), v', []) := by
      refine ⟨_, st_next (st_ite_f (own₁ := []) (sp_tst (v := .bool false) (sp_call (ws := [.int s]) (sp_evs (st_var g92) st_evs_nil) rfl ?_) rfl) st_nil) (st_next (own₁ := []) (st_unp (vs := [.int l, .int r]) (sp_idx (st_var g102) e1 (it_lst (v := encP (l, r)) ?_ ?_)) rfl) (st_next (own₁ := []) (st_asg (v := .str (escT (docT m sz a))) (call (t := a) (c := l) ?_ ?_ ?_ ?_ ?_ ia oka)) (st_stop (st_ret (st_cat (st_var gv_same) (call (t := b) (c := r) ?_ ?_ ?_ ?_ ?_ ib okb) ?_)))))⟩
      · rw [cf_run (by decide) (by decide) rfl, term_run, decide_eq_false (by lia)]
      · unfold encR; rw [List.getElem?_map, hq]; rfl
      · unfold encR; rw [List.length_map]; lia
      all_goals first | (rw [hvs]; rfl) | skip
      exact Nat.le_trans (Nat.add_le_add la lb) (by decide)
    obtain ⟨v', key⟩ := key
    rw [hvs] at key
    exact runF_of rfl key rfl
end
end Mine
end
section
set_option maxRecDepth 100000
set_option autoImplicit false
namespace Mine
section
variable {C : Nat → List V → Option V} {TK : Nat → Option Int} {vars vars' vars₁ vars₂ : Vars} {own own' own₁ own₂ own₃ : Own}
theorem encR_len (l : List (Nat × Nat)) : (encR l).length = l.length := List.length_map ..
theorem encN_len (l : List Nat) : (encN l).length = l.length := List.length_map ..
theorem add_lst {a b : List V} {p q : Bool} (h : a.length + b.length ≤ 100000) : bop own .add (.lst p a) (.lst q b) = some (.ref own.length, own ++ [a ++ b]) := if_pos h
theorem leaves_run {rules : List (Nat × Nat)} {sz : List Nat} (hr : rules.length ≤ 100) :
    ∀ (t : Tr) (s deep d : Nat), repT rules t s = true → OkLv sz (leavesT t 0) → hgt t + 2 ≤ d → CF d 109 [.int s, .lst true (encR rules), .int deep] = some (.lst false (encR (leavesT t deep)))
  | .leaf k, s, deep, d, h, ok, hd => by
    obtain ⟨d, rfl⟩ : ∃ e, d = e + 2 := ⟨d - 2, by lia⟩
    have h := and_true h
    have h1 := of_decide_eq_true h.1
    rw [cf_run (by decide) (by decide) rfl]
    obtain ⟨vs, hvs⟩ : ∃ vs : Vars, vs = [(92, .int s), (102, .lst true (encR rules)), (95, .int deep)] := ⟨_, rfl⟩
    have g92 : getV 92 vs = some (.int s) := by rw [hvs]; rfl
    have g95 : getV 95 vs = some (.int deep) := by rw [hvs]; rfl
    have key : exs (CF (d + 1)) TK1 l2_law_leaves.body vs [] = some (.ret (.ref 0), vs, [[encP (k, deep)]]) := by
      refine st_next (st_ite_f (own₁ := []) (sp_tst (v := .bool false) (sp_call (ws := [.int s]) (sp_evs (st_var g92) st_evs_nil) rfl ?_) rfl) st_nil) (st_stop (st_ret (st_list (own₁ := []) (sp_evs (st_tup (sp_evs (v := .int k) (st_binI st_int (st_var g92) (congrArg some (by lia))) (sp_evs (st_var g95) st_evs_nil)) (show 2 ≤ 1000 by decide)) st_evs_nil) (show 1 ≤ 1000 by decide))))
      rw [cf_run (by decide) (by decide) rfl, nonterm_run, decide_eq_false (by lia)]
    rw [hvs] at key
    exact runF_of rfl key rfl
  | .node a b, s, deep, d, h, ok, hd => by
    obtain ⟨d, rfl⟩ : ∃ e, d = e + 2 := ⟨d - 2, by lia⟩
    have h := and_true h
    have h1 := of_decide_eq_true h.1
    obtain ⟨⟨l, r⟩, hq, h2⟩ : ∃ q, rules[s - 256]? = some q ∧ (repT rules a q.1 && repT rules b q.2) = true := by
      have h2 := h.2
      cases q : rules[s - 256]? with
      | none => rw [q] at h2; cases h2
      | some q' => rw [q] at h2; exact ⟨q', rfl, h2⟩
    have h2 := and_true h2
    have hg : hgt (.node a b) = max (hgt a) (hgt b) + 1 := rfl
    have ok' : OkLv sz (leavesT a 1 ++ leavesT b 1) := ok
    have ia := leaves_run hr a l (deep + 1) (d + 1) h2.1 ok'.left.down (by lia)
    have ib := leaves_run hr b r (deep + 1) (d + 1) h2.2 ok'.right.down (by lia)
    have la : ∀ (t : Tr) (e : Nat), (leavesT t (e + 1)).length = (leavesT t e).length := fun t e => by rw [leaves_up, List.length_map]
    have lz : ∀ (t : Tr) (e : Nat), (leavesT t e).length = (leavesT t 0).length := fun t e => by
      induction e with
      | zero => rfl
      | succ e ih => rw [la, ih]
    have hla : (encR (leavesT a (deep + 1))).length ≤ 5 := by rw [encR_len, lz]; exact ok'.left.down.len
    have hlb : (encR (leavesT b (deep + 1))).length ≤ 5 := by rw [encR_len, lz]; exact ok'.right.down.len
    rw [cf_run (by decide) (by decide) rfl]
    obtain ⟨vs, hvs⟩ : ∃ vs : Vars, vs = [(92, .int s), (102, .lst true (encR rules)), (95, .int deep)] := ⟨_, rfl⟩
    have g92 : getV 92 vs = some (.int s) := by rw [hvs]; rfl
    have g102 : getV 102 vs = some (.lst true (encR rules)) := by rw [hvs]; rfl
    have e1 : ev (CF (d + 1)) TK1 (.bin .sub (.var 92) (.int 256)) vs [] = some (.int (s - 256 : Nat), []) := st_binI (st_var g92) st_int (congrArg some (by lia))
    have call : ∀ {x c : Nat} {ls : List (Nat × Nat)} {v' : Vars}, getV x v' = some (.int (c : Nat)) → getV 102 v' = some (.lst true (encR rules)) → getV 95 v' = some (.int (deep : Nat)) → CF (d + 1) 109 [.int c, .lst true (encR rules), .int (deep + 1 : Nat)] = some (.lst false (encR ls)) →
        ev (CF (d + 1)) TK1 (.call 109 (.cons (.var x) (.cons (.var 102) (.cons (.bin .add (.var 95) (.int 1)) .nil)))) v' [] = some (.lst false (encR ls), []) := fun g0 g1 g2 hc =>
      sp_call (sp_evs (st_var g0) (sp_evs (st_var g1) (sp_evs (st_binI (st_var g2) st_int rfl) st_evs_nil))) (mapO_c rfl (mapO_c (frz_lstT 4 (frz_pairs true [] 2 rules) true) rfl)) hc
    have key : ∃ v', exs (CF (d + 1)) TK1 l2_law_leaves.body vs [] = some (.ret (.ref 0), v', [encR (leavesT a (deep + 1)) ++ encR (leavesT b (deep + 1))]) := by
      refine ⟨_, st_stop (st_ite_t (own₁ := []) (sp_tst (v := .bool true) (sp_call (ws := [.int s]) (sp_evs (st_var g92) st_evs_nil) rfl ?_) rfl) (st_next (own₁ := []) (st_unp (vs := [.int l, .int r]) (sp_idx (st_var g102) e1 (it_lst (v := encP (l, r)) ?_ ?_)) rfl) (st_stop (st_ret (st_bin (call (c := l) ?_ ?_ ?_ ia) (call (c := r) ?_ ?_ ?_ ib) (add_lst ?_))))))⟩
      · rw [cf_run (by decide) (by decide) rfl, nonterm_run, decide_eq_true (by lia)]
      · unfold encR; rw [List.getElem?_map, hq]; rfl
      · rw [encR_len]; lia
      all_goals first | (rw [hvs]; rfl) | skip
      exact Nat.le_trans (Nat.add_le_add hla hlb) (by decide)
    obtain ⟨v', key⟩ := key
    rw [hvs] at key
    have e : encR (leavesT a (deep + 1)) ++ encR (leavesT b (deep + 1)) = encR (leavesT (.node a b) deep) := (List.map_append ..).symm
    rw [e] at key
    exact runF_of rfl key (frz_refS 4 rfl (frz_pairs false _ 2 _))

theorem menu_ev {m : Nat} {x : Nat} (hm : m = 38 ∨ m = 60 ∨ m = 62) (g : getV x vars = some (.str [m])) : ev C TK (.menu menu3 (.var x)) vars own = some (.str (nameT m), own) := by
  show (ev C TK (.var x) vars own).bind _ = _
  rw [st_var g]
  rcases hm with rfl | rfl | rfl <;> rfl
theorem name_len {m : Nat} (hm : m = 38 ∨ m = 60 ∨ m = 62) : (nameT m).length ≤ 4 := by
  rcases hm with rfl | rfl | rfl <;> decide
theorem marks_run {m s d : Nat} (hm : m = 38 ∨ m = 60 ∨ m = 62) (hs : s ≤ 3) (hd : 1 ≤ d ∧ d ≤ 4) : runF C TK l2_law_marks [.str [m], .int s, .int d] = some (.str (markT m s d)) := by
  obtain ⟨vs, hvs⟩ : ∃ vs : Vars, vs = [(59, .str [m]), (111, .int s), (95, .int d)] := ⟨_, rfl⟩
  have g59 : getV 59 vs = some (.str [m]) := by rw [hvs]; rfl
  have g111 : getV 111 vs = some (.int s) := by rw [hvs]; rfl
  have g95 : getV 95 vs = some (.int d) := by rw [hvs]; rfl
  have hn := name_len hm
  have hr : (rep (d - 1) [97, 109, 112, 59]).length ≤ 16 := by rw [rep_len]; exact Nat.le_trans (Nat.mul_le_mul_right 4 (Nat.le_trans (Nat.sub_le d 1) hd.2)) (by decide)
  have key : exs C TK l2_law_marks.body vs [] = some (.ret (.str (markT m s d)), setV 96 (.str (nameT m)) vs, []) := by
    refine st_next (st_asg (menu_ev hm g59)) (st_stop (st_ret (st_mulS (st_cat (st_cat st_str (st_mulS (n := d - 1) st_str (st_binI (st_var (gv_ne (by decide) g95)) st_int (congrArg some (by lia))) ?_ ?_) ?_) (st_var gv_same) ?_) (st_var (gv_ne (by decide) g111)) ?_ ?_)))
    · lia
    · decide
    · exact Nat.le_trans (Nat.add_le_add_left hr 1) (by decide)
    · rw [List.length_append]; exact Nat.le_trans (Nat.add_le_add (Nat.add_le_add_left hr 1) hn) (by decide)
    · exact Nat.le_trans hs (by decide)
    · rw [List.length_append, List.length_append]; exact Nat.le_trans (Nat.add_le_add (Nat.add_le_add_left hr 1) hn) (by decide)
  rw [hvs] at key
  exact runF_of rfl key rfl
end
end Mine
end
section
set_option maxRecDepth 100000
set_option autoImplicit false
namespace Mine
/-- what a sign of the page is: a mark's start, a step deeper, a letter -/
noncomputable def rk (c : Nat) : Nat := if TK1 c = some 19 then 1 else if TK1 c = some 13 then 2 else if [65, 66, 67, 68, 69].contains c then 3 else 0
noncomputable def incLast (l : List Int) : Option (List Int) := l.getLast?.bind fun x => some (l.dropLast ++ [x + 1])
noncomputable def readL : List Nat → List Int → Option (List (Nat × List Int) × List Int)
  | [], cur => some ([], cur)
  | c :: s, cur => if rk c = 1 then readL s (cur ++ [0]) else if rk c = 2 then (incLast cur).bind fun q => readL s q else if rk c = 3 then (readL s []).bind fun r => some ((c, cur) :: r.1, r.2) else readL s cur
theorem readL_cons (c : Nat) (s : List Nat) (cur : List Int) : readL (c :: s) cur = if rk c = 1 then readL s (cur ++ [0]) else if rk c = 2 then (incLast cur).bind fun q => readL s q else if rk c = 3 then (readL s []).bind fun r => some ((c, cur) :: r.1, r.2) else readL s cur := rfl
theorem readL_app : ∀ (a b : List Nat) (cur : List Int), readL (a ++ b) cur = (readL a cur).bind fun r => (readL b r.2).bind fun q => some (r.1 ++ q.1, q.2)
  | [], b, cur => by
    show readL b cur = (readL b cur).bind _
    cases readL b cur <;> rfl
  | c :: a, b, cur => by
    rw [List.cons_append, readL_cons, readL_cons]
    by_cases h1 : rk c = 1
    · rw [if_pos h1, if_pos h1]; exact readL_app a b _
    rw [if_neg h1, if_neg h1]
    by_cases h2 : rk c = 2
    · rw [if_pos h2, if_pos h2]
      cases incLast cur with
      | none => rfl
      | some q => exact readL_app a b q
    rw [if_neg h2, if_neg h2]
    by_cases h3 : rk c = 3
    · rw [if_pos h3, if_pos h3, readL_app a b []]
      cases readL a [] with
      | none => rfl
      | some r =>
        show ((readL b r.2).bind fun q => some (r.1 ++ q.1, q.2)).bind _ = (readL b r.2).bind _
        cases readL b r.2 <;> rfl
    · rw [if_neg h3, if_neg h3]; exact readL_app a b cur
noncomputable def okRd (m s d k : Nat) : Bool := readL (markT m s d ++ [65 + k]) [] == some ([(65 + k, List.replicate s (d : Int))], [])
theorem rd_all : ([38, 60, 62].all fun m => [1, 2, 3].all fun s => [1, 2, 3, 4].all fun d => [0, 1, 2, 3, 4].all fun k => okRd m s d k) = true := by decide +kernel
theorem rd_ok {m s d k : Nat} (hm : m = 38 ∨ m = 60 ∨ m = 62) (hs : 1 ≤ s ∧ s ≤ 3) (hd : 1 ≤ d ∧ d ≤ 4) (hk : k ≤ 4) : readL (markT m s d ++ [65 + k]) [] = some ([(65 + k, List.replicate s (d : Int))], []) := by
  have h1 := List.all_eq_true.mp rd_all m (by rcases hm with rfl | rfl | rfl <;> simp)
  have h2 := List.all_eq_true.mp h1 s (by obtain ⟨a, b⟩ := hs; match s, a, b with | 1, _, _ => simp | 2, _, _ => simp | 3, _, _ => simp)
  have h3 := List.all_eq_true.mp h2 d (by obtain ⟨a, b⟩ := hd; match d, a, b with | 1, _, _ => simp | 2, _, _ => simp | 3, _, _ => simp | 4, _, _ => simp)
  exact beq_iff_eq.mp (List.all_eq_true.mp h3 k (by match k, hk with | 0, _ => simp | 1, _ => simp | 2, _ => simp | 3, _ => simp | 4, _ => simp))
/-- a leaf's text on the page -/
noncomputable def lineT (m : Nat) (sz : List Nat) (p : Nat × Nat) : List Nat := markT m (sz.getD p.1 0) p.2 ++ [65 + p.1]
noncomputable def readV (sz : List Nat) (p : Nat × Nat) : Nat × List Int := (65 + p.1, List.replicate (sz.getD p.1 0) (p.2 : Int))
theorem rd_page {m : Nat} {sz : List Nat} (hm : m = 38 ∨ m = 60 ∨ m = 62) : ∀ l : List (Nat × Nat), (∀ p ∈ l, p.1 ≤ 4 ∧ (1 ≤ p.2 ∧ p.2 ≤ 4) ∧ 1 ≤ sz.getD p.1 0 ∧ sz.getD p.1 0 ≤ 3) → readL ((l.map (lineT m sz)).flatten) [] = some (l.map (readV sz), [])
  | [], _ => rfl
  | p :: l, h => by
    have hp := h p (.head _)
    rw [List.map_cons, List.flatten_cons, readL_app]
    unfold lineT
    rw [rd_ok hm hp.2.2 hp.2.1 hp.1]
    show (readL ((l.map (lineT m sz)).flatten) []).bind _ = _
    rw [rd_page hm l fun p hp => h p (.tail _ hp)]; rfl

section
variable {C : Nat → List V → Option V} {TK : Nat → Option Int} {vars vars' vars₁ vars₂ : Vars} {own own' own₁ own₂ own₃ own₄ : Own}
theorem st_augi {a i e : E} {o : Bop} {av k : V} {x y z : Int} (h1 : ev C TK a vars own = some (av, own₁)) (h2 : ev C TK i vars own₁ = some (k, own₂)) (h3 : itemAt own₂ av k = some (.int x)) (h4 : ev C TK e vars own₂ = some (.int y, own₃)) (h5 : bop own₃ o (.int x) (.int y) = some (.int z, own₄)) (h6 : setAt own₄ av k (.int z) = some own') : ex C TK (.augi a i o e) vars own = some (.next, vars, own') := by
  show (ev C TK a vars own).bind _ = _; rw [h1]; show (ev C TK i vars own₁).bind _ = _; rw [h2]; show (itemAt own₂ av k).bind _ = _; rw [h3]; show (ev C TK e vars own₂).bind _ = _; rw [h4]; show (bop own₃ o (.int x) (.int y)).bind _ = _; rw [h5]; show (setAt own₄ av k (.int z)).bind _ = _; rw [h6]; rfl
/-- the frame's lists while the page is read: the told pairs, the lists that they name, the list at hand -/
noncomputable def toldV : List (Nat × List Int) → Nat → List V
  | [], _ => []
  | p :: r, i => .tup [.str [p.1], .ref i] :: toldV r (i + 1)
noncomputable def RS (ds : List (Nat × List Int)) (cur : List Int) : Own := toldV ds 1 :: (ds.map (fun p => p.2.map V.int) ++ [cur.map V.int])
theorem toldV_app (p : Nat × List Int) : ∀ (ds : List (Nat × List Int)) (i : Nat), toldV (ds ++ [p]) i = toldV ds i ++ [.tup [.str [p.1], .ref (i + ds.length)]]
  | [], i => rfl
  | q :: ds, i => by
    show _ :: toldV (ds ++ [p]) (i + 1) = _ :: (toldV ds (i + 1) ++ _)
    rw [toldV_app p ds (i + 1), List.length_cons, Nat.add_right_comm i 1, Nat.add_assoc i]
theorem toldV_len : ∀ (ds : List (Nat × List Int)) (i : Nat), (toldV ds i).length = ds.length
  | [], _ => rfl
  | _ :: ds, i => congrArg (· + 1) (toldV_len ds (i + 1))
theorem RS_get (ds : List (Nat × List Int)) (cur : List Int) : (RS ds cur)[ds.length + 1]? = some (cur.map V.int) := by
  show (ds.map (fun p => p.2.map V.int) ++ [cur.map V.int])[ds.length]? = _
  rw [List.getElem?_append_right (by rw [List.length_map]; exact Nat.le_refl _), List.length_map, Nat.sub_self]; rfl
theorem RS_set (ds : List (Nat × List Int)) (cur nw : List Int) : (RS ds cur).set (ds.length + 1) (nw.map V.int) = RS ds nw := by
  show toldV ds 1 :: (ds.map (fun p => p.2.map V.int) ++ [cur.map V.int]).set ds.length (nw.map V.int) = _
  rw [List.set_append_right _ _ (by rw [List.length_map]; exact Nat.le_refl _), List.length_map, Nat.sub_self]; rfl
theorem RS_next (ds : List (Nat × List Int)) (c : Nat) (cur : List Int) : (RS ds cur).set 0 (toldV ds 1 ++ [.tup [.str [c], .ref (ds.length + 1)]]) ++ [[]] = RS (ds ++ [(c, cur)]) [] := by
  show (toldV ds 1 ++ _) :: (ds.map (fun p => p.2.map V.int) ++ [cur.map V.int] ++ [[]]) = toldV (ds ++ [(c, cur)]) 1 :: ((ds ++ [(c, cur)]).map (fun p => p.2.map V.int) ++ [[]])
  rw [toldV_app, List.map_append, Nat.add_comm 1]; rfl
theorem RS_len (ds : List (Nat × List Int)) (cur : List Int) : (RS ds cur).length = ds.length + 2 := by
  show (ds.map (fun p => p.2.map V.int) ++ [cur.map V.int]).length + 1 = _
  rw [List.length_append, List.length_map]; rfl
noncomputable def rdBody : Ss :=
  (.cons (.asg 65 (.tok (.var 64)))
  (.cons (.ite (.cmp .eq (.var 65) (.int 19))
  (.cons (.exp (.meth .append (.var 99) (.cons (.int 0) .nil)))
  .nil)
  (.cons (.ite (.cmp .eq (.var 65) (.int 13))
  (.cons (.augi (.var 99) (.neg (.int 1)) .add (.int 1))
  .nil)
  (.cons (.ite (.cmp .isin (.var 64) (.str [65, 66, 67, 68, 69]))
  (.cons (.exp (.meth .append (.var 63) (.cons (.tup (.cons (.var 64) (.cons (.var 99) .nil))) .nil)))
  (.cons (.asg 99 (.list .nil))
  .nil))
  .nil)
  .nil))
  .nil))
  .nil))
theorem getI_last (a : List V) (x : V) : getI (a ++ [x]) (-1) = some x := by
  have h : (-1 + ((a ++ [x]).length : Int)) = (a.length : Int) := by rw [List.length_append]; show (-1 : Int) + ((a.length + 1 : Nat) : Int) = _; lia
  unfold getI
  rw [if_neg (by decide), h, if_pos (Int.natCast_nonneg _), Int.toNat_natCast]
  exact List.getElem?_concat_length
theorem idxN_last (n : Nat) : idxN (n + 1) (-1) = some n := by
  have h : (-1 + ((n + 1 : Nat) : Int)) = (n : Int) := by lia
  unfold idxN
  rw [if_neg (by decide), h, if_pos (Int.natCast_nonneg _), Int.toNat_natCast]
theorem set_last (a : List V) (x y : V) : (a ++ [x]).set a.length y = a ++ [y] := by
  rw [List.set_append_right _ _ (Nat.le_refl _), Nat.sub_self]; rfl
theorem tok_eq (c : Nat) (i : Int) : cop own .eq (tokV TK c) (.int i) = some (decide (TK c = some i)) := by
  unfold tokV
  cases h : TK c with
  | none =>
    show some false = _
    rw [decide_eq_false fun q => nomatch q]
  | some j =>
    show some (decide (j = i)) = _
    congr 1
    exact decide_eq_decide.mpr ⟨fun q => congrArg some q, fun q => Option.some.inj q⟩
/-- a sign is read -/
noncomputable def rdS (c : Nat) (ds : List (Nat × List Int)) (cur : List Int) : Option (List (Nat × List Int) × List Int) := if rk c = 1 then some (ds, cur ++ [0]) else if rk c = 2 then (incLast cur).bind fun q => some (ds, q) else if rk c = 3 then some (ds ++ [(c, cur)], []) else some (ds, cur)
theorem rd_step {c : Nat} {ds ds' : List (Nat × List Int)} {cur cur' : List Int} (hl : cur.length ≤ 1000) (hd : ds.length ≤ 1000) (g64 : getV 64 vars = some (.str [c])) (g63 : getV 63 vars = some (.ref 0)) (g99 : getV 99 vars = some (.ref (ds.length + 1))) (h : rdS c ds cur = some (ds', cur')) :
    ∃ vars', exs C TK1 rdBody vars (RS ds cur) = some (.next, vars', RS ds' cur') ∧ getV 63 vars' = some (.ref 0) ∧ getV 99 vars' = some (.ref (ds'.length + 1)) := by
  have hlm : (cur.map V.int).length ≤ 100000 := by rw [List.length_map]; exact Nat.le_trans hl (by decide)
  have h1 : ev C TK1 (.tok (.var 64)) vars (RS ds cur) = some (tokV TK1 c, RS ds cur) := by
    show (ev C TK1 (.var 64) vars (RS ds cur)).bind _ = _
    rw [st_var g64]; rfl
  have t1 : tstOf (ev C TK1 (.cmp .eq (.var 65) (.int 19)) (setV 65 (tokV TK1 c) vars) (RS ds cur)) = some (decide (TK1 c = some 19), RS ds cur) := sp_tst (sp_cmp (st_var gv_same) st_int (tok_eq c 19)) rfl
  have t2 : tstOf (ev C TK1 (.cmp .eq (.var 65) (.int 13)) (setV 65 (tokV TK1 c) vars) (RS ds cur)) = some (decide (TK1 c = some 13), RS ds cur) := sp_tst (sp_cmp (st_var gv_same) st_int (tok_eq c 13)) rfl
  have t3 : tstOf (ev C TK1 (.cmp .isin (.var 64) (.str [65, 66, 67, 68, 69])) (setV 65 (tokV TK1 c) vars) (RS ds cur)) = some ([65, 66, 67, 68, 69].contains c, RS ds cur) := sp_tst (sp_cmp (st_var (gv_ne (by decide) g64)) st_str rfl) rfl
  have k63 : getV 63 (setV 65 (tokV TK1 c) vars) = some (.ref 0) := gv_ne (by decide) g63
  have k99 : getV 99 (setV 65 (tokV TK1 c) vars) = some (.ref (ds.length + 1)) := gv_ne (by decide) g99
  have own0 : ∀ (f : Nat → List V → Option (V × Own)), ownAt (RS ds cur) (.ref (ds.length + 1)) f = f (ds.length + 1) (cur.map V.int) := fun f => by
    show ((RS ds cur)[ds.length + 1]?).bind _ = _
    rw [RS_get]
    exact if_pos hlm
  unfold rdS rk at h
  by_cases c1 : TK1 c = some 19
  · rw [if_pos c1, if_pos rfl] at h
    cases h
    refine ⟨_, st_next (st_asg h1) (st_next (st_ite_t (by rw [t1, decide_eq_true c1]) (st_next (st_exp (own₁ := RS ds (cur ++ [0])) (st_meth (x := .ref (ds.length + 1)) (vs := [.int 0]) (st_var k99) (sp_evs st_int st_evs_nil) ?_)) st_nil)) st_nil), k63, k99⟩
    show ownAt (RS ds cur) (.ref (ds.length + 1)) (fun n us => some (.non, (RS ds cur).set n (us ++ [.int 0]))) = _
    rw [own0]
    show some (V.non, (RS ds cur).set (ds.length + 1) (cur.map V.int ++ [.int 0])) = _
    rw [← RS_set ds cur (cur ++ [0]), List.map_append]; rfl
  rw [if_neg c1] at h
  by_cases c2 : TK1 c = some 13
  · rw [if_pos c2, if_neg (by decide), if_pos rfl] at h
    refine bind_of h fun q hq h => bind_of hq fun x hx hq => ?_
    cases h; cases hq
    obtain ⟨a, rfl⟩ := List.getLast?_eq_some_iff.mp hx
    refine ⟨_, st_next (st_asg h1) (st_next (st_ite_f (own₁ := RS ds (a ++ [x])) (by rw [t1, decide_eq_false c1]) (st_next (st_ite_t (own₁ := RS ds (a ++ [x])) (by rw [t2, decide_eq_true c2]) (st_next (st_augi (av := .ref (ds.length + 1)) (k := .int (-1)) (x := x) (y := 1) (z := x + 1) (own₁ := RS ds (a ++ [x])) (own₂ := RS ds (a ++ [x])) (own₃ := RS ds (a ++ [x])) (own₄ := RS ds (a ++ [x])) (st_var k99) (sp_neg st_int) ?_ st_int rfl ?_) st_nil)) st_nil)) st_nil), k63, k99⟩
    · show (if -100000 ≤ (-1 : Int) ∧ (-1 : Int) ≤ 100000 then ((RS ds (a ++ [x]))[ds.length + 1]?).bind (fun vs => getI vs (-1)) else none) = _
      rw [if_pos (by decide), RS_get, List.map_append]
      exact getI_last _ _
    · show ((RS ds (a ++ [x]))[ds.length + 1]?).bind _ = _
      rw [RS_get]
      show (if ((a ++ [x]).map V.int).length ≤ 100000 then (idxN ((a ++ [x]).map V.int).length (-1)).bind fun j => some ((RS ds (a ++ [x])).set (ds.length + 1) (((a ++ [x]).map V.int).set j (.int (x + 1)))) else none) = _
      rw [if_pos hlm, List.length_map, List.length_append]
      show (idxN (a.length + 1) (-1)).bind _ = _
      rw [idxN_last, List.dropLast_concat, ← RS_set ds (a ++ [x]) (a ++ [x + 1]), List.map_append, List.map_append]
      have := set_last (a.map V.int) (V.int x) (V.int (x + 1))
      rw [List.length_map] at this
      show some ((RS ds (a ++ [x])).set (ds.length + 1) ((a.map V.int ++ [V.int x]).set a.length (.int (x + 1)))) = _
      rw [this]; rfl
  rw [if_neg c2] at h
  by_cases c3 : [65, 66, 67, 68, 69].contains c = true
  · rw [if_pos c3, if_neg (by decide), if_neg (by decide), if_pos rfl] at h
    cases h
    have hm : meth (RS ds cur) .append (.ref 0) [.tup [.str [c], .ref (ds.length + 1)]] = some (.non, (RS ds cur).set 0 (toldV ds 1 ++ [.tup [.str [c], .ref (ds.length + 1)]])) := by
      show (if (toldV ds 1).length ≤ 100000 then some (V.non, (RS ds cur).set 0 (toldV ds 1 ++ [_])) else none) = _
      rw [if_pos (by rw [toldV_len]; exact Nat.le_trans hd (by decide))]
    have h7 := st_next (st_asg h1) (st_next (st_ite_f (own₁ := RS ds cur) (b := .cons (.ite (.cmp .eq (.var 65) (.int 13)) (.cons (.augi (.var 99) (.neg (.int 1)) .add (.int 1)) .nil) (.cons (.ite (.cmp .isin (.var 64) (.str [65, 66, 67, 68, 69])) (.cons (.exp (.meth .append (.var 63) (.cons (.tup (.cons (.var 64) (.cons (.var 99) .nil))) .nil))) (.cons (.asg 99 (.list .nil)) .nil)) .nil) .nil)) .nil) (a := .cons (.exp (.meth .append (.var 99) (.cons (.int 0) .nil))) .nil) (by rw [t1, decide_eq_false c1]) (st_next (st_ite_f (own₁ := RS ds cur) (by rw [t2, decide_eq_false c2]) (st_next (st_ite_t (own₁ := RS ds cur) (by rw [t3, c3]) (st_next (st_exp (st_meth (x := .ref 0) (vs := [.tup [.str [c], .ref (ds.length + 1)]]) (st_var k63) (sp_evs (st_tup (sp_evs (st_var (gv_ne (by decide) g64)) (sp_evs (st_var k99) st_evs_nil)) (show 2 ≤ 1000 by decide)) st_evs_nil) hm)) (st_next (st_asg (st_list st_evs_nil (show 0 ≤ 1000 by decide))) st_nil))) st_nil)) st_nil)) st_nil)
    rw [RS_next] at h7
    refine ⟨_, h7, gv_ne (by decide) k63, gv_same.trans ?_⟩
    rw [List.length_set, RS_len, List.length_append]; rfl
  · rw [if_neg c3, if_neg (by decide), if_neg (by decide), if_neg (by decide)] at h
    cases h
    exact ⟨_, st_next (st_asg h1) (st_next (st_ite_f (own₁ := RS ds cur) (by rw [t1, decide_eq_false c1]) (st_next (st_ite_f (own₁ := RS ds cur) (by rw [t2, decide_eq_false c2]) (st_next (st_ite_f (own₁ := RS ds cur) (by rw [t3, Bool.eq_false_iff.mpr c3]) st_nil) st_nil)) st_nil)) st_nil), k63, k99⟩
end
end Mine
end
section
set_option maxRecDepth 100000
set_option autoImplicit false
namespace Mine
section
variable {C : Nat → List V → Option V} {TK : Nat → Option Int} {vars vars' vars₁ vars₂ : Vars} {own own' own₁ own₂ own₃ own₄ : Own}
theorem rd_split {c : Nat} {s : List Nat} {cur cur' : List Int} {ds r : List (Nat × List Int)} (h : readL (c :: s) cur = some (r, cur')) {P : Prop} (k : ∀ ds1 cur1 r1, rdS c ds cur = some (ds1, cur1) → readL s cur1 = some (r1, cur') → ds ++ r = ds1 ++ r1 → cur1.length ≤ cur.length + 1 → ds1.length ≤ ds.length + 1 → P) : P := by
  rw [readL_cons] at h
  unfold rdS at k
  by_cases h1 : rk c = 1
  · rw [if_pos h1] at h k
    exact k _ _ _ rfl h rfl (by rw [List.length_append]; exact Nat.le_refl _) (Nat.le_succ _)
  rw [if_neg h1] at h k
  by_cases h2 : rk c = 2
  · rw [if_pos h2] at h k
    refine bind_of h fun q hq h => bind_of hq fun x hx hq2 => ?_
    rw [hq] at k
    cases hq2
    exact k _ _ _ rfl h rfl (by rw [List.length_append, List.length_dropLast]; exact Nat.add_le_add_right (Nat.sub_le _ _) 1) (Nat.le_succ _)
  rw [if_neg h2] at h k
  by_cases h3 : rk c = 3
  · rw [if_pos h3] at h k
    refine bind_of h fun q hq h => ?_
    cases h
    exact k _ _ _ rfl hq (by rw [List.append_assoc]; rfl) (Nat.zero_le _) (by rw [List.length_append]; exact Nat.le_refl _)
  · rw [if_neg h3] at h k
    exact k _ _ _ rfl h rfl (Nat.le_succ _) (Nat.le_succ _)
theorem rd_loop (s0 : List Nat) : ∀ (s : List Nat) (j : Nat) (vars : Vars) (ds r : List (Nat × List Int)) (cur cur' : List Int), s0.drop j = s → cur.length + s.length ≤ 1000 → ds.length + s.length ≤ 1000 → readL s cur = some (r, cur') → getV 63 vars = some (.ref 0) → getV 99 vars = some (.ref (ds.length + 1)) →
    ∃ vars', forLoop [64] (.str s0) (fun vars own => exs C TK1 rdBody vars own) (s.length + 1) j vars (RS ds cur) = some (.next, vars', RS (ds ++ r) cur') ∧ getV 63 vars' = some (.ref 0)
  | [], j, vars, ds, r, cur, cur', e, _, _, h, g63, _ => by
    cases h
    have hj : s0[j]? = none := List.getElem?_eq_none (List.drop_eq_nil_iff.mp e)
    rw [List.append_nil]
    exact ⟨vars, for_end (by show some (s0[j]?.map _) = _; rw [hj]; rfl), g63⟩
  | c :: s, j, vars, ds, r, cur, cur', e, hl, hd, h, g63, g99 => rd_split (ds := ds) h fun ds1 cur1 r1 h1 h2 h3 h4 h5 => by
    have hc : s0[j]? = some c := by
      have : (s0.drop j)[0]? = some c := by rw [e]; rfl
      rw [List.getElem?_drop] at this; exact this
    have hdr : s0.drop (j + 1) = s := by rw [← List.drop_drop, e]; rfl
    have hl : cur.length + (s.length + 1) ≤ 1000 := hl
    have hd : ds.length + (s.length + 1) ≤ 1000 := hd
    obtain ⟨v1, q1, q2, q3⟩ := rd_step (C := C) (vars := setV 64 (.str [c]) vars) (by lia) (by lia) gv_same (gv_ne (by decide) g63) (gv_ne (by decide) g99) h1
    obtain ⟨v2, q4, q5⟩ := rd_loop s0 s (j + 1) v1 ds1 r1 cur1 cur' hdr (by lia) (by lia) h2 q2 q3
    rw [h3]
    exact ⟨v2, for_next (u := .str [c]) (by show some (s0[j]?.map _) = _; rw [hc]; rfl) rfl q1 q4, q5⟩
noncomputable def encRd (p : Nat × List Int) : V := .tup [.str [p.1], .lst false (p.2.map V.int)]
theorem told_frz (own : Own) : ∀ (ds : List (Nat × List Int)) (i : Nat), (∀ j p, ds[j]? = some p → own[i + j]? = some (p.2.map V.int)) → mapO (frz false own 4) (toldV ds i) = some (ds.map encRd)
  | [], _, _ => rfl
  | p :: ds, i, h => by
    refine mapO_c ?_ (told_frz own ds (i + 1) fun j q hq => by rw [Nat.add_assoc, Nat.add_comm 1]; exact h (j + 1) q hq)
    have h0 : own[i]? = some (p.2.map V.int) := h 0 p rfl
    show (mapO (frz false own 3) [.str [p.1], .ref i]).bind _ = _
    have e := frz_refI (b := false) 1 h0
    rw [mapO_c (f := frz false own 3) (x := .str [p.1]) (y := .str [p.1]) rfl (mapO_c e rfl)]
    rfl
theorem read_run {s : List Nat} {r : List (Nat × List Int)} {cur : List Int} (hl : s.length ≤ 1000) (h : readL s [] = some (r, cur)) : runF C TK1 l2_law_read [.str s] = some (.lst false (r.map encRd)) := by
  obtain ⟨v', q1, q2⟩ := rd_loop (C := C) s s 0 [(62, .str s), (63, .ref 0), (99, .ref 1)] [] r [] cur rfl (by rw [List.length_nil, Nat.zero_add]; exact hl) (by rw [List.length_nil, Nat.zero_add]; exact hl) h rfl rfl
  have key : exs C TK1 l2_law_read.body [(62, .str s)] [] = some (.ret (.ref 0), v', RS r cur) := by
    refine st_next (st_asg (st_list (own₁ := []) st_evs_nil (by decide))) ?_
    refine st_next (st_asg (st_list (own₁ := [[]]) st_evs_nil (by decide))) ?_
    exact st_next (st_for (v := .str s) (own₁ := [[], []]) (st_var rfl) q1) (st_stop (st_ret (st_var q2)))
  refine runF_of rfl key ?_
  show (mapO (frz false (RS r cur) 4) (toldV r 1)).bind (fun ws => some (V.lst false ws)) = _
  have e := told_frz (RS r cur) r 1 fun j p hp => by
    rw [Nat.add_comm 1 j]
    show (r.map (fun p => p.2.map V.int) ++ [cur.map V.int])[j]? = _
    have hj := (List.getElem?_eq_some_iff.mp hp).1
    rw [List.getElem?_append_left (by rw [List.length_map]; exact hj), List.getElem?_map, hp]; rfl
  rw [e]; rfl
end
end Mine
end
section
set_option maxRecDepth 100000
set_option autoImplicit false
namespace Mine
theorem bits_ge {b : Nat} (h : 64 ≤ b) : 7 ≤ bitsI (b : Int) := by
  unfold bitsI
  rw [if_neg (by lia), Int.natAbs_natCast]
  have : 6 ≤ b.log2 := (Nat.le_log2 (by lia)).mpr h
  lia
theorem idm_all {d b : Nat} {a : Int} (hb : 64 ≤ b) (hb2 : b < 2 ^ 14) (ha : a.natAbs < 2 ^ 400) : CF (d + 4) 34 [.int a, .int b] = some (.tup [.int (a.fdiv b), .int (a.fmod b)]) := by
  have hb0 : 0 < b := Nat.lt_of_lt_of_le (by decide) hb
  have pos : ∀ (d x : Nat), x < 2 ^ 400 → CF (d + 3) 34 [.int x, .int b] = some (.tup [.int (x / b : Nat), .int (x % b : Nat)]) := fun d x hx => by
    rw [cf_run (by decide) (by decide) rfl]
    refine idm_run hb0 ?_
    rw [cf_run (by decide) (by decide) rfl]
    have h7 := bits_ge hb
    have h14 := bits_le hb2
    refine dmp_run (n := bitsI (b : Int)) (Nat.lt_of_lt_of_le (by decide) h7) h14 hb0 hb2 rfl (Nat.lt_of_lt_of_le hx ?_) (fun a ha => ?_) (cf_dig _).1 (cf_dig _).2
    · rw [← Nat.pow_mul]
      exact Nat.pow_le_pow_right (by decide) (by lia)
    · rw [cf_run (by decide) (by decide) rfl]
      exact d21 a b _ ha hb0 hb2
  by_cases h : 0 ≤ a
  · obtain ⟨x, rfl⟩ := Int.eq_ofNat_of_zero_le h
    rw [(fdm_nat x b).1, (fdm_nat x b).2]
    exact pos (d + 1) x (by rw [Int.natAbs_natCast] at ha; exact ha)
  · obtain ⟨x, hx⟩ : ∃ x : Nat, a = -(x : Int) - 1 := ⟨(-a - 1).toNat, by lia⟩
    subst hx
    rw [(fdm_neg x b hb0).1, (fdm_neg x b hb0).2, cf_run (by decide) (by decide) rfl]
    exact idm_neg hb0 (pos d x (Nat.lt_of_le_of_lt (by lia) ha))
theorem div_pt {f P W A v d : Nat} {t : Int} (hW : W = P * 2 ^ d) (hA : A = P * v) (hB : 0 < f * P) :
    ((f : Int) * ((W : Int) * t + A) + t.fmod (f * P : Nat)).fdiv (f * P : Nat) = t * 2 ^ d + v ∧ ((f : Int) * ((W : Int) * t + A) + t.fmod (f * P : Nat)).fmod (f * P : Nat) = t.fmod (f * P : Nat) := by
  have hB' : (0 : Int) < (f * P : Nat) := Int.ofNat_lt.mpr hB
  have h1 := Int.fmod_nonneg_of_pos t hB'
  have h2 := Int.fmod_lt_of_pos t hB'
  generalize t.fmod (f * P : Nat) = r at h1 h2 ⊢
  rw [Int.fdiv_eq_ediv_of_nonneg _ (Int.natCast_nonneg _), Int.fmod_eq_emod_of_nonneg _ (Int.natCast_nonneg _)]
  refine (Int.ediv_emod_unique hB').mpr ⟨?_, h1, h2⟩
  subst hW; subst hA
  rw [Int.natCast_mul, Int.natCast_mul, Int.natCast_mul, Int.natCast_pow, Int.mul_add, Int.mul_add, Int.add_comm r]
  congr 1
  have e1 : (f : Int) * P * (t * 2 ^ d) = f * (P * ((2 : Nat) : Int) ^ d * t) := by
    rw [Int.mul_assoc, Int.mul_comm t, ← Int.mul_assoc (P : Int)]; rfl
  have e2 : (f : Int) * P * v = f * (P * v) := Int.mul_assoc ..
  rw [e1, e2]
theorem pt_small {f P W A : Nat} {t : Int} (hf : f < 1000) (hW : W ≤ 16) (hA : A ≤ 16) (hP : P ≤ 16) (hB : 0 < f * P) (ht : t.natAbs ≤ 2 ^ 63) : ((f : Int) * ((W : Int) * t + A) + t.fmod (f * P : Nat)).natAbs < 2 ^ 400 := by
  have hB' : (0 : Int) < (f * P : Nat) := Int.ofNat_lt.mpr hB
  have h1 := Int.fmod_nonneg_of_pos t hB'
  have h2 := Int.fmod_lt_of_pos t hB'
  have h3 : f * P ≤ 1000 * 16 := Nat.mul_le_mul (Nat.le_of_lt hf) hP
  generalize t.fmod (f * P : Nat) = r at h1 h2 ⊢
  have h4 : ((W : Int) * t + A).natAbs ≤ 16 * 2 ^ 63 + 16 := by
    refine Nat.le_trans (Int.natAbs_add_le _ _) (Nat.add_le_add ?_ hA)
    rw [Int.natAbs_mul]
    exact Nat.mul_le_mul hW ht
  have h5 : ((f : Int) * ((W : Int) * t + A)).natAbs ≤ 1000 * (16 * 2 ^ 63 + 16) := by
    rw [Int.natAbs_mul]
    exact Nat.mul_le_mul (Nat.le_of_lt hf) h4
  refine Nat.lt_of_le_of_lt (Int.natAbs_add_le _ _) (Nat.lt_of_le_of_lt (Nat.add_le_add h5 (show r.natAbs ≤ 16000 by lia)) ?_)
  exact Nat.lt_of_lt_of_le (show 1000 * (16 * 2 ^ 63 + 16) + 16000 < 2 ^ 80 by decide) (Nat.pow_le_pow_right (by decide) (by decide))

noncomputable def binF : Nat → Nat → List Nat
  | 0, _ => []
  | f + 1, v => if v = 0 then [] else (v % 2) :: binF f (v / 2)
noncomputable def binL (v : Nat) : List Nat := binF 4 v
theorem bin_dig {v : Nat} (h : v < 16) : digC 25 [.int v, .int 1] = some (.lst false (encN (binL v))) := by
  match v, h with
  | 0, _ => rfl | 1, _ => rfl | 2, _ => rfl | 3, _ => rfl | 4, _ => rfl | 5, _ => rfl | 6, _ => rfl | 7, _ => rfl
  | 8, _ => rfl | 9, _ => rfl | 10, _ => rfl | 11, _ => rfl | 12, _ => rfl | 13, _ => rfl | 14, _ => rfl | 15, _ => rfl
  | n + 16, h => exact absurd h (Nat.not_lt.mpr (Nat.le_add_left 16 n))
theorem bin_len : ∀ d, d < 5 → ∀ v, v < 2 ^ d → (binL v).length ≤ d := by decide +kernel
theorem bin_two : ∀ v, v < 16 → ∀ b ∈ binL v, b < 2 := by decide +kernel
noncomputable def wordT (d v : Nat) : List Nat := rep (d - (binL v).length) [48] ++ (binL v).reverse.map fun b => 48 + b
noncomputable def wordsN (D : Nat) : List Nat → Nat → Option (List (List Nat))
  | [], A => if A = 2 ^ D then some [] else none
  | d :: ds, A => if (1 ≤ d ∧ d ≤ D ∧ D ≤ 4) ∧ A < 2 ^ D ∧ A % 2 ^ (D - d) = 0 then (wordsN D ds (A + 2 ^ (D - d))).bind fun r => some (wordT d (A / 2 ^ (D - d)) :: r) else none
section
variable {C : Nat → List V → Option V} {TK : Nat → Option Int} {vars vars' vars₁ vars₂ : Vars} {own own' own₁ own₂ own₃ own₄ : Own}
theorem st_pow2 {e : E} {d : Nat} (h : ev C TK e vars own = some (.int d, own)) (hd : d ≤ 1000) : ev C TK (.bin .pow (.int 2) e) vars own = some (.int (2 ^ d : Nat), own) := by
  refine st_binI (i := 2) (j := d) st_int h ?_
  show (if 0 ≤ (d : Int) ∧ (d : Int) ≤ 1000000 ∧ (2 : Int).natAbs < 2 ^ 64 then some ((2 : Int) ^ (d : Int).toNat) else none) = _
  rw [if_pos ⟨Int.natCast_nonneg d, Int.ofNat_le.mpr (Nat.le_trans hd (by decide)), by decide⟩, Int.toNat_natCast, Int.natCast_pow]; rfl
theorem joinS_one : ∀ l : List Nat, joinS [] (l.map fun b => [48 + b]) = l.map fun b => 48 + b
  | [] => rfl
  | [x] => rfl
  | x :: y :: l => by
    have ih := joinS_one (y :: l)
    show [48 + x] ++ [] ++ joinS [] ((y :: l).map fun b => [48 + b]) = _
    rw [ih]; rfl
theorem strsO_map {α : Type} (f : α → List Nat) : ∀ l : List α, strsO (l.map fun b => V.str (f b)) = some (l.map f)
  | [] => rfl
  | x :: l => by
    show (strsO (l.map fun b => V.str (f b))).bind _ = _
    rw [strsO_map f l]; rfl
noncomputable def wdE : E := .meth .join (.str []) (.cons (.comp (.idx (.str [48, 49]) (.var 118)) [118] (.rev (.var 82))) .nil)
/-- the figures, the highest first, as a word -/
theorem word_ev {v : Nat} (hv : v < 16) (g : getV 82 vars = some (.lst false (encN (binL v)))) : ∃ j, ev C TK wdE vars own = some (.str ((binL v).reverse.map fun b => 48 + b), own ++ j) := by
  have hl : (binL v).length ≤ 4 := bin_len 4 (by decide) v hv
  have hr : ev C TK (.rev (.var 82)) vars own = some (.ref own.length, own ++ [encN (binL v).reverse]) := by
    show (ev C TK (.var 82) vars own).bind _ = _
    rw [st_var g]
    show (if (encN (binL v)).length ≤ 100000 then some (V.ref own.length, own ++ [(encN (binL v)).reverse]) else none) = _
    rw [if_pos (by rw [encN_len]; exact Nat.le_trans hl (by decide))]
    unfold encN
    rw [List.map_reverse]
  have hk : (own ++ [encN (binL v).reverse])[own.length]? = some (encN (binL v).reverse) := by simp
  have hc := st_map (C := C) (TK := TK) (elt := .idx (.str [48, 49]) (.var 118)) (ts := [118]) (f := fun u => .str [48 + ((intOf u).getD 0).toNat]) hr (it_own hk) (fuel_own hk) (by rw [encN_len, List.length_reverse]; exact Nat.le_trans hl (by decide)) fun u hu ys => by
    obtain ⟨b, hb, rfl⟩ := List.mem_map.mp hu
    have hb2 := bin_two v hv b (List.mem_reverse.mp hb)
    refine ⟨_, rfl, sp_idx st_str (st_var gv_same) ?_⟩
    match b, hb2 with
    | 0, _ => rfl
    | 1, _ => rfl
  refine ⟨[encN (binL v).reverse] ++ [(binL v).reverse.map fun b => V.str [48 + b]], st_meth st_str (st_evs hc st_evs_nil) ?_⟩
  have e : (encN (binL v).reverse).map (fun u => V.str [48 + ((intOf u).getD 0).toNat]) = (binL v).reverse.map fun b => V.str [48 + b] := by
    unfold encN
    rw [List.map_map]; rfl
  rw [e, List.append_assoc]
  generalize hl2 : (binL v).reverse = l
  have hl3 : l.length ≤ 4 := by rw [← hl2, List.length_reverse]; exact hl
  show (((own ++ ([encN l] ++ [l.map fun b => V.str [48 + b]]))[(own ++ [encN l]).length]?).bind _) = _
  have e2 : (own ++ ([encN l] ++ [l.map fun b => V.str [48 + b]]))[(own ++ [encN l]).length]? = some (l.map fun b => V.str [48 + b]) := by
    rw [← List.append_assoc]
    exact List.getElem?_concat_length
  rw [e2]
  show ((strsO (l.map fun b => V.str [48 + b])).bind _) = _
  rw [strsO_map (fun b => [48 + b]) l]
  show (if (joinS [] (l.map fun b => [48 + b])).length ≤ 100000 ∧ (l.map fun b => [48 + b]).length ≤ 1000 ∧ ([] : List Nat).length ≤ 1000 then _ else none) = _
  rw [joinS_one, if_pos ⟨by rw [List.length_map]; lia, by rw [List.length_map]; lia, by decide⟩]
end
end Mine
end
section
set_option maxRecDepth 100000
set_option autoImplicit false
namespace Mine
noncomputable def wdBody : Ss :=
  (.cons (.asg 117 (.bin .fdiv (.var 115) (.bin .pow (.int 2) (.idx (.var 55) (.var 51)))))
  (.cons (.asg 119 (.bin .mod (.idx (.var 114) (.var 51)) (.bin .mul (.var 113) (.var 117))))
  (.cons (.unp [87, 85] (.call 34 (.cons (.bin .add (.bin .mul (.var 113) (.bin .add (.bin .mul (.var 115) (.idx (.var 114) (.var 51))) (.var 116))) (.var 119)) (.cons (.bin .mul (.var 113) (.var 117)) .nil))))
  (.cons (.ite (.or (.cons (.cmp .ne (.var 85) (.var 119)) (.cons (.call 39 (.cons (.bin .sub (.var 115) (.var 116)) .nil)) .nil)))
  (.cons (.ret (.list .nil))
  .nil)
  .nil)
  (.cons (.asg 82 (.call 25 (.cons (.bin .sub (.var 87) (.bin .mul (.idx (.var 114) (.var 51)) (.bin .pow (.int 2) (.idx (.var 55) (.var 51))))) (.cons (.int 1) .nil))))
  (.cons (.asg 75 wdE)
  (.cons (.exp (.meth .append (.var 67) (.cons (.bin .add (.bin .mul (.str [48]) (.bin .sub (.idx (.var 55) (.var 51)) (.prim .len (.cons (.var 75) .nil)))) (.var 75)) .nil)))
  (.cons (.aug 116 .add (.var 117))
  .nil))))))))
/-- what stays between two turns -/
structure WV (vars : Vars) (ds0 : List Nat) (f : Nat) (ts : List Int) (D A : Nat) : Prop where
  g55 : getV 55 vars = some (.lst true (encN ds0))
  g113 : getV 113 vars = some (.int f)
  g114 : getV 114 vars = some (.lst true (ts.map V.int))
  g115 : getV 115 vars = some (.int (2 ^ D : Nat))
  g116 : getV 116 vars = some (.int A)
  g67 : getV 67 vars = some (.ref 0)
theorem WV.set {vars : Vars} {ds0 : List Nat} {f : Nat} {ts : List Int} {D A i : Nat} {x : V} (w : WV vars ds0 f ts D A) (h : i ≠ 55 ∧ i ≠ 113 ∧ i ≠ 114 ∧ i ≠ 115 ∧ i ≠ 116 ∧ i ≠ 67) : WV (setV i x vars) ds0 f ts D A :=
  ⟨gv_ne h.1.symm w.g55, gv_ne h.2.1.symm w.g113, gv_ne h.2.2.1.symm w.g114, gv_ne h.2.2.2.1.symm w.g115, gv_ne h.2.2.2.2.1.symm w.g116, gv_ne h.2.2.2.2.2.symm w.g67⟩
theorem WV.next {vars : Vars} {ds0 : List Nat} {f : Nat} {ts : List Int} {D A B : Nat} (w : WV vars ds0 f ts D A) : WV (setV 116 (.int B) vars) ds0 f ts D B :=
  ⟨gv_ne (by decide) w.g55, gv_ne (by decide) w.g113, gv_ne (by decide) w.g114, gv_ne (by decide) w.g115, gv_same, gv_ne (by decide) w.g67⟩
theorem mul_nat {a b : Nat} (h : a < 2 ^ 64) : bopI .mul (a : Int) (b : Int) = some ((a * b : Nat) : Int) := (mul_ok' (by rw [Int.natAbs_natCast]; exact h)).trans (congrArg some (Int.natCast_mul a b).symm)
theorem ints_at {l : List Int} {k : Nat} {t : Int} (h : l[k]? = some t) : (l.map V.int)[k]? = some (.int t) := by rw [List.getElem?_map, h]; rfl
theorem nats_at {l : List Nat} {k t : Nat} (h : l[k]? = some t) : (encN l)[k]? = some (.int t) := by unfold encN; rw [List.getElem?_map, h]; rfl
theorem wd_step {e f D d A v k : Nat} {t : Int} {ds0 : List Nat} {ts : List Int} {vars : Vars} {ws : List (List Nat)} {junk : List (List V)} (w : WV vars ds0 f ts D A) (g51 : getV 51 vars = some (.int k)) (hf : 100 ≤ f ∧ f < 1000) (hd : 1 ≤ d ∧ d ≤ D ∧ D ≤ 4) (hA : A < 2 ^ D) (hv : A = 2 ^ (D - d) * v)
    (hk : ds0[k]? = some d) (hk2 : ts[k]? = some t) (hl : ds0.length ≤ 100) (hl2 : ts.length ≤ 100) (ht : t.natAbs ≤ 2 ^ 63) (hws : ws.length ≤ 1000) :
    ∃ vars' junk', exs (CF (e + 4)) TK1 wdBody vars (ws.map V.str :: junk) = some (.next, vars', (ws ++ [wordT d v]).map V.str :: junk') ∧ WV vars' ds0 f ts D (A + 2 ^ (D - d)) := by
  have hWP : 2 ^ D = 2 ^ (D - d) * 2 ^ d := by rw [← Nat.pow_add]; congr 1; lia
  have hP0 : 0 < 2 ^ (D - d) := Nat.pow_pos (by decide)
  have hd0 : 0 < 2 ^ d := Nat.pow_pos (by decide)
  have hW16 : 2 ^ D ≤ 2 ^ 4 := Nat.pow_le_pow_right (by decide) hd.2.2
  have hP16 : 2 ^ (D - d) ≤ 2 ^ 3 := Nat.pow_le_pow_right (by decide) (by lia)
  have hd16 : 2 ^ d ≤ 2 ^ 4 := Nat.pow_le_pow_right (by decide) (by lia)
  have hv16 : v < 2 ^ d := by
    rw [hv, hWP] at hA
    exact Nat.lt_of_mul_lt_mul_left hA
  have hv16' : v < 16 := Nat.lt_of_lt_of_le hv16 hd16
  have hdiv : 2 ^ D / 2 ^ d = 2 ^ (D - d) := by rw [hWP, Nat.mul_div_cancel _ hd0]
  have hlen := bin_len d (by lia) v hv16
  have hb16 : (binL v).length ≤ 4 := Nat.le_trans hlen (by lia)
  generalize 2 ^ (D - d) = P at *
  have hB : 0 < f * P := Nat.mul_pos (by lia) hP0
  have hB64 : 64 ≤ f * P := Nat.le_trans (show 64 ≤ f * 1 by lia) (Nat.mul_le_mul_left f hP0)
  have hB14 : f * P < 2 ^ 14 := Nat.lt_of_le_of_lt (Nat.mul_le_mul (Nat.le_of_lt_succ hf.2) hP16) (by decide)
  have hq := div_pt (t := t) hWP hv hB
  have hs := pt_small (f := f) (W := 2 ^ D) (A := A) (P := P) (t := t) hf.2 hW16 (Nat.le_trans (Nat.le_of_lt hA) hW16) (Nat.le_trans hP16 (by decide)) hB ht
  have hidm := idm_all (d := e) hB64 hB14 hs
  rw [hq.1, hq.2] at hidm
  have hfP : ev (CF (e + 4)) TK1 (.bin .mul (.var 113) (.var 117)) (setV 117 (.int P) vars) (ws.map V.str :: junk) = some (.int (f * P : Nat), ws.map V.str :: junk) := st_binI (st_var (gv_ne (by decide) w.g113)) (st_var gv_same) (mul_nat (by lia))
  generalize hr : t.fmod (f * P : Nat) = r at *
  have w1 : WV (setV 117 (.int P) vars) ds0 f ts D A := w.set (by decide)
  have w2 : WV (setV 119 (.int r) (setV 117 (.int P) vars)) ds0 f ts D A := w1.set (by decide)
  have w3 : WV (setV 85 (.int r) (setV 87 (.int (t * 2 ^ d + v)) (setV 119 (.int r) (setV 117 (.int P) vars)))) ds0 f ts D A := (w2.set (by decide)).set (by decide)
  have w4 : WV (setV 82 (.lst false (encN (binL v))) (setV 85 (.int r) (setV 87 (.int (t * 2 ^ d + v)) (setV 119 (.int r) (setV 117 (.int P) vars))))) ds0 f ts D A := w3.set (by decide)
  have hidx : ∀ {v' : Vars} {o : Own}, getV 55 v' = some (.lst true (encN ds0)) → getV 51 v' = some (.int k) → ev (CF (e + 4)) TK1 (.idx (.var 55) (.var 51)) v' o = some (.int d, o) := fun h1 h2 => sp_idx (st_var h1) (st_var h2) (it_lst (nats_at hk) (by rw [encN_len]; lia))
  have hidt : ∀ {v' : Vars} {o : Own}, getV 114 v' = some (.lst true (ts.map V.int)) → getV 51 v' = some (.int k) → ev (CF (e + 4)) TK1 (.idx (.var 114) (.var 51)) v' o = some (.int t, o) := fun h1 h2 => sp_idx (st_var h1) (st_var h2) (it_lst (ints_at hk2) (by rw [List.length_map]; lia))
  obtain ⟨j, hwd⟩ := word_ev (C := CF (e + 4)) (TK := TK1) (own := ws.map V.str :: junk) (v := v) hv16' (vars := setV 82 (.lst false (encN (binL v))) (setV 85 (.int r) (setV 87 (.int (t * 2 ^ d + v)) (setV 119 (.int r) (setV 117 (.int P) vars))))) gv_same
  have hwl : ((binL v).reverse.map fun b => 48 + b).length = (binL v).length := by rw [List.length_map, List.length_reverse]
  refine ⟨_, junk ++ j, st_next (own₁ := ws.map V.str :: junk) (st_asg (v := .int P) ?_) (st_next (own₁ := ws.map V.str :: junk) (st_asg (v := .int r) ?_) (st_next (own₁ := ws.map V.str :: junk) (st_unp (vs := [.int (t * 2 ^ d + v), .int r]) ?_ rfl) (st_next (own₁ := ws.map V.str :: junk) (st_ite_f (own₁ := ws.map V.str :: junk) ?_ st_nil) (st_next (own₁ := ws.map V.str :: junk) (st_asg (v := .lst false (encN (binL v))) ?_) (st_next (st_asg hwd) (st_next (st_exp (own₁ := (ws ++ [wordT d v]).map V.str :: (junk ++ j)) (st_meth (x := .ref 0) (vs := [.str (wordT d v)]) (own₁ := ws.map V.str :: junk ++ j) (own₂ := ws.map V.str :: junk ++ j) (st_var (gv_ne (by decide) w4.g67)) (st_evs ?_ st_evs_nil) ?_)) (st_next (st_aug (i := A) (j := P) (r := (A + P : Nat)) (gv_ne (by decide) w4.g116) (st_var ?_) rfl) st_nil))))))), (w4.set (i := 75) (by decide)).next⟩
  · refine st_binI (i := (2 ^ D : Nat)) (j := (2 ^ d : Nat)) (st_var w.g115) (st_pow2 (hidx w.g55 g51) (by lia)) ?_
    show (if ((2 ^ d : Nat) : Int) ≠ 0 ∧ ((2 ^ d : Nat) : Int).natAbs < 1073741824 then some (((2 ^ D : Nat) : Int).fdiv ((2 ^ d : Nat) : Int)) else none) = _
    rw [if_pos ⟨Int.ne_of_gt (Int.ofNat_lt.mpr hd0), by rw [Int.natAbs_natCast]; exact Nat.lt_of_le_of_lt hd16 (by decide)⟩, (fdm_nat _ _).1, hdiv]
  · refine st_binI (hidt w1.g114 (gv_ne (by decide) g51)) hfP ?_
    show (if ((f * P : Nat) : Int) ≠ 0 then some (t.fmod (f * P : Nat)) else none) = _
    rw [if_pos (show ((f * P : Nat) : Int) ≠ 0 from Int.ne_of_gt (Int.ofNat_lt.mpr hB)), hr]
  · refine sp_call (sp_evs (v := .int ((f : Int) * (((2 ^ D : Nat) : Int) * t + A) + r)) (st_binI (st_binI (st_var w2.g113) (st_binI (st_binI (st_var w2.g115) (hidt w2.g114 (gv_ne (by decide) (gv_ne (by decide) g51))) (mul_ok' ?_)) (st_var w2.g116) rfl) (mul_ok' ?_)) (st_var gv_same) rfl) (sp_evs (v := .int (f * P : Nat)) (st_binI (st_var w2.g113) (st_var (gv_ne (by decide) gv_same)) (mul_nat (by lia))) st_evs_nil)) rfl hidm
    · rw [Int.natAbs_natCast]; exact Nat.lt_of_le_of_lt hW16 (by decide)
    · rw [Int.natAbs_natCast]; lia
  · refine tst_or2 (p := false) (q := false) (sp_cmp (x := .int r) (y := .int r) (st_var gv_same) (st_var (gv_ne (by decide) (gv_ne (by decide) gv_same))) ?_) (sp_call (sp_evs (st_binI (st_var w3.g115) (st_var w3.g116) rfl) st_evs_nil) rfl ?_)
    · show some (!decide (r = r)) = _
      rw [decide_eq_true rfl]; rfl
    · rw [cf_run (by decide) (by decide) rfl, eof_run, decide_eq_false (by lia)]
  · refine sp_call (ws := [.int v, .int 1]) (sp_evs (v := .int v) (st_binI (st_var (gv_ne (by decide) gv_same)) (st_binI (hidt w3.g114 (gv_ne (by decide) (gv_ne (by decide) (gv_ne (by decide) (gv_ne (by decide) g51))))) (st_pow2 (hidx w3.g55 (gv_ne (by decide) (gv_ne (by decide) (gv_ne (by decide) (gv_ne (by decide) g51))))) (by lia)) (mul_ok ?_)) ?_) (sp_evs st_int st_evs_nil)) rfl (by rw [(cf_dig _).1]; exact bin_dig hv16')
    · rw [Int.natAbs_natCast]; exact Nat.lt_of_le_of_lt hd16 (by decide)
    · rw [Int.natCast_pow]
      exact congrArg some (by show t * ((2 : Nat) : Int) ^ d + v - t * ((2 : Nat) : Int) ^ d = v; lia)
  · refine st_cat (st_mulS (n := d - (binL v).length) st_str (st_binI (hidx (gv_ne (by decide) w4.g55) ?_) (st_len gv_same (by rw [hwl]; lia)) ?_) ?_ ?_) (st_var gv_same) ?_
    · exact gv_ne (by decide) (gv_ne (by decide) (gv_ne (by decide) (gv_ne (by decide) (gv_ne (by decide) (gv_ne (by decide) g51)))))
    · rw [hwl]
      exact congrArg some (by lia)
    · lia
    · decide
    · rw [rep_len, hwl]; show (d - (binL v).length) * 1 + (binL v).length ≤ _; lia
  · show (if (ws.map V.str).length ≤ 100000 then some (V.non, (ws.map V.str ++ [.str (wordT d v)]) :: (junk ++ j)) else none) = _
    rw [if_pos (by rw [List.length_map]; lia), List.map_append]; rfl
  · exact gv_ne (by decide) (gv_ne (by decide) (gv_ne (by decide) (gv_ne (by decide) (gv_ne (by decide) gv_same))))
end Mine
end
section
set_option maxRecDepth 100000
set_option autoImplicit false
namespace Mine
theorem wd_loop {e f D : Nat} {ds0 : List Nat} {ts : List Int} (hf : 100 ≤ f ∧ f < 1000) (hl : ds0.length ≤ 100) (hl2 : ds0.length ≤ ts.length ∧ ts.length ≤ 100) (ht : ∀ t ∈ ts, t.natAbs ≤ 2 ^ 63) : ∀ (ds : List Nat) (j A : Nat) (vars : Vars) (ws r : List (List Nat)) (junk : List (List V)), ds0.drop j = ds → wordsN D ds A = some r → WV vars ds0 f ts D A → ws.length + ds.length ≤ 1000 →
    ∃ vars' junk', forLoop [51] (.rng 0 ds0.length 1) (fun vars own => exs (CF (e + 4)) TK1 wdBody vars own) (ds.length + 1) j vars (ws.map V.str :: junk) = some (.next, vars', (ws ++ r).map V.str :: junk') ∧ WV vars' ds0 f ts D (2 ^ D)
  | [], j, A, vars, ws, r, junk, hdr, h, w, _ => by
    refine if_of h fun hA h => ?_
    cases h
    have hj : ds0.length ≤ j := List.drop_eq_nil_iff.mp hdr
    rw [List.append_nil, ← hA]
    exact ⟨vars, junk, for_end (by rw [iter01 (by lia), if_neg (Nat.not_lt.mpr hj)]), w⟩
  | d :: ds, j, A, vars, ws, r, junk, hdr, h, w, hw => if_of h fun hc h => bind_of h fun r1 hr1 h => by
    cases h
    have hj : ds0[j]? = some d := by
      have : (ds0.drop j)[0]? = some d := by rw [hdr]; rfl
      rw [List.getElem?_drop] at this; exact this
    have hjl := (List.getElem?_eq_some_iff.mp hj).1
    have hdr2 : ds0.drop (j + 1) = ds := by rw [← List.drop_drop, hdr]; rfl
    obtain ⟨t, htj⟩ : ∃ t, ts[j]? = some t := ⟨_, List.getElem?_eq_getElem (Nat.lt_of_lt_of_le hjl hl2.1)⟩
    have hw : ws.length + (ds.length + 1) ≤ 1000 := hw
    have hv : A = 2 ^ (D - d) * (A / 2 ^ (D - d)) := by
      have := Nat.div_add_mod A (2 ^ (D - d))
      rw [hc.2.2] at this
      exact this.symm
    obtain ⟨v1, j1, q1, q2⟩ := wd_step (e := e) (vars := setV 51 (.int (j : Nat)) vars) (ws := ws) (junk := junk) (w.set (by decide)) gv_same hf hc.1 hc.2.1 hv hj htj hl hl2.2 (ht t (List.mem_of_getElem? htj)) (by lia)
    obtain ⟨v2, j2, q3, q4⟩ := wd_loop hf hl hl2 ht ds (j + 1) _ v1 (ws ++ [wordT d (A / 2 ^ (D - d))]) r1 j1 hdr2 hr1 q2 (by rw [List.length_append]; show ws.length + 1 + ds.length ≤ 1000; lia)
    rw [List.append_assoc] at q3
    exact ⟨v2, j2, for_next (u := .int (j : Nat)) (by rw [iter01 (by lia), if_pos hjl]) rfl q1 q3, q4⟩
section
variable {C : Nat → List V → Option V} {TK : Nat → Option Int} {vars vars' vars₁ vars₂ : Vars} {own own' own₁ own₂ own₃ own₄ : Own}
theorem frz_strs (b : Bool) (own : Own) (n : Nat) : ∀ l : List (List Nat), mapO (frz b own (n + 1)) (l.map V.str) = some (l.map V.str)
  | [] => rfl
  | d :: l => mapO_c rfl (frz_strs b own n l)
theorem lst_len {x : Nat} {b : Bool} {vs : List V} (g : getV x vars = some (.lst b vs)) (hn : vs.length ≤ 1000) : ev C TK (.prim .len (.cons (.var x) .nil)) vars own = some (.int (vs.length : Nat), own) := by
  refine sp_prim (vs := [.lst b vs]) (sp_evs (st_var g) st_evs_nil) ?_
  show (if vs.length ≤ 1000000 then some (V.int vs.length, own) else none) = _
  rw [if_pos (Nat.le_trans hn (by decide))]
theorem words_run {e f D : Nat} {ds : List Nat} {ts : List Int} {r : List (List Nat)} (hf : 100 ≤ f ∧ f < 1000) (hl : ds.length ≤ 100) (hl2 : ds.length ≤ ts.length ∧ ts.length ≤ 100) (ht : ∀ t ∈ ts, t.natAbs ≤ 2 ^ 63) (hD : maxL (ds.map fun (k : Nat) => (k : Int)) = some (D : Int)) (hD4 : D ≤ 4) (h : wordsN D ds 0 = some r) :
    CF (e + 5) 66 [.lst true (encN ds), .int f, .lst true (ts.map V.int)] = some (.lst false (r.map V.str)) := by
  rw [cf_run (by decide) (by decide) rfl]
  obtain ⟨vs, hvs⟩ : ∃ vs : Vars, vs = [(55, .lst true (encN ds)), (113, .int f), (114, .lst true (ts.map V.int))] := ⟨_, rfl⟩
  have w0 : WV (setV 67 (.ref 0) (setV 116 (.int (0 : Nat)) (setV 115 (.int (2 ^ D : Nat)) vs))) ds f ts D 0 := by
    rw [hvs]; exact ⟨rfl, rfl, rfl, rfl, rfl, rfl⟩
  have g55 : getV 55 vs = some (.lst true (encN ds)) := by rw [hvs]; rfl
  obtain ⟨v', j', q1, q2⟩ := wd_loop (e := e) hf hl hl2 ht ds 0 0 _ [] r [] rfl h w0 (by rw [List.length_nil, Nat.zero_add]; lia)
  have key : exs (CF (e + 4)) TK1 l2_law_words.body vs [] = some (.ret (.ref 0), v', r.map V.str :: j') := by
    refine st_next (own₁ := []) (st_asg (st_pow2 (d := D) ?_ (by lia))) (st_next (own₁ := []) (st_asg (v := .int (0 : Nat)) st_int) (st_next (own₁ := [[]]) (st_asg (st_list (own₁ := []) st_evs_nil (show 0 ≤ 1000 by decide))) (st_next (own₁ := r.map V.str :: j') (st_for (v := .rng 0 ds.length 1) (own₁ := [[]]) (st_rng ?_ (by lia)) ?_) (st_stop (st_ret ?_)))))
    · refine sp_prim (vs := [.lst true (encN ds)]) (sp_evs (st_var g55) st_evs_nil) ?_
      show (intsO (encN ds)).bind _ = _
      unfold encN
      rw [intsO_nat]
      show (maxL (ds.map fun (k : Nat) => (k : Int))).bind _ = _
      rw [hD]; rfl
    · have := lst_len (C := CF (e + 4)) (TK := TK1) (own := [[]]) w0.g55 (by rw [encN_len]; lia)
      rw [encN_len] at this
      exact this
    · show forLoop [51] _ _ (rngN 0 (ds.length : Int) 1 + 1) 0 _ _ = _
      rw [rng01]
      exact q1
    · show (tstOf (ev (CF (e + 4)) TK1 (.call 39 (.cons (.bin .sub (.var 115) (.var 116)) .nil)) v' (r.map V.str :: j'))).bind _ = _
      rw [sp_tst (v := .bool true) (b := true) (sp_call (ws := [.int (((2 ^ D : Nat) : Int) - ((2 ^ D : Nat) : Int))]) (sp_evs (st_binI (st_var q2.g115) (st_var q2.g116) rfl) st_evs_nil) rfl (by rw [cf_run (by decide) (by decide) rfl, eof_run, decide_eq_true (by lia)])) rfl]
      exact st_var (C := CF (e + 4)) (TK := TK1) q2.g67
  rw [hvs] at key
  exact runF_of rfl key (frz_refS 4 rfl (frz_strs false _ 3 _))

/-- the tree that the words lead to -/
noncomputable def repO (words : List (List Nat)) : Tr → List Nat → Bool
  | .leaf k, f => decide (indexS f words = some k) && decide (k ≤ 4)
  | .node a b, f => (decide (indexS f words = none) && decide (f.length ≤ 4)) && (repO words a (f ++ [48]) && repO words b (f ++ [49]))
theorem any_str (x : List Nat) : ∀ l : List (List Nat), (l.map V.str).any (fun y => veq y (.str x)) = (indexS x l).isSome
  | [] => rfl
  | y :: l => by
    show (veq (.str y) (.str x) || (l.map V.str).any (fun y => veq y (.str x))) = _
    rw [any_str x l, show indexS x (y :: l) = if y = x then some 0 else (indexS x l).bind fun k => some (k + 1) from rfl]
    show (decide (y = x) || _) = _
    by_cases h : y = x
    · rw [if_pos h, decide_eq_true h]; rfl
    · rw [if_neg h, decide_eq_false h, Bool.false_or]
      cases indexS x l <;> rfl
noncomputable def smallS (l : List Nat) : Bool := l.all (· < 0x110000)
theorem okDs_strs : ∀ {l : List (List Nat)} (n : Nat), (∀ w ∈ l, smallS w = true) → okDs (l.map V.str) n = true
  | [], _, _ => rfl
  | w :: l, n, h => true_and (h w (.head _)) (okDs_strs n fun w hw => h w (.tail _ hw))
theorem in_strs {words : List (List Nat)} {f : List Nat} (h1 : ∀ w ∈ words, smallS w = true) (h2 : smallS f = true) : cop own .isin (.str f) (.lst true (words.map V.str)) = some (indexS f words).isSome := by
  show (frz true own 5 (.lst true (words.map V.str))).bind (fun u => (seqOf u).bind fun vs => if okD (.str f) 8 && okDs vs 8 then some (vs.any fun y => veq y (.str f)) else none) = _
  rw [frz_lstT 4 (frz_strs true own 3 words) true]
  show (if okD (.str f) 8 && okDs (words.map V.str) 8 then some ((words.map V.str).any fun y => veq y (.str f)) else none) = _
  rw [if_pos (show (okD (.str f) 8 && okDs (words.map V.str) 8) = true from true_and h2 (okDs_strs 8 h1)), any_str]
theorem idx_strs {words : List (List Nat)} {f : List Nat} {k : Nat} (hl : words.length ≤ 1000) (h : indexS f words = some k) : meth own .index (.lst true (words.map V.str)) [.str f] = some (.int k, own) := by
  show (strsO (words.map V.str)).bind _ = _
  have e := strsO_map (fun x : List Nat => x) words
  rw [List.map_id'] at e
  rw [show words.map V.str = words.map fun b => V.str b from rfl, e]
  show (if (words.map fun b => V.str b).length ≤ 100000 then (indexS f words).bind _ else none) = _
  rw [if_pos (by rw [List.length_map]; lia), h]; rfl
end
end Mine
end
section
set_option maxRecDepth 100000
set_option autoImplicit false
namespace Mine
section
variable {C : Nat → List V → Option V} {TK : Nat → Option Int} {vars vars' vars₁ vars₂ : Vars} {own own' own₁ own₂ own₃ own₄ : Own}
noncomputable def ioA (words : List (List Nat)) (sz : List Nat) (p : Int) (m : Nat) (f : List Nat) : List V := [.str f, .lst true (words.map V.str), .lst true (encN sz), .int p, .str [m]]
theorem ioA_frz (words : List (List Nat)) (sz : List Nat) (p : Int) (m : Nat) (f : List Nat) : mapO (frz true own depthF) (ioA words sz p m f) = some (ioA words sz p m f) :=
  mapO_c rfl (mapO_c (frz_lstT 4 (frz_strs true own 3 words) true) (mapO_c (frz_lstT 4 (frz_nats true own 3 sz) true) rfl))
theorem small_snoc {f : List Nat} {c : Nat} (h : smallS f = true) (hc : c < 100) : smallS (f ++ [c]) = true := by
  unfold smallS at *
  rw [List.all_append]
  exact true_and h (true_and (decide_eq_true (Nat.lt_trans hc (show 100 < 0x110000 by decide))) rfl)
theorem io_run {words : List (List Nat)} {sz : List Nat} {m : Nat} {p : Int} (hm : m = 38 ∨ m = 60 ∨ m = 62) (hp : okPick p m = true) (hsz : sz.length ≤ 100) (hw : words.length ≤ 100) (hws : ∀ w ∈ words, smallS w = true) :
    ∀ (t : Tr) (f : List Nat) (d : Nat), repO words t f = true → smallS f = true → OkLv sz (leavesT t 0) → hgt t + 3 ≤ d → CF d 120 (ioA words sz p m f) = some (.str (docT m sz t))
  | .leaf k, f, d, h, hf, ok, hd => by
    obtain ⟨d, rfl⟩ : ∃ e, d = e + 3 := ⟨d - 3, by lia⟩
    have h := and_true h
    have h1 := of_decide_eq_true h.1
    have h2 := of_decide_eq_true h.2
    have hs := ok.all _ (.head _)
    rw [cf_run (by decide) (by decide) rfl]
    obtain ⟨vs, hvs⟩ : ∃ vs : Vars, vs = [(121, .str f), (67, .lst true (words.map V.str)), (101, .lst true (encN sz)), (53, .int p), (59, .str [m])] := ⟨_, rfl⟩
    have g121 : getV 121 vs = some (.str f) := by rw [hvs]; rfl
    have g67 : getV 67 vs = some (.lst true (words.map V.str)) := by rw [hvs]; rfl
    have g101 : getV 101 vs = some (.lst true (encN sz)) := by rw [hvs]; rfl
    have g59 : getV 59 vs = some (.str [m]) := by rw [hvs]; rfl
    have t1 : tstOf (ev (CF (d + 2)) TK1 (.cmp .isin (.var 121) (.var 67)) vs []) = some (true, []) := sp_tst (sp_cmp (st_var g121) (st_var g67) (in_strs hws hf)) (by rw [h1]; rfl)
    have key : exs (CF (d + 2)) TK1 l2_law_in_order.body vs [] = some (.ret (.str (leafT m (sz.getD k 0) k)), setV 51 (.int (k : Nat)) vs, []) := by
      refine st_stop (st_ite_t (own₁ := []) t1 (st_next (own₁ := []) (st_asg (v := .int (k : Nat)) (sp_meth (st_var g67) (sp_evs (st_var g121) st_evs_nil) (idx_strs (by lia) h1))) (st_stop (st_ret (st_cat (st_mulS (st_var (gv_ne (by decide) g59)) (sp_idx (st_var (gv_ne (by decide) g101)) (st_var gv_same) (it_lst (sz_at hs.2.2.1) ?_)) ?_ ?_) (chr_ev (k := 65 + k) (st_binI st_int (st_var gv_same) (congrArg some (Int.natCast_add 65 k).symm)) ?_) ?_)))))
      · rw [encN_len]; lia
      · exact Nat.le_trans hs.2.2.2 (by decide)
      · exact Nat.le_of_ble_eq_true rfl
      · lia
      · rw [rep_len]; show (sz.getD k 0) * 1 + 1 ≤ _; have := hs.2.2.2; lia
    rw [hvs] at key
    exact runF_of rfl key rfl
  | .node a b, f, d, h, hf, ok, hd => by
    obtain ⟨d, rfl⟩ : ∃ e, d = e + 3 := ⟨d - 3, by lia⟩
    have h := and_true h
    have h1 := and_true h.1
    have h2 := and_true h.2
    have h3 := of_decide_eq_true h1.1
    have h4 := of_decide_eq_true h1.2
    have hg : hgt (.node a b) = max (hgt a) (hgt b) + 1 := rfl
    have ok' : OkLv sz (leavesT a 1 ++ leavesT b 1) := ok
    have oka := ok'.left.down
    have okb := ok'.right.down
    have ia := io_run hm hp hsz hw hws a (f ++ [48]) (d + 2) h2.1 (small_snoc hf (by decide)) oka (by lia)
    have ib := io_run hm hp hsz hw hws b (f ++ [49]) (d + 2) h2.2 (small_snoc hf (by decide)) okb (by lia)
    have la := doc_len hm 1 ok'.left
    have lb := doc_len hm 1 ok'.right
    rw [cf_run (by decide) (by decide) rfl]
    obtain ⟨vs, hvs⟩ : ∃ vs : Vars, vs = [(121, .str f), (67, .lst true (words.map V.str)), (101, .lst true (encN sz)), (53, .int p), (59, .str [m])] := ⟨_, rfl⟩
    have g121 : getV 121 vs = some (.str f) := by rw [hvs]; rfl
    have g67 : getV 67 vs = some (.lst true (words.map V.str)) := by rw [hvs]; rfl
    have t1 : tstOf (ev (CF (d + 2)) TK1 (.cmp .isin (.var 121) (.var 67)) vs []) = some (false, []) := sp_tst (sp_cmp (st_var g121) (st_var g67) (in_strs hws hf)) (by rw [h3]; rfl)
    have t2 : tstOf (ev (CF (d + 2)) TK1 (.cmp .gt (.prim .len (.cons (.var 121) .nil)) (.int 4)) vs []) = some (false, []) := st_cmpI (st_len g121 (by lia)) st_int (by show some (decide ((4 : Int) < (f.length : Int))) = _; rw [decide_eq_false (by lia)])
    have call : ∀ {c : Nat} {t : Tr} {v' : Vars}, getV 121 v' = some (.str f) → getV 67 v' = some (.lst true (words.map V.str)) → getV 101 v' = some (.lst true (encN sz)) → getV 53 v' = some (.int p) → getV 59 v' = some (.str [m]) → CF (d + 2) 120 (ioA words sz p m (f ++ [c])) = some (.str (docT m sz t)) → OkLv sz (leavesT t 0) →
        ev (CF (d + 2)) TK1 (.call 52 (.cons (.var 53) (.cons (.call 120 (.cons (.bin .add (.var 121) (.str [c])) (.cons (.var 67) (.cons (.var 101) (.cons (.var 53) (.cons (.var 59) .nil)))))) .nil))) v' [] = some (.str (escT (docT m sz t)), []) := fun g0 g1 g2 g3 g4 hc ho =>
      sp_call (ws := [.int p, .str _]) (sp_evs (st_var g3) (sp_evs (sp_call (sp_evs (st_cat (st_var g0) st_str (Nat.le_trans (Nat.add_le_add_right h4 1) (by decide))) (sp_evs (st_var g1) (sp_evs (st_var g2) (sp_evs (st_var g3) (sp_evs (st_var g4) st_evs_nil))))) (ioA_frz words sz p m _) hc) st_evs_nil)) rfl (spell hp (doc_ok hm ho))
    have key : ∃ v', exs (CF (d + 2)) TK1 l2_law_in_order.body vs [] = some (.ret (.str (escT (docT m sz a) ++ escT (docT m sz b))), v', []) := by
      refine ⟨_, st_next (st_ite_f (own₁ := []) t1 st_nil) (st_next (st_ite_f (own₁ := []) t2 st_nil) (st_next (own₁ := []) (st_asg (v := .str (escT (docT m sz a))) (call (t := a) g121 g67 ?_ ?_ ?_ ia oka)) (st_stop (st_ret (st_cat (st_var gv_same) (call (t := b) (gv_ne (by decide) g121) (gv_ne (by decide) g67) ?_ ?_ ?_ ib okb) ?_)))))⟩
      all_goals first | (rw [hvs]; rfl) | skip
      exact Nat.le_trans (Nat.add_le_add la lb) (by decide)
    obtain ⟨v', key⟩ := key
    rw [hvs] at key
    exact runF_of rfl key rfl
theorem lev_at {d : Nat} {a b : List Nat} {mc : Int} (ha : asc a = true) (hb : asc b = true) (la : a.length ≤ 400) (lb : b.length ≤ 400) : CF (d + 1) 5 [.str a, .str b, .int mc] = some (.int (levG a b mc)) := by
  show (if (asc a && asc b) = true ∧ a.length ≤ 400 ∧ b.length ≤ 400 then some (V.int (levG a b mc)) else none) = _
  rw [if_pos ⟨true_and ha hb, la, lb⟩]
noncomputable def okLev (m s d k : Nat) : Bool := (decide (9 < s * d) || decide (levG (rep s [m]) (markT m s d) ((8 * s * d + k : Nat) : Int) = ((8 * s * d : Nat) : Int))) && (asc (rep s [m]) && asc (markT m s d)) && (decide ((rep s [m]).length ≤ 400) && decide ((markT m s d).length ≤ 400))
theorem lev_all : ([38, 60, 62].all fun m => [1, 2, 3].all fun s => [1, 2, 3, 4].all fun d => [0, 1, 2, 3, 4].all fun k => okLev m s d k) = true := by decide +kernel
theorem lev_ok {m s d k e : Nat} (hm : m = 38 ∨ m = 60 ∨ m = 62) (hs : 1 ≤ s ∧ s ≤ 3) (hd : 1 ≤ d ∧ d ≤ 4) (hk : k ≤ 4) (h9 : s * d ≤ 9) : CF (e + 1) 5 [.str (rep s [m]), .str (markT m s d), .int (8 * s * d + k : Nat)] = some (.int (8 * s * d : Nat)) := by
  have h1 := List.all_eq_true.mp lev_all m (by rcases hm with rfl | rfl | rfl <;> simp)
  have h2 := List.all_eq_true.mp h1 s (by obtain ⟨a, b⟩ := hs; match s, a, b with | 1, _, _ => simp | 2, _, _ => simp | 3, _, _ => simp)
  have h3 := List.all_eq_true.mp h2 d (by obtain ⟨a, b⟩ := hd; match d, a, b with | 1, _, _ => simp | 2, _, _ => simp | 3, _, _ => simp | 4, _, _ => simp)
  have h4 := and_true (List.all_eq_true.mp h3 k (by match k, hk with | 0, _ => simp | 1, _ => simp | 2, _ => simp | 3, _ => simp | 4, _ => simp))
  have h5 := and_true h4.1
  have h6 := and_true h5.2
  have h7 := and_true h4.2
  rw [lev_at h6.1 h6.2 (of_decide_eq_true h7.1) (of_decide_eq_true h7.2)]
  refine congrArg (fun i => some (V.int i)) ((Bool.or_eq_true_iff.mp h5.1).elim (fun q => absurd (of_decide_eq_true q) (Nat.not_lt.mpr h9)) fun q => of_decide_eq_true q)
end
end Mine
end
section
set_option maxRecDepth 100000
set_option autoImplicit false
namespace Mine
noncomputable def minN : List Nat → Nat
  | [] => 0
  | x :: xs => xs.foldl (fun m y => if y < m then y else m) x
noncomputable def fewN : Nat → List Nat → Nat
  | 0, _ => 0
  | f + 1, l => if l.length = 1 then 0 else l.sum + minN ((List.range (l.length - 1)).map fun i => fewN f (l.take (i + 1)) + fewN f (l.drop (i + 1)))
theorem fold_min : ∀ (xs : List Nat) (x : Nat), (xs.map fun (k : Nat) => (k : Int)).foldl (fun m y => if y < m then y else m) (x : Int) = ((xs.foldl (fun m y => if y < m then y else m) x : Nat) : Int)
  | [], _ => rfl
  | y :: xs, x => by
    rw [List.map_cons, List.foldl_cons, List.foldl_cons, ← fold_min xs]
    congr 1
    by_cases h : y < x
    · rw [if_pos h, if_pos (Int.ofNat_lt.mpr h)]
    · rw [if_neg h, if_neg (fun q => h (Int.ofNat_lt.mp q))]
theorem minL_nat {l : List Nat} (h : l ≠ []) : minL (l.map fun (k : Nat) => (k : Int)) = some (minN l : Int) := by
  cases l with
  | nil => exact absurd rfl h
  | cons x xs => exact congrArg some (fold_min xs x)
theorem sum_nat : ∀ l : List Nat, (l.map fun (k : Nat) => (k : Int)).sum = ((l.sum : Nat) : Int)
  | [] => rfl
  | x :: l => by rw [List.map_cons, List.sum_cons, List.sum_cons, sum_nat l, Int.natCast_add]
section
variable {C : Nat → List V → Option V} {TK : Nat → Option Int} {vars vars' vars₁ vars₂ : Vars} {own own' own₁ own₂ own₃ own₄ : Own}
theorem optI_nat {i : Nat} (h : i ≤ 1000) : optI (.int (i : Nat)) = some (some (i : Int)) := if_pos ⟨by lia, by lia⟩
theorem slc_take {b : Bool} {l : List V} {i : Nat} (h : i ≤ l.length) (hl : l.length ≤ 1000) : slc own (.lst b l) .non (.int (i : Nat)) = some (.ref own.length, own ++ [l.take i]) := by
  show (optI (.int (i : Nat))).bind _ = _
  rw [optI_nat (Nat.le_trans h hl)]
  show (if l.length ≤ 100000 then some (V.ref own.length, own ++ [cut l none (some (i : Int))]) else none) = _
  rw [if_pos (Nat.le_trans hl (by decide))]
  have e : normI l.length (i : Int) = i := by unfold normI; rw [if_neg (by lia), Int.toNat_natCast]; lia
  unfold cut
  simp only [e, List.drop_zero, Nat.sub_zero]
theorem slc_drop {b : Bool} {l : List V} {i : Nat} (h : i ≤ l.length) (hl : l.length ≤ 1000) : slc own (.lst b l) (.int (i : Nat)) .non = some (.ref own.length, own ++ [l.drop i]) := by
  show (optI (.int (i : Nat))).bind _ = _
  rw [optI_nat (Nat.le_trans h hl)]
  show (if l.length ≤ 100000 then some (V.ref own.length, own ++ [cut l (some (i : Int)) none]) else none) = _
  rw [if_pos (Nat.le_trans hl (by decide))]
  have e : normI l.length (i : Int) = i := by unfold normI; rw [if_neg (by lia), Int.toNat_natCast]; lia
  unfold cut
  simp only [e]
  rw [List.take_of_length_le (by rw [List.length_drop]; exact Nat.le_refl _)]
noncomputable def fwE : E := .bin .add (.call 122 (.cons (.slice (.var 101) .non (.var 123)) .nil)) (.call 122 (.cons (.slice (.var 101) (.var 123) .non) .nil))
noncomputable def fwX (l : List Nat) (j : Nat) : List (List V) := ((List.range j).map fun i => [encN (l.take (i + 1)), encN (l.drop (i + 1))]).flatten
theorem fwX_next (l : List Nat) (j : Nat) : fwX l (j + 1) = fwX l j ++ [encN (l.take (j + 1)), encN (l.drop (j + 1))] := by
  unfold fwX
  rw [List.range_succ, List.map_append, List.flatten_append]; rfl
theorem encN_take (l : List Nat) (i : Nat) : (encN l).take i = encN (l.take i) := by unfold encN; rw [List.map_take]
theorem encN_drop (l : List Nat) (i : Nat) : (encN l).drop i = encN (l.drop i) := by unfold encN; rw [List.map_drop]
theorem fw_ev {l : List Nat} {i x y : Nat} (g101 : getV 101 vars = some (.lst true (encN l))) (g123 : getV 123 vars = some (.int (i : Nat))) (hi : i ≤ l.length) (hl : l.length ≤ 100) (h1 : C 122 [.lst true (encN (l.take i))] = some (.int (x : Nat))) (h2 : C 122 [.lst true (encN (l.drop i))] = some (.int (y : Nat))) :
    ev C TK fwE vars own = some (.int (x + y : Nat), own ++ [encN (l.take i), encN (l.drop i)]) := by
  have hl' : (encN l).length ≤ 1000 := by rw [encN_len]; lia
  have hi' : i ≤ (encN l).length := by rw [encN_len]; exact hi
  have s1 : ev C TK (.slice (.var 101) .non (.var 123)) vars own = some (.ref own.length, own ++ [encN (l.take i)]) := st_slice (st_var g101) st_non (st_var g123) (by rw [slc_take hi' hl', encN_take])
  have s2 : ev C TK (.slice (.var 101) (.var 123) .non) vars (own ++ [encN (l.take i)]) = some (.ref (own ++ [encN (l.take i)]).length, own ++ [encN (l.take i)] ++ [encN (l.drop i)]) := st_slice (st_var g101) (st_var g123) st_non (by rw [slc_drop hi' hl', encN_drop])
  have c1 : ev C TK (.call 122 (.cons (.slice (.var 101) .non (.var 123)) .nil)) vars own = some (.int (x : Nat), own ++ [encN (l.take i)]) := st_call (ws := [.lst true (encN (l.take i))]) (st_evs s1 st_evs_nil) (mapO_c (frz_refS (b := true) 4 List.getElem?_concat_length (frz_nats true _ 3 _)) rfl) h1
  have c2 : ev C TK (.call 122 (.cons (.slice (.var 101) (.var 123) .non) .nil)) vars (own ++ [encN (l.take i)]) = some (.int (y : Nat), own ++ [encN (l.take i)] ++ [encN (l.drop i)]) := st_call (ws := [.lst true (encN (l.drop i))]) (st_evs s2 st_evs_nil) (mapO_c (frz_refS (b := true) 4 List.getElem?_concat_length (frz_nats true _ 3 _)) rfl) h2
  have := st_binI (o := .add) c1 c2 (c := ((x + y : Nat) : Int)) (congrArg some (Int.natCast_add x y).symm)
  rw [List.append_assoc] at this
  exact this
theorem rng1 (n : Nat) : rngN 1 (n : Int) 1 = n - 1 := by
  unfold rngN
  rw [if_pos (by decide)]
  by_cases h : (1 : Int) < n
  · rw [if_pos h, Int.ediv_one]; lia
  · rw [if_neg h]; show 0 = _; lia
theorem it_rng1 {n : Nat} (hn : n ≤ 1000) (o : Own) (j : Nat) : iterAt o (.rng 1 n 1) j = some ((List.range (n - 1)).map fun (k : Nat) => V.int (k + 1 : Nat))[j]? := by
  show (if rngB (1, (n : Int), 1) = true then (if j < rngN 1 n 1 then some (some (V.int (1 + j * 1))) else some none) else none) = _
  have hb : rngB (1, (n : Int), 1) = true := by
    unfold rngB smallI
    simp only [Bool.and_eq_true, decide_eq_true_eq]
    exact ⟨⟨⟨by decide, by lia⟩, by decide⟩, by decide⟩
  rw [if_pos hb, rng1, List.getElem?_map]
  by_cases h : j < n - 1
  · rw [if_pos h, List.getElem?_range h]
    show some (some (V.int (1 + (j : Int) * 1))) = some (some (V.int ((j + 1 : Nat) : Int)))
    rw [Int.mul_one, Int.add_comm]; rfl
  · rw [if_neg h, List.getElem?_eq_none (by rw [List.length_range]; exact Nat.le_of_not_lt h)]; rfl
theorem rng2_ev {a b : E} {n : Nat} (h1 : ev C TK a vars own = some (.int 1, own)) (h2 : ev C TK b vars own = some (.int (n : Nat), own)) (hn : n ≤ 1000) : ev C TK (.prim .range (.cons a (.cons b .nil))) vars own = some (.rng 1 n 1, own) := by
  refine sp_prim (sp_evs h1 (sp_evs h2 st_evs_nil)) ?_
  show (if rngB (1, (n : Int), 1) = true then _ else none) = _
  rw [if_pos (by
    unfold rngB smallI
    simp only [Bool.and_eq_true, decide_eq_true_eq]
    exact ⟨⟨⟨by decide, by lia⟩, by decide⟩, by decide⟩)]
theorem few_run : ∀ (k : Nat) (l : List Nat) (d : Nat), 1 ≤ l.length → l.length ≤ k → k ≤ d → l.length ≤ 100 → CF d 122 [.lst true (encN l)] = some (.int (fewN k l : Nat))
  | 0, l, d, h1, h2, _, _ => absurd h1 (Nat.not_le.mpr (Nat.lt_succ_of_le h2))
  | k + 1, l, d, h1, h2, hd, hl => by
    obtain ⟨d, rfl⟩ : ∃ e, d = e + 1 := ⟨d - 1, by lia⟩
    rw [cf_run (by decide) (by decide) rfl]
    obtain ⟨vs, hvs⟩ : ∃ vs : Vars, vs = [(101, .lst true (encN l))] := ⟨_, rfl⟩
    have g101 : getV 101 vs = some (.lst true (encN l)) := by rw [hvs]; rfl
    have hlen : ∀ {o : Own}, ev (CF d) TK1 (.prim .len (.cons (.var 101) .nil)) vs o = some (.int (l.length : Nat), o) := fun {o} => by
      have := lst_len (C := CF d) (TK := TK1) (own := o) g101 (by rw [encN_len]; lia)
      rw [encN_len] at this; exact this
    have t1 : tstOf (ev (CF d) TK1 (.cmp .eq (.prim .len (.cons (.var 101) .nil)) (.int 1)) vs []) = some (decide (l.length = 1), []) := st_cmpI hlen st_int (by
      show some (decide ((l.length : Int) = 1)) = _
      exact congrArg some (decide_eq_decide.mpr ⟨fun q => by lia, fun q => by lia⟩))
    by_cases hl1 : l.length = 1
    · have key : exs (CF d) TK1 l2_law_fewest.body vs [] = some (.ret (.int 0), vs, []) := st_stop (st_ite_t (by rw [t1, decide_eq_true hl1]) (st_stop (st_ret st_int)))
      rw [hvs] at key
      have e : fewN (k + 1) l = 0 := if_pos hl1
      rw [e]
      exact runF_of rfl key rfl
    · have key : ∃ o, exs (CF d) TK1 l2_law_fewest.body vs [] = some (.ret (.int (fewN (k + 1) l : Nat)), vs, o) := by
        have hsum : ev (CF d) TK1 (.prim .sum (.cons (.var 101) .nil)) vs [] = some (.int (l.sum : Nat), []) := by
          refine sp_prim (sp_evs (st_var g101) st_evs_nil) ?_
          show (intsO (encN l)).bind _ = _
          unfold encN
          rw [intsO_nat]
          show some (V.int (l.map fun (k : Nat) => (k : Int)).sum, ([] : Own)) = _
          rw [sum_nat]
        have hcomp := st_compx (C := CF d) (TK := TK1) (elt := fwE) (ts := [123]) (vars := vs) (own := []) (own₁ := []) (g := fun i => .int (fewN k (l.take (i + 1)) + fewN k (l.drop (i + 1)) : Nat)) (ex := fwX l) rfl (rng2_ev (n := l.length) st_int hlen (by lia)) (fun o j => it_rng1 (by lia) _ j) (by
            show rngN 1 (l.length : Int) 1 + 1 = _
            rw [rng1, List.length_map, List.length_range]) (by rw [List.length_map, List.length_range]; lia) fun j u hu => by
          rw [List.getElem?_map] at hu
          obtain ⟨i, hi, rfl⟩ := Option.map_eq_some_iff.mp hu
          have hj := (List.getElem?_eq_some_iff.mp hi).1
          rw [List.length_range] at hj
          rw [List.getElem?_range hj] at hi
          cases hi
          refine ⟨_, rfl, ?_⟩
          have := fw_ev (C := CF d) (TK := TK1) (own := [] ++ (List.range j).map (fun i => V.int (fewN k (l.take (i + 1)) + fewN k (l.drop (i + 1)) : Nat)) :: fwX l j) (vars := setV 123 (.int (j + 1 : Nat)) vs) (i := j + 1) (gv_ne (by decide) g101) gv_same (by lia) hl
            (few_run k (l.take (j + 1)) d (by rw [List.length_take]; lia) (by rw [List.length_take]; lia) (by lia) (by rw [List.length_take]; lia)) (few_run k (l.drop (j + 1)) d (by rw [List.length_drop]; lia) (by rw [List.length_drop]; lia) (by lia) (by rw [List.length_drop]; lia))
          rw [fwX_next]
          exact this
        rw [List.length_map, List.length_range, List.nil_append] at hcomp
        have e : fewN (k + 1) l = l.sum + minN ((List.range (l.length - 1)).map fun i => fewN k (l.take (i + 1)) + fewN k (l.drop (i + 1))) := if_neg hl1
        have hmin : ev (CF d) TK1 (.prim .min (.cons (.comp fwE [123] (.prim .range (.cons (.int 1) (.cons (.prim .len (.cons (.var 101) .nil)) .nil)))) .nil)) vs [] = some (.int (minN ((List.range (l.length - 1)).map fun i => fewN k (l.take (i + 1)) + fewN k (l.drop (i + 1))) : Nat), (List.range (l.length - 1)).map (fun i => V.int (fewN k (l.take (i + 1)) + fewN k (l.drop (i + 1)) : Nat)) :: fwX l (l.length - 1)) := by
          refine st_prim (st_evs hcomp st_evs_nil) ?_
          show (intsO ((List.range (l.length - 1)).map (fun i => V.int (fewN k (l.take (i + 1)) + fewN k (l.drop (i + 1)) : Nat)))).bind _ = _
          have e2 := intsO_nat ((List.range (l.length - 1)).map fun i => fewN k (l.take (i + 1)) + fewN k (l.drop (i + 1)))
          rw [List.map_map] at e2
          rw [show (List.range (l.length - 1)).map (fun i => V.int (fewN k (l.take (i + 1)) + fewN k (l.drop (i + 1)) : Nat)) = (List.range (l.length - 1)).map ((fun (k : Nat) => V.int k) ∘ fun i => fewN k (l.take (i + 1)) + fewN k (l.drop (i + 1))) from rfl, e2]
          show (minL (((List.range (l.length - 1)).map fun i => fewN k (l.take (i + 1)) + fewN k (l.drop (i + 1))).map fun (k : Nat) => (k : Int))).bind _ = _
          rw [minL_nat fun q => by
            have := congrArg List.length q
            rw [List.length_map, List.length_range] at this
            have : l.length - 1 = 0 := this
            lia]
          rfl
        rw [e]
        exact ⟨_, st_next (st_ite_f (by rw [t1, decide_eq_false hl1]) st_nil) (st_stop (st_ret (st_binI hsum hmin (congrArg some (Int.natCast_add _ _).symm))))⟩
      obtain ⟨o, key⟩ := key
      rw [hvs] at key
      exact runF_of rfl key rfl
end
end Mine
end
section
set_option maxRecDepth 100000
set_option autoImplicit false
set_option maxHeartbeats 0
namespace Mine
open PySem PySem.W PyProof.Rows
noncomputable def natOf (v : V) : Option Nat := (intOf v).bind fun i => if 0 ≤ i then some i.toNat else none
noncomputable def pairOf (v : V) : Option (Nat × Nat) := (tupOf v).bind fun l => (two l).bind fun p => (natOf p.1).bind fun a => (natOf p.2).bind fun b => some (a, b)
noncomputable def newOf : V → Option (List V)
  | .lst false vs => some vs | _ => none
theorem newOf_is {v : V} {vs : List V} (h : newOf v = some vs) : v = .lst false vs := by
  cases v with
  | lst b us => cases b <;> cases h; rfl
  | _ => cases h
theorem natOf_is {v : V} {n : Nat} (h : natOf v = some n) : v = .int n := bind_of h fun i hi h => if_of h fun h0 h => by
  cases h
  rw [Int.toNat_of_nonneg h0]
  exact intOf_is hi
theorem pairOf_is {v : V} {p : Nat × Nat} (h : pairOf v = some p) : v = encP p := bind_of h fun l hl h => bind_of h fun q hq h => bind_of h fun a ha h => bind_of h fun b hb h => by
  cases h
  rw [tupOf_is hl, two_is hq, natOf_is ha, natOf_is hb]; rfl
theorem pairs_is : ∀ {vs : List V} {rs : List (Nat × Nat)}, mapO pairOf vs = some rs → vs = encR rs
  | [], rs, h => by cases h; rfl
  | v :: vs, rs, h => bind_of h fun p hp h => bind_of h fun q hq h => by
    cases h
    rw [pairOf_is hp, pairs_is hq]; rfl
noncomputable def decR (o : Option V) : Option (List (Nat × Nat)) := o.bind fun v => (newOf v).bind (mapO pairOf)
theorem decR_is {o : Option V} {rs : List (Nat × Nat)} (h : decR o = some rs) : o = some (.lst false (encR rs)) := bind_of h fun v hv h => bind_of h fun vs hvs h => by
  rw [hv, newOf_is hvs, pairs_is h]
noncomputable def buildT (rules : List (Nat × Nat)) : Nat → Nat → Option Tr
  | 0, _ => none
  | f + 1, s => if s < 256 then some (.leaf (255 - s)) else rules[s - 256]?.bind fun p => (buildT rules f p.1).bind fun a => (buildT rules f p.2).bind fun b => some (.node a b)
noncomputable def buildO (ws : List (List Nat)) : Nat → List Nat → Option Tr
  | 0, _ => none
  | f + 1, x => (indexS x ws).elim ((buildO ws f (x ++ [48])).bind fun a => (buildO ws f (x ++ [49])).bind fun b => some (.node a b)) fun k => some (.leaf k)
noncomputable def sortR (ks : List V) (ls : List (Nat × Nat)) : Option (List (Nat × Nat)) := (runK (askO ks) (kas_sort ls.length)).bind fun p => mapO (fun i => ls[i]?) p.toList
noncomputable def okLs (s : List Nat) (ls : List (Nat × Nat)) : Bool := decide (ls.length ≤ 5) && ls.all fun p => decide ((p.1 ≤ 4 ∧ p.2 ≤ 4 ∧ 1 ≤ s.getD p.1 0 ∧ s.getD p.1 0 ≤ 3) ∧ 1 ≤ p.2 ∧ s.getD p.1 0 * p.2 ≤ 9)
/-- all that the law needs of the sizes -/
structure SOk (C : Nat → List V → Option V) (s : List Nat) (rules : List (Nat × Nat)) (t t' : Tr) (sl : List (Nat × Nat)) (ws : List (List Nat)) (D : Nat) : Prop where
  hr : runF C TK1 l2_law_joined [.lst true (encN s)] = some (.lst false (encR rules))
  rl : rules.length ≤ 100
  ht : repT rules t (255 + rules.length) = true
  hg : hgt t ≤ 4
  ok : okLs s (leavesT t 0) = true
  n1 : (leavesT t 0).length = s.length
  n2 : 2 ≤ s.length
  s1 : sortR ((leavesT t 0).map fun q => .int q.1) (leavesT t 0) = some sl
  s2 : sortR ((leavesT t 0).map fun q => .str [65 + q.1]) (leavesT t 0) = some sl
  sl1 : sl.map (·.1) = List.range s.length
  oks : okLs s sl = true
  hD : maxL ((sl.map (·.2)).map fun (k : Nat) => (k : Int)) = some (D : Int)
  D4 : D ≤ 4
  hw : wordsN D (sl.map (·.2)) 0 = some ws
  wl : ws.length ≤ 100
  wsm : ws.all smallS = true
  ho : repO ws t' [] = true
  hol : leavesT t' 0 = sl
  hg' : hgt t' ≤ 4
  few : fewN s.length s = (sl.map fun p => s.getD p.1 0 * p.2).sum
noncomputable def chk1 (s : List Nat) (rules : List (Nat × Nat)) (t : Tr) : Bool := ((decide (rules.length ≤ 100) && repT rules t (255 + rules.length)) && (decide (hgt t ≤ 4) && okLs s (leavesT t 0))) && (decide ((leavesT t 0).length = s.length) && decide (2 ≤ s.length))
noncomputable def chk2 (s : List Nat) (t : Tr) (sl : List (Nat × Nat)) : Bool := (decide (sortR ((leavesT t 0).map fun q => .str [65 + q.1]) (leavesT t 0) = some sl) && decide (sl.map (·.1) = List.range s.length)) && (okLs s sl && decide (fewN s.length s = (sl.map fun p => s.getD p.1 0 * p.2).sum))
noncomputable def chk3 (sl : List (Nat × Nat)) (D : Nat) (ws : List (List Nat)) (t' : Tr) : Bool := ((decide (maxL ((sl.map (·.2)).map fun (k : Nat) => (k : Int)) = some (D : Int)) && decide (D ≤ 4)) && (decide (ws.length ≤ 100) && ws.all smallS)) && (repO ws t' [] && (decide (leavesT t' 0 = sl) && decide (hgt t' ≤ 4)))
noncomputable def maxD (sl : List (Nat × Nat)) : Nat := sl.foldl (fun m p => max m p.2) 0
noncomputable def chkS (C : Nat → List V → Option V) (s : List Nat) : Bool := (decR (runF C TK1 l2_law_joined [.lst true (encN s)])).any fun rules => (buildT rules 6 (255 + rules.length)).any fun t => chk1 s rules t && (sortR ((leavesT t 0).map fun q => .int q.1) (leavesT t 0)).any fun sl =>
  chk2 s t sl && (wordsN (maxD sl) (sl.map (·.2)) 0).any fun ws => (buildO ws 6 []).any fun t' => chk3 sl (maxD sl) ws t'
theorem chkS_ok {C : Nat → List V → Option V} {s : List Nat} (h : chkS C s = true) {P : Prop} (k : ∀ rules t t' sl ws D, SOk C s rules t t' sl ws D → P) : P :=
  any_of h fun rules hr h => any_of h fun t _ h => by
    have h := and_true h
    have a := and_true h.1
    have a1 := and_true a.1
    have a2 := and_true a1.1
    have a3 := and_true a1.2
    have a4 := and_true a.2
    refine any_of h.2 fun sl hsl h => ?_
    have h := and_true h
    have b := and_true h.1
    have b1 := and_true b.1
    have b2 := and_true b.2
    refine any_of h.2 fun ws hws h => any_of h fun t' _ h => ?_
    have c := and_true h
    have c1 := and_true c.1
    have c2 := and_true c1.1
    have c3 := and_true c1.2
    have c4 := and_true c.2
    have c5 := and_true c4.2
    exact k rules t t' sl ws (maxD sl) ⟨decR_is hr, of_decide_eq_true a2.1, a2.2, of_decide_eq_true a3.1, a3.2, of_decide_eq_true a4.1, of_decide_eq_true a4.2, hsl, of_decide_eq_true b1.1, of_decide_eq_true b1.2, b2.1, of_decide_eq_true c2.1, of_decide_eq_true c2.2, hws, of_decide_eq_true c3.1, c3.2, c4.1, of_decide_eq_true c5.1, of_decide_eq_true c5.2, of_decide_eq_true b2.2⟩
noncomputable def listsN : Nat → List (List Nat)
  | 0 => [[]]
  | n + 1 => (listsN n).flatMap fun l => [1 :: l, 2 :: l, 3 :: l]
theorem lists_mem : ∀ {l : List Nat}, (∀ x ∈ l, 1 ≤ x ∧ x ≤ 3) → l ∈ listsN l.length
  | [], _ => .head _
  | x :: l, h => by
    have ih := lists_mem (l := l) fun y hy => h y (.tail _ hy)
    have hx := h x (.head _)
    refine List.mem_flatMap.mpr ⟨l, ih, ?_⟩
    match x, hx with
    | 1, _ => exact .head _
    | 2, _ => exact .tail _ (.head _)
    | 3, _ => exact .tail _ (.tail _ (.head _))
end Mine
end
section
set_option maxRecDepth 100000
set_option autoImplicit false
namespace Mine
/-- few leaves, of known sizes and depths: what okLs says -/
theorem okLs_is {s : List Nat} {ls : List (Nat × Nat)} (h : okLs s ls = true) : ls.length ≤ 5 ∧ ∀ p ∈ ls, (p.1 ≤ 4 ∧ p.2 ≤ 4 ∧ 1 ≤ s.getD p.1 0 ∧ s.getD p.1 0 ≤ 3) ∧ 1 ≤ p.2 ∧ s.getD p.1 0 * p.2 ≤ 9 := by
  have h := and_true h
  exact ⟨of_decide_eq_true h.1, fun p hp => of_decide_eq_true (List.all_eq_true.mp h.2 p hp)⟩
theorem okLs_ok {s : List Nat} {ls : List (Nat × Nat)} (h : okLs s ls = true) : OkLv s ls := ⟨(okLs_is h).1, fun p hp => ((okLs_is h).2 p hp).1⟩
/-- a tree's page is its leaves' texts, one after the other -/
theorem page_is {m : Nat} {s : List Nat} {t : Tr} (hm : m = 38 ∨ m = 60 ∨ m = 62) (h : okLs s (leavesT t 0) = true) : docT m s t = ((leavesT t 0).map (lineT m s)).flatten := by
  have e := doc_esc m s t 0
  have e : docT m s t = ((leavesT t 0).map (bitT m s)).flatten := e
  rw [e]
  congr 1
  refine List.map_congr_left fun p hp => ?_
  have q := (okLs_is h).2 p hp
  exact bit_mark (bit_ok hm q.1.2.2 q.1.2.1 q.1.1) (Nat.ne_of_gt q.2.1)
section
variable {C : Nat → List V → Option V} {TK : Nat → Option Int} {vars vars' vars₁ vars₂ : Vars} {own own' own₁ own₂ own₃ own₄ : Own}
theorem joinS_nil : ∀ l : List (List Nat), joinS [] l = l.flatten
  | [] => rfl
  | [x] => (List.append_nil x).symm
  | x :: y :: l => by
    show x ++ [] ++ joinS [] (y :: l) = x ++ (y :: l).flatten
    rw [List.append_nil, joinS_nil (y :: l)]
theorem join_ev {c : E} {l : List (List Nat)} (h : ev C TK c vars own = some (.ref own₁.length, own₁ ++ [l.map V.str])) (hl : l.flatten.length ≤ 100000) (hn : l.length ≤ 1000) :
    ev C TK (.meth .join (.str []) (.cons c .nil)) vars own = some (.str l.flatten, own₁ ++ [l.map V.str]) := by
  refine st_meth st_str (st_evs h st_evs_nil) ?_
  show ((own₁ ++ [l.map V.str])[own₁.length]?).bind _ = _
  rw [List.getElem?_concat_length]
  show (strsO (l.map V.str)).bind _ = _
  have e := strsO_map (fun x : List Nat => x) l
  rw [List.map_id'] at e
  rw [show l.map V.str = l.map fun b => V.str b from rfl, e]
  show (if (joinS [] l).length ≤ 100000 ∧ l.length ≤ 1000 ∧ ([] : List Nat).length ≤ 1000 then _ else none) = _
  rw [joinS_nil, if_pos ⟨hl, hn, by decide⟩]
noncomputable def lineE (ed : E) : E := .bin .add (.call 110 (.cons (.var 59) (.cons (.idx (.var 101) (.var 51)) (.cons ed .nil)))) (.idx (.str [65, 66, 67, 68, 69]) (.var 51))
theorem abc {k : Nat} (h : k ≤ 4) : itemAt own (.str [65, 66, 67, 68, 69]) (.int (k : Nat)) = some (.str [65 + k]) := by
  match k, h with
  | 0, _ => rfl
  | 1, _ => rfl
  | 2, _ => rfl
  | 3, _ => rfl
  | 4, _ => rfl
theorem mark_len {m s d : Nat} (hm : m = 38 ∨ m = 60 ∨ m = 62) (hs : s ≤ 3) (hd : d ≤ 4) : (markT m s d).length ≤ 100 := by
  unfold markT
  rw [rep_len, List.length_append, List.length_append, rep_len]
  have h1 : (d - 1) * ([97, 109, 112, 59] : List Nat).length ≤ 3 * 4 := Nat.mul_le_mul (by lia) (by decide)
  have h2 := name_len hm
  have h3 : s * (1 + (d - 1) * ([97, 109, 112, 59] : List Nat).length + (nameT m).length) ≤ 3 * (1 + 12 + 4) := Nat.mul_le_mul hs (Nat.add_le_add (Nat.add_le_add_left h1 1) h2)
  exact Nat.le_trans h3 (by decide)
theorem size_ev {s : List Nat} {k : Nat} (g101 : getV 101 vars = some (.ref 0)) (h0 : own[0]? = some (encN s)) (g51 : getV 51 vars = some (.int (k : Nat))) (hs : 1 ≤ s.getD k 0) (hl : s.length ≤ 100) : ev C TK (.idx (.var 101) (.var 51)) vars own = some (.int (s.getD k 0 : Nat), own) :=
  sp_idx (st_var g101) (st_var g51) (it_ref h0 (sz_at hs) (by rw [encN_len]; lia))
theorem marks_ev {e m d k : Nat} {s : List Nat} {ed : E} (hm : m = 38 ∨ m = 60 ∨ m = 62) (g59 : getV 59 vars = some (.str [m])) (g101 : getV 101 vars = some (.ref 0)) (h0 : own[0]? = some (encN s)) (g51 : getV 51 vars = some (.int (k : Nat))) (hl : s.length ≤ 100) (hs : 1 ≤ s.getD k 0 ∧ s.getD k 0 ≤ 3) (hd : 1 ≤ d ∧ d ≤ 4) (h : ev (CF (e + 1)) TK1 ed vars own = some (.int (d : Nat), own)) :
    ev (CF (e + 1)) TK1 (.call 110 (.cons (.var 59) (.cons (.idx (.var 101) (.var 51)) (.cons ed .nil)))) vars own = some (.str (markT m (s.getD k 0) d), own) :=
  sp_call (ws := [.str [m], .int (s.getD k 0 : Nat), .int (d : Nat)]) (sp_evs (st_var g59) (sp_evs (size_ev g101 h0 g51 hs.1 hl) (sp_evs h st_evs_nil))) rfl (by rw [cf_run (by decide) (by decide) rfl]; exact marks_run hm hs.2 hd)
theorem line_ev {e m d k : Nat} {s : List Nat} {ed : E} (hm : m = 38 ∨ m = 60 ∨ m = 62) (g59 : getV 59 vars = some (.str [m])) (g101 : getV 101 vars = some (.ref 0)) (h0 : own[0]? = some (encN s)) (g51 : getV 51 vars = some (.int (k : Nat))) (hl : s.length ≤ 100) (hk : k ≤ 4) (hs : 1 ≤ s.getD k 0 ∧ s.getD k 0 ≤ 3) (hd : 1 ≤ d ∧ d ≤ 4) (h : ev (CF (e + 1)) TK1 ed vars own = some (.int (d : Nat), own)) :
    ev (CF (e + 1)) TK1 (lineE ed) vars own = some (.str (lineT m s (k, d)), own) :=
  st_cat (marks_ev hm g59 g101 h0 g51 hl hs hd h) (sp_idx st_str (st_var g51) (abc hk)) (by have := mark_len hm hs.2 hd.2; show (markT m (s.getD k 0) d).length + 1 ≤ _; lia)
theorem lines_len {m : Nat} {s : List Nat} (hm : m = 38 ∨ m = 60 ∨ m = 62) : ∀ {l : List (Nat × Nat)}, (∀ p ∈ l, (p.1 ≤ 4 ∧ p.2 ≤ 4 ∧ 1 ≤ s.getD p.1 0 ∧ s.getD p.1 0 ≤ 3) ∧ 1 ≤ p.2 ∧ s.getD p.1 0 * p.2 ≤ 9) → ((l.map (lineT m s)).flatten).length ≤ 101 * l.length
  | [], _ => Nat.le_refl _
  | p :: l, h => by
    have hp := (h p (.head _)).1
    have ih := lines_len hm (l := l) fun p hp => h p (.tail _ hp)
    rw [List.map_cons, List.flatten_cons, List.length_append, List.length_cons, Nat.mul_succ, Nat.add_comm]
    refine Nat.add_le_add ih ?_
    unfold lineT
    rw [List.length_append]
    exact Nat.add_le_add_right (mark_len hm hp.2.2.2 hp.2.1) 1
theorem it_lst' {b : Bool} {vs : List V} (o : Own) (j : Nat) : iterAt o (.lst b vs) j = some vs[j]? := rfl
/-- the page as the leaves tell it -/
theorem page1_ev {e m : Nat} {s : List Nat} {ls : List (Nat × Nat)} (hm : m = 38 ∨ m = 60 ∨ m = 62) (g59 : getV 59 vars = some (.str [m])) (g101 : getV 101 vars = some (.ref 0)) (h0 : own[0]? = some (encN s)) (g127 : getV 127 vars = some (.lst false (encR ls))) (hl : s.length ≤ 100) (ok : okLs s ls = true) :
    ev (CF (e + 1)) TK1 (.meth .join (.str []) (.cons (.comp (lineE (.var 95)) [51, 95] (.var 127)) .nil)) vars own = some (.str ((ls.map (lineT m s)).flatten), own ++ [(ls.map (lineT m s)).map V.str]) := by
  have q := okLs_is ok
  have h := st_map (C := CF (e + 1)) (TK := TK1) (elt := lineE (.var 95)) (ts := [51, 95]) (it := .var 127) (vars := vars) (own := own) (own₁ := own) (v := .lst false (encR ls)) (vs := encR ls)
    (f := fun u => (pairOf u).elim .non fun p => .str (lineT m s p)) (st_var g127) (fun o j => it_lst' _ j) rfl (by rw [encR_len]; exact Nat.le_trans q.1 (by decide)) fun u hu ys => by
      obtain ⟨p, hp, rfl⟩ := List.mem_map.mp hu
      have r := q.2 p hp
      refine ⟨_, rfl, ?_⟩
      have h0' : (own ++ [ys])[0]? = some (encN s) := by rw [List.getElem?_append_left (List.getElem?_eq_some_iff.mp h0).1]; exact h0
      exact line_ev (d := p.2) hm (gv_ne (by decide) (gv_ne (by decide) g59)) (gv_ne (by decide) (gv_ne (by decide) g101)) h0' (gv_ne (by decide) gv_same) hl r.1.1 r.1.2.2 ⟨r.2.1, r.1.2.1⟩ (st_var gv_same)
  have e1 : (encR ls).map (fun u => (pairOf u).elim .non fun p => V.str (lineT m s p)) = (ls.map (lineT m s)).map V.str := by
    unfold encR
    rw [List.map_map, List.map_map]; rfl
  rw [e1] at h
  exact join_ev h (Nat.le_trans (lines_len hm q.2) (Nat.le_trans (Nat.mul_le_mul_left 101 q.1) (by decide))) (by rw [List.length_map]; exact Nat.le_trans q.1 (by decide))
theorem ne_same {a b : E} {x : List Nat} (h1 : ev C TK a vars own = some (.str x, own₁)) (h2 : ev C TK b vars own₁ = some (.str x, own₂)) : tstOf (ev C TK (.cmp .ne a b) vars own) = some (false, own₂) := by
  refine st_tst (r := (.bool false, own₂)) (st_cmp h1 h2 ?_) rfl
  show some (!decide (x = x)) = some false
  rw [decide_eq_true rfl]; rfl
end
end Mine
end
section
set_option maxRecDepth 100000
set_option autoImplicit false
namespace Mine
open PySem.W
/-- the leaves in the row's own order -/
structure Row (s : List Nat) (sl : List (Nat × Nat)) : Prop where
  fst : sl.map (·.1) = List.range s.length
  ok : okLs s sl = true
noncomputable def dOf (sl : List (Nat × Nat)) (k : Nat) : Nat := (sl.map (·.2)).getD k 0
section
variable {s : List Nat} {sl ls : List (Nat × Nat)} (R : Row s sl)
include R
theorem Row.len : sl.length = s.length := by
  have := congrArg List.length R.fst
  rw [List.length_map, List.length_range] at this
  exact this
theorem Row.le5 : s.length ≤ 5 := by rw [← R.len]; exact (okLs_is R.ok).1
theorem Row.at {k : Nat} (h : k < s.length) : sl[k]? = some (k, dOf sl k) := by
  have hk : k < sl.length := by rw [R.len]; exact h
  have e := congrArg (fun l => l[k]?) R.fst
  simp only [List.getElem?_map, List.getElem?_range h, List.getElem?_eq_getElem hk, Option.map_some] at e
  have e := Option.some.inj e
  unfold dOf
  rw [List.getElem?_eq_getElem hk, List.getD_eq_getElem?_getD, List.getElem?_map, List.getElem?_eq_getElem hk]
  exact congrArg some (Prod.ext e rfl)
theorem Row.all {k : Nat} (h : k < s.length) : (k ≤ 4 ∧ dOf sl k ≤ 4 ∧ 1 ≤ s.getD k 0 ∧ s.getD k 0 ≤ 3) ∧ 1 ≤ dOf sl k ∧ s.getD k 0 * dOf sl k ≤ 9 := (okLs_is R.ok).2 _ (List.mem_of_getElem? (R.at h))
theorem Row.map {α : Type} (f : Nat × Nat → α) : (List.range s.length).map (fun k => f (k, dOf sl k)) = sl.map f := by
  apply List.ext_getElem?
  intro i
  rw [List.getElem?_map, List.getElem?_map]
  by_cases h : i < s.length
  · rw [List.getElem?_range h, R.at h]; rfl
  · rw [List.getElem?_eq_none (by rw [List.length_range]; exact Nat.le_of_not_lt h), List.getElem?_eq_none (by rw [R.len]; exact Nat.le_of_not_lt h)]; rfl
theorem Row.ds {k : Nat} (h : k < s.length) : (encN (sl.map (·.2)))[k]? = some (.int (dOf sl k : Nat)) := by
  refine nats_at ?_
  rw [List.getElem?_map, R.at h]; rfl
end
theorem mapO_pick {α β : Type} (f : α → β) (ls : List α) : ∀ {l : List Nat} {r : List α}, mapO (fun i => ls[i]?) l = some r → mapO (fun i => (ls.map f)[i]?) l = some (r.map f)
  | [], r, h => by cases h; rfl
  | i :: l, r, h => bind_of h fun a ha h => bind_of h fun q hq h => by
    cases h
    have ha : ls[i]? = some a := ha
    exact mapO_c (by rw [List.getElem?_map, ha]; rfl) (mapO_pick f ls hq)
theorem mapO_map {α β γ : Type} (f : α → β) (g : β → Option γ) (k : α → γ) (h : ∀ a, g (f a) = some (k a)) : ∀ l : List α, mapO g (l.map f) = some (l.map k)
  | [] => rfl
  | a :: l => mapO_c (h a) (mapO_map f g k h l)
theorem sortV_of {ls sl : List (Nat × Nat)} {f kf : Nat × Nat → V} (hf : ∀ p, fstO (f p) = some (kf p)) (hk : kindO (ls.map kf) = true) (h2 : 2 ≤ ls.length) (h5 : ls.length ≤ 5) (h : sortR (ls.map kf) ls = some sl) : sortV (ls.map f) = some (sl.map f) := by
  unfold sortV
  rw [mapO_map f fstO kf hf, List.length_map]
  show (if kindO (ls.map kf) = true ∧ 2 ≤ ls.length ∧ ls.length < 64 then (runK (askO (ls.map kf)) (kas_sort ls.length)).bind _ else none) = _
  rw [if_pos ⟨hk, h2, Nat.lt_of_le_of_lt h5 (by decide)⟩]
  refine bind_of h fun p hp h => ?_
  rw [hp]
  exact mapO_pick f ls h
section
variable {C : Nat → List V → Option V} {TK : Nat → Option Int} {vars vars' vars₁ vars₂ : Vars} {own own' own₁ own₂ own₃ own₄ : Own}
theorem sorted_ev {e : E} {vs ws : List V} {b : Bool} (h : ev C TK e vars own = some (.lst b vs, own₁)) (hs : sortV vs = some ws) : ev C TK (.prim .sorted (.cons e .nil)) vars own = some (.ref own₁.length, own₁ ++ [ws]) := by
  refine st_prim (st_evs h st_evs_nil) ?_
  show (sortV vs).bind _ = _
  rw [hs]; rfl
theorem kind_int (ls : List (Nat × Nat)) : kindO (ls.map fun q => .int q.1) = true := by
  unfold kindO
  rw [List.all_map]
  exact Bool.or_eq_true_iff.mpr (.inl (List.all_eq_true.mpr fun _ _ => rfl))
theorem kind_str (ls : List (Nat × Nat)) : kindO (ls.map fun q => .str [65 + q.1]) = true := by
  unfold kindO
  rw [List.all_map, List.all_map]
  exact Bool.or_eq_true_iff.mpr (.inr (List.all_eq_true.mpr fun _ _ => rfl))
/-- depths = [deep for k, deep in sorted(leaves)] -/
theorem depths_ev {ls sl : List (Nat × Nat)} (g127 : getV 127 vars = some (.lst false (encR ls))) (h2 : 2 ≤ ls.length) (h5 : ls.length ≤ 5) (h : sortR (ls.map fun q => .int q.1) ls = some sl) (hl : sl.length ≤ 5) :
    ev C TK (.comp (.var 95) [51, 95] (.prim .sorted (.cons (.var 127) .nil))) vars own = some (.ref (own.length + 1), own ++ [encR sl] ++ [encN (sl.map (·.2))]) := by
  have hs : sortV (encR ls) = some (encR sl) := sortV_of (f := encP) (kf := fun q => .int q.1) (fun _ => rfl) (kind_int ls) h2 h5 h
  have hk : (own ++ [encR sl])[own.length]? = some (encR sl) := List.getElem?_concat_length
  have q := st_map (C := C) (TK := TK) (elt := .var 95) (ts := [51, 95]) (vars := vars) (f := fun u => (pairOf u).elim .non fun p => .int (p.2 : Nat)) (sorted_ev (own := own) (st_var g127) hs) (it_own hk) (fuel_own hk) (by rw [encR_len]; lia) fun u hu ys => by
    obtain ⟨p, hp, rfl⟩ := List.mem_map.mp hu
    exact ⟨_, rfl, st_var gv_same⟩
  have e1 : (encR sl).map (fun u => (pairOf u).elim .non fun p => V.int (p.2 : Nat)) = encN (sl.map (·.2)) := by
    unfold encR encN
    rw [List.map_map, List.map_map]; rfl
  rw [e1, List.length_append] at q
  exact q
theorem many_rng {n : Nat} (g125 : getV 125 vars = some (.int (n : Nat))) (hn : n ≤ 5) : ev C TK (.prim .range (.cons (.var 125) .nil)) vars own = some (.rng 0 n 1, own) := st_rng (st_var g125) (by lia)
/-- the page as the row tells it -/
theorem page2_ev {e m i5 : Nat} {s : List Nat} {sl : List (Nat × Nat)} (R : Row s sl) (hm : m = 38 ∨ m = 60 ∨ m = 62) (g59 : getV 59 vars = some (.str [m])) (g101 : getV 101 vars = some (.ref 0)) (h0 : own[0]? = some (encN s)) (g55 : getV 55 vars = some (.ref i5)) (h5 : own[i5]? = some (encN (sl.map (·.2)))) (g125 : getV 125 vars = some (.int (s.length : Nat))) :
    ev (CF (e + 1)) TK1 (.meth .join (.str []) (.cons (.comp (lineE (.idx (.var 55) (.var 51))) [51] (.prim .range (.cons (.var 125) .nil))) .nil)) vars own = some (.str ((sl.map (lineT m s)).flatten), own ++ [(sl.map (lineT m s)).map V.str]) := by
  have q := okLs_is R.ok
  have hn := R.le5
  have h := st_mapr (C := CF (e + 1)) (TK := TK1) (elt := lineE (.idx (.var 55) (.var 51))) (t := 51) (own := own) (n := s.length) (f := fun k => V.str (lineT m s (k, dOf sl k))) (by lia) (many_rng g125 hn) fun k hk ys => by
    have r := R.all hk
    have a0 : (own ++ [ys])[0]? = some (encN s) := by rw [List.getElem?_append_left (List.getElem?_eq_some_iff.mp h0).1]; exact h0
    have a5 : (own ++ [ys])[i5]? = some (encN (sl.map (·.2))) := by rw [List.getElem?_append_left (List.getElem?_eq_some_iff.mp h5).1]; exact h5
    exact line_ev (d := dOf sl k) hm (gv_ne (by decide) g59) (gv_ne (by decide) g101) a0 gv_same (by lia) r.1.1 r.1.2.2 ⟨r.2.1, r.1.2.1⟩ (sp_idx (st_var (gv_ne (by decide) g55)) (st_var gv_same) (it_ref a5 (R.ds hk) (by rw [encN_len, List.length_map, R.len]; lia)))
  have em : (sl.map fun p => V.str (lineT m s p)) = (sl.map (lineT m s)).map V.str := by rw [List.map_map]; rfl
  rw [R.map fun p => V.str (lineT m s p), em] at h
  exact join_ev h (Nat.le_trans (lines_len hm q.2) (Nat.le_trans (Nat.mul_le_mul_left 101 q.1) (by decide))) (by rw [List.length_map, R.len]; lia)

noncomputable def spBody : Ss :=
  (.cons (.asg 93 (.bin .mul (.bin .mul (.int 8) (.idx (.var 101) (.var 51))) (.idx (.var 55) (.var 51))))
  (.cons (.aug 124 .add (.call 5 (.cons (.bin .mul (.var 59) (.idx (.var 101) (.var 51))) (.cons (.call 110 (.cons (.var 59) (.cons (.idx (.var 101) (.var 51)) (.cons (.idx (.var 55) (.var 51)) .nil)))) (.cons (.bin .add (.var 93) (.var 51)) .nil)))))
  .nil))
noncomputable def spN (s : List Nat) (sl : List (Nat × Nat)) (j : Nat) : Nat := ((List.range j).map fun k => 8 * (s.getD k 0 * dOf sl k)).sum
theorem spN_next (s : List Nat) (sl : List (Nat × Nat)) (j : Nat) : spN s sl (j + 1) = spN s sl j + 8 * s.getD j 0 * dOf sl j := by
  unfold spN
  rw [List.range_succ, List.map_append, List.sum_append, Nat.mul_assoc]; rfl
/-- what stays while the prices are added up -/
structure PV2 (vars : Vars) (m i5 : Nat) (x : Nat) : Prop where
  g59 : getV 59 vars = some (.str [m])
  g101 : getV 101 vars = some (.ref 0)
  g55 : getV 55 vars = some (.ref i5)
  g124 : getV 124 vars = some (.int (x : Nat))
theorem sp_step {e m i5 k x : Nat} {s : List Nat} {sl : List (Nat × Nat)} (R : Row s sl) (hm : m = 38 ∨ m = 60 ∨ m = 62) (h0 : own[0]? = some (encN s)) (h5 : own[i5]? = some (encN (sl.map (·.2)))) (w : PV2 vars m i5 x) (g51 : getV 51 vars = some (.int (k : Nat))) (hk : k < s.length) :
    ∃ vars', exs (CF (e + 1)) TK1 spBody vars own = some (.next, vars', own) ∧ PV2 vars' m i5 (x + 8 * s.getD k 0 * dOf sl k) := by
  have r := R.all hk
  have hn := R.le5
  have hidx : ∀ {v' : Vars}, getV 55 v' = some (.ref i5) → getV 51 v' = some (.int (k : Nat)) → ev (CF (e + 1)) TK1 (.idx (.var 55) (.var 51)) v' own = some (.int (dOf sl k : Nat), own) := fun a b => sp_idx (st_var a) (st_var b) (it_ref h5 (R.ds hk) (by rw [encN_len, List.length_map, R.len]; lia))
  have hp : ev (CF (e + 1)) TK1 (.bin .mul (.bin .mul (.int 8) (.idx (.var 101) (.var 51))) (.idx (.var 55) (.var 51))) vars own = some (.int (8 * s.getD k 0 * dOf sl k : Nat), own) :=
    st_binI (st_binI (i := (8 : Nat)) st_int (size_ev w.g101 h0 g51 r.1.2.2.1 (by lia)) (mul_nat (by decide))) (hidx w.g55 g51) (mul_nat (Nat.lt_of_le_of_lt (Nat.mul_le_mul_left 8 r.1.2.2.2) (by decide)))
  have g51' : getV 51 (setV 93 (.int (8 * s.getD k 0 * dOf sl k : Nat)) vars) = some (.int (k : Nat)) := gv_ne (by decide) g51
  have g59' : getV 59 (setV 93 (.int (8 * s.getD k 0 * dOf sl k : Nat)) vars) = some (.str [m]) := gv_ne (by decide) w.g59
  have g101' : getV 101 (setV 93 (.int (8 * s.getD k 0 * dOf sl k : Nat)) vars) = some (.ref 0) := gv_ne (by decide) w.g101
  have hc := lev_ok (e := e) (k := k) hm r.1.2.2 ⟨r.2.1, r.1.2.1⟩ r.1.1 r.2.2
  refine ⟨_, st_next (st_asg hp) (st_next (st_aug (i := x) (j := (8 * s.getD k 0 * dOf sl k : Nat)) (r := (x + 8 * s.getD k 0 * dOf sl k : Nat)) (gv_ne (by decide) w.g124) (sp_call (ws := [.str (rep (s.getD k 0) [m]), .str (markT m (s.getD k 0) (dOf sl k)), .int (8 * s.getD k 0 * dOf sl k + k : Nat)]) (sp_evs (st_mulS (st_var g59') (size_ev g101' h0 g51' r.1.2.2.1 (by lia)) (Nat.le_trans r.1.2.2.2 (by decide)) (Nat.le_of_ble_eq_true rfl)) (sp_evs (marks_ev hm g59' g101' h0 g51' (by lia) r.1.2.2 ⟨r.2.1, r.1.2.1⟩ (hidx (gv_ne (by decide) w.g55) g51')) (sp_evs (v := .int (8 * s.getD k 0 * dOf sl k + k : Nat)) (st_binI (st_var gv_same) (st_var g51') (congrArg some (Int.natCast_add _ _).symm)) st_evs_nil))) rfl hc) rfl) st_nil), ⟨gv_ne (by decide) g59', gv_ne (by decide) g101', gv_ne (by decide) (gv_ne (by decide) w.g55), gv_same⟩⟩
theorem sp_loop {e m i5 : Nat} {s : List Nat} {sl : List (Nat × Nat)} (R : Row s sl) (hm : m = 38 ∨ m = 60 ∨ m = 62) (h0 : own[0]? = some (encN s)) (h5 : own[i5]? = some (encN (sl.map (·.2)))) : ∀ (k j : Nat) (vars : Vars), j + k = s.length → PV2 vars m i5 (spN s sl j) →
    ∃ vars', forLoop [51] (.rng 0 s.length 1) (fun vars own => exs (CF (e + 1)) TK1 spBody vars own) (k + 1) j vars own = some (.next, vars', own) ∧ PV2 vars' m i5 (spN s sl s.length)
  | 0, j, vars, h, w => by
    have h : j = s.length := h
    subst h
    exact ⟨vars, for_end (by rw [iter01 (by have := R.le5; lia), if_neg (Nat.lt_irrefl _)]), w⟩
  | k + 1, j, vars, h, w => by
    have hj : j < s.length := by lia
    have hn := R.le5
    obtain ⟨v1, q1, q2⟩ := sp_step (e := e) (k := j) (vars := setV 51 (.int (j : Nat)) vars) R hm h0 h5 ⟨gv_ne (by decide) w.g59, gv_ne (by decide) w.g101, gv_ne (by decide) w.g55, gv_ne (by decide) w.g124⟩ gv_same hj
    rw [← spN_next] at q2
    obtain ⟨v2, q3, q4⟩ := sp_loop R hm h0 h5 k (j + 1) v1 (by lia) q2
    exact ⟨v2, for_next (u := .int (j : Nat)) (by rw [iter01 (by lia), if_pos hj]) rfl q1 q3, q4⟩
end
end Mine
end
section
set_option maxRecDepth 100000
set_option autoImplicit false
namespace Mine
section
variable {C : Nat → List V → Option V} {TK : Nat → Option Int} {vars vars' vars₁ vars₂ : Vars} {own own' own₁ own₂ own₃ own₄ : Own}
noncomputable def elE : E := .tup (.cons (.idx (.str [65, 66, 67, 68, 69]) (.var 51)) (.cons (.bin .mul (.list (.cons (.idx (.var 55) (.var 51)) .nil)) (.idx (.var 101) (.var 51))) .nil))
noncomputable def elX (s : List Nat) (sl : List (Nat × Nat)) (j : Nat) : List (List V) := ((List.range j).map fun i => [[V.int (dOf sl i : Nat)], rep (s.getD i 0) [V.int (dOf sl i : Nat)]]).flatten
theorem elX_next (s : List Nat) (sl : List (Nat × Nat)) (j : Nat) : elX s sl (j + 1) = elX s sl j ++ [[V.int (dOf sl j : Nat)], rep (s.getD j 0) [V.int (dOf sl j : Nat)]] := by
  unfold elX
  rw [List.range_succ, List.map_append, List.flatten_append]; rfl
theorem elX_len (s : List Nat) (sl : List (Nat × Nat)) : ∀ j, (elX s sl j).length = 2 * j
  | 0 => rfl
  | j + 1 => by rw [elX_next, List.length_append, elX_len s sl j]; rfl
theorem elX_get (s : List Nat) (sl : List (Nat × Nat)) : ∀ {j i : Nat}, i < j → (elX s sl j)[2 * i + 1]? = some (rep (s.getD i 0) [V.int (dOf sl i : Nat)])
  | 0, _, h => absurd h (Nat.not_lt_zero _)
  | j + 1, i, h => by
    rw [elX_next]
    by_cases q : i < j
    · rw [List.getElem?_append_left (by rw [elX_len]; lia)]
      exact elX_get s sl q
    · have e : i = j := by lia
      subst e
      rw [List.getElem?_append_right (by rw [elX_len]; lia), elX_len, show 2 * i + 1 - 2 * i = 1 by lia]; rfl
noncomputable def elG (b j : Nat) : V := .tup [.str [65 + j], .ref (b + 1 + 2 * j + 1)]
theorem el_ev {s : List Nat} {sl : List (Nat × Nat)} {i5 k : Nat} (R : Row s sl) (g101 : getV 101 vars = some (.ref 0)) (h0 : own[0]? = some (encN s)) (g55 : getV 55 vars = some (.ref i5)) (h5 : own[i5]? = some (encN (sl.map (·.2)))) (g51 : getV 51 vars = some (.int (k : Nat))) (hk : k < s.length) :
    ev C TK elE vars own = some (.tup [.str [65 + k], .ref (own.length + 1)], own ++ [[V.int (dOf sl k : Nat)], rep (s.getD k 0) [V.int (dOf sl k : Nat)]]) := by
  have r := R.all hk
  have hn := R.le5
  have h0' : (own ++ [[V.int (dOf sl k : Nat)]])[0]? = some (encN s) := by rw [List.getElem?_append_left (List.getElem?_eq_some_iff.mp h0).1]; exact h0
  have hd : ev C TK (.idx (.var 55) (.var 51)) vars own = some (.int (dOf sl k : Nat), own) := sp_idx (st_var g55) (st_var g51) (it_ref h5 (R.ds hk) (by rw [encN_len, List.length_map, R.len]; lia))
  have hm : ev C TK (.bin .mul (.list (.cons (.idx (.var 55) (.var 51)) .nil)) (.idx (.var 101) (.var 51))) vars own = some (.ref (own.length + 1), own ++ [[V.int (dOf sl k : Nat)], rep (s.getD k 0) [V.int (dOf sl k : Nat)]]) := by
    refine st_bin (st_list (sp_evs hd st_evs_nil) (show 1 ≤ 1000 by decide)) (size_ev g101 h0' g51 r.1.2.2.1 (by lia)) ?_
    show (((own ++ [[V.int (dOf sl k : Nat)]])[own.length]?).bind _) = _
    rw [List.getElem?_concat_length]
    show (if ((s.getD k 0 : Nat) : Int) ≤ 1000 ∧ -1000 ≤ ((s.getD k 0 : Nat) : Int) ∧ [V.int (dOf sl k : Nat)].length ≤ 100 then some (V.ref (own ++ [[V.int (dOf sl k : Nat)]]).length, own ++ [[V.int (dOf sl k : Nat)]] ++ [rep ((s.getD k 0 : Nat) : Int).toNat [V.int (dOf sl k : Nat)]]) else none) = _
    rw [if_pos ⟨Int.ofNat_le.mpr (Nat.le_trans r.1.2.2.2 (by decide)), Int.le_trans (by decide) (Int.natCast_nonneg _), show 1 ≤ 100 by decide⟩, Int.toNat_natCast, List.length_append, List.append_assoc]; rfl
  exact st_tup (st_evs (sp_idx st_str (st_var g51) (abc r.1.1)) (st_evs hm st_evs_nil)) (show 2 ≤ 1000 by decide)
theorem compR_ev {s : List Nat} {sl : List (Nat × Nat)} {i5 : Nat} (R : Row s sl) (g101 : getV 101 vars = some (.ref 0)) (h0 : own[0]? = some (encN s)) (g55 : getV 55 vars = some (.ref i5)) (h5 : own[i5]? = some (encN (sl.map (·.2)))) (g125 : getV 125 vars = some (.int (s.length : Nat))) :
    ev C TK (.comp elE [51] (.prim .range (.cons (.var 125) .nil))) vars own = some (.ref own.length, own ++ (List.range s.length).map (elG own.length) :: elX s sl s.length) := by
  have hn := R.le5
  have h := st_compx (C := C) (TK := TK) (elt := elE) (ts := [51]) (vars := vars) (own := own) (vs := (List.range s.length).map fun (k : Nat) => V.int k) (g := elG own.length) (ex := elX s sl) rfl (many_rng g125 hn) (fun o j => it_rng (by lia) _ j) (by
    show rngN 0 (s.length : Int) 1 + 1 = _
    rw [rng01, List.length_map, List.length_range]) (by rw [List.length_map, List.length_range]; lia) fun j u hu => by
    rw [List.getElem?_map] at hu
    obtain ⟨k, hk, rfl⟩ := Option.map_eq_some_iff.mp hu
    have hj := (List.getElem?_eq_some_iff.mp hk).1
    rw [List.length_range] at hj
    rw [List.getElem?_range hj] at hk
    cases hk
    refine ⟨_, rfl, ?_⟩
    have a0 : (own ++ (List.range j).map (elG own.length) :: elX s sl j)[0]? = some (encN s) := by rw [List.getElem?_append_left (List.getElem?_eq_some_iff.mp h0).1]; exact h0
    have a5 : (own ++ (List.range j).map (elG own.length) :: elX s sl j)[i5]? = some (encN (sl.map (·.2))) := by rw [List.getElem?_append_left (List.getElem?_eq_some_iff.mp h5).1]; exact h5
    have q := el_ev (C := C) (TK := TK) (vars := setV 51 (.int (j : Nat)) vars) R (gv_ne (by decide) g101) a0 (gv_ne (by decide) g55) a5 gv_same hj
    have el : (own ++ (List.range j).map (elG own.length) :: elX s sl j).length = own.length + 1 + 2 * j := by
      rw [List.length_append, List.length_cons, elX_len]; lia
    rw [el, List.append_assoc, List.cons_append, ← elX_next] at q
    exact q
  rw [List.length_map, List.length_range] at h
  exact h
noncomputable def rowV (s : List Nat) (p : Nat × Nat) : V := .tup [.str [65 + p.1], .lst true ((List.replicate (s.getD p.1 0) (p.2 : Int)).map V.int)]
theorem mapO_mem {α β γ : Type} {f : α → β} {g : β → Option γ} {k : α → γ} : ∀ {l : List α}, (∀ a ∈ l, g (f a) = some (k a)) → mapO g (l.map f) = some (l.map k)
  | [], _ => rfl
  | a :: l, h => mapO_c (h a (.head _)) (mapO_mem fun a ha => h a (.tail _ ha))
theorem frz_left {s : List Nat} (p : Nat × Nat) : frz true own 4 (encRd (readV s p)) = some (rowV s p) := by
  show (mapO (frz true own 3) [.str [65 + p.1], .lst false ((List.replicate (s.getD p.1 0) (p.2 : Int)).map V.int)]).bind _ = _
  rw [mapO_c (f := frz true own 3) (x := V.str [65 + p.1]) (y := V.str [65 + p.1]) rfl (mapO_c (frz_lstI 1) rfl)]; rfl
theorem frz_right {s : List Nat} {sl : List (Nat × Nat)} {b k : Nat} (h : own[b + 1 + 2 * k + 1]? = some (rep (s.getD k 0) [V.int (dOf sl k : Nat)])) : frz true own 4 (elG b k) = some (rowV s (k, dOf sl k)) := by
  have e : rep (s.getD k 0) [V.int (dOf sl k : Nat)] = (List.replicate (s.getD k 0) (dOf sl k : Int)).map V.int := by rw [rep_one, List.map_replicate]
  rw [e] at h
  show (mapO (frz true own 3) [.str [65 + k], .ref (b + 1 + 2 * k + 1)]).bind _ = _
  rw [mapO_c (f := frz true own 3) (x := V.str [65 + k]) (y := V.str [65 + k]) rfl (mapO_c (frz_refI 1 h) rfl)]; rfl
theorem veqs_refl : ∀ {l : List V}, (∀ v ∈ l, veq v v = true) → veqs l l = true
  | [], _ => rfl
  | v :: l, h => true_and (h v (.head _)) (veqs_refl fun v hv => h v (.tail _ hv))
theorem veq_row (s : List Nat) (p : Nat × Nat) : veq (rowV s p) (rowV s p) = true := by
  refine veqs_refl (l := [.str [65 + p.1], .lst true ((List.replicate (s.getD p.1 0) (p.2 : Int)).map V.int)]) fun v hv => ?_
  cases hv with
  | head => exact decide_eq_true rfl
  | tail _ hv => cases hv with
    | head =>
      refine veqs_refl fun v hv => ?_
      obtain ⟨i, _, rfl⟩ := List.mem_map.mp hv
      exact decide_eq_true rfl
    | tail _ hv => cases hv
theorem okDs_ints : ∀ (l : List Int) (n : Nat), okDs (l.map V.int) n = true
  | [], _ => rfl
  | _ :: l, n => okDs_ints l n
theorem okD_row {s : List Nat} {p : Nat × Nat} (h : p.1 ≤ 4) : okD (rowV s p) 7 = true := by
  show (okD (.str [65 + p.1]) 6 && (okD (.lst true _) 6 && true)) = true
  refine true_and (true_and (decide_eq_true (show 65 + p.1 < 0x110000 by lia)) rfl) (true_and ?_ rfl)
  exact okDs_ints _ 5
theorem okDs_all : ∀ {l : List V} {n : Nat}, (∀ v ∈ l, okD v n = true) → okDs l n = true
  | [], _, _ => rfl
  | v :: l, n, h => true_and (h v (.head _)) (okDs_all fun v hv => h v (.tail _ hv))
theorem eq_lists {a b : Nat} {l : List V} (h1 : frz true own 5 (.ref a) = some (.lst true l)) (h2 : frz true own 5 (.ref b) = some (.lst true l)) (h3 : ∀ v ∈ l, veq v v = true) (h4 : ∀ v ∈ l, okD v 7 = true) : cop own .ne (.ref a) (.ref b) = some false := by
  show ((((frz true own 5 (.ref a)).bind fun a => (frz true own 5 (.ref b)).bind fun b => if okD a 8 && okD b 8 then some (veq a b) else none)).bind fun b => some (!b)) = _
  rw [h1]
  show ((((frz true own 5 (.ref b)).bind fun b => if okD (.lst true l) 8 && okD b 8 then some (veq (.lst true l) b) else none)).bind fun b => some (!b)) = _
  rw [h2]
  have e := okDs_all (l := l) (n := 7) h4
  show ((if okD (.lst true l) 8 && okD (.lst true l) 8 then some (veq (.lst true l) (.lst true l)) else none).bind fun b => some (!b)) = _
  rw [if_pos (show (okD (.lst true l) 8 && okD (.lst true l) 8) = true from true_and e e), show veq (.lst true l) (.lst true l) = true from veqs_refl h3]; rfl
/-- the page read: the row's letters with their marks -/
theorem read_cmp {e m i5 : Nat} {s : List Nat} {ls sl : List (Nat × Nat)} (R : Row s sl) (hm : m = 38 ∨ m = 60 ∨ m = 62) (g101 : getV 101 vars = some (.ref 0)) (h0 : own[0]? = some (encN s)) (g55 : getV 55 vars = some (.ref i5)) (h5 : own[i5]? = some (encN (sl.map (·.2)))) (g125 : getV 125 vars = some (.int (s.length : Nat)))
    (g62 : getV 62 vars = some (.str ((ls.map (lineT m s)).flatten))) (ok : okLs s ls = true) (h2 : 2 ≤ ls.length) (hs : sortR (ls.map fun q => .str [65 + q.1]) ls = some sl) :
    ∃ junk, tstOf (ev (CF (e + 1)) TK1 (.cmp .ne (.prim .sorted (.cons (.call 112 (.cons (.var 62) .nil)) .nil)) (.comp elE [51] (.prim .range (.cons (.var 125) .nil)))) vars own) = some (false, own ++ junk) := by
  have q := okLs_is ok
  have hlen : ((ls.map (lineT m s)).flatten).length ≤ 1000 := Nat.le_trans (lines_len hm q.2) (Nat.le_trans (Nat.mul_le_mul_left 101 q.1) (by decide))
  have hrd := rd_page (sz := s) hm ls fun p hp => ⟨(q.2 p hp).1.1, ⟨(q.2 p hp).2.1, (q.2 p hp).1.2.1⟩, (q.2 p hp).1.2.2⟩
  have hcall : ev (CF (e + 1)) TK1 (.call 112 (.cons (.var 62) .nil)) vars own = some (.lst false ((ls.map (readV s)).map encRd), own) := sp_call (ws := [.str _]) (sp_evs (st_var g62) st_evs_nil) rfl (by rw [cf_run (by decide) (by decide) rfl]; exact read_run hlen hrd)
  rw [List.map_map] at hcall
  have hsort := sorted_ev hcall (sortV_of (f := encRd ∘ readV s) (kf := fun q => .str [65 + q.1]) (fun _ => rfl) (kind_str ls) h2 q.1 hs)
  have a0 : (own ++ [sl.map (encRd ∘ readV s)])[0]? = some (encN s) := by rw [List.getElem?_append_left (List.getElem?_eq_some_iff.mp h0).1]; exact h0
  have a5 : (own ++ [sl.map (encRd ∘ readV s)])[i5]? = some (encN (sl.map (·.2))) := by rw [List.getElem?_append_left (List.getElem?_eq_some_iff.mp h5).1]; exact h5
  have hcomp := compR_ev (C := CF (e + 1)) (TK := TK1) R g101 a0 g55 a5 g125
  generalize hB : (own ++ [sl.map (encRd ∘ readV s)]).length = b at hcomp
  have hb : b = own.length + 1 := by rw [← hB, List.length_append]; rfl
  refine ⟨[sl.map (encRd ∘ readV s)] ++ (List.range s.length).map (elG b) :: elX s sl s.length, ?_⟩
  rw [← List.append_assoc]
  refine st_tst (r := (.bool false, _)) (st_cmp hsort hcomp ?_) rfl
  have o1 : (own ++ [sl.map (encRd ∘ readV s)] ++ (List.range s.length).map (elG b) :: elX s sl s.length)[own.length]? = some (sl.map (encRd ∘ readV s)) := by
    rw [List.getElem?_append_left (by rw [hB, hb]; exact Nat.lt_succ_self _)]; exact List.getElem?_concat_length
  have o2 : (own ++ [sl.map (encRd ∘ readV s)] ++ (List.range s.length).map (elG b) :: elX s sl s.length)[b]? = some ((List.range s.length).map (elG b)) := by
    rw [List.getElem?_append_right (by rw [hB]; exact Nat.le_refl _), hB, Nat.sub_self]; rfl
  have o3 : ∀ k, k < s.length → (own ++ [sl.map (encRd ∘ readV s)] ++ (List.range s.length).map (elG b) :: elX s sl s.length)[b + 1 + 2 * k + 1]? = some (rep (s.getD k 0) [V.int (dOf sl k : Nat)]) := fun k hk => by
    rw [List.getElem?_append_right (by rw [hB]; lia), hB, show b + 1 + 2 * k + 1 - b = (2 * k + 1) + 1 by lia]
    exact elX_get s sl hk
  generalize own ++ [sl.map (encRd ∘ readV s)] ++ (List.range s.length).map (elG b) :: elX s sl s.length = O at o1 o2 o3
  refine eq_lists (l := sl.map (rowV s)) ?_ ?_ (fun v hv => ?_) (fun v hv => ?_)
  · show (O[own.length]?).bind _ = _
    rw [o1]
    show (mapO (frz true O 4) (sl.map (encRd ∘ readV s))).bind _ = _
    rw [mapO_map (encRd ∘ readV s) (frz true O 4) (rowV s) (fun p => frz_left p)]; rfl
  · show (O[b]?).bind _ = _
    rw [o2]
    show (mapO (frz true O 4) ((List.range s.length).map (elG b))).bind _ = _
    rw [mapO_mem (f := elG b) (g := frz true O 4) (k := fun k => rowV s (k, dOf sl k)) fun k hk => frz_right (o3 k (List.mem_range.mp hk)), R.map (rowV s)]; rfl
  · obtain ⟨p, _, rfl⟩ := List.mem_map.mp hv
    exact veq_row s p
  · obtain ⟨p, hp, rfl⟩ := List.mem_map.mp hv
    exact okD_row ((okLs_is R.ok).2 p hp).1.1
end
end Mine
end
section
set_option maxRecDepth 100000
set_option autoImplicit false
set_option maxHeartbeats 0
namespace Mine
section
variable {C : Nat → List V → Option V} {TK : Nat → Option Int} {vars vars' vars₁ vars₂ : Vars} {own own' own₁ own₂ own₃ own₄ : Own}
noncomputable def cellsB : Ss := .cons (.augi (.var 50) (.bin .mod (.var 51) (.int 5)) .add (.idx (.var 49) (.var 51))) .nil
theorem cells_loop (ns : List Int) (hn : ns.length ≤ 63) (m : Nat) (hm : m ≤ ns.length) : ∀ (k j : Nat) (vars : Vars) (six : List Int), j + k = m → six.length = 5 → getV 49 vars = some (.lst true (ns.map V.int)) → getV 50 vars = some (.ref 0) →
    ∃ (vars' : Vars) (six' : List Int), forLoop [51] (.rng 0 m 1) (fun vars own => exs C TK cellsB vars own) (k + 1) j vars [six.map V.int] = some (.next, vars', [six'.map V.int]) ∧ six'.length = 5 ∧ getV 50 vars' = some (.ref 0)
  | 0, j, vars, six, e, h6, g49, g50 => by
    exact ⟨vars, six, for_end (by rw [iter01 (by lia), if_neg (by lia)]), h6, g50⟩
  | k + 1, j, vars, six, e, h6, g49, g50 => by
    have hj : j < ns.length := by lia
    have hj6 : j % 5 < six.length := by lia
    obtain ⟨v', six', hr, q1, q2⟩ := cells_loop ns hn m hm k (j + 1) (setV 51 (.int (j : Nat)) vars) (six.set (j % 5) (six[j % 5] + ns[j])) (by lia) (by simpa using h6) (gv_ne (by decide) g49) (gv_ne (by decide) g50)
    refine ⟨v', six', ?_, q1, q2⟩
    have hmod : Int.fmod (j : Int) 5 = ((j % 5 : Nat) : Int) := by
      rw [Int.fmod_eq_emod_of_nonneg _ (by decide)]; lia
    have hb : exs C TK cellsB (setV 51 (.int (j : Nat)) vars) [six.map V.int] = some (.next, setV 51 (.int (j : Nat)) vars, [(six.set (j % 5) (six[j % 5] + ns[j])).map V.int]) := by
      refine st_next (st_augi (av := .ref 0) (k := .int (j % 5 : Nat)) (x := six[j % 5]) (y := ns[j]) (z := six[j % 5] + ns[j]) (own₁ := [six.map V.int]) (own₂ := [six.map V.int]) (own₃ := [six.map V.int]) (own₄ := [six.map V.int]) (st_var (gv_ne (by decide) g50)) (st_binI (i := j) (j := 5) (st_var gv_same) st_int ?_) (it_ref rfl ?_ ?_) (st_idx (x := .lst true (ns.map V.int)) (y := .int j) (st_var (gv_ne (by decide) g49)) (st_var gv_same) (it_lst ?_ ?_)) rfl ?_) st_nil
      · show (if (5 : Int) ≠ 0 then some (Int.fmod (j : Int) 5) else none) = _
        rw [if_pos (by decide), hmod]
      · rw [List.getElem?_map, List.getElem?_eq_getElem hj6]; rfl
      · rw [List.length_map, h6]; decide
      · rw [List.getElem?_map, List.getElem?_eq_getElem hj]; rfl
      · rw [List.length_map]; exact Nat.le_trans hn (by decide)
      · rw [set_ref (vs := six.map V.int) rfl (by rw [List.length_map]; exact hj6) (by rw [List.length_map, h6]; decide), List.map_set]; rfl
    exact for_next (by rw [iter01 (by lia), if_pos (by lia)]) rfl hb hr
theorem cells_run (ns : List Int) (hn : ns.length ≤ 63) : ∃ cs : List Int, cs.length = 5 ∧ runF C TK l2_law_cells [.lst true (ns.map V.int)] = some (.lst false (cs.map V.int)) := by
  obtain ⟨m, hm⟩ : ∃ m : Nat, m = min ns.length 60 := ⟨_, rfl⟩
  obtain ⟨v', cs, hr, q1, q2⟩ := cells_loop (C := C) (TK := TK) ns hn m (by lia) m 0 [(49, .lst true (ns.map V.int)), (50, .ref 0)] [5, 7, 12, 4, 9] (by lia) rfl rfl rfl
  refine ⟨cs, q1, ?_⟩
  have key : exs C TK l2_law_cells.body [(49, .lst true (ns.map V.int))] [] = some (.ret (.ref 0), v', [cs.map V.int]) := by
    refine st_next (st_asg (st_list (st_evs st_int (st_evs st_int (st_evs st_int (st_evs st_int (st_evs st_int st_evs_nil))))) (by decide))) ?_
    refine st_next (st_for (v := .rng 0 m 1) (own₁ := [[5, 7, 12, 4, 9].map V.int]) (st_rng (st_prim (vs := [.int ns.length, .int 60]) (own₁ := [[5, 7, 12, 4, 9].map V.int]) (st_evs (st_prim (vs := [.lst true (ns.map V.int)]) (own₁ := [[5, 7, 12, 4, 9].map V.int]) (st_evs (st_var rfl) st_evs_nil) ?_) (st_evs st_int st_evs_nil)) ?_) (by lia)) ?_) (st_stop (st_ret (st_var q2)))
    · show (if (ns.map V.int).length ≤ 1000000 then some (V.int (ns.map V.int).length, _) else none) = _
      rw [if_pos (by simp; lia), List.length_map]
    · show some (V.int (if (60 : Int) < (ns.length : Int) then 60 else (ns.length : Int)), _) = _
      congr 3
      split <;> lia
    · show forLoop [51] (.rng 0 m 1) _ (rngN 0 m 1 + 1) 0 _ _ = _
      rw [rng01]
      exact hr
  exact runF_of rfl key (frz_refI 3 rfl)

/-- what the law does behind its mark -/
noncomputable def l2b : Ss :=
  (.cons (.asg 102 (.call 100 (.cons (.var 101) .nil)))
  (.cons (.asg 128 (.bin .add (.int 255) (.prim .len (.cons (.var 102) .nil))))
  (.cons (.asg 62 (.call 105 (.cons (.var 128) (.cons (.var 102) (.cons (.var 101) (.cons (.var 53) (.cons (.var 59) .nil)))))))
  (.cons (.asg 127 (.call 109 (.cons (.var 128) (.cons (.var 102) (.cons (.int 0) .nil)))))
  (.cons (.ite (.cmp .ne (.var 62) (.meth .join (.str []) (.cons (.comp (lineE (.var 95)) [51, 95] (.var 127)) .nil)))
  (.cons (.ret (.bool false))
  .nil)
  .nil)
  (.cons (.asg 55 (.comp (.var 95) [51, 95] (.prim .sorted (.cons (.var 127) .nil))))
  (.cons (.ite (.cmp .ne (.prim .sorted (.cons (.call 112 (.cons (.var 62) .nil)) .nil)) (.comp elE [51] (.prim .range (.cons (.var 125) .nil))))
  (.cons (.ret (.bool false))
  .nil)
  .nil)
  (.cons (.asg 126 (.call 120 (.cons (.str []) (.cons (.call 66 (.cons (.var 55) (.cons (.var 113) (.cons (.var 114) .nil)))) (.cons (.var 101) (.cons (.var 53) (.cons (.var 59) .nil)))))))
  (.cons (.ite (.cmp .ne (.var 126) (.meth .join (.str []) (.cons (.comp (lineE (.idx (.var 55) (.var 51))) [51] (.prim .range (.cons (.var 125) .nil))) .nil)))
  (.cons (.ret (.bool false))
  .nil)
  .nil)
  (.cons (.asg 124 (.int 0))
  (.cons (.for [51] (.prim .range (.cons (.var 125) .nil))
  spBody)
  (.cons (.ret (.cmp .eq (.var 124) (.bin .mul (.int 8) (.call 122 (.cons (.var 101) .nil)))))
  .nil))))))))))))
theorem sum_mul : ∀ l : List Nat, (l.map fun x => 8 * x).sum = 8 * l.sum
  | [] => rfl
  | x :: l => by rw [List.map_cons, List.sum_cons, List.sum_cons, sum_mul l, Nat.mul_add]
theorem partB {s : List Nat} {rules : List (Nat × Nat)} {t t' : Tr} {sl : List (Nat × Nat)} {ws : List (List Nat)} {D f m : Nat} {p : Int} {ts : List Int} (h : SOk (CF 11) s rules t t' sl ws D) (hm : m = 38 ∨ m = 60 ∨ m = 62) (hp : okPick p m = true) (hf : 100 ≤ f ∧ f < 1000) (hts : ts.length = 5) (ht : ∀ t ∈ ts, t.natAbs ≤ 2 ^ 63) (S c tot ch : V) (mks : List V) :
    ∃ v' o', exs (CF 12) TK1 l2b [(49, S), (50, c), (98, tot), (125, .int (s.length : Nat)), (101, .ref 0), (114, .ref 1), (113, .int (f : Nat)), (53, .int p), (129, ch), (59, .str [m])] [encN s, ts.map V.int, mks] = some (.ret (.bool true), v', o') := by
  have R : Row s sl := ⟨h.sl1, h.oks⟩
  have hn5 := R.le5
  have q := okLs_is h.ok
  obtain ⟨ls, hls⟩ : ∃ ls, ls = leavesT t 0 := ⟨_, rfl⟩
  have hrun := doc_run (rules := rules) (sz := s) hm hp (by lia) h.rl t (255 + rules.length) 12 h.ht (okLs_ok h.ok) (by have := h.hg; lia)
  have hpage := page_is (s := s) hm h.ok
  rw [hpage] at hrun
  have hleaves := leaves_run (rules := rules) (sz := s) h.rl t (255 + rules.length) 0 12 h.ht (okLs_ok h.ok) (by have := h.hg; lia)
  have hio := io_run (words := ws) (sz := s) (p := p) hm hp (by lia) h.wl (fun w hw => List.all_eq_true.mp h.wsm w hw) t' [] 12 h.ho rfl (okLs_ok (by rw [h.hol]; exact h.oks)) (by have := h.hg'; lia)
  have hpage2 := page_is (s := s) (t := t') hm (by rw [h.hol]; exact h.oks)
  rw [h.hol] at hpage2
  rw [hpage2] at hio
  have hwords := words_run (e := 7) (f := f) hf (by rw [List.length_map, R.len]; lia) ⟨by rw [List.length_map, R.len, hts]; exact hn5, by rw [hts]; decide⟩ ht h.hD h.D4 h.hw
  have hfew := few_run s.length s 12 (Nat.le_of_succ_le h.n2) (Nat.le_refl _) (by lia) (by lia)
  have hok := h.ok
  have hs1 := h.s1
  have hs2 := h.s2
  have hn1 := h.n1
  have hn2 := h.n2
  rw [← hls] at hrun hleaves hok hs1 hs2 hn1 q
  have hl2 : 2 ≤ ls.length := by rw [hn1]; exact hn2
  have hsl5 : sl.length ≤ 5 := by rw [R.len]; exact hn5
  obtain ⟨pg, hpg⟩ : ∃ pg, pg = (ls.map (lineT m s)).flatten := ⟨_, rfl⟩
  obtain ⟨t1, ht1⟩ : ∃ t1, t1 = (ls.map (lineT m s)).map V.str := ⟨_, rfl⟩
  have j1 := page1_ev (e := 11) (s := s) (ls := ls) (own := [encN s, ts.map V.int, mks]) (vars := [(49, S), (50, c), (98, tot), (125, .int (s.length : Nat)), (101, .ref 0), (114, .ref 1), (113, .int (f : Nat)), (53, .int p), (129, ch), (59, .str [m]), (102, .lst false (encR rules)), (128, .int (255 + rules.length : Nat)), (62, .str pg), (127, .lst false (encR ls))]) hm rfl rfl rfl rfl (by lia) hok
  rw [← hpg, ← ht1] at j1
  have j2 := depths_ev (C := CF 12) (TK := TK1) (ls := ls) (sl := sl) (own := [encN s, ts.map V.int, mks, t1]) (vars := [(49, S), (50, c), (98, tot), (125, .int (s.length : Nat)), (101, .ref 0), (114, .ref 1), (113, .int (f : Nat)), (53, .int p), (129, ch), (59, .str [m]), (102, .lst false (encR rules)), (128, .int (255 + rules.length : Nat)), (62, .str pg), (127, .lst false (encR ls))]) rfl hl2 q.1 hs1 hsl5
  obtain ⟨dl, hdl⟩ : ∃ dl, dl = encN (sl.map (·.2)) := ⟨_, rfl⟩
  obtain ⟨junk, j3⟩ := read_cmp (e := 11) (m := m) (i5 := 5) (own := [encN s, ts.map V.int, mks, t1, encR sl, dl]) (vars := [(49, S), (50, c), (98, tot), (125, .int (s.length : Nat)), (101, .ref 0), (114, .ref 1), (113, .int (f : Nat)), (53, .int p), (129, ch), (59, .str [m]), (102, .lst false (encR rules)), (128, .int (255 + rules.length : Nat)), (62, .str pg), (127, .lst false (encR ls)), (55, .ref 5)]) R hm rfl rfl rfl (by rw [hdl]; rfl) rfl (by rw [hpg]; rfl) hok hl2 hs2
  obtain ⟨O, hO⟩ : ∃ O, O = [encN s, ts.map V.int, mks, t1, encR sl, dl] ++ junk := ⟨_, rfl⟩
  rw [← hO] at j3
  have o0 : O[0]? = some (encN s) := by rw [hO]; rfl
  have o1 : O[1]? = some (ts.map V.int) := by rw [hO]; rfl
  have o5 : O[5]? = some (encN (sl.map (·.2))) := by rw [hO, hdl]; rfl
  rw [← hdl] at j2
  obtain ⟨pg2, hpg2⟩ : ∃ pg2, pg2 = (sl.map (lineT m s)).flatten := ⟨_, rfl⟩
  have j4 := page2_ev (e := 11) (m := m) (i5 := 5) (own := O) (vars := [(49, S), (50, c), (98, tot), (125, .int (s.length : Nat)), (101, .ref 0), (114, .ref 1), (113, .int (f : Nat)), (53, .int p), (129, ch), (59, .str [m]), (102, .lst false (encR rules)), (128, .int (255 + rules.length : Nat)), (62, .str pg), (127, .lst false (encR ls)), (55, .ref 5), (126, .str pg2)]) R hm rfl rfl o0 rfl o5 rfl
  rw [← hpg2] at j4 hio
  obtain ⟨O2, hO2⟩ : ∃ O2, O2 = O ++ [(sl.map (lineT m s)).map V.str] := ⟨_, rfl⟩
  rw [← hO2] at j4
  have p0 : O2[0]? = some (encN s) := by rw [hO2, List.getElem?_append_left (List.getElem?_eq_some_iff.mp o0).1]; exact o0
  have p5 : O2[5]? = some (encN (sl.map (·.2))) := by rw [hO2, List.getElem?_append_left (List.getElem?_eq_some_iff.mp o5).1]; exact o5
  obtain ⟨v9, k1, k2⟩ := sp_loop (e := 11) (m := m) (i5 := 5) (own := O2) R hm p0 p5 s.length 0 [(49, S), (50, c), (98, tot), (125, .int (s.length : Nat)), (101, .ref 0), (114, .ref 1), (113, .int (f : Nat)), (53, .int p), (129, ch), (59, .str [m]), (102, .lst false (encR rules)), (128, .int (255 + rules.length : Nat)), (62, .str pg), (127, .lst false (encR ls)), (55, .ref 5), (126, .str pg2), (124, .int (0 : Nat))] (Nat.zero_add _) ⟨rfl, rfl, rfl, rfl⟩
  have hsum : spN s sl s.length = 8 * fewN s.length s := by
    rw [h.few]
    unfold spN
    rw [R.map fun p => 8 * (s.getD p.1 0 * p.2), ← sum_mul, List.map_map]; rfl
  rw [← hpg] at hrun
  refine ⟨v9, O2, ?_⟩
  refine st_next (vars₁ := [(49, S), (50, c), (98, tot), (125, .int (s.length : Nat)), (101, .ref 0), (114, .ref 1), (113, .int (f : Nat)), (53, .int p), (129, ch), (59, .str [m]), (102, .lst false (encR rules))]) (own₁ := [encN s, ts.map V.int, mks]) (st_asg (v := .lst false (encR rules)) (sp_call (ws := [.lst true (encN s)]) (sp_evs (st_var rfl) st_evs_nil) (mapO_c (frz_refS (b := true) 4 rfl (frz_nats true _ 3 s)) rfl) (by rw [cf_run (by decide) (by decide) rfl]; exact h.hr))) ?_
  refine st_next (vars₁ := [(49, S), (50, c), (98, tot), (125, .int (s.length : Nat)), (101, .ref 0), (114, .ref 1), (113, .int (f : Nat)), (53, .int p), (129, ch), (59, .str [m]), (102, .lst false (encR rules)), (128, .int (255 + rules.length : Nat))]) (own₁ := [encN s, ts.map V.int, mks]) (st_asg (v := .int (255 + rules.length : Nat)) (st_binI (i := (255 : Nat)) (j := (rules.length : Nat)) st_int (by have := lst_len (C := CF 12) (TK := TK1) (own := [encN s, ts.map V.int, mks]) (x := 102) (b := false) (vs := encR rules) (vars := [(49, S), (50, c), (98, tot), (125, .int (s.length : Nat)), (101, .ref 0), (114, .ref 1), (113, .int (f : Nat)), (53, .int p), (129, ch), (59, .str [m]), (102, .lst false (encR rules))]) rfl (by rw [encR_len]; have := h.rl; lia); rw [encR_len] at this; exact this) (congrArg some (Int.natCast_add 255 rules.length).symm))) ?_
  refine st_next (vars₁ := [(49, S), (50, c), (98, tot), (125, .int (s.length : Nat)), (101, .ref 0), (114, .ref 1), (113, .int (f : Nat)), (53, .int p), (129, ch), (59, .str [m]), (102, .lst false (encR rules)), (128, .int (255 + rules.length : Nat)), (62, .str pg)]) (own₁ := [encN s, ts.map V.int, mks]) (st_asg (v := .str pg) (sp_call (ws := docA rules s p m (255 + rules.length)) (sp_evs (st_var rfl) (sp_evs (st_var rfl) (sp_evs (st_var rfl) (sp_evs (st_var rfl) (sp_evs (st_var rfl) st_evs_nil))))) (mapO_c rfl (mapO_c (frz_lstT 4 (frz_pairs true _ 2 rules) false) (mapO_c (frz_refS (b := true) 4 rfl (frz_nats true _ 3 s)) rfl))) hrun)) ?_
  refine st_next (vars₁ := [(49, S), (50, c), (98, tot), (125, .int (s.length : Nat)), (101, .ref 0), (114, .ref 1), (113, .int (f : Nat)), (53, .int p), (129, ch), (59, .str [m]), (102, .lst false (encR rules)), (128, .int (255 + rules.length : Nat)), (62, .str pg), (127, .lst false (encR ls))]) (own₁ := [encN s, ts.map V.int, mks]) (st_asg (v := .lst false (encR ls)) (sp_call (ws := [.int (255 + rules.length : Nat), .lst true (encR rules), .int (0 : Nat)]) (sp_evs (st_var rfl) (sp_evs (st_var rfl) (sp_evs st_int st_evs_nil))) (mapO_c rfl (mapO_c (frz_lstT 4 (frz_pairs true _ 2 rules) false) rfl)) hleaves)) ?_
  refine st_next (vars₁ := [(49, S), (50, c), (98, tot), (125, .int (s.length : Nat)), (101, .ref 0), (114, .ref 1), (113, .int (f : Nat)), (53, .int p), (129, ch), (59, .str [m]), (102, .lst false (encR rules)), (128, .int (255 + rules.length : Nat)), (62, .str pg), (127, .lst false (encR ls))]) (own₁ := [encN s, ts.map V.int, mks, t1]) (st_ite_f (own₁ := [encN s, ts.map V.int, mks, t1]) (ne_same (st_var (v := .str pg) rfl) j1) st_nil) ?_
  refine st_next (vars₁ := [(49, S), (50, c), (98, tot), (125, .int (s.length : Nat)), (101, .ref 0), (114, .ref 1), (113, .int (f : Nat)), (53, .int p), (129, ch), (59, .str [m]), (102, .lst false (encR rules)), (128, .int (255 + rules.length : Nat)), (62, .str pg), (127, .lst false (encR ls)), (55, .ref 5)]) (own₁ := [encN s, ts.map V.int, mks, t1, encR sl, dl]) (st_asg (v := .ref 5) j2) ?_
  refine st_next (vars₁ := [(49, S), (50, c), (98, tot), (125, .int (s.length : Nat)), (101, .ref 0), (114, .ref 1), (113, .int (f : Nat)), (53, .int p), (129, ch), (59, .str [m]), (102, .lst false (encR rules)), (128, .int (255 + rules.length : Nat)), (62, .str pg), (127, .lst false (encR ls)), (55, .ref 5)]) (own₁ := O) (st_ite_f (own₁ := O) j3 st_nil) ?_
  refine st_next (vars₁ := [(49, S), (50, c), (98, tot), (125, .int (s.length : Nat)), (101, .ref 0), (114, .ref 1), (113, .int (f : Nat)), (53, .int p), (129, ch), (59, .str [m]), (102, .lst false (encR rules)), (128, .int (255 + rules.length : Nat)), (62, .str pg), (127, .lst false (encR ls)), (55, .ref 5), (126, .str pg2)]) (own₁ := O) (st_asg (v := .str pg2) (sp_call (ws := ioA ws s p m []) (sp_evs st_str (sp_evs (sp_call (ws := [.lst true (encN (sl.map (·.2))), .int (f : Nat), .lst true (ts.map V.int)]) (sp_evs (st_var (v := .ref 5) rfl) (sp_evs (st_var (v := .int (f : Nat)) rfl) (sp_evs (st_var (v := .ref 1) rfl) st_evs_nil))) (mapO_c (frz_refS (b := true) 4 o5 (frz_nats true _ 3 _)) (mapO_c rfl (mapO_c (frz_refI (b := true) 3 o1) rfl))) hwords) (sp_evs (st_var (v := .ref 0) rfl) (sp_evs (st_var rfl) (sp_evs (st_var rfl) st_evs_nil))))) (mapO_c rfl (mapO_c (frz_lstT 4 (frz_strs true _ 3 ws) false) (mapO_c (frz_refS (b := true) 4 o0 (frz_nats true _ 3 s)) rfl))) hio)) ?_
  refine st_next (vars₁ := [(49, S), (50, c), (98, tot), (125, .int (s.length : Nat)), (101, .ref 0), (114, .ref 1), (113, .int (f : Nat)), (53, .int p), (129, ch), (59, .str [m]), (102, .lst false (encR rules)), (128, .int (255 + rules.length : Nat)), (62, .str pg), (127, .lst false (encR ls)), (55, .ref 5), (126, .str pg2)]) (own₁ := O2) (st_ite_f (own₁ := O2) (ne_same (st_var (v := .str pg2) rfl) j4) st_nil) ?_
  refine st_next (vars₁ := [(49, S), (50, c), (98, tot), (125, .int (s.length : Nat)), (101, .ref 0), (114, .ref 1), (113, .int (f : Nat)), (53, .int p), (129, ch), (59, .str [m]), (102, .lst false (encR rules)), (128, .int (255 + rules.length : Nat)), (62, .str pg), (127, .lst false (encR ls)), (55, .ref 5), (126, .str pg2), (124, .int (0 : Nat))]) (own₁ := O2) (st_asg (v := .int (0 : Nat)) st_int) ?_
  refine st_next (own₁ := O2) (st_for (v := .rng 0 s.length 1) (own₁ := O2) (many_rng rfl hn5) ?_) (st_stop (st_ret (st_cmp (x := .int (spN s sl s.length : Nat)) (y := .int (8 * fewN s.length s : Nat)) (st_var k2.g124) (st_binI (i := (8 : Nat)) (j := (fewN s.length s : Nat)) st_int (sp_call (ws := [.lst true (encN s)]) (sp_evs (st_var k2.g101) st_evs_nil) (mapO_c (frz_refS (b := true) 4 p0 (frz_nats true _ 3 s)) rfl) hfew) (mul_nat (by decide))) ?_)))
  · show forLoop [51] _ _ (rngN 0 (s.length : Int) 1 + 1) 0 _ _ = _
    rw [rng01]; exact k1
  · show some (decide (((spN s sl s.length : Nat) : Int) = ((8 * fewN s.length s : Nat) : Int))) = _
    rw [hsum, decide_eq_true rfl]
end
end Mine
end
section
set_option maxRecDepth 100000
set_option autoImplicit false
set_option maxHeartbeats 0
namespace Mine
open PySem PySem.W PyProof.Rows
theorem chk_four1 (C : Nat → List V → Option V) : ((listsN 3).all fun l => chkS C (1 :: l)) = true := by kernel_rfl
theorem chk_four2 (C : Nat → List V → Option V) : ((listsN 3).all fun l => chkS C (2 :: l)) = true := by kernel_rfl
theorem chk_four3 (C : Nat → List V → Option V) : ((listsN 3).all fun l => chkS C (3 :: l)) = true := by kernel_rfl
end Mine
end
section
set_option maxRecDepth 100000
set_option autoImplicit false
set_option maxHeartbeats 0
namespace Mine
open PySem PySem.W PyProof.Rows
theorem chk_five11 (C : Nat → List V → Option V) : ((listsN 3).all fun l => chkS C (1 :: 1 :: l)) = true := by kernel_rfl
theorem chk_five12 (C : Nat → List V → Option V) : ((listsN 3).all fun l => chkS C (1 :: 2 :: l)) = true := by kernel_rfl
theorem chk_five13 (C : Nat → List V → Option V) : ((listsN 3).all fun l => chkS C (1 :: 3 :: l)) = true := by kernel_rfl
end Mine
end
section
set_option maxRecDepth 100000
set_option autoImplicit false
set_option maxHeartbeats 0
namespace Mine
open PySem PySem.W PyProof.Rows
theorem chk_five21 (C : Nat → List V → Option V) : ((listsN 3).all fun l => chkS C (2 :: 1 :: l)) = true := by kernel_rfl
theorem chk_five22 (C : Nat → List V → Option V) : ((listsN 3).all fun l => chkS C (2 :: 2 :: l)) = true := by kernel_rfl
theorem chk_five23 (C : Nat → List V → Option V) : ((listsN 3).all fun l => chkS C (2 :: 3 :: l)) = true := by kernel_rfl
end Mine
end
section
set_option maxRecDepth 100000
set_option autoImplicit false
set_option maxHeartbeats 0
namespace Mine
open PySem PySem.W PyProof.Rows
theorem chk_five31 (C : Nat → List V → Option V) : ((listsN 3).all fun l => chkS C (3 :: 1 :: l)) = true := by kernel_rfl
theorem chk_five32 (C : Nat → List V → Option V) : ((listsN 3).all fun l => chkS C (3 :: 2 :: l)) = true := by kernel_rfl
theorem chk_five33 (C : Nat → List V → Option V) : ((listsN 3).all fun l => chkS C (3 :: 3 :: l)) = true := by kernel_rfl
end Mine
end
section
set_option maxRecDepth 100000
set_option autoImplicit false
set_option maxHeartbeats 0
namespace Mine
theorem three_of {a : Nat} (h : 1 ≤ a ∧ a ≤ 3) {P : Nat → Prop} (h1 : P 1) (h2 : P 2) (h3 : P 3) : P a := by
  match a, h with
  | 1, _ => exact h1
  | 2, _ => exact h2
  | 3, _ => exact h3
theorem chk_ok (C : Nat → List V → Option V) {s : List Nat} (h : ∀ x ∈ s, 1 ≤ x ∧ x ≤ 3) (hn : s.length = 4 ∨ s.length = 5) : chkS C s = true := by
  have mem : ∀ {l : List Nat}, (∀ x ∈ l, 1 ≤ x ∧ x ≤ 3) → l.length = 3 → l ∈ listsN 3 := fun {l} hl e => by
    have := lists_mem hl
    rw [e] at this; exact this
  cases s with
  | nil => exact hn.elim (fun e => nomatch e) fun e => nomatch e
  | cons a l =>
    have ha := h a (.head _)
    rcases hn with hn | hn
    · have hl := mem (l := l) (fun x hx => h x (.tail _ hx)) (Nat.succ.inj hn)
      exact three_of ha (P := fun a => chkS C (a :: l) = true) (List.all_eq_true.mp (chk_four1 C) l hl) (List.all_eq_true.mp (chk_four2 C) l hl) (List.all_eq_true.mp (chk_four3 C) l hl)
    · cases l with
      | nil => cases hn
      | cons b l =>
        have hb := h b (.tail _ (.head _))
        have hl := mem (l := l) (fun x hx => h x (.tail _ (.tail _ hx))) (Nat.succ.inj (Nat.succ.inj hn))
        refine three_of ha (P := fun a => chkS C (a :: b :: l) = true) ?_ ?_ ?_
        · exact three_of hb (P := fun b => chkS C (1 :: b :: l) = true) (List.all_eq_true.mp (chk_five11 C) l hl) (List.all_eq_true.mp (chk_five12 C) l hl) (List.all_eq_true.mp (chk_five13 C) l hl)
        · exact three_of hb (P := fun b => chkS C (2 :: b :: l) = true) (List.all_eq_true.mp (chk_five21 C) l hl) (List.all_eq_true.mp (chk_five22 C) l hl) (List.all_eq_true.mp (chk_five23 C) l hl)
        · exact three_of hb (P := fun b => chkS C (3 :: b :: l) = true) (List.all_eq_true.mp (chk_five31 C) l hl) (List.all_eq_true.mp (chk_five32 C) l hl) (List.all_eq_true.mp (chk_five33 C) l hl)
section
variable {C : Nat → List V → Option V} {TK : Nat → Option Int} {vars vars' vars₁ vars₂ : Vars} {own own' own₁ own₂ own₃ : Own}
theorem fm (a : Int) {b : Int} (hb : 0 < b) : ∃ n : Nat, a.fmod b = (n : Int) ∧ (n : Int) < b := by
  have h1 := Int.fmod_nonneg_of_pos a hb
  have h2 := Int.fmod_lt_of_pos a hb
  exact ⟨(a.fmod b).toNat, (Int.toNat_of_nonneg h1).symm, by rw [Int.toNat_of_nonneg h1]; exact h2⟩
noncomputable def mks5 : List V := [.str [38, 60, 62], .str [38, 60, 62], .str [38, 60, 62], .str [38, 60], .str [38, 62]]
structure Pick (A B : List V) (tot p : Int) (marks : List Nat) (m : Nat) : Prop where
  ok : okPick p m = true
  hm : m = 38 ∨ m = 60 ∨ m = 62
  i1 : itemAt [A, B, mks5] (.ref 2) (.int p) = some (.str marks)
  i2 : itemAt [A, B, mks5] (.str marks) (.int ((tot.fdiv 5).fmod (marks.length : Nat))) = some (.str [m])
  l0 : (marks.length : Int) ≠ 0
  l3 : marks.length ≤ 3
theorem pick_of {A B : List V} {tot p : Int} {marks : List Nat} (h0 : 0 < marks.length) (h3 : marks.length ≤ 3) (hm : ∀ m ∈ marks, okPick p m = true ∧ (m = 38 ∨ m = 60 ∨ m = 62)) (hi : itemAt [A, B, mks5] (.ref 2) (.int p) = some (.str marks)) : ∃ (marks : List Nat) (m : Nat), Pick A B tot p marks m := by
  obtain ⟨n, e, hn⟩ := fm (tot.fdiv 5) (Int.ofNat_lt.mpr h0)
  have hn := Int.ofNat_lt.mp hn
  have q := hm _ (List.getElem_mem hn)
  refine ⟨marks, marks[n], q.1, q.2, hi, ?_, Int.ne_of_gt (Int.ofNat_lt.mpr h0), h3⟩
  have e : (tot.fdiv 5).fmod ((marks.length : Nat) : Int) = (n : Int) := e
  rw [e]
  exact it_str (List.getElem?_eq_getElem hn) (Nat.le_trans h3 (by decide))
theorem pick_all (A B : List V) (tot : Int) : ∃ (marks : List Nat) (m : Nat), Pick A B tot (tot.fmod 5) marks m := by
  obtain ⟨n, e, hn⟩ := fm tot (show (0 : Int) < 5 by decide)
  have hn := Int.ofNat_lt.mp hn
  rw [e]
  match n, hn with
  | 0, _ => exact pick_of (marks := [38, 60, 62]) (by decide) (by decide) (by decide) rfl
  | 1, _ => exact pick_of (marks := [38, 60, 62]) (by decide) (by decide) (by decide) rfl
  | 2, _ => exact pick_of (marks := [38, 60, 62]) (by decide) (by decide) (by decide) rfl
  | 3, _ => exact pick_of (marks := [38, 60]) (by decide) (by decide) (by decide) rfl
  | 4, _ => exact pick_of (marks := [38, 62]) (by decide) (by decide) (by decide) rfl
noncomputable def manyE : E := .ite (.cmp .gt (.prim .len (.cons (.var 49) .nil)) (.int 4)) (.int 5) (.int 4)
theorem many_ev {ns : List Int} (g : getV 49 vars = some (.lst true (ns.map V.int))) (hn : ns.length ≤ 1000) : ∃ n : Nat, (n = 4 ∨ n = 5) ∧ ev C TK manyE vars own = some (.int (n : Nat), own) := by
  have hl := lst_len (C := C) (TK := TK) (own := own) g (by rw [List.length_map]; exact hn)
  rw [List.length_map] at hl
  have ht : tstOf (ev C TK (.cmp .gt (.prim .len (.cons (.var 49) .nil)) (.int 4)) vars own) = some (decide ((4 : Int) < (ns.length : Int)), own) := st_cmpI hl st_int rfl
  by_cases h : (4 : Int) < (ns.length : Int)
  · refine ⟨5, .inr rfl, ?_⟩
    show (tstOf (ev C TK (.cmp .gt (.prim .len (.cons (.var 49) .nil)) (.int 4)) vars own)).bind _ = _
    rw [ht, decide_eq_true h]; rfl
  · refine ⟨4, .inl rfl, ?_⟩
    show (tstOf (ev C TK (.cmp .gt (.prim .len (.cons (.var 49) .nil)) (.int 4)) vars own)).bind _ = _
    rw [ht, decide_eq_false h]; rfl
noncomputable def szE : E := .bin .add (.int 1) (.bin .mod (.idx (.var 50) (.var 51)) (.int 3))
noncomputable def szN (cs : List Int) (k : Nat) : Nat := 1 + ((cs.getD k 0).fmod 3).toNat
theorem szN_in (cs : List Int) (k : Nat) : 1 ≤ szN cs k ∧ szN cs k ≤ 3 := by
  have h2 := Int.fmod_lt_of_pos (cs.getD k 0) (show (0 : Int) < 3 by decide)
  unfold szN
  generalize (cs.getD k 0).fmod 3 = x at h2
  lia
theorem sz_ev {cs : List Int} {n : Nat} (hn : n ≤ 5) (hc : cs.length = 5) (g50 : getV 50 vars = some (.lst false (cs.map V.int))) (g125 : getV 125 vars = some (.int (n : Nat))) : ev C TK (.comp szE [51] (.prim .range (.cons (.var 125) .nil))) vars own = some (.ref own.length, own ++ [encN ((List.range n).map (szN cs))]) := by
  have h := st_mapr (C := C) (TK := TK) (elt := szE) (t := 51) (own := own) (n := n) (f := fun k => V.int (szN cs k : Nat)) (by lia) (many_rng g125 hn) fun k hk ys => by
    have hk5 : k < cs.length := by lia
    have e : cs[k]? = some (cs.getD k 0) := by rw [List.getD_eq_getElem?_getD, List.getElem?_eq_getElem hk5]; rfl
    refine st_binI (i := 1) (j := (cs.getD k 0).fmod 3) st_int (st_binI (i := cs.getD k 0) (j := 3) (sp_idx (st_var (gv_ne (by decide) g50)) (st_var gv_same) (it_lst (ints_at e) (by rw [List.length_map]; lia))) st_int rfl) (congrArg some ?_)
    have h1 := Int.fmod_nonneg_of_pos (cs.getD k 0) (show (0 : Int) < 3 by decide)
    unfold szN
    rw [Int.natCast_add, Int.toNat_of_nonneg h1]; rfl
  have e : (List.range n).map (fun k => V.int (szN cs k : Nat)) = encN ((List.range n).map (szN cs)) := by unfold encN; rw [List.map_map]; rfl
  rw [e] at h
  exact h
noncomputable def tnE : E := .bin .sub (.bin .mod (.bin .add (.var 97) (.bin .pow (.int 2) (.int 63))) (.bin .pow (.int 2) (.int 64))) (.bin .pow (.int 2) (.int 63))
noncomputable def tnI (c : Int) : Int := (c + 2 ^ 63).fmod (2 ^ 64) - 2 ^ 63
theorem tn_small (c : Int) : (tnI c).natAbs ≤ 2 ^ 63 := by
  have h1 := Int.fmod_nonneg_of_pos (c + 2 ^ 63) (show (0 : Int) < 2 ^ 64 by decide)
  have h2 := Int.fmod_lt_of_pos (c + 2 ^ 63) (show (0 : Int) < 2 ^ 64 by decide)
  unfold tnI
  generalize (c + 2 ^ 63).fmod (2 ^ 64) = x at h1 h2
  lia
theorem tn_ev {cs : List Int} (hc : cs.length = 5) (g50 : getV 50 vars = some (.lst false (cs.map V.int))) : ev C TK (.comp tnE [97] (.var 50)) vars own = some (.ref own.length, own ++ [(cs.map tnI).map V.int]) := by
  have h := st_map (C := C) (TK := TK) (elt := tnE) (ts := [97]) (vars := vars) (own := own) (f := fun u => V.int (tnI ((intOf u).getD 0))) (st_var g50) (fun o j => it_lst' _ j) rfl (by rw [List.length_map, hc]; decide) fun u hu ys => by
    obtain ⟨c, _, rfl⟩ := List.mem_map.mp hu
    have p63 : ∀ {v' : Vars} {o : Own}, ev C TK (.bin .pow (.int 2) (.int 63)) v' o = some (.int (2 ^ 63), o) := st_binI st_int st_int rfl
    have p64 : ∀ {v' : Vars} {o : Own}, ev C TK (.bin .pow (.int 2) (.int 64)) v' o = some (.int (2 ^ 64), o) := st_binI st_int st_int rfl
    refine ⟨_, rfl, st_binI (st_binI (st_binI (st_var gv_same) p63 rfl) p64 ?_) p63 rfl⟩
    show (if (2 : Int) ^ 64 ≠ 0 then some ((c + 2 ^ 63).fmod (2 ^ 64)) else none) = some ((c + 2 ^ 63).fmod (2 ^ 64))
    rw [if_pos (show (2 : Int) ^ 64 ≠ 0 by decide)]
  have e : (cs.map V.int).map (fun u => V.int (tnI ((intOf u).getD 0))) = (cs.map tnI).map V.int := by rw [List.map_map, List.map_map]; rfl
  rw [e] at h
  exact h
theorem fac_ev (tot : Int) : ∃ f : Nat, 100 + (tot.fdiv 15).fmod 900 = (f : Int) ∧ 100 ≤ f ∧ f < 1000 := by
  obtain ⟨n, e, hn⟩ := fm (tot.fdiv 15) (show (0 : Int) < 900 by decide)
  exact ⟨100 + n, by rw [e]; rfl, Nat.le_add_right _ _, by have := Int.ofNat_lt.mp hn; lia⟩
theorem intsO_ints : ∀ l : List Int, intsO (l.map V.int) = some l
  | [] => rfl
  | i :: l => by
    show (intsO (l.map V.int)).bind _ = _
    rw [intsO_ints l]; rfl
theorem law2_run (ns : List Int) (hn : ns.length ≤ 63) : runF (CF 12) TK1 l2_law [.lst true (ns.map V.int)] = some (.bool true) := by
  have hn1000 : ns.length ≤ 1000 := Nat.le_trans hn (by decide)
  obtain ⟨cs, hc5, hcell⟩ := cells_run (C := CF 11) (TK := TK1) ns hn
  have h48 : CF 12 48 [.lst true (ns.map V.int)] = some (.lst false (cs.map V.int)) := hcell
  obtain ⟨tot, htot⟩ : ∃ tot, tot = cs.sum := ⟨_, rfl⟩
  obtain ⟨S, hS⟩ : ∃ S, S = V.lst true (ns.map V.int) := ⟨_, rfl⟩
  obtain ⟨n, hn45, hmany⟩ := many_ev (C := CF 12) (TK := TK1) (own := []) (vars := [(49, S), (50, .lst false (cs.map V.int)), (98, .int tot)]) (by rw [hS]; rfl) hn1000
  have hn5 : n ≤ 5 := by rcases hn45 with rfl | rfl <;> decide
  obtain ⟨s, hs⟩ : ∃ s, s = (List.range n).map (szN cs) := ⟨_, rfl⟩
  have hsl : s.length = n := by rw [hs, List.length_map, List.length_range]
  have hs3 : ∀ x ∈ s, 1 ≤ x ∧ x ≤ 3 := fun x hx => by
    rw [hs] at hx
    obtain ⟨k, _, rfl⟩ := List.mem_map.mp hx
    exact szN_in cs k
  obtain ⟨ts, hts⟩ : ∃ ts, ts = cs.map tnI := ⟨_, rfl⟩
  obtain ⟨marks, m, hp⟩ := pick_all (encN s) (ts.map V.int) tot
  obtain ⟨f, hf, hf1⟩ := fac_ev tot
  refine chkS_ok (chk_ok (CF 11) hs3 (by rw [hsl]; exact hn45)) fun rules t t' sl ws D hok => ?_
  have hsz := sz_ev (C := CF 12) (TK := TK1) (own := []) (n := n) (cs := cs) (vars := [(49, S), (50, .lst false (cs.map V.int)), (98, .int tot), (125, .int (n : Nat))]) hn5 hc5 rfl rfl
  rw [← hs] at hsz
  have htn := tn_ev (C := CF 12) (TK := TK1) (own := [encN s]) (cs := cs) (vars := [(49, S), (50, .lst false (cs.map V.int)), (98, .int tot), (125, .int (n : Nat)), (101, .ref 0)]) hc5 rfl
  rw [← hts] at htn
  obtain ⟨v', o', hend⟩ := partB hok hp.hm hp.ok hf1 (ts := ts) (by rw [hts, List.length_map, hc5]) (fun t ht => by
    rw [hts] at ht
    obtain ⟨c, _, rfl⟩ := List.mem_map.mp ht
    exact tn_small c) S (.lst false (cs.map V.int)) (.int tot) (.str marks) mks5
  rw [hsl] at hend
  have key : exs (CF 12) TK1 l2_law.body [(49, S)] [] = some (.ret (.bool true), v', o') := by
    refine st_next (vars₁ := [(49, S), (50, .lst false (cs.map V.int))]) (own₁ := []) (st_asg (sp_call (vs := [S]) (ws := [S]) (sp_evs (st_var rfl) st_evs_nil) ?_ (by rw [hS]; exact h48))) ?_
    · rw [hS]
      exact mapO_c (frz_lstT 4 (frz_intz true [] 3 ns) true) rfl
    refine st_next (vars₁ := [(49, S), (50, .lst false (cs.map V.int)), (98, .int tot)]) (own₁ := []) (st_asg (sp_prim (vs := [.lst false (cs.map V.int)]) (sp_evs (st_var rfl) st_evs_nil) ?_)) ?_
    · show (intsO (cs.map V.int)).bind _ = _
      rw [intsO_ints, htot]; rfl
    refine st_next (vars₁ := [(49, S), (50, .lst false (cs.map V.int)), (98, .int tot), (125, .int (n : Nat))]) (own₁ := []) (st_asg hmany) ?_
    refine st_next (vars₁ := [(49, S), (50, .lst false (cs.map V.int)), (98, .int tot), (125, .int (n : Nat)), (101, .ref 0)]) (own₁ := [encN s]) (st_asg hsz) ?_
    refine st_next (vars₁ := [(49, S), (50, .lst false (cs.map V.int)), (98, .int tot), (125, .int (n : Nat)), (101, .ref 0), (114, .ref 1)]) (own₁ := [encN s, ts.map V.int]) (st_asg htn) ?_
    refine st_next (vars₁ := [(49, S), (50, .lst false (cs.map V.int)), (98, .int tot), (125, .int (n : Nat)), (101, .ref 0), (114, .ref 1), (113, .int (f : Nat))]) (own₁ := [encN s, ts.map V.int]) (st_asg (st_binI (i := 100) (j := (tot.fdiv 15).fmod 900) st_int (st_binI (i := tot.fdiv 15) (j := 900) (st_binI (i := tot) (j := 15) (st_var rfl) st_int rfl) st_int rfl) (congrArg some hf))) ?_
    refine st_next (vars₁ := [(49, S), (50, .lst false (cs.map V.int)), (98, .int tot), (125, .int (n : Nat)), (101, .ref 0), (114, .ref 1), (113, .int (f : Nat)), (53, .int (tot.fmod 5))]) (own₁ := [encN s, ts.map V.int]) (st_asg (st_binI (i := tot) (j := 5) (st_var rfl) st_int rfl)) ?_
    refine st_next (vars₁ := [(49, S), (50, .lst false (cs.map V.int)), (98, .int tot), (125, .int (n : Nat)), (101, .ref 0), (114, .ref 1), (113, .int (f : Nat)), (53, .int (tot.fmod 5)), (129, .str marks)]) (own₁ := [encN s, ts.map V.int, mks5]) (st_asg (st_idx (x := .ref 2) (y := .int (tot.fmod 5)) (own₁ := [encN s, ts.map V.int, mks5]) (own₂ := [encN s, ts.map V.int, mks5]) (st_list (own₁ := [encN s, ts.map V.int]) (vs := mks5) (sp_evs st_str (sp_evs st_str (sp_evs st_str (sp_evs st_str (sp_evs st_str st_evs_nil))))) (by decide)) (st_var rfl) hp.i1)) ?_
    exact st_next (vars₁ := [(49, S), (50, .lst false (cs.map V.int)), (98, .int tot), (125, .int (n : Nat)), (101, .ref 0), (114, .ref 1), (113, .int (f : Nat)), (53, .int (tot.fmod 5)), (129, .str marks), (59, .str [m])]) (own₁ := [encN s, ts.map V.int, mks5]) (st_asg (sp_idx (x := .str marks) (y := .int ((tot.fdiv 5).fmod (marks.length : Nat))) (st_var rfl) (st_binI (i := tot.fdiv 5) (j := (marks.length : Nat)) (st_binI (i := tot) (j := 5) (st_var rfl) st_int rfl) (st_len rfl (Nat.le_trans hp.l3 (by decide))) (if_pos hp.l0)) hp.i2)) hend
  rw [← hS]; exact runF_of rfl key rfl
end
end Mine
end
section
set_option maxRecDepth 100000
set_option autoImplicit false
set_option maxHeartbeats 0
namespace Mine
open PySem PySem.W PyProof.Rows

/-- what the look has seen, at a heap that has grown since -/
noncomputable def yp (fns : List (Nat × Fn)) (dn : Nat → List Stmt) (w : World) (h : Heap) : Prop :=
  ∃ s : Shared, yf fns dn s = ya fns dn w ∧ ∀ b o, s.heap.get? b = some o → h.get? b = some o
theorem keys_lit (P : Params) : ∀ (es : List DictEntry) (cs : List (List Nat × Int)), keysOk es = true → es.map codeOf = cs → es.map (·.hash) = cs.map (fun c => PyData.keyHash P (strV c.1)) → KeysLit P es
  | [], _, _, _, _ => trivial
  | e :: es, [], _, h, _ => nomatch h
  | e :: es, c :: cs, h1, h2, h3 => by
    have h1 := and_true h1
    obtain ⟨a2, b2⟩ := List.cons.inj h2
    obtain ⟨a3, b3⟩ := List.cons.inj h3
    obtain ⟨x, hx⟩ := Option.isSome_iff_exists.mp (and_true h1.1).1
    obtain ⟨t, ht⟩ := keyV_is hx
    refine ⟨⟨x, t, ht, ?_⟩, keys_lit P es cs h1.2 b2 b3⟩
    have e1 : c.1 = x.cps.toList := by rw [← a2]; unfold codeOf; rw [hx]; rfl
    refine Eq.trans a3 ?_
    show PyData.keyHash P (strV c.1) = _
    rw [e1]
    exact congrArg _ (beq_iff_eq.mp ((strV_eq x x.cps.toList).trans (decide_eq_true rfl))).symm
/-- all that the law's call needs of the head -/
structure HeadOk (fns : List (Nat × Fn)) (dn : Nat → List Stmt) (w : World) (h : Heap) (K : Frag) (tk a1 a2 fa : Addr) (es : Array DictEntry) (n : Nat) : Prop where
  hin : K.In h
  hno : noTabs K = true
  hpf : allPf.all (fun p => absent (nsIn K mainGlobals (pfN p))) = true
  hrv : absent (nsIn K mainGlobals "reversed") = true
  htk : nsIn K mainGlobals "EXACT_TOKEN_TYPES" = some (some (.ref tk))
  hl : K.lookup tk = some ⟨.type "dict", none, .dict es n, #[]⟩
  hkeys : KeysLit w.params es.toList
  hok : tkOk es.toList = true
  hsys : (tk == sysModules) = false
  htab : tkK K tk = TK1
  hck : ∀ f fn, fnF fns f = some fn → ∃ a d, gfK K f = some a ∧ bodyIn K a = some (repSs nmS fn.body d) ∧ chkFn K fn d a = true
  ha1 : gfK K 25 = some a1
  hb1 : bodyIn K a1 = some (i2oT (dn 25))
  hd1 : inFd K a1 (okA K dn) = true
  ha2 : gfK K 26 = some a2
  hb2 : bodyIn K a2 = some (d2oT (dn 26))
  hd2 : inFd K a2 (okB K dn) = true
  hfa : gfK K 81 = some fa
  hloc : inFd K fa okL = true
  tabs : TabsAt [(41, 37), (34, 30)] h
theorem head_all {fns : List (Nat × Fn)} {dn : Nat → List Stmt} {w : World} {h : Heap} (Y : yp fns dn w h) {P : Prop} (k : ∀ {K tk a1 a2 fa es n}, HeadOk fns dn w h K tk a1 a2 fa es n → P) : P := by
  obtain ⟨s, e, hk⟩ := Y
  obtain ⟨e, e3⟩ := Prod.mk.inj e
  obtain ⟨e3, e4⟩ := Prod.mk.inj e3
  have hin := (frag_in s.heap (List.range 240)).keeps hk
  have hnt := frag_tabs s.heap (List.range 240)
  generalize fragH s.heap (List.range 240) = K at e hin hnt
  obtain ⟨e, e2⟩ := Prod.mk.inj e
  obtain ⟨e0, e1⟩ := Prod.mk.inj e
  obtain ⟨e5, e2⟩ := Prod.mk.inj e2
  obtain ⟨e6, e7⟩ := Prod.mk.inj e2
  have b := and_true e0
  have c := and_true b.1
  have c1 := and_true c.1
  have c2 := and_true c.2
  have c3 := and_true c2.1
  have c4 := and_true b.2
  have c5 := and_true c4.1
  have c6 := and_true c4.2
  have c7 := and_true c5.1
  refine any_of c3.2 fun p hp q => bind_of hp fun tk htk hp => bind_of hp fun o ho hp => ?_
  refine any_of c7.1 fun a1 ha1 r1 => any_of c7.2 fun a2 ha2 r2 => any_of c5.2 fun fa hfa r3 => ?_
  have q := and_true q
  have q2 := and_true q.2
  have q3 := of_decide_eq_true q2.2
  have hes : tkHash K = p.1.toList.map (·.hash) := by
    unfold tkHash esIn
    rw [htk]
    show ((K.lookup tk).bind dictOf).elim _ _ = _
    rw [ho]
    show (dictOf o).elim _ _ = _
    rw [hp]; rfl
  rw [hes] at e1
  have hd := dictOf_is hp
  rw [hd] at ho
  have f6 : (gfK K 25).bind (bodyIn K) = some (i2oT (dn 25)) := e6
  have f7 : (gfK K 26).bind (bodyIn K) = some (d2oT (dn 26)) := e7
  rw [ha1] at f6
  rw [ha2] at f7
  have hs : (!(tk == sysModules)) = true := by
    have := c3.1
    rw [htk] at this
    exact this
  refine k (K := K) (tk := tk) (a1 := a1) (a2 := a2) (fa := fa) (es := p.1) (n := p.2) ⟨hin, hnt, c1.1, c1.2, ?_, ho, keys_lit _ _ _ q.1 q3 e1, q2.1, not_true hs, ?_, chkAll_ok c2.2 e5, ha1, f6, r1, ha2, f7, r2, hfa, r3, ?_⟩
  · refine bind_of htk fun o e ho => bind_of ho fun v ev hv => ?_
    rw [ev, refV_is hv] at e; exact e
  · funext c
    rw [tk_tab ho q.1 q2.1 c, q3]; rfl
  · intro r hr
    cases hr with
    | head => exact ⟨codeHd_of_K hin c6.1, hk _ _ e4⟩
    | tail _ hr => cases hr with
      | head => exact ⟨codeHd_of_K hin c6.2, hk _ _ e3⟩
      | tail _ hr => cases hr
theorem post2 (xs : WData) : PySem.Challenge.rw_wf0098_02.row.toRowW.claim.post [xs] (WData.bool true) [xs] = true := by
  kernel_rfl
theorem gf_mg {K : Frag} {h : Heap} {mg : Str → Option Value} {f : Nat} {a : Addr} (KX : K.In h) (g : h.Ns mainGlobals mg) (e : gfK K f = some a) : mg (nmS f) = some (.ref a) :=
  gfK_of e fun e1 _ => mg_of KX g e1
noncomputable def dLaw : DefRec := match defOf qq lawNm with | some (d, _) => d | none => ⟨lawNm, ⟨[], [], none, [], [], none, []⟩, [], default, default⟩
theorem go : PySem.Challenge.rw_wf0098_02.Holds := by
  refine holds_law said2 fun said => ?_
  refine holds_open (q := qq) (loose := loose2) (d := dLaw) (kwd := []) (Xt := fun _ => true) (XP := fun _ _ => True) (Yf := yf fns2 dn2) (Ya := ya fns2 dn2) (YP := yp fns2 dn2) (N := 5000) left2 (fun w s e => ⟨s, e, fun _ _ h => h⟩) (fun w h h' ⟨s, e, k⟩ k' => ⟨s, e, fun b o x => k' b o (k b o x)⟩) (fun _ _ => trivial) (fun _ _ _ _ _ => trivial) (by kernel_rfl) (by kernel_rfl) (by kernel_rfl) (fun s _ => recFacts_of (by rfl)) (by rfl) said (by kernel_rfl) ⟨rfl, rfl, rfl, rfl, rfl, by decide +kernel⟩ ?hw ?hc
  case hw => w_witness2
  intro w s₀ s₁ mg mb G Y fa o pm cd doc dV kV ho hd hcd hD hmg hg args vals as hpre hlay hrd hwl hlo
  refine head_all Y fun {K tk a1 a2 fl es n} H => ?_
  refine Ground.open G ?_
  intro T B D TE TW
  wrow_args hpre hlay hrd hwl hlo
  refine enter_call ?_
  refine kn_post H.tabs (fun _ _ => rfl) ?_
  rename Well _ _ _ _ => hW
  rename IntsAre _ _ => hI
  rename Heap.IsList _ _ _ => hL
  rename ¬ _ < _ => hc
  have e1 := gf_mg H.hin T.g H.hfa
  have e2 : mg (nmS 81) = some (.ref fa) := hmg
  rw [e2] at e1; cases e1
  cases hW with
  | list hget _ =>
    obtain ⟨ol, hol, hcl, nl, hdl⟩ := hL
    rw [hget] at hol; cases hol
    obtain ⟨hdl, -⟩ := Data.seq.inj hdl
    refine law_code (T2 := [(41, 37), (34, 30)]) (c1 := 34) (P1 := 30) (c2 := 41) (P2 := 37) rfl (.tail _ (.head _)) (.head _) (by decide) H.tabs H.hin T H.hno H.hpf H.hrv H.htk H.hl H.hkeys H.hok H.hsys H.hck H.ha1 H.hb1 H.hd1 H.ha2 H.hb2 H.hd2 (law := l2_law) rfl rfl e2 H.hloc (xt := fun _ => none) rfl rfl (fun f g h => nomatch h) (d := 12) (by decide) (?_) (by rw [← hdl]; exact hget) hI (fun _ _ => rfl) (post2 _) hg (fun g1 g2 => ⟨g2, g1, trivial⟩)
    rw [H.htab]
    exact law2_run _ (by omega)
end Mine
end
theorem PySem.Challenge.cw_wf0098_02_holds : PySem.Challenge.rw_wf0098_02.Holds :=
  Mine.go
