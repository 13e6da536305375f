import PyProof.Rows.All
import Wide.All
import OpenK.AllK
import Wide.FinOn
import PySem.Challenge.RW_pe0194_01
set_option Elab.async false
set_option maxRecDepth 100000
set_option maxHeartbeats 1000000
set_option linter.unusedVariables false
set_option linter.unusedSimpArgs false

/-! PE -/
namespace Mine
open PySem

/-- what a name may hold: data; the key function; a TupleComp over a datum -/
inductive EV where
  | dat (d : PyData)
  | lam
  | inst (d : PyData)
  | obj (a : Nat)

inductive AOp where
  | add | sub | mul | fdiv | fmod | shl | shr | xor
inductive COp where
  | lt | le | gt | ge | eq | ne
inductive Tg where
  | one (k : Nat)
  | two (k l : Nat)
inductive It where
  | r1 | r2 | seq | rev

set_option genInjectivity false in
set_option genSizeOf false in
set_option genSizeOfSpec false in
inductive X where
  | var (k : Nat)
  | int (i : Int)
  | nil
  | bool (b : Bool)
  | lim
  | ar (op : AOp) (a b : X)
  | cat (a b : X)
  | rep (a b : X)
  | neg (a : X)
  | inv (a : X)
  | not (a : X)
  | cmp (op : COp) (a b : X)
  | isNone (a : X)
  | and2 (a b : X)
  | or2 (a b : X)
  | or3 (a b c : X)
  | ite (c a b : X)
  | tup2 (a b : X)
  | tup3 (a b c : X)
  | list0
  | list1 (a : X)
  | list3 (a b c : X)
  | sub (a i : X)
  | from1 (a : X)
  | upto1 (a : X)
  | sl3 (a i : X)
  | len (a : X)
  | sum (a : X)
  | tuple (a : X)
  | bits (a : X)
  | divmod (a b : X)
  | call1 (f : Nat) (a : X)
  | call2 (f : Nat) (a b : X)
  | call3 (f : Nat) (a b c : X)
  | call5 (f : Nat) (a b c d e : X)
  | callk (f : Nat) (a b : X)
  | keyc (k : Nat) (a : X)
  | comp (tg : Tg) (it : It) (i1 i2 cond elt : X)
  | mk (a : X)
  | cmpr (k : Nat) (a b : X)
  | attr (k : Nat)

noncomputable abbrev Env' := List (Option EV)
noncomputable abbrev Phi := Nat → List EV → Option PyData

noncomputable def ints? : List PyData → Option (List Int)
  | [] => some []
  | .int i :: r => (ints? r).map (i :: ·)
  | _ :: _ => none
/-- the least k with |i| < 2 ^ k -/
noncomputable def bitLen (i : Int) : Nat := if i = 0 then 0 else i.natAbs.log2 + 1

noncomputable def arith (op : AOp) (a b : Int) : Option Int := match op with
  | .add => some (a + b)
  | .sub => some (a - b)
  | .mul => if a.natAbs < 9223372036854775808 then some (a * b) else none
  | .fdiv => if b ≠ 0 ∧ b.natAbs < 1073741824 then some (a.fdiv b) else none
  | .fmod => if b ≠ 0 then some (a.fmod b) else none
  | .shl => if 0 ≤ b ∧ b < 64 ∧ a.natAbs < 9223372036854775808 then some (a * 2 ^ b.toNat) else none
  | .shr => if 0 ≤ b then some (a.fdiv (2 ^ b.toNat)) else none
  | .xor => some (Builtin.bitXor a b)

noncomputable def ltInts : List Int → List Int → Bool
  | [], [] => false
  | [], _ :: _ => true
  | _ :: _, [] => false
  | x :: xs, y :: ys => if x = y then ltInts xs ys else decide (x < y)

mutual
/-- depth at most n, no dict, no text, no bool inside -/
noncomputable def okD : Nat → PyData → Bool
  | _, .none => true
  | _, .int _ => true
  | n + 1, .tuple ds => okDs n ds
  | n + 1, .list ds => okDs n ds
  | _, _ => false
noncomputable def okDs : Nat → List PyData → Bool
  | _, [] => true
  | n, d :: ds => okD n d && okDs n ds
end

noncomputable def compare' (op : COp) (a b : PyData) : Option Bool := match op, a, b with
  | .lt, .int i, .int j => some (decide (i < j))
  | .le, .int i, .int j => some (decide (i ≤ j))
  | .gt, .int i, .int j => some (decide (i > j))
  | .ge, .int i, .int j => some (decide (i ≥ j))
  | .lt, .tuple xs, .tuple ys => do
    let is ← ints? xs
    let js ← ints? ys
    some (ltInts is js)
  | .eq, a, b => if okD 8 a && okD 8 b then some (PyData.eqv a b) else none
  | .ne, a, b => if okD 8 a && okD 8 b then some (!PyData.eqv a b) else none
  | _, _, _ => none

noncomputable def itemAt (ds : List PyData) (i : Int) : Option PyData :=
  if 0 ≤ i then ds[i.toNat]? else if 0 ≤ i + ds.length then ds[(i + ds.length).toNat]? else none

noncomputable def everyThird {α : Type} (i : Nat) : List α → List α
  | [] => []
  | d :: ds => match i with
    | 0 => d :: everyThird 2 ds
    | k + 1 => everyThird k ds

noncomputable def bindT (tg : Tg) (v : PyData) (ρ : Env') : Option Env' := match tg, v with
  | .one k, v => some (ρ.set k (some (.dat v)))
  | .two k l, .tuple [a, b] => some ((ρ.set k (some (.dat a))).set l (some (.dat b)))
  | _, _ => none

noncomputable def upFrom (a : Int) : Nat → List PyData
  | 0 => []
  | n + 1 => .int a :: upFrom (a + 1) n

noncomputable def iterOf (it : It) (a b : Option EV) : Option (List PyData) := match it, a, b with
  | .r1, some (.dat (.int n)), _ => if n < 1048576 ∧ -1048576 < n then some (upFrom 0 n.toNat) else none
  | .r2, some (.dat (.int m)), some (.dat (.int n)) => if n < 1048576 ∧ -1048576 < n ∧ m < 1048576 ∧ -1048576 < m then some (upFrom m (n - m).toNat) else none
  | .seq, some (.dat (.list ds)), _ => some ds
  | .rev, some (.dat (.list ds)), _ => some ds.reverse
  | _, _, _ => none

noncomputable def compGo (f : PyData → Option (Option PyData)) : List PyData → Option (List PyData)
  | [] => some []
  | d :: ds => do
    let r ← f d
    let rs ← compGo f ds
    some (match r with | some x => x :: rs | none => rs)

noncomputable def evalX (Φ : Phi) : X → Env' → Option EV
  | .var k, ρ => (ρ[k]?).join
  | .int i, _ => some (.dat (.int i))
  | .nil, _ => some (.dat .none)
  | .bool b, _ => some (.dat (.bool b))
  | .lim, _ => some (.dat (.int 4000))
  | .ar op a b, ρ => match evalX Φ a ρ, evalX Φ b ρ with
    | some (.dat (.int i)), some (.dat (.int j)) => (arith op i j).map fun x => .dat (.int x)
    | _, _ => none
  | .cat a b, ρ => match evalX Φ a ρ, evalX Φ b ρ with
    | some (.dat (.list xs)), some (.dat (.list ys)) => if xs.length + ys.length < 1048576 then some (.dat (.list (xs ++ ys))) else none
    | _, _ => none
  | .rep a b, ρ => match evalX Φ a ρ, evalX Φ b ρ with
    | some (.dat (.list [x])), some (.dat (.int n)) => if n < 1048576 ∧ -(1048576) < n then some (.dat (.list (List.replicate n.toNat x))) else none
    | _, _ => none
  | .neg a, ρ => match evalX Φ a ρ with
    | some (.dat (.int i)) => some (.dat (.int (-i)))
    | _ => none
  | .inv a, ρ => match evalX Φ a ρ with
    | some (.dat (.int i)) => some (.dat (.int (-i - 1)))
    | _ => none
  | .not a, ρ => match evalX Φ a ρ with
    | some (.dat (.bool b)) => some (.dat (.bool !b))
    | _ => none
  | .cmp op a b, ρ => match evalX Φ a ρ, evalX Φ b ρ with
    | some (.dat x), some (.dat y) => (compare' op x y).map fun r => .dat (.bool r)
    | _, _ => none
  | .isNone a, ρ => match evalX Φ a ρ with
    | some (.dat .none) => some (.dat (.bool true))
    | some _ => some (.dat (.bool false))
    | none => none
  | .and2 a b, ρ => match evalX Φ a ρ with
    | some (.dat (.bool true)) => match evalX Φ b ρ with
      | some (.dat (.bool y)) => some (.dat (.bool y))
      | _ => none
    | some (.dat (.bool false)) => some (.dat (.bool false))
    | _ => none
  | .or2 a b, ρ => match evalX Φ a ρ with
    | some (.dat (.bool false)) => match evalX Φ b ρ with
      | some (.dat (.bool y)) => some (.dat (.bool y))
      | _ => none
    | some (.dat (.bool true)) => some (.dat (.bool true))
    | _ => none
  | .or3 a b c, ρ => match evalX Φ a ρ with
    | some (.dat (.bool false)) => match evalX Φ b ρ with
      | some (.dat (.bool false)) => match evalX Φ c ρ with
        | some (.dat (.bool y)) => some (.dat (.bool y))
        | _ => none
      | some (.dat (.bool true)) => some (.dat (.bool true))
      | _ => none
    | some (.dat (.bool true)) => some (.dat (.bool true))
    | _ => none
  | .ite c a b, ρ => match evalX Φ c ρ with
    | some (.dat (.bool true)) => evalX Φ a ρ
    | some (.dat (.bool false)) => evalX Φ b ρ
    | _ => none
  | .tup2 a b, ρ => match evalX Φ a ρ, evalX Φ b ρ with
    | some (.dat x), some (.dat y) => some (.dat (.tuple [x, y]))
    | _, _ => none
  | .tup3 a b c, ρ => match evalX Φ a ρ, evalX Φ b ρ, evalX Φ c ρ with
    | some (.dat x), some (.dat y), some (.dat z) => some (.dat (.tuple [x, y, z]))
    | _, _, _ => none
  | .list0, _ => some (.dat (.list []))
  | .list1 a, ρ => match evalX Φ a ρ with
    | some (.dat x) => some (.dat (.list [x]))
    | _ => none
  | .list3 a b c, ρ => match evalX Φ a ρ, evalX Φ b ρ, evalX Φ c ρ with
    | some (.dat x), some (.dat y), some (.dat z) => some (.dat (.list [x, y, z]))
    | _, _, _ => none
  | .sub a i, ρ => match evalX Φ a ρ, evalX Φ i ρ with
    | some (.dat (.list ds)), some (.dat (.int k)) => if ds.length < 1048576 then (itemAt ds k).map .dat else none
    | some (.dat (.tuple ds)), some (.dat (.int k)) => if ds.length < 1048576 then (itemAt ds k).map .dat else none
    | _, _ => none
  | .from1 a, ρ => match evalX Φ a ρ with
    | some (.dat (.list ds)) => if ds.length < 1048576 then some (.dat (.list (ds.drop 1))) else none
    | _ => none
  | .upto1 a, ρ => match evalX Φ a ρ with
    | some (.dat (.list ds)) => if ds.length < 1048576 then some (.dat (.list ds.dropLast)) else none
    | _ => none
  | .sl3 a i, ρ => match evalX Φ a ρ, evalX Φ i ρ with
    | some (.dat (.list ds)), some (.dat (.int k)) => if ds.length ≤ 63 ∧ 0 ≤ k ∧ k < 3 then some (.dat (.list (everyThird k.toNat ds))) else none
    | _, _ => none
  | .len a, ρ => match evalX Φ a ρ with
    | some (.dat (.list ds)) => if ds.length < 1048576 then some (.dat (.int ds.length)) else none
    | _ => none
  | .sum a, ρ => match evalX Φ a ρ with
    | some (.dat (.list ds)) => (ints? ds).map fun is => .dat (.int is.sum)
    | _ => none
  | .tuple a, ρ => match evalX Φ a ρ with
    | some (.dat (.list ds)) => if ds.length < 1048576 then some (.dat (.tuple ds)) else none
    | _ => none
  | .bits a, ρ => match evalX Φ a ρ with
    | some (.dat (.int i)) => if i.natAbs < 9223372036854775808 then some (.dat (.int (bitLen i))) else none
    | _ => none
  | .divmod a b, ρ => match evalX Φ a ρ, evalX Φ b ρ with
    | some (.dat (.int i)), some (.dat (.int j)) => if 0 < j ∧ j < 1073741824 then some (.dat (.tuple [.int (i.fdiv j), .int (i.fmod j)])) else none
    | _, _ => none
  | .call1 f a, ρ => match evalX Φ a ρ with
    | some x => (Φ f [x]).map .dat
    | _ => none
  | .call2 f a b, ρ => match evalX Φ a ρ, evalX Φ b ρ with
    | some x, some y => (Φ f [x, y]).map .dat
    | _, _ => none
  | .call3 f a b c, ρ => match evalX Φ a ρ, evalX Φ b ρ, evalX Φ c ρ with
    | some x, some y, some z => (Φ f [x, y, z]).map .dat
    | _, _, _ => none
  | .call5 f a b c d e, ρ => match evalX Φ a ρ, evalX Φ b ρ, evalX Φ c ρ, evalX Φ d ρ, evalX Φ e ρ with
    | some x, some y, some z, some u, some v => (Φ f [x, y, z, u, v]).map .dat
    | _, _, _, _, _ => none
  | .callk f a b, ρ => match evalX Φ a ρ, evalX Φ b ρ with
    | some x, some y => (Φ f [x, y, .dat (.int 0), .dat .none, .lam]).map .dat
    | _, _ => none
  | .keyc k a, ρ => match (ρ[k]?).join, evalX Φ a ρ with
    | some .lam, some (.dat (.tuple ds)) => if ds.length < 1048576 then (itemAt ds 0).map .dat else none
    | _, _ => none
  | .comp tg it i1 i2 cond elt, ρ => match iterOf it (evalX Φ i1 ρ) (evalX Φ i2 ρ) with
    | some ds => if ds.length < 1048576 then
        (compGo (fun d => (bindT tg d ρ).bind fun ρ' => match evalX Φ cond ρ' with
          | some (.dat (.bool true)) => match evalX Φ elt ρ' with
            | some (.dat x) => some (some x)
            | _ => none
          | some (.dat (.bool false)) => some none
          | _ => none) ds).map fun rs => .dat (.list rs)
      else none
    | none => none
  | .mk a, ρ => match evalX Φ a ρ with
    | some (.dat d) => some (.inst d)
    | _ => none
  | .cmpr k a b, ρ => match (ρ[k]?).join, evalX Φ a ρ, evalX Φ b ρ with
    | some (.inst d), some x, some y => (Φ 0 [.inst d, x, y]).map .dat
    | _, _, _ => none
  | .attr k, ρ => match (ρ[k]?).join with
    | some (.inst d) => some (.dat d)
    | _ => none

theorem xe_var {Φ : Phi} {ρ : Env'} {k} : evalX Φ (.var k) ρ = ((ρ[k]?).join) := rfl
theorem xe_int {Φ : Phi} {ρ : Env'} {i} : evalX Φ (.int i) ρ = (some (.dat (.int i))) := rfl
theorem xe_nil {Φ : Phi} {ρ : Env'} : evalX Φ (.nil) ρ = (some (.dat .none)) := rfl
theorem xe_bool {Φ : Phi} {ρ : Env'} {b} : evalX Φ (.bool b) ρ = (some (.dat (.bool b))) := rfl
theorem xe_lim {Φ : Phi} {ρ : Env'} : evalX Φ (.lim) ρ = (some (.dat (.int 4000))) := rfl
theorem xe_ar {Φ : Phi} {ρ : Env'} {op} {a} {b} : evalX Φ (.ar op a b) ρ = (match evalX Φ a ρ, evalX Φ b ρ with
    | some (.dat (.int i)), some (.dat (.int j)) => (arith op i j).map fun x => .dat (.int x)
    | _, _ => none) := rfl
theorem xe_cat {Φ : Phi} {ρ : Env'} {a} {b} : evalX Φ (.cat a b) ρ = (match evalX Φ a ρ, evalX Φ b ρ with
    | some (.dat (.list xs)), some (.dat (.list ys)) => if xs.length + ys.length < 1048576 then some (.dat (.list (xs ++ ys))) else none
    | _, _ => none) := rfl
theorem xe_rep {Φ : Phi} {ρ : Env'} {a} {b} : evalX Φ (.rep a b) ρ = (match evalX Φ a ρ, evalX Φ b ρ with
    | some (.dat (.list [x])), some (.dat (.int n)) => if n < 1048576 ∧ -(1048576) < n then some (.dat (.list (List.replicate n.toNat x))) else none
    | _, _ => none) := rfl
theorem xe_neg {Φ : Phi} {ρ : Env'} {a} : evalX Φ (.neg a) ρ = (match evalX Φ a ρ with
    | some (.dat (.int i)) => some (.dat (.int (-i)))
    | _ => none) := rfl
theorem xe_inv {Φ : Phi} {ρ : Env'} {a} : evalX Φ (.inv a) ρ = (match evalX Φ a ρ with
    | some (.dat (.int i)) => some (.dat (.int (-i - 1)))
    | _ => none) := rfl
theorem xe_not {Φ : Phi} {ρ : Env'} {a} : evalX Φ (.not a) ρ = (match evalX Φ a ρ with
    | some (.dat (.bool b)) => some (.dat (.bool !b))
    | _ => none) := rfl
theorem xe_cmp {Φ : Phi} {ρ : Env'} {op} {a} {b} : evalX Φ (.cmp op a b) ρ = (match evalX Φ a ρ, evalX Φ b ρ with
    | some (.dat x), some (.dat y) => (compare' op x y).map fun r => .dat (.bool r)
    | _, _ => none) := rfl
theorem xe_isNone {Φ : Phi} {ρ : Env'} {a} : evalX Φ (.isNone a) ρ = (match evalX Φ a ρ with
    | some (.dat .none) => some (.dat (.bool true))
    | some _ => some (.dat (.bool false))
    | none => none) := rfl
theorem xe_and2 {Φ : Phi} {ρ : Env'} {a} {b} : evalX Φ (.and2 a b) ρ = (match evalX Φ a ρ with
    | some (.dat (.bool true)) => match evalX Φ b ρ with
      | some (.dat (.bool y)) => some (.dat (.bool y))
      | _ => none
    | some (.dat (.bool false)) => some (.dat (.bool false))
    | _ => none) := rfl
theorem xe_or2 {Φ : Phi} {ρ : Env'} {a} {b} : evalX Φ (.or2 a b) ρ = (match evalX Φ a ρ with
    | some (.dat (.bool false)) => match evalX Φ b ρ with
      | some (.dat (.bool y)) => some (.dat (.bool y))
      | _ => none
    | some (.dat (.bool true)) => some (.dat (.bool true))
    | _ => none) := rfl
theorem xe_or3 {Φ : Phi} {ρ : Env'} {a} {b} {c} : evalX Φ (.or3 a b c) ρ = (match evalX Φ a ρ with
    | some (.dat (.bool false)) => match evalX Φ b ρ with
      | some (.dat (.bool false)) => match evalX Φ c ρ with
        | some (.dat (.bool y)) => some (.dat (.bool y))
        | _ => none
      | some (.dat (.bool true)) => some (.dat (.bool true))
      | _ => none
    | some (.dat (.bool true)) => some (.dat (.bool true))
    | _ => none) := rfl
theorem xe_ite {Φ : Phi} {ρ : Env'} {c} {a} {b} : evalX Φ (.ite c a b) ρ = (match evalX Φ c ρ with
    | some (.dat (.bool true)) => evalX Φ a ρ
    | some (.dat (.bool false)) => evalX Φ b ρ
    | _ => none) := rfl
theorem xe_tup2 {Φ : Phi} {ρ : Env'} {a} {b} : evalX Φ (.tup2 a b) ρ = (match evalX Φ a ρ, evalX Φ b ρ with
    | some (.dat x), some (.dat y) => some (.dat (.tuple [x, y]))
    | _, _ => none) := rfl
theorem xe_tup3 {Φ : Phi} {ρ : Env'} {a} {b} {c} : evalX Φ (.tup3 a b c) ρ = (match evalX Φ a ρ, evalX Φ b ρ, evalX Φ c ρ with
    | some (.dat x), some (.dat y), some (.dat z) => some (.dat (.tuple [x, y, z]))
    | _, _, _ => none) := rfl
theorem xe_list0 {Φ : Phi} {ρ : Env'} : evalX Φ (.list0) ρ = (some (.dat (.list []))) := rfl
theorem xe_list1 {Φ : Phi} {ρ : Env'} {a} : evalX Φ (.list1 a) ρ = (match evalX Φ a ρ with
    | some (.dat x) => some (.dat (.list [x]))
    | _ => none) := rfl
theorem xe_list3 {Φ : Phi} {ρ : Env'} {a} {b} {c} : evalX Φ (.list3 a b c) ρ = (match evalX Φ a ρ, evalX Φ b ρ, evalX Φ c ρ with
    | some (.dat x), some (.dat y), some (.dat z) => some (.dat (.list [x, y, z]))
    | _, _, _ => none) := rfl
theorem xe_sub {Φ : Phi} {ρ : Env'} {a} {i} : evalX Φ (.sub a i) ρ = (match evalX Φ a ρ, evalX Φ i ρ with
    | some (.dat (.list ds)), some (.dat (.int k)) => if ds.length < 1048576 then (itemAt ds k).map .dat else none
    | some (.dat (.tuple ds)), some (.dat (.int k)) => if ds.length < 1048576 then (itemAt ds k).map .dat else none
    | _, _ => none) := rfl
theorem xe_from1 {Φ : Phi} {ρ : Env'} {a} : evalX Φ (.from1 a) ρ = (match evalX Φ a ρ with
    | some (.dat (.list ds)) => if ds.length < 1048576 then some (.dat (.list (ds.drop 1))) else none
    | _ => none) := rfl
theorem xe_upto1 {Φ : Phi} {ρ : Env'} {a} : evalX Φ (.upto1 a) ρ = (match evalX Φ a ρ with
    | some (.dat (.list ds)) => if ds.length < 1048576 then some (.dat (.list ds.dropLast)) else none
    | _ => none) := rfl
theorem xe_sl3 {Φ : Phi} {ρ : Env'} {a} {i} : evalX Φ (.sl3 a i) ρ = (match evalX Φ a ρ, evalX Φ i ρ with
    | some (.dat (.list ds)), some (.dat (.int k)) => if ds.length ≤ 63 ∧ 0 ≤ k ∧ k < 3 then some (.dat (.list (everyThird k.toNat ds))) else none
    | _, _ => none) := rfl
theorem xe_len {Φ : Phi} {ρ : Env'} {a} : evalX Φ (.len a) ρ = (match evalX Φ a ρ with
    | some (.dat (.list ds)) => if ds.length < 1048576 then some (.dat (.int ds.length)) else none
    | _ => none) := rfl
theorem xe_sum {Φ : Phi} {ρ : Env'} {a} : evalX Φ (.sum a) ρ = (match evalX Φ a ρ with
    | some (.dat (.list ds)) => (ints? ds).map fun is => .dat (.int is.sum)
    | _ => none) := rfl
theorem xe_tuple {Φ : Phi} {ρ : Env'} {a} : evalX Φ (.tuple a) ρ = (match evalX Φ a ρ with
    | some (.dat (.list ds)) => if ds.length < 1048576 then some (.dat (.tuple ds)) else none
    | _ => none) := rfl
theorem xe_bits {Φ : Phi} {ρ : Env'} {a} : evalX Φ (.bits a) ρ = (match evalX Φ a ρ with
    | some (.dat (.int i)) => if i.natAbs < 9223372036854775808 then some (.dat (.int (bitLen i))) else none
    | _ => none) := rfl
theorem xe_divmod {Φ : Phi} {ρ : Env'} {a} {b} : evalX Φ (.divmod a b) ρ = (match evalX Φ a ρ, evalX Φ b ρ with
    | some (.dat (.int i)), some (.dat (.int j)) => if 0 < j ∧ j < 1073741824 then some (.dat (.tuple [.int (i.fdiv j), .int (i.fmod j)])) else none
    | _, _ => none) := rfl
theorem xe_call1 {Φ : Phi} {ρ : Env'} {f} {a} : evalX Φ (.call1 f a) ρ = (match evalX Φ a ρ with
    | some x => (Φ f [x]).map .dat
    | _ => none) := rfl
theorem xe_call2 {Φ : Phi} {ρ : Env'} {f} {a} {b} : evalX Φ (.call2 f a b) ρ = (match evalX Φ a ρ, evalX Φ b ρ with
    | some x, some y => (Φ f [x, y]).map .dat
    | _, _ => none) := rfl
theorem xe_call3 {Φ : Phi} {ρ : Env'} {f} {a} {b} {c} : evalX Φ (.call3 f a b c) ρ = (match evalX Φ a ρ, evalX Φ b ρ, evalX Φ c ρ with
    | some x, some y, some z => (Φ f [x, y, z]).map .dat
    | _, _, _ => none) := rfl
theorem xe_call5 {Φ : Phi} {ρ : Env'} {f} {a} {b} {c} {d} {e} : evalX Φ (.call5 f a b c d e) ρ = (match evalX Φ a ρ, evalX Φ b ρ, evalX Φ c ρ, evalX Φ d ρ, evalX Φ e ρ with
    | some x, some y, some z, some u, some v => (Φ f [x, y, z, u, v]).map .dat
    | _, _, _, _, _ => none) := rfl
theorem xe_callk {Φ : Phi} {ρ : Env'} {f} {a} {b} : evalX Φ (.callk f a b) ρ = (match evalX Φ a ρ, evalX Φ b ρ with
    | some x, some y => (Φ f [x, y, .dat (.int 0), .dat .none, .lam]).map .dat
    | _, _ => none) := rfl
theorem xe_keyc {Φ : Phi} {ρ : Env'} {k} {a} : evalX Φ (.keyc k a) ρ = (match (ρ[k]?).join, evalX Φ a ρ with
    | some .lam, some (.dat (.tuple ds)) => if ds.length < 1048576 then (itemAt ds 0).map .dat else none
    | _, _ => none) := rfl
theorem xe_comp {Φ : Phi} {ρ : Env'} {tg} {it} {i1} {i2} {cond} {elt} : evalX Φ (.comp tg it i1 i2 cond elt) ρ = (match iterOf it (evalX Φ i1 ρ) (evalX Φ i2 ρ) with
    | some ds => if ds.length < 1048576 then
        (compGo (fun d => (bindT tg d ρ).bind fun ρ' => match evalX Φ cond ρ' with
          | some (.dat (.bool true)) => match evalX Φ elt ρ' with
            | some (.dat x) => some (some x)
            | _ => none
          | some (.dat (.bool false)) => some none
          | _ => none) ds).map fun rs => .dat (.list rs)
      else none
    | none => none) := rfl
theorem xe_mk {Φ : Phi} {ρ : Env'} {a} : evalX Φ (.mk a) ρ = (match evalX Φ a ρ with
    | some (.dat d) => some (.inst d)
    | _ => none) := rfl
theorem xe_cmpr {Φ : Phi} {ρ : Env'} {k} {a} {b} : evalX Φ (.cmpr k a b) ρ = (match (ρ[k]?).join, evalX Φ a ρ, evalX Φ b ρ with
    | some (.inst d), some x, some y => (Φ 0 [.inst d, x, y]).map .dat
    | _, _, _ => none) := rfl
theorem xe_attr {Φ : Phi} {ρ : Env'} {k} : evalX Φ (.attr k) ρ = (match (ρ[k]?).join with
    | some (.inst d) => some (.dat d)
    | _ => none) := rfl

set_option genInjectivity false in
set_option genSizeOf false in
set_option genSizeOfSpec false in
inductive S where
  | dead
  | nop
  | seq (a b : S)
  | assign (k : Nat) (x : X)
  | unpack (k l : Nat) (x : X)
  | swap (k l : Nat) (x y : X)
  | newl (k : Nat)
  | app (k : Nat) (x : X)
  | ins (k : Nat) (x y : X)
  | rvs (k : Nat)
  | ite (c : X) (a b : S)
  | whl (c : X) (b : S)
  | loop (tg : Tg) (it : It) (i1 i2 : X) (b : S)
  | ret (x : X)

inductive Out where
  | ret (v : EV)
  | next (ρ : Env')

noncomputable def scal : EV → Bool
  | .dat (.int _) => true
  | .dat (.bool _) => true
  | .dat .none => true
  | _ => false

noncomputable def X.hits (own : List Nat) : X → Bool
  | .var k => own.contains k
  | .int _ | .nil | .bool _ | .lim | .list0 => false
  | .ar _ a b | .cat a b | .rep a b | .cmp _ a b | .and2 a b | .or2 a b | .tup2 a b | .sub a b | .sl3 a b | .divmod a b | .call2 _ a b | .callk _ a b => a.hits own || b.hits own
  | .neg a | .inv a | .not a | .isNone a | .list1 a | .from1 a | .upto1 a | .len a | .sum a | .tuple a | .bits a | .call1 _ a | .mk a => a.hits own
  | .or3 a b c | .ite a b c | .tup3 a b c | .list3 a b c | .call3 _ a b c => a.hits own || b.hits own || c.hits own
  | .call5 _ a b c d e => a.hits own || b.hits own || c.hits own || d.hits own || e.hits own
  | .keyc k a => own.contains k || a.hits own
  | .comp _ _ a b c d => a.hits own || b.hits own || c.hits own || d.hits own
  | .cmpr k a b => own.contains k || a.hits own || b.hits own
  | .attr k => own.contains k

theorem xh_var {own : List Nat} {k} : X.hits own (.var k) = (own.contains k) := rfl
theorem xh_int {own : List Nat} {z0} : X.hits own (.int z0) = (false) := rfl
theorem xh_nil {own : List Nat} : X.hits own (.nil) = (false) := rfl
theorem xh_bool {own : List Nat} {z0} : X.hits own (.bool z0) = (false) := rfl
theorem xh_lim {own : List Nat} : X.hits own (.lim) = (false) := rfl
theorem xh_list0 {own : List Nat} : X.hits own (.list0) = (false) := rfl
theorem xh_ar {own : List Nat} {z0} {a} {b} : X.hits own (.ar z0 a b) = (a.hits own || b.hits own) := rfl
theorem xh_cat {own : List Nat} {a} {b} : X.hits own (.cat a b) = (a.hits own || b.hits own) := rfl
theorem xh_rep {own : List Nat} {a} {b} : X.hits own (.rep a b) = (a.hits own || b.hits own) := rfl
theorem xh_cmp {own : List Nat} {z0} {a} {b} : X.hits own (.cmp z0 a b) = (a.hits own || b.hits own) := rfl
theorem xh_and2 {own : List Nat} {a} {b} : X.hits own (.and2 a b) = (a.hits own || b.hits own) := rfl
theorem xh_or2 {own : List Nat} {a} {b} : X.hits own (.or2 a b) = (a.hits own || b.hits own) := rfl
theorem xh_tup2 {own : List Nat} {a} {b} : X.hits own (.tup2 a b) = (a.hits own || b.hits own) := rfl
theorem xh_sub {own : List Nat} {a} {b} : X.hits own (.sub a b) = (a.hits own || b.hits own) := rfl
theorem xh_sl3 {own : List Nat} {a} {b} : X.hits own (.sl3 a b) = (a.hits own || b.hits own) := rfl
theorem xh_divmod {own : List Nat} {a} {b} : X.hits own (.divmod a b) = (a.hits own || b.hits own) := rfl
theorem xh_call2 {own : List Nat} {z0} {a} {b} : X.hits own (.call2 z0 a b) = (a.hits own || b.hits own) := rfl
theorem xh_callk {own : List Nat} {z0} {a} {b} : X.hits own (.callk z0 a b) = (a.hits own || b.hits own) := rfl
theorem xh_neg {own : List Nat} {a} : X.hits own (.neg a) = (a.hits own) := rfl
theorem xh_inv {own : List Nat} {a} : X.hits own (.inv a) = (a.hits own) := rfl
theorem xh_not {own : List Nat} {a} : X.hits own (.not a) = (a.hits own) := rfl
theorem xh_isNone {own : List Nat} {a} : X.hits own (.isNone a) = (a.hits own) := rfl
theorem xh_list1 {own : List Nat} {a} : X.hits own (.list1 a) = (a.hits own) := rfl
theorem xh_from1 {own : List Nat} {a} : X.hits own (.from1 a) = (a.hits own) := rfl
theorem xh_upto1 {own : List Nat} {a} : X.hits own (.upto1 a) = (a.hits own) := rfl
theorem xh_len {own : List Nat} {a} : X.hits own (.len a) = (a.hits own) := rfl
theorem xh_sum {own : List Nat} {a} : X.hits own (.sum a) = (a.hits own) := rfl
theorem xh_tuple {own : List Nat} {a} : X.hits own (.tuple a) = (a.hits own) := rfl
theorem xh_bits {own : List Nat} {a} : X.hits own (.bits a) = (a.hits own) := rfl
theorem xh_call1 {own : List Nat} {z0} {a} : X.hits own (.call1 z0 a) = (a.hits own) := rfl
theorem xh_mk {own : List Nat} {a} : X.hits own (.mk a) = (a.hits own) := rfl
theorem xh_or3 {own : List Nat} {a} {b} {c} : X.hits own (.or3 a b c) = (a.hits own || b.hits own || c.hits own) := rfl
theorem xh_ite {own : List Nat} {a} {b} {c} : X.hits own (.ite a b c) = (a.hits own || b.hits own || c.hits own) := rfl
theorem xh_tup3 {own : List Nat} {a} {b} {c} : X.hits own (.tup3 a b c) = (a.hits own || b.hits own || c.hits own) := rfl
theorem xh_list3 {own : List Nat} {a} {b} {c} : X.hits own (.list3 a b c) = (a.hits own || b.hits own || c.hits own) := rfl
theorem xh_call3 {own : List Nat} {z0} {a} {b} {c} : X.hits own (.call3 z0 a b c) = (a.hits own || b.hits own || c.hits own) := rfl
theorem xh_call5 {own : List Nat} {z0} {a} {b} {c} {d} {e} : X.hits own (.call5 z0 a b c d e) = (a.hits own || b.hits own || c.hits own || d.hits own || e.hits own) := rfl
theorem xh_keyc {own : List Nat} {k} {a} : X.hits own (.keyc k a) = (own.contains k || a.hits own) := rfl
theorem xh_comp {own : List Nat} {z0} {z1} {a} {b} {c} {d} : X.hits own (.comp z0 z1 a b c d) = (a.hits own || b.hits own || c.hits own || d.hits own) := rfl
theorem xh_cmpr {own : List Nat} {k} {a} {b} : X.hits own (.cmpr k a b) = (own.contains k || a.hits own || b.hits own) := rfl
theorem xh_attr {own : List Nat} {k} : X.hits own (.attr k) = (own.contains k) := rfl

noncomputable def whileN (c : Env' → Option EV) (b : Env' → Option Out) : Nat → Env' → Option Out
  | 0, _ => none
  | n + 1, ρ => match c ρ with
    | some (.dat (.bool true)) => match b ρ with
      | some (.next ρ') => whileN c b n ρ'
      | r => r
    | some (.dat (.bool false)) => some (.next ρ)
    | _ => none

noncomputable def forGo (f : PyData → Env' → Option Out) : List PyData → Env' → Option Out
  | [], ρ => some (.next ρ)
  | d :: ds, ρ => match f d ρ with
    | some (.next ρ') => forGo f ds ρ'
    | r => r

noncomputable def evalS (Φ : Phi) (own : List Nat) : S → Env' → Option Out
  | .dead, _ => none
  | .nop, ρ => some (.next ρ)
  | .seq a b, ρ => match evalS Φ own a ρ with
    | some (.next ρ') => evalS Φ own b ρ'
    | r => r
  | .assign k x, ρ => match evalX Φ x ρ with
    | some v => if !own.contains k && (scal v || !x.hits own) then some (.next (ρ.set k (some v))) else none
    | none => none
  | .unpack k l x, ρ => match evalX Φ x ρ with
    | some (.dat (.tuple [a, b])) => if !own.contains k && !own.contains l && !x.hits own then some (.next ((ρ.set k (some (.dat a))).set l (some (.dat b)))) else none
    | _ => none
  | .swap k l x y, ρ => match evalX Φ x ρ, evalX Φ y ρ with
    | some (.dat a), some (.dat b) => if !own.contains k && !own.contains l && !x.hits own && !y.hits own && k != l then some (.next ((ρ.set l (some (.dat b))).set k (some (.dat a)))) else none
    | _, _ => none
  | .newl k, ρ => match ρ[k]? with
    | some none => if own.contains k then some (.next (ρ.set k (some (.dat (.list []))))) else none
    | _ => none
  | .app k x, ρ => match (ρ[k]?).join, evalX Φ x ρ with
    | some (.dat (.list ds)), some (.dat d) => if own.contains k && !x.hits own && ds.length < 1048576 then some (.next (ρ.set k (some (.dat (.list (ds ++ [d])))))) else none
    | _, _ => none
  | .ins k x y, ρ => match (ρ[k]?).join, evalX Φ x ρ, evalX Φ y ρ with
    | some (.dat (.list ds)), some (.dat (.int i)), some (.dat d) => if own.contains k && !x.hits own && !y.hits own && ds.length < 1048576 && decide (0 ≤ i) && decide (i ≤ ds.length) then some (.next (ρ.set k (some (.dat (.list (ds.take i.toNat ++ d :: ds.drop i.toNat)))))) else none
    | _, _, _ => none
  | .rvs k, ρ => match (ρ[k]?).join with
    | some (.dat (.list ds)) => if own.contains k && decide (ds.length < 1048576) then some (.next (ρ.set k (some (.dat (.list ds.reverse))))) else none
    | _ => none
  | .ite c a b, ρ => match evalX Φ c ρ with
    | some (.dat (.bool true)) => evalS Φ own a ρ
    | some (.dat (.bool false)) => evalS Φ own b ρ
    | _ => none
  | .whl c b, ρ => whileN (evalX Φ c) (evalS Φ own b) 100 ρ
  | .loop tg it i1 i2 b, ρ => if i1.hits own || i2.hits own || (match tg with | .one k => own.contains k | .two k l => own.contains k || own.contains l) then none else
    match iterOf it (evalX Φ i1 ρ) (evalX Φ i2 ρ) with
    | some ds => if ds.length < 1048576 then forGo (fun d ρ => (bindT tg d ρ).bind (evalS Φ own b)) ds ρ else none
    | none => none
  | .ret x, ρ => (evalX Φ x ρ).map .ret

theorem se_dead {Φ : Phi} {own : List Nat} {ρ : Env'} : evalS Φ own (.dead) ρ = (none) := rfl
theorem se_nop {Φ : Phi} {own : List Nat} {ρ : Env'} : evalS Φ own (.nop) ρ = (some (.next ρ)) := rfl
theorem se_seq {Φ : Phi} {own : List Nat} {ρ : Env'} {a} {b} : evalS Φ own (.seq a b) ρ = (match evalS Φ own a ρ with
    | some (.next ρ') => evalS Φ own b ρ'
    | r => r) := rfl
theorem se_assign {Φ : Phi} {own : List Nat} {ρ : Env'} {k} {x} : evalS Φ own (.assign k x) ρ = (match evalX Φ x ρ with
    | some v => if !own.contains k && (scal v || !x.hits own) then some (.next (ρ.set k (some v))) else none
    | none => none) := rfl
theorem se_unpack {Φ : Phi} {own : List Nat} {ρ : Env'} {k} {l} {x} : evalS Φ own (.unpack k l x) ρ = (match evalX Φ x ρ with
    | some (.dat (.tuple [a, b])) => if !own.contains k && !own.contains l && !x.hits own then some (.next ((ρ.set k (some (.dat a))).set l (some (.dat b)))) else none
    | _ => none) := rfl
theorem se_swap {Φ : Phi} {own : List Nat} {ρ : Env'} {k} {l} {x} {y} : evalS Φ own (.swap k l x y) ρ = (match evalX Φ x ρ, evalX Φ y ρ with
    | some (.dat a), some (.dat b) => if !own.contains k && !own.contains l && !x.hits own && !y.hits own && k != l then some (.next ((ρ.set l (some (.dat b))).set k (some (.dat a)))) else none
    | _, _ => none) := rfl
theorem se_newl {Φ : Phi} {own : List Nat} {ρ : Env'} {k} : evalS Φ own (.newl k) ρ = (match ρ[k]? with
    | some none => if own.contains k then some (.next (ρ.set k (some (.dat (.list []))))) else none
    | _ => none) := rfl
theorem se_app {Φ : Phi} {own : List Nat} {ρ : Env'} {k} {x} : evalS Φ own (.app k x) ρ = (match (ρ[k]?).join, evalX Φ x ρ with
    | some (.dat (.list ds)), some (.dat d) => if own.contains k && !x.hits own && ds.length < 1048576 then some (.next (ρ.set k (some (.dat (.list (ds ++ [d])))))) else none
    | _, _ => none) := rfl
theorem se_ins {Φ : Phi} {own : List Nat} {ρ : Env'} {k} {x} {y} : evalS Φ own (.ins k x y) ρ = (match (ρ[k]?).join, evalX Φ x ρ, evalX Φ y ρ with
    | some (.dat (.list ds)), some (.dat (.int i)), some (.dat d) => if own.contains k && !x.hits own && !y.hits own && ds.length < 1048576 && decide (0 ≤ i) && decide (i ≤ ds.length) then some (.next (ρ.set k (some (.dat (.list (ds.take i.toNat ++ d :: ds.drop i.toNat)))))) else none
    | _, _, _ => none) := rfl
theorem se_rvs {Φ : Phi} {own : List Nat} {ρ : Env'} {k} : evalS Φ own (.rvs k) ρ = (match (ρ[k]?).join with
    | some (.dat (.list ds)) => if own.contains k && decide (ds.length < 1048576) then some (.next (ρ.set k (some (.dat (.list ds.reverse))))) else none
    | _ => none) := rfl
theorem se_ite {Φ : Phi} {own : List Nat} {ρ : Env'} {c} {a} {b} : evalS Φ own (.ite c a b) ρ = (match evalX Φ c ρ with
    | some (.dat (.bool true)) => evalS Φ own a ρ
    | some (.dat (.bool false)) => evalS Φ own b ρ
    | _ => none) := rfl
theorem se_whl {Φ : Phi} {own : List Nat} {ρ : Env'} {c} {b} : evalS Φ own (.whl c b) ρ = (whileN (evalX Φ c) (evalS Φ own b) 100 ρ) := rfl
theorem se_loop {Φ : Phi} {own : List Nat} {ρ : Env'} {tg} {it} {i1} {i2} {b} : evalS Φ own (.loop tg it i1 i2 b) ρ = (if i1.hits own || i2.hits own || (match tg with | .one k => own.contains k | .two k l => own.contains k || own.contains l) then none else
    match iterOf it (evalX Φ i1 ρ) (evalX Φ i2 ρ) with
    | some ds => if ds.length < 1048576 then forGo (fun d ρ => (bindT tg d ρ).bind (evalS Φ own b)) ds ρ else none
    | none => none) := rfl
theorem se_ret {Φ : Phi} {own : List Nat} {ρ : Env'} {x} : evalS Φ own (.ret x) ρ = ((evalX Φ x ρ).map .ret) := rfl

structure Fn where
  slots : Nat
  own : List Nat
  body : S

noncomputable def Fn.run (Φ : Phi) (f : Fn) (args : List EV) : Option PyData :=
  match evalS Φ f.own f.body (args.map some ++ List.replicate (f.slots - args.length) none) with
  | some (.ret (.dat d)) => some d
  | _ => none

end Mine

/-! PX -/
namespace Mine
open PySem

noncomputable def b_compare_1 : S := (.seq (.assign 5 (.sub (.var 1) (.var 3)))
  (.seq (.assign 6 (.sub (.var 2) (.var 3)))
  (.seq (.ite (.cmp .lt (.var 5) (.var 6)) (.seq (.ret (.neg (.var 4)))
  .nop) .nop)
  (.seq (.ite (.cmp .gt (.var 5) (.var 6)) (.seq (.ret (.var 4))
  .nop) .nop)
  .nop))))
/-- TupleComp.compare: 0=self 1=left 2=right 3=index 4=direction 5=l 6=r -/
noncomputable def f_compare : Fn := ⟨7, [], (.seq (.loop (.two 3 4) .seq (.attr 0) .nil b_compare_1)
  (.seq (.ret (.int 0))
  .nop))⟩
noncomputable def v_compare : List String := ["self", "left", "right", "index", "direction", "l", "r"]

/-- int_divmod: 0=a 1=b 2=q 3=r -/
noncomputable def f_int_divmod : Fn := ⟨4, [], (.seq (.ite (.cmp .eq (.var 1) (.int 0)) (.seq .dead
  .nop) (.seq (.ite (.cmp .lt (.var 1) (.int 0)) (.seq (.unpack 2 3 (.call2 1 (.neg (.var 0)) (.neg (.var 1))))
  (.seq (.ret (.tup2 (.var 2) (.neg (.var 3))))
  .nop)) (.seq (.ite (.cmp .lt (.var 0) (.int 0)) (.seq (.unpack 2 3 (.call2 1 (.inv (.var 0)) (.var 1)))
  (.seq (.ret (.tup2 (.inv (.var 2)) (.ar .add (.var 1) (.inv (.var 3)))))
  .nop)) (.seq (.ret (.call2 2 (.var 0) (.var 1)))
  .nop))
  .nop))
  .nop))
  .nop)⟩
noncomputable def v_int_divmod : List String := ["a", "b", "q", "r"]

noncomputable def b_divmod_pos_1 : S := (.seq (.unpack 8 3 (.call3 5 (.ar .add (.ar .shl (.var 3) (.var 5)) (.var 7)) (.var 1) (.var 5)))
  (.seq (.app 4 (.var 8))
  .nop))
/-- _divmod_pos: 0=a 1=b 2=q 3=r 4=q_digits 5=n 6=a_digits 7=a_digit 8=q_digit -/
noncomputable def f_divmod_pos : Fn := ⟨9, [4], (.seq (.assign 5 (.bits (.var 1)))
  (.seq (.assign 6 (.call2 3 (.var 0) (.var 5)))
  (.seq (.assign 3 (.int 0))
  (.seq (.newl 4)
  (.seq (.loop (.one 7) .rev (.var 6) .nil b_divmod_pos_1)
  (.seq (.rvs 4)
  (.seq (.assign 2 (.call2 4 (.var 4) (.var 5)))
  (.seq (.ret (.tup2 (.var 2) (.var 3)))
  .nop))))))))⟩
noncomputable def v_divmod_pos : List String := ["a", "b", "q", "r", "q_digits", "n", "a_digits", "a_digit", "q_digit"]

/-- _div2n1n: 0=a 1=b 2=n -/
noncomputable def f_div2n1n : Fn := ⟨3, [], (.seq (.ite (.cmp .le (.ar .sub (.bits (.var 0)) (.var 2)) .lim) (.seq (.ret (.divmod (.var 0) (.var 1)))
  .nop) .nop)
  .dead)⟩
noncomputable def v_div2n1n : List String := ["a", "b", "n"]

noncomputable def b_bisect_left_1 : S := (.seq (.assign 5 (.ar .fdiv (.ar .add (.var 2) (.var 3)) (.int 2)))
  (.seq (.ite (.cmp .lt (.sub (.var 0) (.var 5)) (.var 1)) (.seq (.assign 2 (.ar .add (.var 5) (.int 1)))
  .nop) (.seq (.assign 3 (.var 5))
  .nop))
  .nop))
noncomputable def b_bisect_left_2 : S := (.seq (.assign 5 (.ar .fdiv (.ar .add (.var 2) (.var 3)) (.int 2)))
  (.seq (.ite (.cmp .lt (.keyc 4 (.sub (.var 0) (.var 5))) (.var 1)) (.seq (.assign 2 (.ar .add (.var 5) (.int 1)))
  .nop) (.seq (.assign 3 (.var 5))
  .nop))
  .nop))
/-- bisect_left: 0=a 1=x 2=lo 3=hi 4=key 5=mid -/
noncomputable def f_bisect_left : Fn := ⟨6, [], (.seq (.ite (.cmp .lt (.var 2) (.int 0)) (.seq .dead
  .nop) .nop)
  (.seq (.ite (.isNone (.var 3)) (.seq (.assign 3 (.len (.var 0)))
  .nop) .nop)
  (.seq (.ite (.isNone (.var 4)) (.seq (.whl (.cmp .lt (.var 2) (.var 3)) b_bisect_left_1)
  .nop) (.seq (.whl (.cmp .lt (.var 2) (.var 3)) b_bisect_left_2)
  .nop))
  (.seq (.ret (.var 2))
  .nop))))⟩
noncomputable def v_bisect_left : List String := ["a", "x", "lo", "hi", "key", "mid"]

noncomputable def b_bisect_right_1 : S := (.seq (.assign 5 (.ar .fdiv (.ar .add (.var 2) (.var 3)) (.int 2)))
  (.seq (.ite (.cmp .lt (.var 1) (.sub (.var 0) (.var 5))) (.seq (.assign 3 (.var 5))
  .nop) (.seq (.assign 2 (.ar .add (.var 5) (.int 1)))
  .nop))
  .nop))
noncomputable def b_bisect_right_2 : S := (.seq (.assign 5 (.ar .fdiv (.ar .add (.var 2) (.var 3)) (.int 2)))
  (.seq (.ite (.cmp .lt (.var 1) (.keyc 4 (.sub (.var 0) (.var 5)))) (.seq (.assign 3 (.var 5))
  .nop) (.seq (.assign 2 (.ar .add (.var 5) (.int 1)))
  .nop))
  .nop))
/-- bisect_right: 0=a 1=x 2=lo 3=hi 4=key 5=mid -/
noncomputable def f_bisect_right : Fn := ⟨6, [], (.seq (.ite (.cmp .lt (.var 2) (.int 0)) (.seq .dead
  .nop) .nop)
  (.seq (.ite (.isNone (.var 3)) (.seq (.assign 3 (.len (.var 0)))
  .nop) .nop)
  (.seq (.ite (.isNone (.var 4)) (.seq (.whl (.cmp .lt (.var 2) (.var 3)) b_bisect_right_1)
  .nop) (.seq (.whl (.cmp .lt (.var 2) (.var 3)) b_bisect_right_2)
  .nop))
  (.seq (.ret (.var 2))
  .nop))))⟩
noncomputable def v_bisect_right : List String := ["a", "x", "lo", "hi", "key", "mid"]

/-- _law_fractions: 0=script 1=numbers 2=x 3=i 4=begun -/
noncomputable def f_law_fractions : Fn := ⟨5, [], (.seq (.assign 4 (.list3 (.int 137) (.int 4052) (.int 282)))
  (.seq (.assign 1 (.comp (.one 3) .r1 (.int 3) .nil (.bool true) (.ar .add (.sub (.var 4) (.var 3)) (.sum (.comp (.one 2) .seq (.sl3 (.var 0) (.var 3)) .nil (.bool true) (.ar .fmod (.var 2) (.int 1000000)))))))
  (.seq (.ret (.comp (.one 2) .seq (.var 1) .nil (.bool true) (.tup2 (.ar .sub (.ar .fmod (.ar .fdiv (.var 2) (.int 40)) (.int 400)) (.int 150)) (.ar .add (.int 1) (.ar .fmod (.var 2) (.int 40))))))
  .nop)))⟩
noncomputable def v_law_fractions : List String := ["script", "numbers", "x", "i", "begun"]

noncomputable def b_law_quotients_1 : S := (.seq (.unpack 4 3 (.call2 1 (.var 0) (.var 1)))
  (.seq (.app 2 (.var 4))
  (.seq (.swap 0 1 (.var 1) (.var 3))
  .nop)))
/-- _law_quotients: 0=n 1=d 2=quotients 3=rest 4=quotient -/
noncomputable def f_law_quotients : Fn := ⟨5, [2], (.seq (.newl 2)
  (.seq (.whl (.cmp .ne (.var 1) (.int 0)) b_law_quotients_1)
  (.seq (.ret (.var 2))
  .nop)))⟩
noncomputable def v_law_quotients : List String := ["n", "d", "quotients", "rest", "quotient"]

/-- _law_row: 0=quotients -/
noncomputable def f_law_row : Fn := ⟨1, [], (.seq (.ret (.tuple (.cat (.var 0) (.rep (.list1 (.int 1000000000)) (.ar .sub (.int 12) (.len (.var 0)))))))
  .nop)⟩
noncomputable def v_law_row : List String := ["quotients"]

/-- _law_key: 0=row 1=j -/
noncomputable def f_law_key : Fn := ⟨2, [], (.seq (.ret (.tuple (.comp (.one 1) .r1 (.int 12) .nil (.bool true) (.ite (.cmp .eq (.ar .fmod (.var 1) (.int 2)) (.int 1)) (.neg (.sub (.var 0) (.var 1))) (.sub (.var 0) (.var 1))))))
  .nop)⟩
noncomputable def v_law_key : List String := ["row", "j"]

noncomputable def b_law_folded_1 : S := (.seq (.swap 1 2 (.ar .add (.ar .mul (.var 3) (.var 1)) (.var 2)) (.var 1))
  .nop)
/-- _law_folded: 0=quotients 1=p 2=q 3=quotient -/
noncomputable def f_law_folded : Fn := ⟨4, [], (.seq (.swap 1 2 (.sub (.var 0) (.neg (.int 1))) (.int 1))
  (.seq (.loop (.one 3) .rev (.upto1 (.var 0)) .nil b_law_folded_1)
  (.seq (.ret (.tup2 (.var 1) (.var 2)))
  .nop)))⟩
noncomputable def v_law_folded : List String := ["quotients", "p", "q", "quotient"]

/-- _law_is_run: 0=quotients 1=n 2=d 3=x 4=q 5=p 6=e -/
noncomputable def f_law_is_run : Fn := ⟨7, [], (.seq (.unpack 5 4 (.call1 12 (.var 0)))
  (.seq (.ite (.or3 (.cmp .lt (.var 4) (.int 1)) (.cmp .ne (.ar .mul (.var 5) (.var 2)) (.ar .mul (.var 1) (.var 4))) (.cmp .ne (.comp (.one 6) .r2 (.int 1) (.var 4) (.cmp .eq (.ar .fmod (.ar .mul (.var 5) (.var 6)) (.var 4)) (.int 0)) (.var 6)) .list0)) (.seq (.ret (.bool false))
  .nop) .nop)
  (.seq (.ret (.and2 (.cmp .eq (.comp (.one 3) .seq (.from1 (.var 0)) .nil (.cmp .lt (.var 3) (.int 1)) (.var 3)) .list0) (.or2 (.cmp .eq (.len (.var 0)) (.int 1)) (.cmp .gt (.sub (.var 0) (.neg (.int 1))) (.int 1)))))
  .nop)))⟩
noncomputable def v_law_is_run : List String := ["quotients", "n", "d", "x", "q", "p", "e"]

noncomputable def b_law_listing_1 : S := (.seq (.assign 6 (.call1 10 (.call2 9 (.var 3) (.var 2))))
  (.seq (.assign 5 (.call1 11 (.var 6)))
  (.seq (.assign 4 (.callk 6 (.var 1) (.var 5)))
  (.seq (.ite (.or2 (.cmp .eq (.var 4) (.len (.var 1))) (.cmp .ne (.sub (.sub (.var 1) (.var 4)) (.int 0)) (.var 5))) (.seq (.ins 1 (.var 4) (.tup3 (.var 5) (.var 6) (.tup2 (.var 3) (.var 2))))
  .nop) .nop)
  .nop))))
noncomputable def b_law_listing_2 : S := (.seq (.loop (.one 3) .r1 (.ar .add (.var 2) (.int 1)) .nil b_law_listing_1)
  .nop)
/-- _law_listing: 0=top 1=listing 2=d 3=n 4=place 5=weight 6=row -/
noncomputable def f_law_listing : Fn := ⟨7, [1], (.seq (.newl 1)
  (.seq (.loop (.one 2) .r2 (.int 1) (.ar .add (.var 0) (.int 1)) b_law_listing_2)
  (.seq (.ret (.var 1))
  .nop)))⟩
noncomputable def v_law_listing : List String := ["top", "listing", "d", "n", "place", "weight", "row"]

noncomputable def b_law_farey_1 : S := (.seq (.assign 3 (.comp (.one 4) .r2 (.int 1) (.ar .add (.var 0) (.int 1)) (.cmp .eq (.ar .fmod (.ar .mul (.var 2) (.var 4)) (.int 60)) (.int 0)) (.var 4)))
  (.seq (.ite (.cmp .ne (.var 3) .list0) (.seq (.app 1 (.tup2 (.ar .fdiv (.ar .mul (.var 2) (.sub (.var 3) (.int 0))) (.int 60)) (.sub (.var 3) (.int 0))))
  .nop) .nop)
  .nop))
/-- _law_farey: 0=top 1=told 2=part 3=fits 4=d -/
noncomputable def f_law_farey : Fn := ⟨5, [1], (.seq (.newl 1)
  (.seq (.loop (.one 2) .r1 (.int 61) .nil b_law_farey_1)
  (.seq (.ret (.var 1))
  .nop)))⟩
noncomputable def v_law_farey : List String := ["top", "told", "part", "fits", "d"]

/-- _law_sign: 0=one 1=other 2=across -/
noncomputable def f_law_sign : Fn := ⟨3, [], (.seq (.assign 2 (.ar .sub (.ar .mul (.sub (.var 0) (.int 0)) (.sub (.var 1) (.int 1))) (.ar .mul (.sub (.var 1) (.int 0)) (.sub (.var 0) (.int 1)))))
  (.seq (.ite (.cmp .eq (.var 2) (.int 0)) (.seq (.ret (.int 0))
  .nop) .nop)
  (.seq (.ret (.ite (.cmp .gt (.var 2) (.int 0)) (.int 1) (.neg (.int 1))))
  .nop)))⟩
noncomputable def v_law_sign : List String := ["one", "other", "across"]

noncomputable def b_law_in_order_1 : S := (.seq (.assign 7 (.call2 16 (.var 3) (.var 5)))
  (.seq (.ite (.or2 (.cmp .ne (.cmpr 6 (.var 2) (.var 4)) (.var 7)) (.cmp .ne (.cmpr 8 (.var 2) (.var 4)) (.neg (.var 7)))) (.seq (.ret (.bool false))
  .nop) .nop)
  .nop))
noncomputable def b_law_in_order_2 : S := (.seq (.loop (.two 4 5) .seq (.var 1) .nil b_law_in_order_1)
  .nop)
/-- _law_in_order: 0=ours 1=others 2=row 3=one 4=beside 5=other 6=upwards 7=due 8=turned 9=j -/
noncomputable def f_law_in_order : Fn := ⟨10, [], (.seq (.assign 6 (.mk (.comp (.one 9) .r1 (.int 12) .nil (.bool true) (.tup2 (.var 9) (.ar .sub (.int 1) (.ar .mul (.ar .fmod (.var 9) (.int 2)) (.int 2)))))))
  (.seq (.assign 8 (.mk (.comp (.one 9) .r1 (.int 12) .nil (.bool true) (.tup2 (.var 9) (.ar .sub (.ar .mul (.ar .fmod (.var 9) (.int 2)) (.int 2)) (.int 1))))))
  (.seq (.loop (.two 2 3) .seq (.var 0) .nil b_law_in_order_2)
  (.seq (.ret (.bool true))
  .nop))))⟩
noncomputable def v_law_in_order : List String := ["ours", "others", "row", "one", "beside", "other", "upwards", "due", "turned", "j"]

noncomputable def b_law_nearest_1 : S := (.seq (.assign 6 (.ar .fdiv (.ar .sub (.ar .mul (.var 0) (.var 5)) (.int 1)) (.var 1)))
  (.seq (.ite (.and2 (.cmp .ge (.var 6) (.int 0)) (.or2 (.isNone (.var 3)) (.cmp .gt (.ar .mul (.var 6) (.sub (.var 3) (.int 1))) (.ar .mul (.sub (.var 3) (.int 0)) (.var 5))))) (.seq (.assign 3 (.tup2 (.var 6) (.var 5)))
  .nop) .nop)
  (.seq (.assign 6 (.ar .add (.ar .fdiv (.ar .mul (.var 0) (.var 5)) (.var 1)) (.int 1)))
  (.seq (.ite (.or2 (.isNone (.var 4)) (.cmp .lt (.ar .mul (.var 6) (.sub (.var 4) (.int 1))) (.ar .mul (.sub (.var 4) (.int 0)) (.var 5)))) (.seq (.assign 4 (.tup2 (.var 6) (.var 5)))
  .nop) .nop)
  .nop))))
/-- _law_nearest: 0=n 1=d 2=top 3=below 4=above 5=e 6=m -/
noncomputable def f_law_nearest : Fn := ⟨7, [], (.seq (.assign 3 .nil)
  (.seq (.assign 4 .nil)
  (.seq (.loop (.one 5) .r2 (.int 1) (.ar .add (.var 2) (.int 1)) b_law_nearest_1)
  (.seq (.ret (.tup2 (.var 3) (.var 4)))
  .nop))))⟩
noncomputable def v_law_nearest : List String := ["n", "d", "top", "below", "above", "e", "m"]

/-- _law_stands: 0=listing 1=row 2=n 3=d 4=top 5=last 6=first 7=below 8=above -/
noncomputable def f_law_stands : Fn := ⟨9, [], (.seq (.assign 6 (.callk 6 (.var 0) (.call1 11 (.var 1))))
  (.seq (.assign 5 (.callk 7 (.var 0) (.call1 11 (.var 1))))
  (.seq (.assign 7 (.ite (.cmp .gt (.var 6) (.int 0)) (.sub (.sub (.var 0) (.ar .sub (.var 6) (.int 1))) (.int 2)) .nil))
  (.seq (.assign 8 (.sub (.sub (.var 0) (.var 5)) (.int 2)))
  (.seq (.ite (.cmp .ne (.tup2 (.var 7) (.var 8)) (.call3 18 (.var 2) (.var 3) (.var 4))) (.seq (.ret (.bool false))
  .nop) .nop)
  (.seq (.ite (.isNone (.var 7)) (.seq (.ret (.and2 (.cmp .eq (.var 2) (.int 0)) (.cmp .eq (.tup2 (.var 6) (.var 5)) (.tup2 (.int 0) (.int 1)))))
  .nop) .nop)
  (.seq (.ite (.cmp .eq (.var 6) (.var 5)) (.seq (.ret (.and2 (.cmp .eq (.ar .sub (.ar .mul (.sub (.var 8) (.int 0)) (.sub (.var 7) (.int 1))) (.ar .mul (.sub (.var 7) (.int 0)) (.sub (.var 8) (.int 1)))) (.int 1)) (.cmp .gt (.ar .add (.sub (.var 7) (.int 1)) (.sub (.var 8) (.int 1))) (.var 4))))
  .nop) .nop)
  (.seq (.ret (.and2 (.cmp .eq (.var 5) (.ar .add (.var 6) (.int 1))) (.cmp .eq (.ar .mul (.ar .add (.sub (.var 7) (.int 0)) (.sub (.var 8) (.int 0))) (.var 3)) (.ar .mul (.ar .add (.sub (.var 7) (.int 1)) (.sub (.var 8) (.int 1))) (.var 2)))))
  .nop))))))))⟩
noncomputable def v_law_stands : List String := ["listing", "row", "n", "d", "top", "last", "first", "below", "above"]

/-- law: 0=script 1=rests 2=row 3=pair 4=listing 5=top 6=entry 7=whole 8=k 9=runs 10=fractions 11=pairs 12=n 13=d -/
noncomputable def f_law : Fn := ⟨14, [], (.seq (.assign 5 (.ar .add (.int 3) (.ar .fmod (.len (.var 0)) (.int 3))))
  (.seq (.assign 10 (.call1 8 (.var 0)))
  (.seq (.assign 9 (.comp (.two 12 13) .seq (.var 10) .nil (.bool true) (.call2 9 (.var 12) (.var 13))))
  (.seq (.ite (.cmp .ne (.comp (.one 8) .r1 (.int 3) .nil (.not (.call3 13 (.sub (.var 9) (.var 8)) (.sub (.sub (.var 10) (.var 8)) (.int 0)) (.sub (.sub (.var 10) (.var 8)) (.int 1)))) (.var 8)) .list0) (.seq (.ret (.bool false))
  .nop) .nop)
  (.seq (.assign 4 (.call1 14 (.var 5)))
  (.seq (.assign 11 (.comp (.one 6) .seq (.var 4) .nil (.bool true) (.sub (.var 6) (.int 2))))
  (.seq (.ite (.cmp .ne (.var 11) (.call1 15 (.var 5))) (.seq (.ret (.bool false))
  .nop) .nop)
  (.seq (.ite (.cmp .ne (.comp (.one 8) .r2 (.int 1) (.len (.var 11)) (.cmp .ne (.ar .sub (.ar .mul (.sub (.sub (.var 11) (.var 8)) (.int 0)) (.sub (.sub (.var 11) (.ar .sub (.var 8) (.int 1))) (.int 1))) (.ar .mul (.sub (.sub (.var 11) (.ar .sub (.var 8) (.int 1))) (.int 0)) (.sub (.sub (.var 11) (.var 8)) (.int 1)))) (.int 1)) (.var 8)) .list0) (.seq (.ret (.bool false))
  .nop) .nop)
  (.seq (.assign 7 (.comp (.one 8) .r1 (.int 3) .nil (.bool true) (.tup2 (.call1 10 (.sub (.var 9) (.var 8))) (.sub (.var 10) (.var 8)))))
  (.seq (.assign 1 (.comp (.one 8) .r1 (.int 3) .nil (.bool true) (.tup2 (.call1 10 (.cat (.list1 (.int 0)) (.from1 (.sub (.var 9) (.var 8))))) (.tup2 (.ar .fmod (.sub (.sub (.var 10) (.var 8)) (.int 0)) (.sub (.sub (.var 10) (.var 8)) (.int 1))) (.sub (.sub (.var 10) (.var 8)) (.int 1))))))
  (.seq (.ite (.not (.call2 17 (.var 7) (.var 7))) (.seq (.ret (.bool false))
  .nop) .nop)
  (.seq (.ite (.not (.call2 17 (.var 1) (.cat (.comp (.one 6) .seq (.var 4) .nil (.bool true) (.tup2 (.sub (.var 6) (.int 1)) (.sub (.var 6) (.int 2)))) (.var 1)))) (.seq (.ret (.bool false))
  .nop) .nop)
  (.seq (.ret (.cmp .eq (.comp (.two 2 3) .seq (.var 1) .nil (.not (.call5 19 (.var 4) (.var 2) (.sub (.var 3) (.int 0)) (.sub (.var 3) (.int 1)) (.var 5))) (.var 2)) .list0))
  .nop)))))))))))))⟩
noncomputable def v_law : List String := ["script", "rests", "row", "pair", "listing", "top", "entry", "whole", "k", "runs", "fractions", "pairs", "n", "d"]

end Mine

/-! PL0 -/
namespace Mine
open PySem
theorem cmp_eq_int (i j : Int) : compare' .eq (.int i) (.int j) = some (decide (i = j)) := rfl
theorem cmp_ne_int (i j : Int) : compare' .ne (.int i) (.int j) = some (!decide (i = j)) := rfl
end Mine

/-! SB1 -/
namespace Mine
open PySem PySem.W PyProof.Rows PySem.Calls PySem.Spec

/-! ## the ground -/
structure Row where
  c : Addr
  P : Addr
  known : List (Pos × Str)

structure Gr where
  prog : Program
  w : World
  g : Heap
  rows : List Row
  mg : Str → Option Value
  mb : Str → Option Value
  /-- the class of the comparisons -/
  C : Addr

noncomputable abbrev Gr.T (G : Gr) : List Addr := G.rows.map (·.P)

noncomputable def Ext (T : List Addr) (h h' : Heap) : Prop := ∀ b o, b ∉ T → h.get? b = some o → h'.get? b = some o
theorem Ext.refl (T : List Addr) (h : Heap) : Ext T h h := fun _ _ _ e => e
theorem Ext.trans {T : List Addr} {h h' h'' : Heap} (a : Ext T h h') (b : Ext T h' h'') : Ext T h h'' := fun x o n e => b x o n (a x o n e)
theorem Ext.of {T : List Addr} {h h' : Heap} (k : ∀ b o, h.get? b = some o → h'.get? b = some o) : Ext T h h' := fun b o _ e => k b o e

noncomputable def NotCode (o : Obj) : Prop := ∀ vs q t, o.data = .fields vs → vs[1]? ≠ some (.str q t)

noncomputable def TabIn (h : Heap) (r : Row) : Prop :=
  ∃ ps, h.get? r.P = some (tabObj ps) ∧ TriplesOk ps.toList ∧ ∀ pos q, (pos, q) ∈ r.known → ∀ cv, codeAmong pos ps.toList = some cv → h.CodeRec cv q

structure Base (G : Gr) (h : Heap) : Prop where
  keep : ∀ b o, G.g.get? b = some o → h.get? b = some o
  tabs : ∀ r ∈ G.rows, TabIn h r

theorem TabIn.keeps {h h' : Heap} {r : Row} (x : TabIn h r) (k : ∀ b o, h.get? b = some o → h'.get? b = some o) : TabIn h' r :=
  let ⟨ps, h1, h2, h3⟩ := x; ⟨ps, k _ _ h1, h2, fun pos q hm cv hc => (h3 pos q hm cv hc).keeps k⟩
theorem Base.keeps {G : Gr} {h h' : Heap} (x : Base G h) (k : ∀ b o, h.get? b = some o → h'.get? b = some o) : Base G h' :=
  ⟨fun b o e => k _ _ (x.keep b o e), fun r hr => (x.tabs r hr).keeps k⟩
theorem Base.push {G : Gr} {h : Heap} (x : Base G h) (o : Obj) : Base G (h.push o) := x.keeps fun _ _ e => Heap.get?_push_of_some _ e

/-- an object that may be changed -/
structure Mut (G : Gr) (h : Heap) (a : Addr) : Prop where
  new : G.g.get? a = none
  notT : a ∉ G.T
  obj : ∃ o, h.get? a = some o ∧ NotCode o

theorem Base.same {G : Gr} {h h' : Heap} {a : Addr} (x : Base G h) (m : Mut G h a) (s : Heap.SameBut a h h') : Base G h' := by
  obtain ⟨hn, hT, o, ho, hc⟩ := m
  refine ⟨fun b ob e => s.extBut b ob (fun q => ?_) (x.keep b ob e), fun r hr => ?_⟩
  · rw [q, hn] at e; cases e
  · obtain ⟨ps, h1, h2, h3⟩ := x.tabs r hr
    refine ⟨ps, s.extBut _ _ (fun q => hT (q ▸ List.mem_map_of_mem hr)) h1, h2, fun pos q hm cv hcv => ?_⟩
    obtain ⟨c, oc, vs, t, e1, e2, e3, e4⟩ := h3 pos q hm cv hcv
    refine ⟨c, oc, vs, t, e1, s.extBut _ _ (fun z => ?_) e2, e3, e4⟩
    subst z
    rw [ho] at e2; cases e2
    exact hc _ _ _ e3 e4

theorem Base.tlt {G : Gr} {h : Heap} (x : Base G h) {b : Addr} (hb : b ∈ G.T) : b < h.objs.size := by
  obtain ⟨r, hr, rfl⟩ := List.mem_map.mp hb
  obtain ⟨ps, h1, _⟩ := x.tabs r hr
  exact Heap.lt_size h1
theorem Base.fresh {G : Gr} {h : Heap} (x : Base G h) {a : Addr} (ha : h.objs.size ≤ a) : G.g.get? a = none ∧ a ∉ G.T := by
  refine ⟨?_, fun q => absurd (x.tlt q) (Nat.not_lt.mpr ha)⟩
  cases e : G.g.get? a with
  | none => rfl
  | some o => exact absurd (Heap.lt_size (x.keep a o e)) (Nat.not_lt.mpr ha)
theorem Base.extSize {G : Gr} {h h' : Heap} (x : Base G h') (k : Ext G.T h h') {b : Addr} {o : Obj} (e : h.get? b = some o) : b < h'.objs.size := by
  by_cases hb : b ∈ G.T
  · exact x.tlt hb
  · exact Heap.lt_size (k b o hb e)
theorem Base.extFresh {G : Gr} {h h' : Heap} (x : Base G h') (k : Ext G.T h h') {a : Addr} (ha : h'.objs.size ≤ a) : h.get? a = none := by
  cases e : h.get? a with
  | none => rfl
  | some o => exact absurd (x.extSize k e) (Nat.not_lt.mpr ha)

/-- the state has grown: what was stays, but at the tables -/
noncomputable def Gw (G : Gr) (s s' : Shared) : Prop := ∃ h' tk, s' = { s with heap := h', toks := tk } ∧ Ext G.T s.heap h' ∧ Base G h'
theorem Gw.base {G : Gr} {s s' : Shared} (x : Gw G s s') : Base G s'.heap := by obtain ⟨h', tk, rfl, _, b⟩ := x; exact b
theorem Gw.ext {G : Gr} {s s' : Shared} (x : Gw G s s') : Ext G.T s.heap s'.heap := by obtain ⟨h', tk, rfl, e, _⟩ := x; exact e
theorem Gw.refl {G : Gr} {s : Shared} (b : Base G s.heap) : Gw G s s := ⟨s.heap, s.toks, rfl, Ext.refl _ _, b⟩
theorem Gw.trans {G : Gr} {s s' s'' : Shared} (x : Gw G s s') (y : Gw G s' s'') : Gw G s s'' := by
  obtain ⟨h', tk, rfl, e, _⟩ := x
  obtain ⟨h'', tk', rfl, e', b'⟩ := y
  exact ⟨h'', tk', rfl, e.trans e', b'⟩
theorem Gw.tok {G : Gr} {s : Shared} (b : Base G s.heap) (n : Nat) : Gw G s { s with toks := n } := ⟨s.heap, n, rfl, Ext.refl _ _, b⟩
theorem Gw.push {G : Gr} {s : Shared} (b : Base G s.heap) (o : Obj) : Gw G s { s with heap := s.heap.push o } :=
  ⟨_, s.toks, rfl, Ext.of fun _ _ e => Heap.get?_push_of_some _ e, b.push o⟩
theorem Gw.heapTok {G : Gr} {s : Shared} {h' : Heap} (b : Base G s.heap) (k : ∀ a o, s.heap.get? a = some o → h'.get? a = some o) (n : Nat) : Gw G s { s with heap := h', toks := n } :=
  ⟨h', n, rfl, Ext.of k, b.keeps k⟩

/-! ## what a value reads as -/
noncomputable def Rd (H : List Addr) (h : Heap) (v : Value) (d : PyData) : Prop := ∃ as, Reads (hideAll h H) v d as
noncomputable def RdL (H : List Addr) (h : Heap) (vs : List Value) (ds : List PyData) : Prop := ∃ as, ReadsAll (hideAll h H) vs ds as

/-- the key function: entry[0] -/
structure KeyFn (fd : FuncData) : Prop where
  params : ∃ p, fd.params = { posonlyargs := [], args := [{ arg := Str.ofString "entry", annotation := none, pos := p }], vararg := none, kwonlyargs := [], kw_defaults := [], kwarg := none, defaults := [] }
  body : ∃ p1 p2 p3, fd.body = .expr (.Subscript (.Name (Str.ofString "entry") p1) (.Constant (.int 0) 0 p2) p3)
  kind : fd.scope.kind = .function
  loc : fd.scope.names.lookup (Str.ofString "entry") = some .local
  nocell : ∀ x ∈ fd.scope.names, x.2 ≠ .cell
  nofree : ∀ x ∈ fd.scope.names, x.2 ≠ .free
  co : fd.scope.isCoroutine = false
  gen : fd.scope.isGenerator = false
  glob : fd.globals = mainGlobals
  clo : fd.closure = []
  blt : fd.builtins = builtinsNs
  dflt : fd.defaults = .none
noncomputable def IsKey (h : Heap) (a : Addr) : Prop := ∃ o fd, h.get? a = some o ∧ o.data = .func fd ∧ KeyFn fd ∧ h.CodeRec fd.code fd.qualname

/-- an object of the class at C whose one field reads as d -/
noncomputable def IsInst (C : Addr) (h : Heap) (a : Addr) (d : PyData) : Prop :=
  ∃ dA es n t v hs as, h.get? a = some { cls := .ref C, dict := some dA, data := .plain, slots := #[] } ∧ h.get? dA = some { cls := .type "dict", dict := none, data := .dict es n, slots := #[] } ∧
    es.toList = [⟨hs, .str (Str.ofString "comp_select_list") t, v⟩] ∧ Reads h v d as

noncomputable def RdE (C : Addr) (H : List Addr) (h : Heap) (v : Value) : EV → Prop
  | .dat d => Rd H h v d
  | .lam => ∃ a, v = .ref a ∧ IsKey (hideAll h H) a
  | .inst d => ∃ a, v = .ref a ∧ IsInst C (hideAll h H) a d
  | .obj a => v = .ref a

section
variable {C : Addr} {H H' : List Addr} {h h' : Heap} {v : Value}
theorem Rd.mono {d : PyData} (k : ∀ b o, (hideAll h H).get? b = some o → (hideAll h' H').get? b = some o) (x : Rd H h v d) : Rd H' h' v d :=
  let ⟨as, r⟩ := x; ⟨as, Reads.keeps k r⟩
theorem RdL.mono {vs : List Value} {ds : List PyData} (k : ∀ b o, (hideAll h H).get? b = some o → (hideAll h' H').get? b = some o) (x : RdL H h vs ds) : RdL H' h' vs ds :=
  let ⟨as, r⟩ := x; ⟨as, ReadsAll.keeps k r⟩
theorem IsKey.keeps {a : Addr} (k : ∀ b o, h.get? b = some o → h'.get? b = some o) (x : IsKey h a) : IsKey h' a :=
  let ⟨o, fd, h1, h2, h3, h4⟩ := x; ⟨o, fd, k _ _ h1, h2, h3, h4.keeps k⟩
theorem IsInst.keeps {a : Addr} {d : PyData} (k : ∀ b o, h.get? b = some o → h'.get? b = some o) (x : IsInst C h a d) : IsInst C h' a d :=
  let ⟨dA, es, n, t, v, hs, as, h1, h2, h3, h4⟩ := x; ⟨dA, es, n, t, v, hs, as, k _ _ h1, k _ _ h2, h3, Reads.keeps k h4⟩
theorem RdE.mono {ev : EV} (k : ∀ b o, (hideAll h H).get? b = some o → (hideAll h' H').get? b = some o) (x : RdE C H h v ev) : RdE C H' h' v ev := by
  cases ev with
  | dat d => exact Rd.mono k x
  | lam => obtain ⟨a, e, y⟩ := x; exact ⟨a, e, y.keeps k⟩
  | inst d => obtain ⟨a, e, y⟩ := x; exact ⟨a, e, y.keeps k⟩
  | obj a => exact x
end

theorem view_ext {T H : List Addr} {h h' : Heap} (k : Ext T h h') (hT : ∀ b ∈ T, b ∈ H) : ∀ b o, (hideAll h H).get? b = some o → (hideAll h' H).get? b = some o := by
  intro b o e
  have e' := of_hideAll _ e
  have hb : b ∉ H := fun q => by rw [hideAll_none H q] at e; cases e
  exact hideAll_get _ (k b o (fun q => hb (hT b q)) e') hb

theorem RdE.ext {G : Gr} {H : List Addr} {s s' : Shared} {v : Value} {ev : EV} (x : RdE G.C H s.heap v ev) (y : Gw G s s') (hT : ∀ b ∈ G.T, b ∈ H) : RdE G.C H s'.heap v ev :=
  x.mono (view_ext y.ext hT)
theorem Rd.ext {G : Gr} {H : List Addr} {s s' : Shared} {v : Value} {d : PyData} (x : Rd H s.heap v d) (y : Gw G s s') (hT : ∀ b ∈ G.T, b ∈ H) : Rd H s'.heap v d :=
  x.mono (view_ext y.ext hT)

section
variable {H : List Addr} {h : Heap} {v : Value}
theorem Rd.int {i : Int} (x : Rd H h v (.int i)) : ∃ t, v = .int i t := by obtain ⟨as, r⟩ := x; cases r; exact ⟨_, rfl⟩
theorem Rd.bool {b : Bool} (x : Rd H h v (.bool b)) : v = .bool b := by obtain ⟨as, r⟩ := x; cases r; rfl
theorem Rd.none (x : Rd H h v .none) : v = .none := by obtain ⟨as, r⟩ := x; cases r; rfl
theorem Rd.ofInt (i : Int) (t : Tok) : Rd H h (.int i t) (.int i) := ⟨_, .int i t⟩
theorem Rd.ofBool (b : Bool) : Rd H h (.bool b) (.bool b) := ⟨_, .bool b⟩
theorem Rd.ofNone : Rd H h .none .none := ⟨_, .none⟩
theorem Rd.list {ds : List PyData} (x : Rd H h v (.list ds)) : ∃ a o vs n, v = .ref a ∧ h.get? a = some o ∧ a ∉ H ∧ o.cls = .type "list" ∧ o.data = .seq vs n ∧ RdL H h vs.toList ds := by
  obtain ⟨as, r⟩ := x
  cases r with
  | list h1 h2 h3 h4 => exact ⟨_, _, _, _, rfl, of_hideAll _ h1, (fun q => by rw [hideAll_none H q] at h1; cases h1), h2, h3, _, h4⟩
theorem Rd.tuple {ds : List PyData} (x : Rd H h v (.tuple ds)) : ∃ a o vs n, v = .ref a ∧ h.get? a = some o ∧ a ∉ H ∧ o.cls = .type "tuple" ∧ o.data = .seq vs n ∧ RdL H h vs.toList ds := by
  obtain ⟨as, r⟩ := x
  cases r with
  | tuple h1 h2 h3 h4 => exact ⟨_, _, _, _, rfl, of_hideAll _ h1, (fun q => by rw [hideAll_none H q] at h1; cases h1), h2, h3, _, h4⟩
theorem RdL.nil : RdL H h [] [] := ⟨_, .nil⟩
theorem RdL.cons {vs : List Value} {d : PyData} {ds : List PyData} (x : Rd H h v d) (y : RdL H h vs ds) : RdL H h (v :: vs) (d :: ds) :=
  let ⟨_, r⟩ := x; let ⟨_, q⟩ := y; ⟨_, .cons r q⟩
theorem RdL.cons_inv {vs : List Value} {d : PyData} {ds : List PyData} (x : RdL H h vs (d :: ds)) : ∃ v vs', vs = v :: vs' ∧ Rd H h v d ∧ RdL H h vs' ds := by
  obtain ⟨as, r⟩ := x
  cases r with
  | cons r q => exact ⟨_, _, rfl, ⟨_, r⟩, ⟨_, q⟩⟩
theorem RdL.nil_inv {vs : List Value} (x : RdL H h vs []) : vs = [] := by obtain ⟨as, r⟩ := x; cases r; rfl
theorem RdL.length {vs : List Value} {ds : List PyData} (x : RdL H h vs ds) : vs.length = ds.length := let ⟨_, r⟩ := x; readsAll_len _ r
theorem RdL.get {vs : List Value} {ds : List PyData} (x : RdL H h vs ds) : ∀ {i : Nat} {d : PyData}, ds[i]? = some d → ∃ v, vs[i]? = some v ∧ Rd H h v d := by
  induction ds generalizing vs with
  | nil => intro i d e; simp at e
  | cons d ds ih =>
    obtain ⟨v, vs', rfl, r, q⟩ := x.cons_inv
    intro i e' he
    cases i with
    | zero => simp at he; subst he; exact ⟨v, by simp, r⟩
    | succ i => simp at he; obtain ⟨u, h1, h2⟩ := ih q he; exact ⟨u, by simpa using h1, h2⟩
theorem RdL.append {vs ws : List Value} {ds es : List PyData} (x : RdL H h vs ds) (y : RdL H h ws es) : RdL H h (vs ++ ws) (ds ++ es) := by
  induction ds generalizing vs with
  | nil => rw [x.nil_inv]; exact y
  | cons d ds ih => obtain ⟨v, vs', rfl, r, q⟩ := x.cons_inv; exact .cons r (ih q)
end

/-! ## names -/
noncomputable def kcls : Option NameKind → Nat
  | some .local => 1
  | some .cell => 2
  | some .free => 2
  | some .globalImplicit => 3
  | _ => 0
/-- what is fixed of a frame: its names' kinds, its code, its place -/
structure Fc where
  scope : Scope
  code : Value
  qual : Str
noncomputable abbrev Fc.names (f : Fc) : List (Str × NameKind) := f.scope.names
noncomputable def SameK (sc : Fc) (env : Env) : Prop := ∀ x, kcls (env.kindOf x) = kcls (sc.names.lookup x)

structure EnvOk (G : Gr) (h : Heap) (env : Env) : Prop where
  kind : env.scope.kind = .function
  glob : env.globals = mainGlobals
  blt : env.builtins = builtinsNs
  loc : env.locals ∉ G.T
  ns : ∃ m, h.Ns env.locals m
  cel : ∀ x c, env.cells.lookup x = some c → c ∉ G.T
  has : ∀ x, kcls (env.kindOf x) = 2 → (env.cells.lookup x).isSome = true

noncomputable def Var (h : Heap) (env : Env) (x : Str) (v : Value) : Prop :=
  (env.kindOf x = some .local ∧ ∃ m, h.Ns env.locals m ∧ m x = some v) ∨ (kcls (env.kindOf x) = 2 ∧ ∃ c, env.cells.lookup x = some c ∧ h.IsCell c (some v))

noncomputable def Vs (G : Gr) (H : List Addr) (h : Heap) (env : Env) (vs : List Str) (ρ : Env') : Prop :=
  ∀ (k : Nat) (x : Str) (ev : EV), vs[k]? = some x → ρ[k]? = some (some ev) → (kcls (env.kindOf x) = 1 ∨ kcls (env.kindOf x) = 2) → ∃ v, Var h env x v ∧ RdE G.C H h v ev

theorem EnvOk.ext {G : Gr} {h h' : Heap} {env : Env} (x : EnvOk G h env) (k : Ext G.T h h') : EnvOk G h' env where
  kind := x.kind
  glob := x.glob
  blt := x.blt
  loc := x.loc
  ns := let ⟨m, o, es, ep, e, r⟩ := x.ns; ⟨m, o, es, ep, k _ _ x.loc e, r⟩
  cel := x.cel
  has := x.has
theorem Var.ext {G : Gr} {h h' : Heap} {env : Env} {n : Str} {v : Value} (x : Var h env n v) (y : EnvOk G h env) (k : Ext G.T h h') : Var h' env n v := by
  rcases x with ⟨h1, m, ⟨o, es, ep, e, r⟩, hm⟩ | ⟨h1, c, hc, o, e, r⟩
  · exact .inl ⟨h1, m, ⟨o, es, ep, k _ _ y.loc e, r⟩, hm⟩
  · exact .inr ⟨h1, c, hc, o, k _ _ (y.cel _ _ hc) e, r⟩

structure AOk (A : Around) (k : Nat) : Prop where
  hand : A.handled = none
  depth : A.depth + k < recursionLimit
  units : A.units + 40 * k + 200 < cLine

/-- what is hidden stands, and is no code -/
noncomputable def Hid (H : List Addr) (h : Heap) : Prop := ∀ b ∈ H, ∃ o, h.get? b = some o ∧ NotCode o
theorem tab_notCode {ps : Array Value} (h : TriplesOk ps.toList) : NotCode (tabObj ps) := by
  intro vs q t e1 e2
  cases e1
  exact triples_no_str h q t (by simpa using e2)
theorem rec_view {H : List Addr} {h : Heap} {cd : Value} {q : Str} (x : h.CodeRec cd q) (hx : Hid H h) : (hideAll h H).CodeRec cd q := by
  obtain ⟨c, o, vs, t, e0, e1, e2, e3⟩ := x
  refine ⟨c, o, vs, t, e0, hideAll_get _ e1 fun hc => ?_, e2, e3⟩
  obtain ⟨o', e', n⟩ := hx c hc
  rw [e1] at e'; cases e'
  exact n _ _ _ e2 e3
structure Cx (G : Gr) (vs : List Str) (sc : Fc) (k : Nat) (H : List Addr) (A : Around) (env : Env) (ρ : Env') (s : Shared) : Prop where
  a : AOk A k
  e : EnvOk G s.heap env
  sk : SameK sc env
  cd : env.code = sc.code
  ql : env.qual = sc.qual
  b : Base G s.heap
  h : ∀ b ∈ G.T, b ∈ H
  hx : Hid H s.heap
  v : Vs G H s.heap env vs ρ
theorem hx_ext {G : Gr} {H : List Addr} {s s' : Shared} (x : Hid H s.heap) (y : Gw G s s') : Hid H s'.heap := by
  intro b hb
  by_cases q : b ∈ G.T
  · obtain ⟨r, hr, rfl⟩ := List.mem_map.mp q
    obtain ⟨ps, h1, h2, _⟩ := y.base.tabs r hr
    exact ⟨_, h1, tab_notCode h2⟩
  · obtain ⟨o, e, n⟩ := x b hb
    exact ⟨o, y.ext b o q e, n⟩
theorem Cx.step {G : Gr} {vs : List Str} {sc : Fc} {k : Nat} {H : List Addr} {A : Around} {env : Env} {ρ : Env'} {s s' : Shared} (x : Cx G vs sc k H A env ρ s) (y : Gw G s s') : Cx G vs sc k H A env ρ s' where
  a := x.a
  e := x.e.ext y.ext
  sk := x.sk
  cd := x.cd
  ql := x.ql
  b := y.base
  h := x.h
  hx := hx_ext x.hx y
  v := fun i n ev h1 h2 h3 => let ⟨v, h4, h5⟩ := x.v i n ev h1 h2 h3; ⟨v, h4.ext x.e y.ext, h5.ext y x.h⟩

/-! ## the two promises -/
noncomputable abbrev Wp {α : Type} (G : Gr) (A : Around) (t : Sem α) (P : α → Shared → Prop) (s : Shared) : Prop := wpAny (model G.prog G.w) A t P (fun _ _ => False) s

noncomputable def EvOk (G : Gr) (Φ : Phi) (k : Nat) (vs : List Str) (sc : Fc) (x : X) (e : Expr) : Prop :=
  ∀ H A env ρ s ev, Cx G vs sc k H A env ρ s → evalX Φ x ρ = some ev → Wp G A (eval e env) (fun v s' => Gw G s s' ∧ RdE G.C H s'.heap v ev) s
noncomputable def TrOk (G : Gr) (Φ : Phi) (k : Nat) (vs : List Str) (sc : Fc) (x : X) (e : Expr) : Prop :=
  ∀ H A env ρ s b, Cx G vs sc k H A env ρ s → evalX Φ x ρ = some (.dat (.bool b)) → Wp G A (isTrue e env (eval e env)) (fun c s' => c = b ∧ Gw G s s') s

end Mine

/-! SB2 -/
namespace Mine
open PySem PySem.W PyProof.Rows PySem.Calls PySem.Spec

section
variable {G : Gr} {Φ : Phi} {k : Nat} {vs : List Str} {sc : Fc}

theorem Wp.mono {α : Type} {A : Around} {t : Sem α} {P Q : α → Shared → Prop} {E : Value → Shared → Prop} {s : Shared} (h : Wp G A t P s) (k : ∀ a s', P a s' → Q a s') : wpAny (model G.prog G.w) A t Q E s :=
  wpAny_mono h k fun _ _ f => f.elim

/-- a plain form is asked as it is read -/
theorem TrOk.plain {x : X} {e : Expr} (h : EvOk G Φ k vs sc x e) (he : ∀ env whole, isTrue e env whole = (do let v ← whole; standAt e.pos; holding [v] (truthy v))) : TrOk G Φ k vs sc x e := by
  intro H A env ρ s b cx ev
  refine isTrue_plain ((h H A env ρ s _ cx ev).mono fun v s' zz13 => have g := zz13.1; have r := zz13.2; ?_) (he _ _)
  rw [Rd.bool r]
  exact wpAny_truthy_bool ⟨rfl, g⟩

theorem ev_var {n : Nat} {id : Str} {pos : Pos} (hx : vs[n]? = some id) (hs : kcls (sc.names.lookup id) = 1 ∨ kcls (sc.names.lookup id) = 2) (hd : (id == ("__debug__" : Str)) = false) (hc : (id == ("__classdict__" : Str)) = false) :
    EvOk G Φ k vs sc (.var n) (.Name id pos) := by
  intro H A env ρ s ev cx he
  dsimp only [xe_var, xe_int, xe_nil, xe_bool, xe_lim, xe_ar, xe_cat, xe_rep, xe_neg, xe_inv, xe_not, xe_cmp, xe_isNone, xe_and2, xe_or2, xe_or3, xe_ite, xe_tup2, xe_tup3, xe_list0, xe_list1, xe_list3, xe_sub, xe_from1, xe_upto1, xe_sl3, xe_len, xe_sum, xe_tuple, xe_bits, xe_divmod, xe_call1, xe_call2, xe_call3, xe_call5, xe_callk, xe_keyc, xe_comp, xe_mk, xe_cmpr, xe_attr] at he
  have hρ : ρ[n]? = some (some ev) := by
    cases q : ρ[n]? with
    | none => rw [q] at he; cases he
    | some o => rw [q] at he; cases o with
      | none => cases he
      | some e' => cases he; rfl
  rw [← cx.sk id] at hs
  obtain ⟨v, hv, hr⟩ := cx.v n id ev hx hρ hs
  refine wpAny_Name ?_ hd
  rcases hv with ⟨h1, m, h2, h3⟩ | ⟨h1, c, h2, h3⟩
  · exact wpAny_loadName_local cx.e.kind h1 h2 h3 ⟨Gw.refl cx.b, hr⟩
  · cases q : env.kindOf id with
    | none => rw [q] at h1; cases h1
    | some kd =>
      rw [q] at h1
      cases kd with
      | cell => exact wpAny_loadName_cell cx.e.kind q h2 h3 ⟨Gw.refl cx.b, hr⟩
      | free => exact wpAny_loadName_free cx.e.kind q h2 h3 ⟨Gw.refl cx.b, hr⟩ hc
      | _ => cases h1

theorem ev_int {i : Int} {kk : Nat} {pos : Pos} : EvOk G Φ k vs sc (.int i) (.Constant (.int i) kk pos) := by
  intro H A env ρ s ev cx he
  cases he
  exact wpAny_Constant_int ⟨Gw.tok cx.b _, Rd.ofInt _ _⟩
theorem ev_nil {kk : Nat} {pos : Pos} : EvOk G Φ k vs sc .nil (.Constant .none kk pos) := by
  intro H A env ρ s ev cx he
  cases he
  exact Constant_none ⟨Gw.refl cx.b, Rd.ofNone⟩
theorem ev_bool {b : Bool} {kk : Nat} {pos : Pos} : EvOk G Φ k vs sc (.bool b) (.Constant (.bool b) kk pos) := by
  intro H A env ρ s ev cx he
  cases he
  exact Constant_bool ⟨Gw.refl cx.b, Rd.ofBool _⟩

/-- two parts, one after the other -/
theorem two_parts {a b : X} {l r : Expr} (ha : EvOk G Φ k vs sc a l) (hb : EvOk G Φ k vs sc b r) {H : List Addr} {A : Around} {env : Env} {ρ : Env'} {s : Shared} {x y : EV}
    (cx : Cx G vs sc k H A env ρ s) (ea : evalX Φ a ρ = some x) (eb : evalX Φ b ρ = some y) {Q : Value → Shared → Prop} {f : Value → Value → Sem Value}
    (h : ∀ v u s₂, Gw G s s₂ → RdE G.C H s₂.heap v x → RdE G.C H s₂.heap u y → wpAny (model G.prog G.w) A (f v u) Q (fun _ _ => False) s₂) :
    wpAny (model G.prog G.w) A (eval l env) (fun v s₁ => wpAny (model G.prog G.w) A (eval r env) (fun u s₂ => wpAny (model G.prog G.w) A (f v u) Q (fun _ _ => False) s₂) (fun _ _ => False) s₁) (fun _ _ => False) s :=
  (ha H A env ρ s x cx ea).mono fun v s₁ zz14 => have g₁ := zz14.1; have r₁ := zz14.2; (hb H A env ρ s₁ y (cx.step g₁) eb).mono fun u s₂ zz15 => have g₂ := zz15.1; have r₂ := zz15.2; h v u s₂ (g₁.trans g₂) (r₁.ext g₂ cx.h) r₂

noncomputable def opOf : AOp → Operator
  | .add => .Add
  | .sub => .Sub
  | .mul => .Mult
  | .fdiv => .FloorDiv
  | .fmod => .Mod
  | .shl => .LShift
  | .shr => .RShift
  | .xor => .BitXor
theorem arith_ok {op : AOp} {i j z : Int} {t u : Tok} {A : Around} {s : Shared} (e : arith op i j = some z) {Q : Value → Shared → Prop} (h : ∀ t, Q (.int z t) { s with toks := s.toks + 1 }) :
    wpAny (model G.prog G.w) A (binaryOp (opOf op) (.int i t) (.int j u)) Q (fun _ _ => False) s := by
  cases op <;> simp only [arith, opOf, Option.some.injEq, Option.ite_none_right_eq_some] at e ⊢
  · subst e; exact wpAny_add_int (h _)
  · subst e; exact PyProof.Rows.sub_int (h _)
  · obtain ⟨h1, rfl⟩ := e
    exact PyProof.Rows.mul_int (h _) (IntMulOk.of_left (intBits_le_64 (by omega) (by omega)))
  · obtain ⟨h1, rfl⟩ := e
    exact PyProof.Rows.floordiv_int h1.1 (h _) (.inl (PyProof.noPylong_small h1.2))
  · obtain ⟨h1, rfl⟩ := e
    exact PyProof.Rows.mod_int' h1 (h _)
  · obtain ⟨h1, rfl⟩ := e
    exact PyProof.Rows.lshift_int_small h1.1 (by omega) (by omega) (h _)
  · obtain ⟨h1, rfl⟩ := e
    exact PyProof.Rows.rshift_int h1 (h _)
  · subst e; exact PyProof.Rows.xor_int (h _)

theorem ev_ar {op : AOp} {a b : X} {l r : Expr} {pos : Pos} (ha : EvOk G Φ k vs sc a l) (hb : EvOk G Φ k vs sc b r) : EvOk G Φ k vs sc (.ar op a b) (.BinOp l (opOf op) r pos) := by
  intro H A env ρ s ev cx he
  dsimp only [xe_var, xe_int, xe_nil, xe_bool, xe_lim, xe_ar, xe_cat, xe_rep, xe_neg, xe_inv, xe_not, xe_cmp, xe_isNone, xe_and2, xe_or2, xe_or3, xe_ite, xe_tup2, xe_tup3, xe_list0, xe_list1, xe_list3, xe_sub, xe_from1, xe_upto1, xe_sl3, xe_len, xe_sum, xe_tuple, xe_bits, xe_divmod, xe_call1, xe_call2, xe_call3, xe_call5, xe_callk, xe_keyc, xe_comp, xe_mk, xe_cmpr, xe_attr] at he
  split at he
  · rename_i i j ea eb
    obtain ⟨z, hz, rfl⟩ := Option.map_eq_some_iff.mp he
    refine wpAny_BinOp (two_parts ha hb cx ea eb fun v u s₂ g r₁ r₂ => ?_)
    obtain ⟨t, rfl⟩ := Rd.int r₁
    obtain ⟨t', rfl⟩ := Rd.int r₂
    exact arith_ok hz fun t => ⟨g.trans (Gw.tok g.base _), Rd.ofInt _ _⟩
  · cases he

theorem ev_neg {a : X} {e : Expr} {pos : Pos} (ha : EvOk G Φ k vs sc a e) : EvOk G Φ k vs sc (.neg a) (.UnaryOp .USub e pos) := by
  intro H A env ρ s ev cx he
  dsimp only [xe_var, xe_int, xe_nil, xe_bool, xe_lim, xe_ar, xe_cat, xe_rep, xe_neg, xe_inv, xe_not, xe_cmp, xe_isNone, xe_and2, xe_or2, xe_or3, xe_ite, xe_tup2, xe_tup3, xe_list0, xe_list1, xe_list3, xe_sub, xe_from1, xe_upto1, xe_sl3, xe_len, xe_sum, xe_tuple, xe_bits, xe_divmod, xe_call1, xe_call2, xe_call3, xe_call5, xe_callk, xe_keyc, xe_comp, xe_mk, xe_cmpr, xe_attr] at he
  split at he
  · rename_i i ea
    cases he
    refine UnaryOp_ ((ha H A env ρ s _ cx ea).mono fun v s₁ zz16 => have g := zz16.1; have r := zz16.2; ?_)
    obtain ⟨t, rfl⟩ := Rd.int r
    exact PyProof.Rows.neg_int ⟨g.trans (Gw.tok g.base _), Rd.ofInt _ _⟩
  · cases he
theorem ev_inv {a : X} {e : Expr} {pos : Pos} (ha : EvOk G Φ k vs sc a e) : EvOk G Φ k vs sc (.inv a) (.UnaryOp .Invert e pos) := by
  intro H A env ρ s ev cx he
  dsimp only [xe_var, xe_int, xe_nil, xe_bool, xe_lim, xe_ar, xe_cat, xe_rep, xe_neg, xe_inv, xe_not, xe_cmp, xe_isNone, xe_and2, xe_or2, xe_or3, xe_ite, xe_tup2, xe_tup3, xe_list0, xe_list1, xe_list3, xe_sub, xe_from1, xe_upto1, xe_sl3, xe_len, xe_sum, xe_tuple, xe_bits, xe_divmod, xe_call1, xe_call2, xe_call3, xe_call5, xe_callk, xe_keyc, xe_comp, xe_mk, xe_cmpr, xe_attr] at he
  split at he
  · rename_i i ea
    cases he
    refine UnaryOp_ ((ha H A env ρ s _ cx ea).mono fun v s₁ zz17 => have g := zz17.1; have r := zz17.2; ?_)
    obtain ⟨t, rfl⟩ := Rd.int r
    exact PyProof.Rows.invert_int ⟨g.trans (Gw.tok g.base _), Rd.ofInt _ _⟩
  · cases he
theorem ev_not {a : X} {e : Expr} {pos : Pos} (ha : EvOk G Φ k vs sc a e) : EvOk G Φ k vs sc (.not a) (.UnaryOp .Not e pos) := by
  intro H A env ρ s ev cx he
  dsimp only [xe_var, xe_int, xe_nil, xe_bool, xe_lim, xe_ar, xe_cat, xe_rep, xe_neg, xe_inv, xe_not, xe_cmp, xe_isNone, xe_and2, xe_or2, xe_or3, xe_ite, xe_tup2, xe_tup3, xe_list0, xe_list1, xe_list3, xe_sub, xe_from1, xe_upto1, xe_sl3, xe_len, xe_sum, xe_tuple, xe_bits, xe_divmod, xe_call1, xe_call2, xe_call3, xe_call5, xe_callk, xe_keyc, xe_comp, xe_mk, xe_cmpr, xe_attr] at he
  split at he
  · rename_i i ea
    cases he
    refine UnaryOp_ ((ha H A env ρ s _ cx ea).mono fun v s₁ zz18 => have g := zz18.1; have r := zz18.2; ?_)
    rw [Rd.bool r]
    exact not_of (wpAny_truthy_bool ⟨g, Rd.ofBool _⟩)
  · cases he
theorem tr_not {a : X} {e : Expr} {pos : Pos} (ha : TrOk G Φ k vs sc a e) : TrOk G Φ k vs sc (.not a) (.UnaryOp .Not e pos) := by
  intro H A env ρ s b cx he
  dsimp only [xe_var, xe_int, xe_nil, xe_bool, xe_lim, xe_ar, xe_cat, xe_rep, xe_neg, xe_inv, xe_not, xe_cmp, xe_isNone, xe_and2, xe_or2, xe_or3, xe_ite, xe_tup2, xe_tup3, xe_list0, xe_list1, xe_list3, xe_sub, xe_from1, xe_upto1, xe_sl3, xe_len, xe_sum, xe_tuple, xe_bits, xe_divmod, xe_call1, xe_call2, xe_call3, xe_call5, xe_callk, xe_keyc, xe_comp, xe_mk, xe_cmpr, xe_attr] at he
  split at he
  · rename_i i ea
    cases he
    exact isTrue_not ((ha H A env ρ s _ cx ea).mono fun c s' zz19 => have e := zz19.1; have g := zz19.2; ⟨by rw [e], g⟩)
  · cases he

end
end Mine

/-! SB3 -/
namespace Mine
open PySem PySem.W PyProof.Rows PySem.Calls PySem.Spec
open PySem.AutoSeq1 (wpAny_loadPart')
open PySem.MeetsSeq PySem.MeetsSeq2 PySem.MeetsSeq3 PySem.SeqRoads2 PySem.SeqAt

theorem rdL_ints {H : List Addr} {h : Heap} : ∀ {ds : List PyData} {vs : List Value} {is : List Int}, RdL H h vs ds → ints? ds = some is → IntsAre vs is
  | [], vs, is, r, e => by rw [r.nil_inv]; cases e; exact .nil
  | d :: ds, vs, is, r, e => by
    obtain ⟨v, vs', rfl, rd, rl⟩ := r.cons_inv
    cases d with
    | int i =>
      simp only [ints?] at e
      obtain ⟨js, hj, rfl⟩ := Option.map_eq_some_iff.mp e
      obtain ⟨t, rfl⟩ := rd.int
      exact .cons _ _ (rdL_ints rl hj)
    | _ => cases e

theorem rcLt {prog : Program} {w : World} {A : Around} {E : Value → Shared → Prop} {s : Shared} {i j : Int} {t u : Tok} {Q : Value → Shared → Prop} (h : Q (.bool (decide (i < j))) s) :
    wpAny (model prog w) A (richCompare .Lt (.int i t) (.int j u)) Q E s := wpAny_lt_int h

set_option maxHeartbeats 4000000 in
theorem tuple_ltAt (l b : Addr) (items items2 : Array Value) (n n2 : Nat) (dd dd2 : Option Addr) (sl sl2 : Array (Option Value)) (xs ys : List Int) (hx : IntsAre items.toList xs) (hy : IntsAre items2.toList ys) :
    Meets (Builtin.«tuple.__lt__» ⟨[.ref l, .ref b], []⟩)
      (fun A R s => s.heap.get? l = some { cls := .type "tuple", dict := dd, data := .seq items n, slots := sl } ∧ s.heap.get? b = some { cls := .type "tuple", dict := dd2, data := .seq items2 n2, slots := sl2 } ∧
        R (.ok (.ret (.bool (ltInts xs ys)))) s) :=
  .of_wp fun prog w A R s h => by
    obtain ⟨hp, g, d, tk, os⟩ := s; obtain ⟨hl, hb, h⟩ := h
    have f2 := AutoSeq1.sub_tuple_tuple
    wp_walk using wpAny_loadPart' hl, wpAny_loadPart' hb, wpAny_forIn_list _ (fun rest b s' => b.1 = none ∧ s' = ⟨hp, g, d, tk, os⟩ ∧ ∃ vs ws xs ys, rest = vs.zip ws ∧ IntsAre vs xs ∧ IntsAre ws ys ∧ items.size + ws.length = items2.size + vs.length ∧
      R (.ok (.ret (.bool (ltInts xs ys)))) ⟨hp, g, d, tk, os⟩) _
    case turn =>
      rintro ⟨y, x⟩ rest b s' ⟨hb', rfl, vs, ws, xs, ys, hz, h1, h2, h3, hR⟩
      cases vs with
      | nil => cases hz
      | cons v vs =>
        cases ws with
        | nil => cases hz
        | cons u ws =>
          simp only [List.zip_cons_cons, List.cons.injEq, Prod.mk.injEq] at hz
          obtain ⟨⟨rfl, rfl⟩, rfl⟩ := hz
          cases h1 with
          | cons i t h1 =>
            cases h2 with
            | cons j t' h2 =>
              refine wpAny_bind (EqAt.int_int i t j t' prog w _ _ ?_)
              by_cases hij : i = j
              · subst hij
                simp only [ltInts, if_true] at hR
                simp only [beq_self_eq_true]
                wp_walk
                exact ⟨rfl, rfl, vs, ws, _, _, rfl, h1, h2, by simp only [List.length_cons] at h3; omega, hR⟩
              · simp only [ltInts, if_neg hij] at hR
                have hb2 : (i == j) = false := by simpa using hij
                rw [hb2]
                wp_walk using rcLt
                exact ⟨_, rfl, hR⟩
    case fin =>
      rintro ⟨b1, b2⟩ s' ⟨hb', rfl, vs, ws, xs, ys, hz, h1, h2, h3, hR⟩
      simp only at hb'
      subst hb'
      wp_walk
      refine ⟨_, rfl, ?_⟩
      have e : Builtin.Tuple.tupleCompareSizes CmpOp.Lt items.size items2.size = Value.bool (ltInts xs ys) := by
        simp only [Builtin.Tuple.tupleCompareSizes]
        cases h1 with
        | nil => cases h2 with
          | nil => simp at h3; simp [ltInts, h3]
          | cons j t h2 => simp at h3; simp [ltInts]; omega
        | cons i t h1 => cases h2 with
          | nil => simp at h3; simp [ltInts]; omega
          | cons j t' h2 => cases hz
      rw [e]; exact hR
    case h =>
      exact ⟨rfl, rfl, items.toList, items2.toList, xs, ys, rfl, hx, hy, by simp; omega, h⟩
end Mine

/-! SB4 -/
namespace Mine
open PySem PySem.W PyProof.Rows PySem.Calls PySem.Spec PySem.SeqAt

mutual
theorem okD_lay : ∀ (n : Nat) (d : PyData), okD n d = true → d.canLay0 = true ∧ d.depth ≤ n
  | n, .none, _ => by simp [PyData.canLay0, PyData.depth]
  | n, .int i, _ => by simp [PyData.canLay0, PyData.depth]
  | 0, .tuple ds, h => by simp [okD] at h
  | 0, .list ds, h => by simp [okD] at h
  | n + 1, .tuple ds, h => by
    have := okDs_lay n ds (by simpa [okD] using h)
    simp only [PyData.canLay0, PyData.depth]; exact ⟨this.1, by omega⟩
  | n + 1, .list ds, h => by
    have := okDs_lay n ds (by simpa [okD] using h)
    simp only [PyData.canLay0, PyData.depth]; exact ⟨this.1, by omega⟩
  | n, .bool b, h => by cases n <;> simp [okD] at h
  | n, .str b, h => by cases n <;> simp [okD] at h
  | n, .dict b, h => by cases n <;> simp [okD] at h
theorem okDs_lay : ∀ (n : Nat) (ds : List PyData), okDs n ds = true → PyData.canLayAll0 ds = true ∧ PyData.depthAll ds ≤ n
  | n, [], _ => by simp [PyData.canLayAll0, PyData.depthAll]
  | n, d :: ds, h => by
    simp only [okDs, Bool.and_eq_true] at h
    have h1 := okD_lay n d h.1
    have h2 := okDs_lay n ds h.2
    simp only [PyData.canLayAll0, PyData.depthAll, h1.1, h2.1, Bool.and_self, true_and]
    omega
end
theorem okD_shaped {d : PyData} (h : okD 8 d = true) : shaped d = true := by
  have := okD_lay 8 d h
  simp only [shaped, this.1, Bool.true_and, decide_eq_true_eq]; omega

noncomputable def cmpOf : COp → CmpOp
  | .lt => .Lt
  | .le => .LtE
  | .gt => .Gt
  | .ge => .GtE
  | .eq => .Eq
  | .ne => .NotEq

section
variable {G : Gr} {Φ : Phi} {k : Nat} {vs : List Str} {sc : Fc}

theorem Rd.whole {H : List Addr} {h : Heap} {v : Value} {d : PyData} (x : Rd H h v d) : ∃ as, Reads h v d as := let ⟨as, r⟩ := x; ⟨as, Reads.keeps (fun _ _ e => of_hideAll _ e) r⟩

theorem compare_ok {op : COp} {x y : PyData} {b : Bool} (e : compare' op x y = some b) {H : List Addr} {A : Around} {s : Shared} {v u : Value} (hA : AOk A k) (rx : Rd H s.heap v x) (ry : Rd H s.heap u y)
    {Q : Value → Shared → Prop} (h : Q (.bool b) s) : wpAny (model G.prog G.w) A (compareOp (cmpOf op) v u) Q (fun _ _ => False) s := by
  have hu := hA.units
  unfold compare' at e
  split at e
  · cases e; obtain ⟨t, rfl⟩ := rx.int; obtain ⟨t', rfl⟩ := ry.int; exact PyProof.Rows.lt_int h
  · cases e; obtain ⟨t, rfl⟩ := rx.int; obtain ⟨t', rfl⟩ := ry.int; exact PyProof.Rows.le_int h
  · cases e; obtain ⟨t, rfl⟩ := rx.int; obtain ⟨t', rfl⟩ := ry.int; exact PyProof.Rows.gt_int h
  · cases e; obtain ⟨t, rfl⟩ := rx.int; obtain ⟨t', rfl⟩ := ry.int; exact PyProof.Rows.ge_int h
  · rename_i xs ys
    cases hi : ints? xs with
    | none => simp [hi] at e
    | some is =>
      cases hj : ints? ys with
      | none => simp [hi, hj] at e
      | some js =>
        simp only [hi, hj, Option.bind_eq_bind, Option.bind_some, Option.some.injEq] at e
        subst e
        obtain ⟨a, ⟨ca, da, dta, sla⟩, va, na, rfl, ha, _, hc, hd, hl⟩ := rx.tuple
        obtain ⟨a', ⟨cb, db, dtb, slb⟩, vb, nb, rfl, hb, _, hc', hd', hl'⟩ := ry.tuple
        simp only at hc hd hc' hd'
        subst hc hd hc' hd'
        exact richCompare_meets_room (op := .Lt) ⟨_, ha, rfl⟩ ⟨_, hb, rfl⟩ F.slot_tuple_lt F.entry_tuple_lt (F.args_tuple_lt_2 _ _)
          (tuple_ltAt a a' va vb na nb da db sla slb is js (rdL_ints hl hi) (rdL_ints hl' hj)) ⟨ha, hb, (show Value.bool (ltInts is js) ≠ Value.notImplemented ∧ Q (.bool (ltInts is js)) s from ⟨(fun x => nomatch x), h⟩)⟩ (by omega)
  · simp only [Option.ite_none_right_eq_some, Bool.and_eq_true, Option.some.injEq] at e
    obtain ⟨⟨h1, h2⟩, rfl⟩ := e
    obtain ⟨as, ra⟩ := rx.whole
    obtain ⟨bs, rb⟩ := ry.whole
    exact compareEq_shaped ra rb (okD_shaped h1) (okD_shaped h2) (by omega) h
  · simp only [Option.ite_none_right_eq_some, Bool.and_eq_true, Option.some.injEq] at e
    obtain ⟨⟨h1, h2⟩, rfl⟩ := e
    obtain ⟨as, ra⟩ := rx.whole
    obtain ⟨bs, rb⟩ := ry.whole
    exact compareNe_shaped ra rb (okD_shaped h1) (okD_shaped h2) (by omega) h
  · cases e

theorem noMark (op : COp) (e : Expr) : behindInMarks (cmpOf op) e = false := by
  cases op <;> cases e <;> simp [behindInMarks, cmpOf] <;> intros <;> decide

theorem ev_cmp {op : COp} {a b : X} {l r : Expr} {pos : Pos} (ha : EvOk G Φ k vs sc a l) (hb : EvOk G Φ k vs sc b r) : EvOk G Φ k vs sc (.cmp op a b) (.Compare l [cmpOf op] [r] pos) := by
  intro H A env ρ s ev cx he
  dsimp only [xe_var, xe_int, xe_nil, xe_bool, xe_lim, xe_ar, xe_cat, xe_rep, xe_neg, xe_inv, xe_not, xe_cmp, xe_isNone, xe_and2, xe_or2, xe_or3, xe_ite, xe_tup2, xe_tup3, xe_list0, xe_list1, xe_list3, xe_sub, xe_from1, xe_upto1, xe_sl3, xe_len, xe_sum, xe_tuple, xe_bits, xe_divmod, xe_call1, xe_call2, xe_call3, xe_call5, xe_callk, xe_keyc, xe_comp, xe_mk, xe_cmpr, xe_attr] at he
  split at he
  · rename_i x y ea eb
    obtain ⟨z, hz, rfl⟩ := Option.map_eq_some_iff.mp he
    refine wpAny_Compare1 (two_parts ha hb cx ea eb fun v u s₂ g r₁ r₂ => ?_) (noMark _ _)
    exact compare_ok hz cx.a r₁ r₂ ⟨g, Rd.ofBool _⟩
  · cases he
theorem tr_cmp {op : COp} {a b : X} {l r : Expr} {pos : Pos} (ha : EvOk G Φ k vs sc a l) (hb : EvOk G Φ k vs sc b r) : TrOk G Φ k vs sc (.cmp op a b) (.Compare l [cmpOf op] [r] pos) := by
  intro H A env ρ s ev cx he
  dsimp only [xe_var, xe_int, xe_nil, xe_bool, xe_lim, xe_ar, xe_cat, xe_rep, xe_neg, xe_inv, xe_not, xe_cmp, xe_isNone, xe_and2, xe_or2, xe_or3, xe_ite, xe_tup2, xe_tup3, xe_list0, xe_list1, xe_list3, xe_sub, xe_from1, xe_upto1, xe_sl3, xe_len, xe_sum, xe_tuple, xe_bits, xe_divmod, xe_call1, xe_call2, xe_call3, xe_call5, xe_callk, xe_keyc, xe_comp, xe_mk, xe_cmpr, xe_attr] at he
  split at he
  · rename_i x y ea eb
    obtain ⟨z, hz, q⟩ := Option.map_eq_some_iff.mp he
    cases q
    refine wpAny_isTrue_Compare1 ?_ (noMark _ _)
    refine (ha H A env ρ s _ cx ea).mono fun v s₁ zz46 => have g₁ := zz46.1; have r₁ := zz46.2; (hb H A env ρ s₁ _ (cx.step g₁) eb).mono fun u s₂ zz47 => have g₂ := zz47.1; have r₂ := zz47.2; ?_
    exact compare_ok hz cx.a (r₁.ext g₂ cx.h) r₂ (wpAny_truthy_bool ⟨rfl, g₁.trans g₂⟩)
  · cases he

theorem isNone_val {x : EV} {b : Bool} (e : (match x with | .dat .none => true | _ => false) = b) {H : List Addr} {s : Shared} {v : Value} (r : RdE G.C H s.heap v x) : (v == Value.none) = b := by
  subst e
  cases x with
  | dat d =>
    obtain ⟨as, r⟩ := r
    cases r <;> rfl
  | lam => obtain ⟨a, rfl, _⟩ := r; rfl
  | inst d => obtain ⟨a, rfl, _⟩ := r; rfl
  | obj a => cases r; rfl
theorem isNone_ev {a : X} {ρ : Env'} {ev : EV} (he : evalX Φ (.isNone a) ρ = some ev) : ∃ x b, evalX Φ a ρ = some x ∧ (match x with | .dat .none => true | _ => false) = b ∧ ev = .dat (.bool b) := by
  dsimp only [xe_var, xe_int, xe_nil, xe_bool, xe_lim, xe_ar, xe_cat, xe_rep, xe_neg, xe_inv, xe_not, xe_cmp, xe_isNone, xe_and2, xe_or2, xe_or3, xe_ite, xe_tup2, xe_tup3, xe_list0, xe_list1, xe_list3, xe_sub, xe_from1, xe_upto1, xe_sl3, xe_len, xe_sum, xe_tuple, xe_bits, xe_divmod, xe_call1, xe_call2, xe_call3, xe_call5, xe_callk, xe_keyc, xe_comp, xe_mk, xe_cmpr, xe_attr] at he
  split at he
  · rename_i e; cases he; exact ⟨_, _, e, rfl, rfl⟩
  · rename_i x hx e
    cases he
    refine ⟨_, false, e, ?_, rfl⟩
    split
    · exact absurd rfl hx
    · rfl
  · cases he
theorem ev_isNone {a : X} {e : Expr} {kk : Nat} {p pos : Pos} (ha : EvOk G Φ k vs sc a e) : EvOk G Φ k vs sc (.isNone a) (.Compare e [.Is] [.Constant .none kk p] pos) := by
  intro H A env ρ s ev cx he
  obtain ⟨x, b, ea, hb, rfl⟩ := isNone_ev he
  refine wpAny_Compare1 ((ha H A env ρ s _ cx ea).mono fun v s₁ zz48 => have g := zz48.1; have r := zz48.2; Constant_none (is_none ?_)) rfl
  rw [isNone_val hb r]
  exact ⟨g, Rd.ofBool _⟩
theorem tr_isNone {a : X} {e : Expr} {kk : Nat} {p pos : Pos} (ha : EvOk G Φ k vs sc a e) : TrOk G Φ k vs sc (.isNone a) (.Compare e [.Is] [.Constant .none kk p] pos) := by
  intro H A env ρ s ev cx he
  obtain ⟨x, b, ea, hb, q⟩ := isNone_ev he
  cases q
  refine wpAny_isTrue_Compare1 ((ha H A env ρ s _ cx ea).mono fun v s₁ zz49 => have g := zz49.1; have r := zz49.2; Constant_none (is_none ?_)) rfl
  rw [isNone_val hb r]
  exact wpAny_truthy_bool ⟨rfl, g⟩

/-! and, or, if-else -/
theorem and2_inv {a b : X} {ρ : Env'} {ev : EV} (he : evalX Φ (.and2 a b) ρ = some ev) :
    (evalX Φ a ρ = some (.dat (.bool false)) ∧ ev = .dat (.bool false)) ∨ (evalX Φ a ρ = some (.dat (.bool true)) ∧ evalX Φ b ρ = some ev ∧ ∃ y, ev = .dat (.bool y)) := by
  dsimp only [xe_var, xe_int, xe_nil, xe_bool, xe_lim, xe_ar, xe_cat, xe_rep, xe_neg, xe_inv, xe_not, xe_cmp, xe_isNone, xe_and2, xe_or2, xe_or3, xe_ite, xe_tup2, xe_tup3, xe_list0, xe_list1, xe_list3, xe_sub, xe_from1, xe_upto1, xe_sl3, xe_len, xe_sum, xe_tuple, xe_bits, xe_divmod, xe_call1, xe_call2, xe_call3, xe_call5, xe_callk, xe_keyc, xe_comp, xe_mk, xe_cmpr, xe_attr] at he
  split at he
  · rename_i ea
    split at he
    · rename_i y eb; cases he; exact .inr ⟨ea, eb, y, rfl⟩
    · cases he
  · rename_i ea; cases he; exact .inl ⟨ea, rfl⟩
  · cases he
theorem or2_inv {a b : X} {ρ : Env'} {ev : EV} (he : evalX Φ (.or2 a b) ρ = some ev) :
    (evalX Φ a ρ = some (.dat (.bool true)) ∧ ev = .dat (.bool true)) ∨ (evalX Φ a ρ = some (.dat (.bool false)) ∧ evalX Φ b ρ = some ev ∧ ∃ y, ev = .dat (.bool y)) := by
  dsimp only [xe_var, xe_int, xe_nil, xe_bool, xe_lim, xe_ar, xe_cat, xe_rep, xe_neg, xe_inv, xe_not, xe_cmp, xe_isNone, xe_and2, xe_or2, xe_or3, xe_ite, xe_tup2, xe_tup3, xe_list0, xe_list1, xe_list3, xe_sub, xe_from1, xe_upto1, xe_sl3, xe_len, xe_sum, xe_tuple, xe_bits, xe_divmod, xe_call1, xe_call2, xe_call3, xe_call5, xe_callk, xe_keyc, xe_comp, xe_mk, xe_cmpr, xe_attr] at he
  split at he
  · rename_i ea
    split at he
    · rename_i y eb; cases he; exact .inr ⟨ea, eb, y, rfl⟩
    · cases he
  · rename_i ea; cases he; exact .inl ⟨ea, rfl⟩
  · cases he
theorem or3_as {a b c : X} {ρ : Env'} {ev : EV} (he : evalX Φ (.or3 a b c) ρ = some ev) : 
    (evalX Φ a ρ = some (.dat (.bool true)) ∧ ev = .dat (.bool true)) ∨ (evalX Φ a ρ = some (.dat (.bool false)) ∧ evalX Φ (.or2 b c) ρ = some ev ∧ ∃ y, ev = .dat (.bool y)) := by
  dsimp only [xe_var, xe_int, xe_nil, xe_bool, xe_lim, xe_ar, xe_cat, xe_rep, xe_neg, xe_inv, xe_not, xe_cmp, xe_isNone, xe_and2, xe_or2, xe_or3, xe_ite, xe_tup2, xe_tup3, xe_list0, xe_list1, xe_list3, xe_sub, xe_from1, xe_upto1, xe_sl3, xe_len, xe_sum, xe_tuple, xe_bits, xe_divmod, xe_call1, xe_call2, xe_call3, xe_call5, xe_callk, xe_keyc, xe_comp, xe_mk, xe_cmpr, xe_attr] at he
  split at he
  · rename_i ea
    refine .inr ⟨ea, ?_⟩
    split at he
    · rename_i eb
      split at he
      · rename_i y ec; cases he; exact ⟨by simp only [xe_var, xe_int, xe_nil, xe_bool, xe_lim, xe_ar, xe_cat, xe_rep, xe_neg, xe_inv, xe_not, xe_cmp, xe_isNone, xe_and2, xe_or2, xe_or3, xe_ite, xe_tup2, xe_tup3, xe_list0, xe_list1, xe_list3, xe_sub, xe_from1, xe_upto1, xe_sl3, xe_len, xe_sum, xe_tuple, xe_bits, xe_divmod, xe_call1, xe_call2, xe_call3, xe_call5, xe_callk, xe_keyc, xe_comp, xe_mk, xe_cmpr, xe_attr, eb, ec], _, rfl⟩
      · cases he
    · rename_i eb; cases he; exact ⟨by simp only [xe_var, xe_int, xe_nil, xe_bool, xe_lim, xe_ar, xe_cat, xe_rep, xe_neg, xe_inv, xe_not, xe_cmp, xe_isNone, xe_and2, xe_or2, xe_or3, xe_ite, xe_tup2, xe_tup3, xe_list0, xe_list1, xe_list3, xe_sub, xe_from1, xe_upto1, xe_sl3, xe_len, xe_sum, xe_tuple, xe_bits, xe_divmod, xe_call1, xe_call2, xe_call3, xe_call5, xe_callk, xe_keyc, xe_comp, xe_mk, xe_cmpr, xe_attr, eb], _, rfl⟩
    · cases he
  · rename_i ea; cases he; exact .inl ⟨ea, rfl⟩
  · cases he

theorem ev_and2 {a b : X} {l r : Expr} {pos : Pos} (ha : EvOk G Φ k vs sc a l) (hb : EvOk G Φ k vs sc b r) : EvOk G Φ k vs sc (.and2 a b) (.BoolOp .And [l, r] pos) := by
  intro H A env ρ s ev cx he
  rcases and2_inv he with ⟨ea, rfl⟩ | ⟨ea, eb, y, rfl⟩
  · refine BoolOp_and ((ha H A env ρ s _ cx ea).mono fun v s₁ zz50 => have g := zz50.1; have r := zz50.2; ?_)
    rw [Rd.bool r]
    exact wpAny_truthy_bool (show Gw G s s₁ ∧ RdE G.C H s₁.heap (.bool false) (.dat (.bool false)) from ⟨g, Rd.ofBool _⟩)
  · refine BoolOp_and ((ha H A env ρ s _ cx ea).mono fun v s₁ zz51 => have g := zz51.1; have r := zz51.2; ?_)
    rw [Rd.bool r]
    refine wpAny_truthy_bool ?_
    rw [if_pos rfl]
    exact BoolOp_one ((hb H A env ρ s₁ _ (cx.step g) eb).mono fun u s₂ zz52 => have g₂ := zz52.1; have r₂ := zz52.2; ⟨g.trans g₂, r₂⟩)
theorem tr_and2 {a b : X} {l r : Expr} {pos : Pos} (ha : TrOk G Φ k vs sc a l) (hb : TrOk G Φ k vs sc b r) : TrOk G Φ k vs sc (.and2 a b) (.BoolOp .And [l, r] pos) := by
  intro H A env ρ s ev cx he
  rcases and2_inv he with ⟨ea, q⟩ | ⟨ea, eb, y, q⟩
  · cases q
    refine isTrue_and ((ha H A env ρ s _ cx ea).mono fun c s₁ zz53 => have hc := zz53.1; have g := zz53.2; ?_)
    subst hc
    exact ⟨rfl, g⟩
  · cases q
    refine isTrue_and ((ha H A env ρ s _ cx ea).mono fun c s₁ zz54 => have hc := zz54.1; have g := zz54.2; ?_)
    subst hc
    rw [if_pos rfl]
    refine isTrue_and ((hb H A env ρ s₁ _ (cx.step g) eb).mono fun c s₂ zz55 => have hc := zz55.1; have g₂ := zz55.2; ?_)
    subst hc
    cases c
    · exact ⟨rfl, g.trans g₂⟩
    · exact isTrue_and_nil ⟨rfl, g.trans g₂⟩
theorem ev_or2 {a b : X} {l r : Expr} {pos : Pos} (ha : EvOk G Φ k vs sc a l) (hb : EvOk G Φ k vs sc b r) : EvOk G Φ k vs sc (.or2 a b) (.BoolOp .Or [l, r] pos) := by
  intro H A env ρ s ev cx he
  rcases or2_inv he with ⟨ea, rfl⟩ | ⟨ea, eb, y, rfl⟩
  · refine BoolOp_or ((ha H A env ρ s _ cx ea).mono fun v s₁ zz56 => have g := zz56.1; have r := zz56.2; ?_)
    rw [Rd.bool r]
    exact wpAny_truthy_bool (show Gw G s s₁ ∧ RdE G.C H s₁.heap (.bool true) (.dat (.bool true)) from ⟨g, Rd.ofBool _⟩)
  · refine BoolOp_or ((ha H A env ρ s _ cx ea).mono fun v s₁ zz57 => have g := zz57.1; have r := zz57.2; ?_)
    rw [Rd.bool r]
    refine wpAny_truthy_bool ?_
    rw [if_neg Bool.false_ne_true]
    exact BoolOp_one ((hb H A env ρ s₁ _ (cx.step g) eb).mono fun u s₂ zz58 => have g₂ := zz58.1; have r₂ := zz58.2; ⟨g.trans g₂, r₂⟩)
theorem tr_or2 {a b : X} {l r : Expr} {pos : Pos} (ha : TrOk G Φ k vs sc a l) (hb : TrOk G Φ k vs sc b r) : TrOk G Φ k vs sc (.or2 a b) (.BoolOp .Or [l, r] pos) := by
  intro H A env ρ s ev cx he
  rcases or2_inv he with ⟨ea, q⟩ | ⟨ea, eb, y, q⟩
  · cases q
    refine isTrue_or ((ha H A env ρ s _ cx ea).mono fun c s₁ zz59 => have hc := zz59.1; have g := zz59.2; ?_)
    subst hc
    exact ⟨rfl, g⟩
  · cases q
    refine isTrue_or ((ha H A env ρ s _ cx ea).mono fun c s₁ zz60 => have hc := zz60.1; have g := zz60.2; ?_)
    subst hc
    rw [if_neg Bool.false_ne_true]
    refine isTrue_or ((hb H A env ρ s₁ _ (cx.step g) eb).mono fun c s₂ zz61 => have hc := zz61.1; have g₂ := zz61.2; ?_)
    subst hc
    cases c
    · exact isTrue_or_nil ⟨rfl, g.trans g₂⟩
    · exact ⟨rfl, g.trans g₂⟩
theorem ev_or3 {a b c : X} {l r m : Expr} {pos : Pos} (ha : EvOk G Φ k vs sc a l) (hb : EvOk G Φ k vs sc b r) (hc : EvOk G Φ k vs sc c m) : EvOk G Φ k vs sc (.or3 a b c) (.BoolOp .Or [l, r, m] pos) := by
  intro H A env ρ s ev cx he
  rcases or3_as he with ⟨ea, rfl⟩ | ⟨ea, eb, y, rfl⟩
  · refine BoolOp_or ((ha H A env ρ s _ cx ea).mono fun v s₁ zz62 => have g := zz62.1; have r := zz62.2; ?_)
    rw [Rd.bool r]
    exact wpAny_truthy_bool (show Gw G s s₁ ∧ RdE G.C H s₁.heap (.bool true) (.dat (.bool true)) from ⟨g, Rd.ofBool _⟩)
  · refine BoolOp_or ((ha H A env ρ s _ cx ea).mono fun v s₁ zz63 => have g := zz63.1; have r := zz63.2; ?_)
    rw [Rd.bool r]
    refine wpAny_truthy_bool ?_
    rw [if_neg Bool.false_ne_true]
    exact (ev_or2 hb hc H A env ρ s₁ _ (cx.step g) eb).mono fun u s₂ zz64 => have g₂ := zz64.1; have r₂ := zz64.2; ⟨g.trans g₂, r₂⟩
theorem tr_or3 {a b c : X} {l r m : Expr} {pos : Pos} (ha : TrOk G Φ k vs sc a l) (hb : TrOk G Φ k vs sc b r) (hc : TrOk G Φ k vs sc c m) : TrOk G Φ k vs sc (.or3 a b c) (.BoolOp .Or [l, r, m] pos) := by
  intro H A env ρ s ev cx he
  rcases or3_as he with ⟨ea, q⟩ | ⟨ea, eb, y, q⟩
  · cases q
    refine isTrue_or ((ha H A env ρ s _ cx ea).mono fun c s₁ zz65 => have hc := zz65.1; have g := zz65.2; ?_)
    subst hc
    exact ⟨rfl, g⟩
  · cases q
    refine isTrue_or ((ha H A env ρ s _ cx ea).mono fun c s₁ zz66 => have hc := zz66.1; have g := zz66.2; ?_)
    subst hc
    rw [if_neg Bool.false_ne_true]
    exact (tr_or2 (pos := pos) hb hc H A env ρ s₁ _ (cx.step g) eb).mono fun c s₂ zz67 => have h := zz67.1; have g₂ := zz67.2; ⟨h, g.trans g₂⟩

theorem ite_inv {c a b : X} {ρ : Env'} {ev : EV} (he : evalX Φ (.ite c a b) ρ = some ev) : ∃ t, evalX Φ c ρ = some (.dat (.bool t)) ∧ (if t then evalX Φ a ρ = some ev else evalX Φ b ρ = some ev) := by
  dsimp only [xe_var, xe_int, xe_nil, xe_bool, xe_lim, xe_ar, xe_cat, xe_rep, xe_neg, xe_inv, xe_not, xe_cmp, xe_isNone, xe_and2, xe_or2, xe_or3, xe_ite, xe_tup2, xe_tup3, xe_list0, xe_list1, xe_list3, xe_sub, xe_from1, xe_upto1, xe_sl3, xe_len, xe_sum, xe_tuple, xe_bits, xe_divmod, xe_call1, xe_call2, xe_call3, xe_call5, xe_callk, xe_keyc, xe_comp, xe_mk, xe_cmpr, xe_attr] at he
  split at he
  · rename_i e; exact ⟨true, e, by simpa using he⟩
  · rename_i e; exact ⟨false, e, by simpa using he⟩
  · cases he
theorem ev_ite {c a b : X} {t l r : Expr} {pos : Pos} (hc : TrOk G Φ k vs sc c t) (ha : EvOk G Φ k vs sc a l) (hb : EvOk G Φ k vs sc b r) : EvOk G Φ k vs sc (.ite c a b) (.IfExp t l r pos) := by
  intro H A env ρ s ev cx he
  obtain ⟨d, ec, h⟩ := ite_inv he
  refine IfExp_ ((hc H A env ρ s _ cx ec).mono fun v s₁ zz68 => have e := zz68.1; have g := zz68.2; ?_)
  subst e
  cases v
  · rw [if_neg Bool.false_ne_true] at h ⊢
    exact (hb H A env ρ s₁ _ (cx.step g) h).mono fun u s₂ zz69 => have g₂ := zz69.1; have r₂ := zz69.2; ⟨g.trans g₂, r₂⟩
  · rw [if_pos rfl] at h ⊢
    exact (ha H A env ρ s₁ _ (cx.step g) h).mono fun u s₂ zz70 => have g₂ := zz70.1; have r₂ := zz70.2; ⟨g.trans g₂, r₂⟩
theorem tr_ite {c a b : X} {t l r : Expr} {pos : Pos} (hc : TrOk G Φ k vs sc c t) (ha : TrOk G Φ k vs sc a l) (hb : TrOk G Φ k vs sc b r) : TrOk G Φ k vs sc (.ite c a b) (.IfExp t l r pos) := by
  intro H A env ρ s ev cx he
  obtain ⟨d, ec, h⟩ := ite_inv he
  refine isTrue_IfExp ((hc H A env ρ s _ cx ec).mono fun v s₁ zz71 => have e := zz71.1; have g := zz71.2; ?_)
  subst e
  cases v
  · rw [if_neg Bool.false_ne_true] at h ⊢
    exact (hb H A env ρ s₁ _ (cx.step g) h).mono fun u s₂ zz72 => have h₂ := zz72.1; have g₂ := zz72.2; ⟨h₂, g.trans g₂⟩
  · rw [if_pos rfl] at h ⊢
    exact (ha H A env ρ s₁ _ (cx.step g) h).mono fun u s₂ zz73 => have h₂ := zz73.1; have g₂ := zz73.2; ⟨h₂, g.trans g₂⟩

/-! several parts, one after the other -/
noncomputable def NoStar (e : Expr) : Prop := ∀ rest env, starEach (e :: rest) env = (false, eval e env) :: starEach rest env
noncomputable def RdEs (C : Addr) (H : List Addr) (h : Heap) : List Value → List EV → Prop
  | [], [] => True
  | v :: vs, e :: es => RdE C H h v e ∧ RdEs C H h vs es
  | _, _ => False
theorem RdEs.ext {H : List Addr} {s s' : Shared} (y : Gw G s s') (hT : ∀ b ∈ G.T, b ∈ H) : ∀ {vs : List Value} {es : List EV}, RdEs G.C H s.heap vs es → RdEs G.C H s'.heap vs es
  | [], [], _ => trivial
  | _ :: _, _ :: _, ⟨h1, h2⟩ => ⟨h1.ext y hT, RdEs.ext y hT h2⟩
noncomputable def EvAll (G : Gr) (Φ : Phi) (k : Nat) (vs : List Str) (sc : Fc) : List X → List Expr → Prop
  | [], [] => True
  | x :: xs, e :: es => (EvOk G Φ k vs sc x e ∧ NoStar e) ∧ EvAll G Φ k vs sc xs es
  | _, _ => False
noncomputable def evs? (Φ : Phi) (ρ : Env') : List X → List EV → Prop
  | [], [] => True
  | x :: xs, e :: es => evalX Φ x ρ = some e ∧ evs? Φ ρ xs es
  | _, _ => False

theorem args_ok {xs : List X} : ∀ {es : List Expr} {evs : List EV}, EvAll G Φ k vs sc xs es → ∀ {H : List Addr} {A : Around} {env : Env} {ρ : Env'} {s : Shared} {pos : Pos}, Cx G vs sc k H A env ρ s → evs? Φ ρ xs evs →
    Wp G A (spliced (backTo pos (starEach es env))) (fun vals s' => Gw G s s' ∧ RdEs G.C H s'.heap vals evs) s := by
  induction xs with
  | nil =>
    intro es evs h H A env ρ s pos cx he
    cases es with
    | cons _ _ => cases h
    | nil => cases evs with
      | cons _ _ => cases he
      | nil => exact wpAny_items_nil ⟨Gw.refl cx.b, trivial⟩
  | cons x xs ih =>
    intro es evs h H A env ρ s pos cx he
    cases es with
    | nil => cases h
    | cons e es => cases evs with
      | nil => cases he
      | cons ev evs =>
        obtain ⟨⟨h1, h2⟩, h3⟩ := h
        obtain ⟨e1, e2⟩ := he
        exact wpAny_items_cons ((h1 H A env ρ s _ cx e1).mono fun v s₁ zz74 => have g₁ := zz74.1; have r₁ := zz74.2; (ih h3 (cx.step g₁) e2).mono fun vals s₂ zz75 => have g₂ := zz75.1; have r₂ := zz75.2; ⟨g₁.trans g₂, r₁.ext g₂ cx.h, r₂⟩) (h2 _ _)

/-- a new object lies open -/
theorem view_push {H : List Addr} {s : Shared} (hx : Hid H s.heap) (o : Obj) (hf : o.isFreed = false) : (hideAll (s.heap.push o) H).get? s.heap.objs.size = some o :=
  hideAll_get _ (Heap.get?_push_size _ hf) fun q => by obtain ⟨o', e, _⟩ := hx _ q; exact absurd (Heap.lt_size e) (Nat.lt_irrefl _)
end
end Mine

/-! SB5 -/
namespace Mine
open PySem PySem.W PyProof.Rows PySem.Calls PySem.Spec PySem.SeqAt

section
variable {G : Gr} {Φ : Phi} {k : Nat} {vs : List Str} {sc : Fc}

theorem RdEs.toRdL {C : Addr} {H : List Addr} {h : Heap} : ∀ {vals : List Value} {ds : List PyData}, RdEs C H h vals (ds.map .dat) → RdL H h vals ds
  | [], [], _ => .nil
  | _ :: _, [], h => nomatch h
  | [], _ :: _, h => nomatch h
  | _ :: _, _ :: _, ⟨h1, h2⟩ => .cons h1 (RdEs.toRdL h2)

/-- a new list, a new tuple -/
theorem rd_push {s : Shared} {H : List Addr} (hx : Hid H s.heap) {vals : List Value} {ds : List PyData} (r : RdL H s.heap vals ds) :
    Rd H (s.heap.push { cls := .type "tuple", data := .seq vals.toArray }) (.ref s.heap.objs.size) (.tuple ds) ∧ Rd H (s.heap.push { cls := .type "list", data := .seq vals.toArray }) (.ref s.heap.objs.size) (.list ds) := by
  have up : ∀ (o : Obj) b ob, (hideAll s.heap H).get? b = some ob → (hideAll (s.heap.push o) H).get? b = some ob := fun o => view_ext (T := []) (Ext.of fun _ _ e => Heap.get?_push_of_some _ e) (fun _ q => nomatch q)
  obtain ⟨as, r⟩ := r
  exact ⟨⟨_, .tuple (view_push hx _ rfl) rfl rfl (ReadsAll.keeps (up _) r)⟩, ⟨_, .list (view_push hx _ rfl) rfl rfl (ReadsAll.keeps (up _) r)⟩⟩

theorem ev_tupleOf {xs : List X} {es : List Expr} {kk : Nat} {pos : Pos} (h : EvAll G Φ k vs sc xs es) {H : List Addr} {A : Around} {env : Env} {ρ : Env'} {s : Shared} {ds : List PyData} (cx : Cx G vs sc k H A env ρ s)
    (he : evs? Φ ρ xs (ds.map .dat)) (hl : ds.length < 100) : Wp G A (eval (.Tuple es kk pos) env) (fun v s' => Gw G s s' ∧ RdE G.C H s'.heap v (.dat (.tuple ds))) s := by
  refine wpAny_Tuple ((args_ok h cx he).mono fun vals s₁ zz76 => have g := zz76.1; have r := zz76.2; ?_)
  have rl := r.toRdL
  refine ⟨by rw [rl.length, sizeLine_eq]; omega, g.trans (Gw.push g.base _), (rd_push (hx_ext cx.hx g) rl).1⟩
theorem ev_listOf {xs : List X} {es : List Expr} {pos : Pos} (h : EvAll G Φ k vs sc xs es) {H : List Addr} {A : Around} {env : Env} {ρ : Env'} {s : Shared} {ds : List PyData} (cx : Cx G vs sc k H A env ρ s)
    (he : evs? Φ ρ xs (ds.map .dat)) (hl : ds.length < 100) : Wp G A (eval (.List es pos) env) (fun v s' => Gw G s s' ∧ RdE G.C H s'.heap v (.dat (.list ds))) s := by
  refine wpAny_List ((args_ok h cx he).mono fun vals s₁ zz77 => have g := zz77.1; have r := zz77.2; ?_)
  have rl := r.toRdL
  refine ⟨by rw [rl.length, sizeLine_eq]; omega, g.trans (Gw.push g.base _), (rd_push (hx_ext cx.hx g) rl).2⟩

theorem ev_tup2 {a b : X} {l r : Expr} {kk : Nat} {pos : Pos} (h : EvAll G Φ k vs sc [a, b] [l, r]) : EvOk G Φ k vs sc (.tup2 a b) (.Tuple [l, r] kk pos) := by
  intro H A env ρ s ev cx he
  dsimp only [xe_var, xe_int, xe_nil, xe_bool, xe_lim, xe_ar, xe_cat, xe_rep, xe_neg, xe_inv, xe_not, xe_cmp, xe_isNone, xe_and2, xe_or2, xe_or3, xe_ite, xe_tup2, xe_tup3, xe_list0, xe_list1, xe_list3, xe_sub, xe_from1, xe_upto1, xe_sl3, xe_len, xe_sum, xe_tuple, xe_bits, xe_divmod, xe_call1, xe_call2, xe_call3, xe_call5, xe_callk, xe_keyc, xe_comp, xe_mk, xe_cmpr, xe_attr] at he
  split at he
  · rename_i x y ea eb; cases he
    exact ev_tupleOf (ds := [x, y]) h cx ⟨ea, eb, trivial⟩ (by simp)
  · cases he
theorem ev_tup3 {a b c : X} {l r m : Expr} {kk : Nat} {pos : Pos} (h : EvAll G Φ k vs sc [a, b, c] [l, r, m]) : EvOk G Φ k vs sc (.tup3 a b c) (.Tuple [l, r, m] kk pos) := by
  intro H A env ρ s ev cx he
  dsimp only [xe_var, xe_int, xe_nil, xe_bool, xe_lim, xe_ar, xe_cat, xe_rep, xe_neg, xe_inv, xe_not, xe_cmp, xe_isNone, xe_and2, xe_or2, xe_or3, xe_ite, xe_tup2, xe_tup3, xe_list0, xe_list1, xe_list3, xe_sub, xe_from1, xe_upto1, xe_sl3, xe_len, xe_sum, xe_tuple, xe_bits, xe_divmod, xe_call1, xe_call2, xe_call3, xe_call5, xe_callk, xe_keyc, xe_comp, xe_mk, xe_cmpr, xe_attr] at he
  split at he
  · rename_i x y z ea eb ec; cases he
    exact ev_tupleOf (ds := [x, y, z]) h cx ⟨ea, eb, ec, trivial⟩ (by simp)
  · cases he
theorem ev_list0 {pos : Pos} : EvOk G Φ k vs sc .list0 (.List [] pos) := by
  intro H A env ρ s ev cx he
  cases he
  exact ev_listOf (xs := []) (es := []) (ds := []) (show EvAll G Φ k vs sc [] [] from trivial) cx trivial (by simp)
theorem ev_list1 {a : X} {l : Expr} {pos : Pos} (h : EvAll G Φ k vs sc [a] [l]) : EvOk G Φ k vs sc (.list1 a) (.List [l] pos) := by
  intro H A env ρ s ev cx he
  dsimp only [xe_var, xe_int, xe_nil, xe_bool, xe_lim, xe_ar, xe_cat, xe_rep, xe_neg, xe_inv, xe_not, xe_cmp, xe_isNone, xe_and2, xe_or2, xe_or3, xe_ite, xe_tup2, xe_tup3, xe_list0, xe_list1, xe_list3, xe_sub, xe_from1, xe_upto1, xe_sl3, xe_len, xe_sum, xe_tuple, xe_bits, xe_divmod, xe_call1, xe_call2, xe_call3, xe_call5, xe_callk, xe_keyc, xe_comp, xe_mk, xe_cmpr, xe_attr] at he
  split at he
  · rename_i x ea; cases he
    exact ev_listOf (ds := [x]) h cx ⟨ea, trivial⟩ (by simp)
  · cases he
theorem ev_list3 {a b c : X} {l r m : Expr} {pos : Pos} (h : EvAll G Φ k vs sc [a, b, c] [l, r, m]) : EvOk G Φ k vs sc (.list3 a b c) (.List [l, r, m] pos) := by
  intro H A env ρ s ev cx he
  dsimp only [xe_var, xe_int, xe_nil, xe_bool, xe_lim, xe_ar, xe_cat, xe_rep, xe_neg, xe_inv, xe_not, xe_cmp, xe_isNone, xe_and2, xe_or2, xe_or3, xe_ite, xe_tup2, xe_tup3, xe_list0, xe_list1, xe_list3, xe_sub, xe_from1, xe_upto1, xe_sl3, xe_len, xe_sum, xe_tuple, xe_bits, xe_divmod, xe_call1, xe_call2, xe_call3, xe_call5, xe_callk, xe_keyc, xe_comp, xe_mk, xe_cmpr, xe_attr] at he
  split at he
  · rename_i x y z ea eb ec; cases he
    exact ev_listOf (ds := [x, y, z]) h cx ⟨ea, eb, ec, trivial⟩ (by simp)
  · cases he

/-! items -/
theorem itemAt_get {ds : List PyData} {i : Int} {d : PyData} (h : itemAt ds i = some d) : ∃ j : Nat, seqIndex? i ds.length = some j ∧ ds[j]? = some d ∧ -(ds.length : Int) ≤ i ∧ i < ds.length := by
  unfold itemAt at h
  split at h
  · rename_i h0
    have hlt : i.toNat < ds.length := (List.getElem?_eq_some_iff.mp h).1
    exact ⟨i.toNat, seqIndex_of h0 (by omega), h, by omega, by omega⟩
  · split at h
    · rename_i h0 h1
      have hlt : (i + ds.length).toNat < ds.length := (List.getElem?_eq_some_iff.mp h).1
      exact ⟨(i + ds.length).toNat, seqIndex_neg (by omega) (by omega), h, by omega, by omega⟩
    · cases h
theorem sub_plain (slice : Expr) (hs : ∀ l u st p, slice ≠ .Slice l u st p) (o i : Value) : subscripted slice false o i = operate [o, i] (getItem o i) := by
  cases slice <;> first | rfl | exact absurd rfl (hs _ _ _ _)
theorem ev_sub {a i : X} {l r : Expr} {pos : Pos} (ha : EvOk G Φ k vs sc a l) (hi : EvOk G Φ k vs sc i r) (hs : ∀ l u st p, r ≠ .Slice l u st p) : EvOk G Φ k vs sc (.sub a i) (.Subscript l r pos) := by
  intro H A env ρ s ev cx he
  dsimp only [xe_var, xe_int, xe_nil, xe_bool, xe_lim, xe_ar, xe_cat, xe_rep, xe_neg, xe_inv, xe_not, xe_cmp, xe_isNone, xe_and2, xe_or2, xe_or3, xe_ite, xe_tup2, xe_tup3, xe_list0, xe_list1, xe_list3, xe_sub, xe_from1, xe_upto1, xe_sl3, xe_len, xe_sum, xe_tuple, xe_bits, xe_divmod, xe_call1, xe_call2, xe_call3, xe_call5, xe_callk, xe_keyc, xe_comp, xe_mk, xe_cmpr, xe_attr] at he
  split at he
  · rename_i ds n ea ei
    simp only [Option.ite_none_right_eq_some] at he
    obtain ⟨hl, he⟩ := he
    obtain ⟨d, hd, rfl⟩ := Option.map_eq_some_iff.mp he
    refine Subscript_ (two_parts (f := fun v u => subscriptTail l r v u) ha hi cx ea ei fun v u s₂ g r₁ r₂ => ?_)
    obtain ⟨ad, o, vals, nn, rfl, ho, _, hc, hdt, rl⟩ := Rd.list r₁
    obtain ⟨t, rfl⟩ := Rd.int r₂
    obtain ⟨j, hj, hdj, hlo, hhi⟩ := itemAt_get hd
    obtain ⟨v, hv, rv⟩ := rl.get hdj
    have hlen := rl.length
    have hL : s₂.heap.IsList ad vals := ⟨o, ho, hc, nn, hdt⟩
    have hsz : vals.size = ds.length := by rw [← hlen]; simp
    refine tail_any hL.typeIs slot_list_getitem.lookup ?_ (sub_plain r hs _ _)
    by_cases h0 : 0 ≤ n
    · have : j = n.toNat := by rw [seqIndex_of h0 hhi] at hj; exact (Option.some.inj hj).symm
      subst this
      exact wpAny_getItem_list hL h0 (by omega) (by simpa using hv) ⟨g, rv⟩
    · have : j = (n + ds.length).toNat := by rw [seqIndex_neg (by omega) hlo] at hj; exact (Option.some.inj hj).symm
      subst this
      exact wpAny_getItem_list_neg hL (by omega) (by omega) (by omega) (by rw [hsz]; simpa using hv) ⟨g, rv⟩
  · rename_i ds n ea ei
    simp only [Option.ite_none_right_eq_some] at he
    obtain ⟨hl, he⟩ := he
    obtain ⟨d, hd, rfl⟩ := Option.map_eq_some_iff.mp he
    refine Subscript_ (two_parts (f := fun v u => subscriptTail l r v u) ha hi cx ea ei fun v u s₂ g r₁ r₂ => ?_)
    obtain ⟨ad, o, vals, nn, rfl, ho, _, hc, hdt, rl⟩ := Rd.tuple r₁
    obtain ⟨t, rfl⟩ := Rd.int r₂
    obtain ⟨j, hj, hdj, hlo, hhi⟩ := itemAt_get hd
    obtain ⟨v, hv, rv⟩ := rl.get hdj
    have hlen := rl.length
    have hL : IsTup s₂.heap ad vals := ⟨o, ho, hc, nn, hdt⟩
    have hsz : vals.size = ds.length := by rw [← hlen]; simp
    refine tail_any hL.typeIs slot_tuple_getitem.lookup ?_ (sub_plain r hs _ _)
    exact getItem_tuple hL (by omega) (by omega) (by rw [hsz]; exact hj) (by simpa using hv) ⟨g, rv⟩
  · cases he

/-! cuts -/
theorem RdL.drop {H : List Addr} {h : Heap} {vals : List Value} {ds : List PyData} (x : RdL H h vals ds) : ∀ n, RdL H h (vals.drop n) (ds.drop n) := by
  induction ds generalizing vals with
  | nil => intro n; rw [x.nil_inv]; simpa using RdL.nil
  | cons d ds ih =>
    obtain ⟨v, vs', rfl, r, q⟩ := x.cons_inv
    intro n
    cases n with
    | zero => simpa using RdL.cons r q
    | succ n => simpa using ih q n
theorem RdL.take {H : List Addr} {h : Heap} {vals : List Value} {ds : List PyData} (x : RdL H h vals ds) : ∀ n, RdL H h (vals.take n) (ds.take n) := by
  induction ds generalizing vals with
  | nil => intro n; rw [x.nil_inv]; simpa using RdL.nil
  | cons d ds ih =>
    obtain ⟨v, vs', rfl, r, q⟩ := x.cons_inv
    intro n
    cases n with
    | zero => simpa using RdL.nil
    | succ n => simpa using RdL.cons r (ih q n)
theorem RdL.third {H : List Addr} {h : Heap} {vals : List Value} {ds : List PyData} (x : RdL H h vals ds) : ∀ n, RdL H h (everyThird n vals) (everyThird n ds) := by
  induction ds generalizing vals with
  | nil => intro n; rw [x.nil_inv]; simpa [everyThird] using RdL.nil
  | cons d ds ih =>
    obtain ⟨v, vs', rfl, r, q⟩ := x.cons_inv
    intro n
    cases n with
    | zero => simpa [everyThird] using RdL.cons r (ih q 2)
    | succ n => simpa [everyThird] using ih q n
theorem RdL.reverse {H : List Addr} {h : Heap} {vals : List Value} {ds : List PyData} (x : RdL H h vals ds) : RdL H h vals.reverse ds.reverse := by
  induction ds generalizing vals with
  | nil => rw [x.nil_inv]; exact RdL.nil
  | cons d ds ih =>
    obtain ⟨v, vs', rfl, r, q⟩ := x.cons_inv
    simpa using (ih q).append (RdL.cons r RdL.nil)

theorem sub_slice (l u st : Option Expr) (p : Pos) (o i : Value) : ∃ ops, subscripted (.Slice l u st p) false o i = operate ops (getItem o i) := by
  cases st with
  | none => exact ⟨_, rfl⟩
  | some _ => exact ⟨_, rfl⟩

/-- a cut of a list -/
theorem cut_ok {H : List Addr} {A : Around} {s s₂ : Shared} {value : Expr} {lx ux stx : Option Expr} {p : Pos} {ds es : List PyData} {v : Value} {vl vu vst : Value} {lo hi st : Option Int} (g : Gw G s s₂) (hx : Hid H s₂.heap) (hT : ∀ b ∈ G.T, b ∈ H)
    (rv : Rd H s₂.heap v (.list ds)) (hl : ds.length < 1048576) (pl : IsPart vl lo) (pu : IsPart vu hi) (ps : IsPart vst st) (h0 : st ≠ some 0)
    (hp : ∀ vals : Array Value, vals.size = ds.length → RdL H s₂.heap vals.toList ds → RdL H s₂.heap (slicePick vals lo hi st).toList es) :
    wpAny (model G.prog G.w) A (subscriptTail value (.Slice lx ux stx p) v (.ref s₂.heap.objs.size)) (fun r s' => Gw G s s' ∧ RdE G.C H s'.heap r (.dat (.list es))) (fun _ _ => False)
      { s₂ with heap := s₂.heap.push { cls := .type "slice", data := .fields #[vl, vu, vst] } } := by
  obtain ⟨ad, o, vals, nn, rfl, ho, _, hc, hdt, rl⟩ := Rd.list rv
  have hsz : vals.size = ds.length := by rw [← rl.length]; simp
  have hL : (s₂.heap.push { cls := .type "slice", data := .fields #[vl, vu, vst] }).IsList ad vals := ⟨o, Heap.get?_push_of_some _ ho, hc, nn, hdt⟩
  obtain ⟨ops, hops⟩ := sub_slice lx ux stx p (.ref ad) (.ref s₂.heap.objs.size)
  have g1 : Gw G s { s₂ with heap := s₂.heap.push { cls := .type "slice", data := .fields #[vl, vu, vst] } } := g.trans (Gw.push g.base _)
  refine tail_any (s := { s₂ with heap := s₂.heap.push { cls := .type "slice", data := .fields #[vl, vu, vst] } }) hL.typeIs slot_list_getitem.lookup ?_ hops
  refine wpAny_getItem_list_slice (s := { s₂ with heap := s₂.heap.push { cls := .type "slice", data := .fields #[vl, vu, vst] } }) hL (Heap.IsSliceOf.new ..) pl pu ps h0 ?_ (by rw [hsz, sizeLine_eq]; omega)
  refine ⟨g1.trans (Gw.push g1.base _), ?_⟩
  have hx1 := hx_ext hx (Gw.push g.base { cls := .type "slice", data := .fields #[vl, vu, vst] })
  have r1 : RdL H (s₂.heap.push { cls := .type "slice", data := .fields #[vl, vu, vst] }) (slicePick vals lo hi st).toList es :=
    (hp vals hsz rl).mono (view_ext (T := []) (Ext.of fun _ _ e => Heap.get?_push_of_some _ e) (fun _ q => nomatch q))
  have := (rd_push (s := { s₂ with heap := s₂.heap.push { cls := .type "slice", data := .fields #[vl, vu, vst] } }) hx1 r1).2
  show Rd H _ _ _
  simpa using this

theorem ev_from1 {a : X} {e : Expr} {kk : Nat} {p1 p pos : Pos} (ha : EvOk G Φ k vs sc a e) : EvOk G Φ k vs sc (.from1 a) (.Subscript e (.Slice (some (.Constant (.int 1) kk p1)) none none p) pos) := by
  intro H A env ρ s ev cx he
  dsimp only [xe_var, xe_int, xe_nil, xe_bool, xe_lim, xe_ar, xe_cat, xe_rep, xe_neg, xe_inv, xe_not, xe_cmp, xe_isNone, xe_and2, xe_or2, xe_or3, xe_ite, xe_tup2, xe_tup3, xe_list0, xe_list1, xe_list3, xe_sub, xe_from1, xe_upto1, xe_sl3, xe_len, xe_sum, xe_tuple, xe_bits, xe_divmod, xe_call1, xe_call2, xe_call3, xe_call5, xe_callk, xe_keyc, xe_comp, xe_mk, xe_cmpr, xe_attr] at he
  split at he
  · rename_i ds ea
    simp only [Option.ite_none_right_eq_some] at he
    obtain ⟨hl, he⟩ := he
    cases he
    refine Subscript_ ((ha H A env ρ s _ cx ea).mono fun v s₁ zz78 => have g := zz78.1; have r := zz78.2; wpAny_Slice ?_)
    refine wpAny_Constant_int (k := kk) (pos := p1) (wpAny_pure (wpAny_pure ?_))
    have g1 := g.trans (Gw.tok g.base (s₁.toks + 1))
    exact cut_ok (s₂ := { s₁ with toks := s₁.toks + 1 }) g1 (hx_ext cx.hx g1) cx.h r hl (.int 1 _) .none .none (by simp) fun vals hsz rl => by
      rw [show (some (1 : Int)) = some ((1 : Nat) : Int) from rfl, slicePick_from' vals 1]; simpa using rl.drop 1
  · cases he
theorem ev_upto1 {a : X} {e : Expr} {kk : Nat} {p1 p2 p pos : Pos} (ha : EvOk G Φ k vs sc a e) : EvOk G Φ k vs sc (.upto1 a) (.Subscript e (.Slice none (some (.UnaryOp .USub (.Constant (.int 1) kk p1) p2)) none p) pos) := by
  intro H A env ρ s ev cx he
  dsimp only [xe_var, xe_int, xe_nil, xe_bool, xe_lim, xe_ar, xe_cat, xe_rep, xe_neg, xe_inv, xe_not, xe_cmp, xe_isNone, xe_and2, xe_or2, xe_or3, xe_ite, xe_tup2, xe_tup3, xe_list0, xe_list1, xe_list3, xe_sub, xe_from1, xe_upto1, xe_sl3, xe_len, xe_sum, xe_tuple, xe_bits, xe_divmod, xe_call1, xe_call2, xe_call3, xe_call5, xe_callk, xe_keyc, xe_comp, xe_mk, xe_cmpr, xe_attr] at he
  split at he
  · rename_i ds ea
    simp only [Option.ite_none_right_eq_some] at he
    obtain ⟨hl, he⟩ := he
    cases he
    refine Subscript_ ((ha H A env ρ s _ cx ea).mono fun v s₁ zz79 => have g := zz79.1; have r := zz79.2; wpAny_Slice ?_)
    refine wpAny_pure (UnaryOp_ (pos := p2) (wpAny_Constant_int (k := kk) (pos := p1) (PyProof.Rows.neg_int (wpAny_pure ?_))))
    have g1 := g.trans (Gw.tok g.base (s₁.toks + 1 + 1))
    exact cut_ok (s₂ := { s₁ with toks := s₁.toks + 1 + 1 }) g1 (hx_ext cx.hx g1) cx.h r hl .none (.int (-1) _) .none (by simp) fun vals hsz rl => by
      rw [show (-1 : Int) = -((1 : Nat) : Int) from rfl, slicePick_butLast vals 1 (Nat.le_refl _), hsz, List.dropLast_eq_take]
      simpa using rl.take (ds.length - 1)
  · cases he

theorem third_map {α β : Type} (f : α → β) : ∀ (i : Nat) (xs : List α), everyThird i (xs.map f) = (everyThird i xs).map f := by
  intro i xs
  induction xs generalizing i with
  | nil => simp [everyThird]
  | cons x xs ih => cases i with
    | zero => simp [everyThird, ih]
    | succ i => simp [everyThird, ih]
theorem third_pick {α : Type} (i : Nat) (xs : List α) : everyThird i xs = (everyThird i (List.range xs.length)).filterMap (xs[·]?) := by
  have h1 : xs.map some = (List.range xs.length).map (xs[·]?) := by
    apply List.ext_getElem?
    intro j
    by_cases hj : j < xs.length
    · simp [hj]
    · simp [hj]
  have h2 := third_map some i xs
  rw [h1, third_map] at h2
  have h3 := congrArg (List.filterMap id) h2
  simpa using h3.symm
theorem third_range : ∀ n : Fin 64, ∀ i : Fin 3, sliceRange (sliceBounds (some (i : Nat)) (some 63) (some 3) n).1 (sliceBounds (some (i : Nat)) (some 63) (some 3) n).2.1 (sliceBounds (some (i : Nat)) (some 63) (some 3) n).2.2 = everyThird (i : Nat) (List.range n) := by decide +kernel
theorem slicePick_third (vals : Array Value) (h : vals.size ≤ 63) {i : Int} (h0 : 0 ≤ i) (h3 : i < 3) : (slicePick vals (some i) (some 63) (some 3)).toList = everyThird i.toNat vals.toList := by
  have e := third_range ⟨vals.size, by omega⟩ ⟨i.toNat, by omega⟩
  have hi : ((i.toNat : Nat) : Int) = i := by omega
  simp only [hi] at e
  unfold slicePick
  rw [e, third_pick i.toNat vals.toList]
  simp

theorem ev_sl3 {a i : X} {e m : Expr} {k1 k2 : Nat} {p1 p2 p pos : Pos} (ha : EvOk G Φ k vs sc a e) (hi : EvOk G Φ k vs sc i m) :
    EvOk G Φ k vs sc (.sl3 a i) (.Subscript e (.Slice (some m) (some (.Constant (.int 63) k1 p1)) (some (.Constant (.int 3) k2 p2)) p) pos) := by
  intro H A env ρ s ev cx he
  dsimp only [xe_var, xe_int, xe_nil, xe_bool, xe_lim, xe_ar, xe_cat, xe_rep, xe_neg, xe_inv, xe_not, xe_cmp, xe_isNone, xe_and2, xe_or2, xe_or3, xe_ite, xe_tup2, xe_tup3, xe_list0, xe_list1, xe_list3, xe_sub, xe_from1, xe_upto1, xe_sl3, xe_len, xe_sum, xe_tuple, xe_bits, xe_divmod, xe_call1, xe_call2, xe_call3, xe_call5, xe_callk, xe_keyc, xe_comp, xe_mk, xe_cmpr, xe_attr] at he
  split at he
  · rename_i ds n ea ei
    simp only [Option.ite_none_right_eq_some] at he
    obtain ⟨hl, he⟩ := he
    cases he
    refine Subscript_ ((ha H A env ρ s _ cx ea).mono fun v s₁ zz80 => have g := zz80.1; have r := zz80.2; wpAny_Slice ?_)
    refine (hi H A env ρ s₁ _ (cx.step g) ei).mono fun u s₂ zz81 => have g₂ := zz81.1; have r₂ := zz81.2; ?_
    obtain ⟨t, rfl⟩ := Rd.int r₂
    refine wpAny_Constant_int (k := k1) (pos := p1) (wpAny_Constant_int (k := k2) (pos := p2) ?_)
    have g1 := (g.trans g₂).trans (Gw.tok g₂.base (s₂.toks + 1 + 1))
    exact cut_ok (s₂ := { s₂ with toks := s₂.toks + 1 + 1 }) g1 (hx_ext cx.hx g1) cx.h (Rd.ext (G := G) (s := s₁) r (g₂.trans (Gw.tok g₂.base _)) cx.h) (by omega) (.int n t) (.int 63 _) (.int 3 _) (by simp) fun vals hsz rl => by
      rw [slicePick_third vals (by omega) hl.2.1 hl.2.2]; exact rl.third _
  · cases he
end
end Mine

/-! SB6 -/
namespace Mine
open PySem PySem.W PyProof.Rows PySem.Calls PySem.Spec PySem.SeqAt

/-- the names of the text's functions, by their numbers -/
noncomputable def fnames : List String := ["TupleComp.compare", "int_divmod", "_divmod_pos", "_int2digits", "_digits2int", "_div2n1n", "bisect_left", "bisect_right", "_law_fractions", "_law_quotients", "_law_row", "_law_key", "_law_folded", "_law_is_run", "_law_listing", "_law_farey", "_law_sign", "_law_in_order", "_law_nearest", "_law_stands", "law"]
noncomputable def bnames : List (String × Value) := [("len", .builtin "len"), ("sum", .builtin "sum"), ("range", .type "range"), ("reversed", .type "reversed"), ("tuple", .type "tuple"), ("divmod", .builtin "divmod")]

/-- what the ground holds -/
structure GOk (G : Gr) (fa : Nat → Addr) : Prop where
  ng : G.g.Ns mainGlobals G.mg
  nb : G.g.Ns builtinsNs G.mb
  nolim : G.g.NoLimit
  bl : ∀ x v, (x, v) ∈ bnames → G.mg (Str.ofString x) = none ∧ G.mb (Str.ofString x) = some v
  lim : ∃ t, G.mg (Str.ofString "_DIV_LIMIT") = some (.int 4000 t)
  fn : ∀ i x, fnames[i]? = some x → i ≠ 0 → G.mg (Str.ofString x) = some (.ref (fa i))
  isf : ∀ i, i < fnames.length → ∃ o fd, G.g.get? (fa i) = some o ∧ o.data = .func fd
  cls : G.mg (Str.ofString "TupleComp") = some (.ref G.C)
  noT : ∀ b ∈ G.T, G.g.get? b = none
  one : ∀ r ∈ G.rows, ∀ r' ∈ G.rows, r.P = r'.P → r = r'
  place : ∀ r ∈ G.rows, ∀ p q p' q', (p, q) ∈ r.known → (p', q') ∈ r.known → p.line = p'.line → p.col = p'.col → q = q'
  hd : ∀ r ∈ G.rows, CodeHd G.g r.c r.P
  bm : ∃ bm ob, G.mg "__builtins__" = some (.ref bm) ∧ bm ≠ builtinsNs ∧ G.g.get? bm = some ob ∧ ob.cls = .type "module" ∧ ob.dict = some builtinsNs ∧ ob.data = .plain

section
variable {G : Gr} {fa : Nat → Addr} {Φ : Phi} {k : Nat} {vs : List Str} {sc : Fc}

theorem kcls3 {o : Option NameKind} (h : kcls o = 3) : o = some .globalImplicit := by
  cases o with
  | none => cases h
  | some q => cases q <;> first | rfl | cases h

theorem nm_glob (hG : GOk G fa) {H : List Addr} {A : Around} {env : Env} {ρ : Env'} {s : Shared} (cx : Cx G vs sc k H A env ρ s) {x : Str} {pos : Pos} {v : Value} (hx : kcls (sc.names.lookup x) = 3) (hv : G.mg x = some v)
    (hd : (x == ("__debug__" : Str)) = false) {Q : Value → Shared → Prop} {E : Value → Shared → Prop} (h : Q v s) : wpAny (model G.prog G.w) A (eval (.Name x pos) env) Q E s := by
  rw [← cx.sk x] at hx
  refine Name_function_global cx.e.kind (kcls3 hx) (loadGlobal_global ?_ hv h) hd
  rw [cx.e.glob]; exact hG.ng.keeps cx.b.keep
theorem nm_blt (hG : GOk G fa) {H : List Addr} {A : Around} {env : Env} {ρ : Env'} {s : Shared} (cx : Cx G vs sc k H A env ρ s) {x : String} {pos : Pos} {v : Value} (hm : (x, v) ∈ bnames) (hx : kcls (sc.names.lookup (Str.ofString x)) = 3)
    (hd : (Str.ofString x == ("__debug__" : Str)) = false) {Q : Value → Shared → Prop} {E : Value → Shared → Prop} (h : Q v s) : wpAny (model G.prog G.w) A (eval (.Name (Str.ofString x) pos) env) Q E s := by
  rw [← cx.sk] at hx
  have := hG.bl x v hm
  refine Name_function_global cx.e.kind (kcls3 hx) (loadGlobal_builtin ?_ this.1 ?_ this.2 h) hd
  · rw [cx.e.glob]; exact hG.ng.keeps cx.b.keep
  · rw [cx.e.blt]; exact hG.nb.keeps cx.b.keep

theorem plain_args {xs : List X} : ∀ {es : List Expr}, EvAll G Φ k vs sc xs es → ∀ (env : Env) (pos : Pos), (backTo pos (starEach es env)).any (·.1) = false := by
  induction xs with
  | nil => intro es h env pos; cases es with
    | nil => rfl
    | cons _ _ => cases h
  | cons x xs ih => intro es h env pos; cases es with
    | nil => cases h
    | cons e es =>
      rw [h.1.2]
      show (false || (backTo pos (starEach es env)).any (·.1)) = false
      rw [ih h.2 env pos]; rfl

/-- a call of one of the builtins' functions -/
theorem call_bi (hG : GOk G fa) {x : X} {xs : List X} {e : Expr} {es : List Expr} {n id : String} {p pos : Pos} (hx : kcls (sc.names.lookup (Str.ofString n)) = 3) (hm : (n, .builtin id) ∈ bnames) (hd : (Str.ofString n == ("__debug__" : Str)) = false)
    (h : EvAll G Φ k vs sc (x :: xs) (e :: es)) {H : List Addr} {A : Around} {env : Env} {ρ : Env'} {s : Shared} {evs : List EV} (cx : Cx G vs sc k H A env ρ s) (he : evs? Φ ρ (x :: xs) evs) {Q : Value → Shared → Prop}
    (hc : ∀ vals s', Gw G s s' → RdEs G.C H s'.heap vals evs → wpAny (model G.prog G.w) A (call (.builtin id) vals) Q (fun _ _ => False) s') :
    wpAny (model G.prog G.w) A (eval (.Call (.Name (Str.ofString n) p) (e :: es) [] pos) env) Q (fun _ _ => False) s := by
  refine Call_ (nm_blt hG cx hm hx hd ?_)
  exact PyProof.Rows.callWith_builtin1 ((args_ok h cx he).mono fun vals s' zz82 => have g := zz82.1; have r := zz82.2; hc vals s' g r) (h.1.2 _ _) (plain_args h.2 _ _)
theorem call_ty (hG : GOk G fa) {x : X} {xs : List X} {e : Expr} {es : List Expr} {n id : String} {p pos : Pos} (hx : kcls (sc.names.lookup (Str.ofString n)) = 3) (hm : (n, .type id) ∈ bnames) (hd : (Str.ofString n == ("__debug__" : Str)) = false)
    (h : EvAll G Φ k vs sc (x :: xs) (e :: es)) {H : List Addr} {A : Around} {env : Env} {ρ : Env'} {s : Shared} {evs : List EV} (cx : Cx G vs sc k H A env ρ s) (he : evs? Φ ρ (x :: xs) evs) {Q : Value → Shared → Prop}
    (hc : ∀ vals s', Gw G s s' → RdEs G.C H s'.heap vals evs → wpAny (model G.prog G.w) A (call (.type id) vals) Q (fun _ _ => False) s') :
    wpAny (model G.prog G.w) A (eval (.Call (.Name (Str.ofString n) p) (e :: es) [] pos) env) Q (fun _ _ => False) s := by
  refine Call_ (nm_blt hG cx hm hx hd ?_)
  exact PyProof.Rows.callWith_type1 ((args_ok h cx he).mono fun vals s' zz83 => have g := zz83.1; have r := zz83.2; hc vals s' g r) (h.1.2 _ _) (plain_args h.2 _ _)

theorem RdEs.one {C : Addr} {H : List Addr} {h : Heap} {vals : List Value} {e : EV} (r : RdEs C H h vals [e]) : ∃ v, vals = [v] ∧ RdE C H h v e := by
  cases vals with
  | nil => cases r
  | cons v vs => cases vs with
    | nil => exact ⟨v, rfl, r.1⟩
    | cons _ _ => cases r.2
theorem RdEs.two {C : Addr} {H : List Addr} {h : Heap} {vals : List Value} {e e' : EV} (r : RdEs C H h vals [e, e']) : ∃ v u, vals = [v, u] ∧ RdE C H h v e ∧ RdE C H h u e' := by
  cases vals with
  | nil => cases r
  | cons v vs => obtain ⟨u, rfl, q⟩ := RdEs.one r.2; exact ⟨v, u, rfl, r.1, q⟩

theorem ev_len (hG : GOk G fa) {a : X} {e : Expr} {p pos : Pos} (hx : kcls (sc.names.lookup (Str.ofString "len")) = 3) (h : EvAll G Φ k vs sc [a] [e]) : EvOk G Φ k vs sc (.len a) (.Call (.Name (Str.ofString "len") p) [e] [] pos) := by
  intro H A env ρ s ev cx he
  dsimp only [xe_var, xe_int, xe_nil, xe_bool, xe_lim, xe_ar, xe_cat, xe_rep, xe_neg, xe_inv, xe_not, xe_cmp, xe_isNone, xe_and2, xe_or2, xe_or3, xe_ite, xe_tup2, xe_tup3, xe_list0, xe_list1, xe_list3, xe_sub, xe_from1, xe_upto1, xe_sl3, xe_len, xe_sum, xe_tuple, xe_bits, xe_divmod, xe_call1, xe_call2, xe_call3, xe_call5, xe_callk, xe_keyc, xe_comp, xe_mk, xe_cmpr, xe_attr] at he
  split at he
  · rename_i ds ea
    simp only [Option.ite_none_right_eq_some] at he
    obtain ⟨hl, he⟩ := he
    cases he
    refine call_bi hG (id := "len") hx (by simp [bnames]) (by decide) h (evs := [.dat (.list ds)]) cx ⟨ea, trivial⟩ fun vals s' g r => ?_
    obtain ⟨v, rfl, q1⟩ := r.one
    obtain ⟨ad, o, vals, nn, rfl, ho, _, hc, hdt, rl⟩ := Rd.list q1
    have hsz : vals.size = ds.length := by rw [← rl.length]; simp
    refine call_len_list (items := vals) ⟨o, ho, hc, nn, hdt⟩ (by omega) ?_
    rw [hsz]
    exact ⟨g.trans (Gw.tok g.base _), Rd.ofInt _ _⟩
  · cases he

theorem items_of {vals : Array Value} {is : List Int} (h : IntsAre vals.toList is) : ∃ xs, vals = intItems xs ∧ preSum (numAt xs) xs.size = is.sum := by
  have ha := h.allInts
  obtain ⟨xs, hx⟩ := ha.items
  have hv : vals = intItems xs := by rw [← hx]
  refine ⟨xs, hv, ?_⟩
  have hn := h.numsOf
  rw [hv, nums_intItems] at hn
  rw [preSum_eq, List.take_of_length_le (by simp), hn]

theorem ev_sum (hG : GOk G fa) {a : X} {e : Expr} {p pos : Pos} (hx : kcls (sc.names.lookup (Str.ofString "sum")) = 3) (h : EvAll G Φ k vs sc [a] [e]) : EvOk G Φ k vs sc (.sum a) (.Call (.Name (Str.ofString "sum") p) [e] [] pos) := by
  intro H A env ρ s ev cx he
  dsimp only [xe_var, xe_int, xe_nil, xe_bool, xe_lim, xe_ar, xe_cat, xe_rep, xe_neg, xe_inv, xe_not, xe_cmp, xe_isNone, xe_and2, xe_or2, xe_or3, xe_ite, xe_tup2, xe_tup3, xe_list0, xe_list1, xe_list3, xe_sub, xe_from1, xe_upto1, xe_sl3, xe_len, xe_sum, xe_tuple, xe_bits, xe_divmod, xe_call1, xe_call2, xe_call3, xe_call5, xe_callk, xe_keyc, xe_comp, xe_mk, xe_cmpr, xe_attr] at he
  split at he
  · rename_i ds ea
    obtain ⟨is, hi, rfl⟩ := Option.map_eq_some_iff.mp he
    refine call_bi hG (id := "sum") hx (by simp [bnames]) (by decide) h (evs := [.dat (.list ds)]) cx ⟨ea, trivial⟩ fun vals s' g r => ?_
    obtain ⟨v, rfl, q1⟩ := r.one
    obtain ⟨ad, o, vals, nn, rfl, ho, _, hc, hdt, rl⟩ := Rd.list q1
    obtain ⟨xs, rfl, hsum⟩ := items_of (rdL_ints rl hi)
    refine sum_intListG cx.a.hand ⟨o, ho, hc, nn, hdt⟩ fun h' tk t' hk => ?_
    rw [hsum]
    exact ⟨g.trans (Gw.heapTok g.base hk tk), Rd.ofInt _ _⟩
  · cases he

theorem ev_tuple (hG : GOk G fa) {a : X} {e : Expr} {p pos : Pos} (hx : kcls (sc.names.lookup (Str.ofString "tuple")) = 3) (h : EvAll G Φ k vs sc [a] [e]) : EvOk G Φ k vs sc (.tuple a) (.Call (.Name (Str.ofString "tuple") p) [e] [] pos) := by
  intro H A env ρ s ev cx he
  dsimp only [xe_var, xe_int, xe_nil, xe_bool, xe_lim, xe_ar, xe_cat, xe_rep, xe_neg, xe_inv, xe_not, xe_cmp, xe_isNone, xe_and2, xe_or2, xe_or3, xe_ite, xe_tup2, xe_tup3, xe_list0, xe_list1, xe_list3, xe_sub, xe_from1, xe_upto1, xe_sl3, xe_len, xe_sum, xe_tuple, xe_bits, xe_divmod, xe_call1, xe_call2, xe_call3, xe_call5, xe_callk, xe_keyc, xe_comp, xe_mk, xe_cmpr, xe_attr] at he
  split at he
  · rename_i ds ea
    simp only [Option.ite_none_right_eq_some] at he
    obtain ⟨hl, he⟩ := he
    cases he
    refine call_ty hG (id := "tuple") hx (by simp [bnames]) (by decide) h (evs := [.dat (.list ds)]) cx ⟨ea, trivial⟩ fun vals s' g r => ?_
    obtain ⟨v, rfl, q1⟩ := r.one
    obtain ⟨ad, o, vals, nn, rfl, ho, _, hc, hdt, rl⟩ := Rd.list q1
    have hsz : vals.size = ds.length := by rw [← rl.length]; simp
    refine call_tuple_list (items := vals) ⟨o, ho, hc, nn, hdt⟩ (fun h' hk => ?_) (by rw [hsz, sizeLine_eq]; omega)
    have g1 : Gw G s { s' with heap := h' } := g.trans (Gw.heapTok g.base hk s'.toks)
    have g2 : Gw G s' { s' with heap := h' } := Gw.heapTok g.base hk s'.toks
    refine ⟨g1.trans (Gw.push (s := { s' with heap := h' }) g1.base _), ?_⟩
    have := (rd_push (s := { s' with heap := h' }) (hx_ext cx.hx g1) (rl.mono (view_ext g2.ext cx.h))).1
    show Rd H _ _ _
    simpa using this
  · cases he

theorem ev_divmod (hG : GOk G fa) {a b : X} {e m : Expr} {p pos : Pos} (hx : kcls (sc.names.lookup (Str.ofString "divmod")) = 3) (h : EvAll G Φ k vs sc [a, b] [e, m]) : EvOk G Φ k vs sc (.divmod a b) (.Call (.Name (Str.ofString "divmod") p) [e, m] [] pos) := by
  intro H A env ρ s ev cx he
  dsimp only [xe_var, xe_int, xe_nil, xe_bool, xe_lim, xe_ar, xe_cat, xe_rep, xe_neg, xe_inv, xe_not, xe_cmp, xe_isNone, xe_and2, xe_or2, xe_or3, xe_ite, xe_tup2, xe_tup3, xe_list0, xe_list1, xe_list3, xe_sub, xe_from1, xe_upto1, xe_sl3, xe_len, xe_sum, xe_tuple, xe_bits, xe_divmod, xe_call1, xe_call2, xe_call3, xe_call5, xe_callk, xe_keyc, xe_comp, xe_mk, xe_cmpr, xe_attr] at he
  split at he
  · rename_i i j ea eb
    simp only [Option.ite_none_right_eq_some] at he
    obtain ⟨hl, he⟩ := he
    cases he
    refine call_bi hG (id := "divmod") hx (by simp [bnames]) (by decide) h (evs := [.dat (.int i), .dat (.int j)]) cx ⟨ea, eb, trivial⟩ fun vals s' g r => ?_
    obtain ⟨v, u, rfl, r1, r2⟩ := r.two
    obtain ⟨t, rfl⟩ := Rd.int r1
    obtain ⟨t', rfl⟩ := Rd.int r2
    refine divmod_int (by omega) ?_ (.inl (PyProof.noPylong_small (by omega)))
    refine ⟨g.trans (Gw.heapTok g.base (fun _ _ e => Heap.get?_push_of_some _ e) _), ?_⟩
    exact (rd_push (hx_ext cx.hx g) (RdL.cons (Rd.ofInt _ _) (RdL.cons (Rd.ofInt _ _) RdL.nil))).1
  · cases he

theorem bitLen_eq (i : Int) : Builtin.Int.intBits i = bitLen i := by
  unfold Builtin.Int.intBits bitLen
  by_cases h : i = 0
  · simp [h]
  · simp [h]

/-! lists put together -/
theorem ev_cat {a b : X} {l r : Expr} {pos : Pos} (ha : EvOk G Φ k vs sc a l) (hb : EvOk G Φ k vs sc b r) : EvOk G Φ k vs sc (.cat a b) (.BinOp l .Add r pos) := by
  intro H A env ρ s ev cx he
  dsimp only [xe_var, xe_int, xe_nil, xe_bool, xe_lim, xe_ar, xe_cat, xe_rep, xe_neg, xe_inv, xe_not, xe_cmp, xe_isNone, xe_and2, xe_or2, xe_or3, xe_ite, xe_tup2, xe_tup3, xe_list0, xe_list1, xe_list3, xe_sub, xe_from1, xe_upto1, xe_sl3, xe_len, xe_sum, xe_tuple, xe_bits, xe_divmod, xe_call1, xe_call2, xe_call3, xe_call5, xe_callk, xe_keyc, xe_comp, xe_mk, xe_cmpr, xe_attr] at he
  split at he
  · rename_i xs ys ea eb
    simp only [Option.ite_none_right_eq_some] at he
    obtain ⟨hl, he⟩ := he
    cases he
    refine wpAny_BinOp (two_parts ha hb cx ea eb fun v u s₂ g r₁ r₂ => ?_)
    obtain ⟨ad, ⟨ca, da, dta, sla⟩, va, na, rfl, ho, _, hc, hdt, rl⟩ := Rd.list r₁
    obtain ⟨ad', ⟨ca', da', dta', sla'⟩, va', na', rfl, ho', _, hc', hdt', rl'⟩ := Rd.list r₂
    simp only at hc hdt hc' hdt'
    subst hc hdt hc' hdt'
    have hsz : va.size = xs.length := by rw [← rl.length]; simp
    have hsz' : va'.size = ys.length := by rw [← rl'.length]; simp
    refine concat_meets ⟨_, ho, rfl⟩ ⟨_, ho', rfl⟩ noFill_list_add seq_list_add F.slot_list_add F.entry_list_add (F.args_list_add_2 _ _) (list_addW ad ad' va va' na na' da da' sla sla' (by rw [hsz, hsz', sizeLine_eq]; omega)) ⟨ho, ho', ?_⟩
    show Gw G s _ ∧ RdE G.C H _ _ _
    refine ⟨g.trans (Gw.push g.base _), ?_⟩
    have r2 : RdL H s₂.heap (va ++ va').toList (xs ++ ys) := by simpa using rl.append rl'
    have := (rd_push (hx_ext cx.hx g) r2).2
    rw [Array.toArray_toList] at this
    exact this
  · cases he

theorem mul_one {s : Shared} {A : Around} {l : Addr} {v : Value} {kk : Nat} {x : Int} {u : Tok} {Q : Value → Shared → Prop} (hl : s.heap.get? l = some { cls := .type "list", dict := none, data := .seq #[v] kk, slots := #[] })
    (hlo : -1048576 < x) (hhi : x < 1048576)
    (h : Q (.ref s.heap.objs.size) { s with heap := s.heap.push { cls := .type "list", data := .seq (List.replicate x.toNat v).toArray } }) : wpAny (model G.prog G.w) A (binaryOp .Mult (.ref l) (.int x u)) Q (fun _ _ => False) s := by
  have e : List.foldl (fun x1 x2 => x1 ++ x2) #[] (List.replicate (if (#[v] : Array Value).isEmpty = true then 0 else x.toNat) #[v]) = (List.replicate x.toNat v).toArray := by
    have : ∀ (n : Nat) (acc : Array Value), List.foldl (fun x1 x2 => x1 ++ x2) acc (List.replicate n #[v]) = acc ++ (List.replicate n v).toArray := by
      intro n
      induction n with
      | zero => intro acc; simp
      | succ n ih =>
        intro acc
        rw [List.replicate_succ, List.foldl_cons, ih]
        apply Array.ext'
        simp [List.replicate_succ]
    simp [this]
  refine wpAny_binaryOp_repeat_ref (T := "list") (U := "int") (by decide) ⟨_, hl, rfl⟩ (fun s' => typeIs_int s' x u) noFill_list_mul F.fills_int_mul F.slot_int_rmul repeat_list F.slot_int_index.lookup ?_
  refine call_meets F.slot_int_rmul (typeIs_int s x u) F.entry_int_rmul (F.args_int_rmul_2 _ _) (int___rmul___int_list x u l #[v] kk) ⟨hl, rfl, ⟨_, hl, rfl⟩, ?_⟩
  refine call_meets F.slot_list_mul ⟨_, hl, rfl⟩ F.entry_list_mul (F.args_list_mul_2 _ _)
    (AutoListH.list___mul___list_int_3 l #[v] kk x u (by simp [Builtin.List.listFitsIndex]; omega) (by have : (#[v] : Array Value).size = 1 := rfl; rw [this]; omega) (by simp [Builtin.List.listTooLong, sizeLine]; omega)) ⟨hl, ?_⟩
  rw [e]
  exact h

theorem ev_rep {a b : X} {l r : Expr} {p pos : Pos} (ha : EvAll G Φ k vs sc [a] [l]) (hb : EvOk G Φ k vs sc b r) : EvOk G Φ k vs sc (.rep (.list1 a) b) (.BinOp (.List [l] p) .Mult r pos) := by
  intro H A env ρ s ev cx he
  dsimp only [xe_var, xe_int, xe_nil, xe_bool, xe_lim, xe_ar, xe_cat, xe_rep, xe_neg, xe_inv, xe_not, xe_cmp, xe_isNone, xe_and2, xe_or2, xe_or3, xe_ite, xe_tup2, xe_tup3, xe_list0, xe_list1, xe_list3, xe_sub, xe_from1, xe_upto1, xe_sl3, xe_len, xe_sum, xe_tuple, xe_bits, xe_divmod, xe_call1, xe_call2, xe_call3, xe_call5, xe_callk, xe_keyc, xe_comp, xe_mk, xe_cmpr, xe_attr] at he
  split at he
  · rename_i d n ea eb
    simp only [Option.ite_none_right_eq_some] at he
    obtain ⟨hl, he⟩ := he
    cases he
    have ea' : evalX Φ a ρ = some (.dat d) := by
      split at ea
      · rename_i x ex; cases ea; exact ex
      · cases ea
    refine wpAny_BinOp (wpAny_List ((args_ok ha (evs := [.dat d]) cx ⟨ea', trivial⟩).mono fun vals s₁ zz84 => have g := zz84.1; have r := zz84.2; ?_))
    obtain ⟨v, rfl, q1⟩ := r.one
    refine ⟨by rw [sizeLine_eq]; simp, ?_⟩
    have g1 : Gw G s { s₁ with heap := s₁.heap.push { cls := .type "list", data := .seq [v].toArray } } := g.trans (Gw.push g.base _)
    refine (hb H A env ρ _ _ (cx.step g1) eb).mono fun u s₂ zz85 => have g₂ := zz85.1; have r₂ := zz85.2; ?_
    obtain ⟨t, rfl⟩ := Rd.int r₂
    have fr := g.base.fresh (Nat.le_refl s₁.heap.objs.size)
    have ho : s₂.heap.get? s₁.heap.objs.size = some { cls := .type "list", dict := none, data := .seq #[v] 0, slots := #[] } := g₂.ext _ _ fr.2 (Heap.get?_push_size _ rfl)
    refine mul_one ho hl.2 hl.1 ?_
    have g3 := g1.trans g₂
    refine ⟨g3.trans (Gw.push g3.base _), ?_⟩
    have rv : Rd H s₂.heap v d := Rd.ext (G := G) (s := s₁) q1 ((Gw.push g.base _).trans g₂) cx.h
    have rl : ∀ m : Nat, RdL H s₂.heap (List.replicate m v) (List.replicate m d) := by
      intro m
      induction m with
      | zero => exact RdL.nil
      | succ m ih => exact RdL.cons rv ih
    exact (rd_push (hx_ext cx.hx g3) (rl n.toNat)).2
  · cases he

/-! methods -/
theorem method_he {id name : Str} {p apos pos : Pos} {args : List Expr} {env : Env} (hl : apos.endLine = pos.line) (hs : (backTo pos (starEach args env)).any (·.1) = false) (hn : args.length < 30) :
    eval (.Call (.Attribute (.Name id p) name apos) args [] pos) env = (do
      let ov ← eval (.Name id p) env
      standAt apos.atName
      let (f, first) ← holding [ov] (getMethod ov name (do return (← importBound (.Name id p) env).getD true))
      callWith pos f first (backTo pos (starEach args env)) []) := by
  have hf : methodCallForm (args.length + 0) (backTo pos (starEach args env)) (backToKw pos (keywordEach [] env)) = true := by
    have h1 : (backTo pos (starEach args env)).all (!·.1) = true := by
      rw [List.all_eq_not_any_not]; simpa using hs
    simp only [methodCallForm, h1, Bool.true_and]
    have : (backToKw pos (keywordEach [] env)) = [] := rfl
    simp [this, hn]
  show (do
    let ov ← eval (.Name id p) env
    standAt apos.atName
    methodCall (.Name id p) name apos pos env ov (args.length + 0) (backTo pos (starEach args env)) (backToKw pos (keywordEach [] env))) = _
  unfold methodCall calleeOf methodCallPos
  rw [hf]
  simp only [if_true, hl, Bool.not_true, Bool.false_or, beq_self_eq_true, pure_bind]
  rfl

theorem ev_bits {n : Nat} {id : Str} {p apos pos : Pos} (ha : EvOk G Φ k vs sc (.var n) (.Name id p)) (hl : apos.endLine = pos.line) :
    EvOk G Φ k vs sc (.bits (.var n)) (.Call (.Attribute (.Name id p) (Str.ofString "bit_length") apos) [] [] pos) := by
  intro H A env ρ s ev cx he
  dsimp only [xe_var, xe_int, xe_nil, xe_bool, xe_lim, xe_ar, xe_cat, xe_rep, xe_neg, xe_inv, xe_not, xe_cmp, xe_isNone, xe_and2, xe_or2, xe_or3, xe_ite, xe_tup2, xe_tup3, xe_list0, xe_list1, xe_list3, xe_sub, xe_from1, xe_upto1, xe_sl3, xe_len, xe_sum, xe_tuple, xe_bits, xe_divmod, xe_call1, xe_call2, xe_call3, xe_call5, xe_callk, xe_keyc, xe_comp, xe_mk, xe_cmpr, xe_attr] at he
  split at he
  · rename_i i ea
    simp only [Option.ite_none_right_eq_some] at he
    obtain ⟨hi, he⟩ := he
    cases he
    refine MethodCall_ ((ha H A env ρ s _ cx ea).mono fun v s₁ zz86 => have g := zz86.1; have r := zz86.2; ?_) (method_he hl rfl (by simp))
    obtain ⟨t, rfl⟩ := Rd.int r
    refine getMethod_int_bit_length (callWith_method0 (call_int_bit_length ?_))
    rw [bitLen_eq]
    exact ⟨g.trans (Gw.tok g.base _), Rd.ofInt _ _⟩
  · cases he
end
end Mine

/-! SB7 -/
namespace Mine
open PySem PySem.W PyProof.Rows PySem.Calls PySem.Spec PySem.SeqAt

theorem among_app {pos : Pos} {c : Value} {a b : Int} : ∀ (l : List Value), TriplesOk l → ∀ {cv : Value}, codeAmong pos (l ++ [rawInt a, rawInt b, c]) = some cv → codeAmong pos l = some cv ∨ (a = pos.line ∧ b = pos.col ∧ cv = c) := by
  intro l h
  fun_induction TriplesOk l with
  | case1 =>
    intro cv e
    simp only [List.nil_append, codeAmong, rawInt] at e
    split at e
    · rename_i q; cases e; simp only [Bool.and_eq_true, beq_iff_eq] at q; exact .inr ⟨q.1, q.2, rfl⟩
    · cases e
  | case2 a t b u x rest ih =>
    intro cv e
    simp only [List.cons_append, codeAmong] at e ⊢
    split at e
    · rename_i q; rw [if_pos q]; exact .inl e
    · rename_i q; rw [if_neg q]; exact ih h e
  | case3 => exact h.elim

section
variable {G : Gr} {fa : Nat → Addr} {Φ : Phi} {k : Nat} {vs : List Str} {sc : Fc}

/-- a row of code is laid behind a table -/
theorem tab_grow (hG : GOk G fa) {h h' : Heap} (b : Base G h) {r : Row} (hr : r ∈ G.rows) {ps : Array Value} {pos : Pos} {q : Str} {c' : Addr} (h1 : h.get? r.P = some (tabObj ps)) (h2 : TriplesOk ps.toList) (hk : (pos, q) ∈ r.known)
    (h3 : ∀ pos q, (pos, q) ∈ r.known → ∀ cv, codeAmong pos ps.toList = some cv → h.CodeRec cv q)
    (hx : Heap.ExtBut r.P h h') (hrec : h'.CodeRec (.ref c') q) (ht : h'.get? r.P = some (tabObj (ps ++ #[rawInt pos.line, rawInt pos.col, .ref c']))) : Base G h' ∧ Ext G.T h h' := by
  have keepRec : ∀ cv q, h.CodeRec cv q → h'.CodeRec cv q := by
    rintro cv q ⟨c, o, vs, t, rfl, e1, e2, e3⟩
    refine ⟨c, o, vs, t, rfl, hx _ _ (fun z => ?_) e1, e2, e3⟩
    subst z
    rw [h1] at e1; cases e1
    cases e2
    exact triples_no_str h2 q t (by simpa using e3)
  refine ⟨⟨fun a o e => hx a o (fun z => ?_) (b.keep a o e), fun r' hr' => ?_⟩, fun a o ha e => hx a o (fun z => ha (z ▸ List.mem_map_of_mem hr)) e⟩
  · rw [z, hG.noT _ (List.mem_map_of_mem hr)] at e; cases e
  · by_cases z : r'.P = r.P
    · have := hG.one r' hr' r hr z
      subst this
      refine ⟨_, ht, ?_, fun pos' q' hk' cv hcv => ?_⟩
      · have := TriplesOk_snoc pos.line pos.col (.ref c') ps.toList h2
        simpa using this
      · have hcv' : codeAmong pos' (ps.toList ++ [rawInt pos.line, rawInt pos.col, .ref c']) = some cv := by simpa using hcv
        rcases among_app ps.toList h2 hcv' with e | ⟨e1, e2, rfl⟩
        · exact keepRec _ _ (h3 pos' q' hk' cv e)
        · have := hG.place r' hr' pos q pos' q' hk hk' (by omega) (by omega)
          subst this
          exact hrec
    · obtain ⟨ps', e1, e2, e3⟩ := b.tabs r' hr'
      exact ⟨ps', hx _ _ z e1, e2, fun pos q hm cv hc => keepRec _ _ (e3 pos q hm cv hc)⟩

theorem blt_at (hG : GOk G fa) {h : Heap} (b : Base G h) {r : Row} (hr : r ∈ G.rows) : h.BuiltinsAt G.mg r.P ∧ mainGlobals ≠ r.P := by
  obtain ⟨bm, ob, b1, b2, b3, b4, b5, b6⟩ := hG.bm
  have hT := hG.noT _ (List.mem_map_of_mem (f := fun x : Row => x.P) hr)
  refine ⟨⟨bm, ob, b1, b2, fun q => ?_, fun q => ?_, b.keep _ _ b3, b4, b5, b6⟩, fun q => ?_⟩
  · obtain ⟨o, es, ep, e, hd, _⟩ := hG.ng
    rw [q, e] at b3; cases b3; rw [hd] at b6; cases b6
  · rw [q, hT] at b3; cases b3
  · obtain ⟨o, es, ep, e, hd, _⟩ := hG.ng
    rw [q, hT] at e; cases e

/-- the key function, as it is written -/
noncomputable def IsKeyExpr (e : Expr) (pos : Pos) : Prop := ∃ p0 p1 p2 p3 scope, e = .Lambda { posonlyargs := [], args := [{ arg := Str.ofString "entry", annotation := none, pos := p0 }], vararg := none, kwonlyargs := [], kw_defaults := [], kwarg := none, defaults := [] }
    (.Subscript (.Name (Str.ofString "entry") p1) (.Constant (.int 0) 0 p2) p3) scope pos ∧ scope.kind = .function ∧ scope.names.lookup (Str.ofString "entry") = some .local ∧ (∀ x ∈ scope.names, x.2 ≠ .cell) ∧ (∀ x ∈ scope.names, x.2 ≠ .free) ∧ scope.isCoroutine = false ∧ scope.isGenerator = false

theorem key_made (hG : GOk G fa) {e : Expr} {pos : Pos} (he : IsKeyExpr e pos) {r : Row} (hr : r ∈ G.rows) (hcode : sc.code = .ref r.c) (hk : (pos, sc.qual ++ "<lambda>") ∈ r.known)
    {H : List Addr} {A : Around} {env : Env} {ρ : Env'} {s : Shared} (cx : Cx G vs sc k H A env ρ s) : Wp G A (eval e env) (fun v s' => Gw G s s' ∧ RdE G.C H s'.heap v .lam) s := by
  obtain ⟨p0, p1, p2, p3, scope, rfl, hkind, hloc, hnc, hnf, hco, hgen⟩ := he
  refine kla_eval rfl ?_
  obtain ⟨ps, h1, h2, h3⟩ := cx.b.tabs r hr
  have hb := blt_at hG cx.b hr
  have hcl := closureFor_none (env := env) hnf
  have hC := (hG.hd r hr).keeps cx.b.keep
  have fin : ∀ (h' : Heap) (c' : Addr) (ctv : Value) (pm : Value) (tk : Nat), Base G h' → Ext G.T s.heap h' → h'.CodeRec (.ref c') (env.qual ++ "<lambda>") →
      Gw G s { s with heap := h'.push (kla_obj "<lambda>" (env.qual ++ "<lambda>") { posonlyargs := [], args := [{ arg := Str.ofString "entry", annotation := none, pos := p0 }], vararg := none, kwonlyargs := [], kw_defaults := [], kwarg := none, defaults := [] } (.Subscript (.Name (Str.ofString "entry") p1) (.Constant (.int 0) 0 p2) p3) scope [] pm c' ctv), toks := tk } ∧
      RdE G.C H (h'.push (kla_obj "<lambda>" (env.qual ++ "<lambda>") { posonlyargs := [], args := [{ arg := Str.ofString "entry", annotation := none, pos := p0 }], vararg := none, kwonlyargs := [], kw_defaults := [], kwarg := none, defaults := [] } (.Subscript (.Name (Str.ofString "entry") p1) (.Constant (.int 0) 0 p2) p3) scope [] pm c' ctv)) (.ref h'.objs.size) .lam := by
    intro h' c' ctv pm tk hb' hx' hrec
    have g1 : Gw G s { s with heap := h' } := ⟨h', s.toks, rfl, hx', hb'⟩
    refine ⟨⟨_, tk, rfl, hx'.trans (Ext.of fun _ _ e => Heap.get?_push_of_some _ e), hb'.push _⟩, _, rfl, _, _, view_push (s := { s with heap := h' }) (hx_ext cx.hx g1) _ rfl, rfl, ?_, ?_⟩
    · exact ⟨⟨p0, rfl⟩, ⟨p1, p2, p3, rfl⟩, hkind, hloc, hnc, hnf, hco, hgen, rfl, rfl, rfl, rfl⟩
    · have h9 := rec_view hrec (hx_ext cx.hx g1)
      exact h9.keeps (view_ext (T := []) (Ext.of fun _ _ e => Heap.get?_push_of_some _ e) (fun _ q => nomatch q))
  cases hf : codeAmong pos ps.toList with
  | none =>
    refine kla_makeFunction (mg := G.mg) hcl cx.e.glob (hG.ng.keeps cx.b.keep) (cx.cd.trans hcode) hC h1 h2 hf hb.2 hb.1 fun c' ctv h' tk hx hge hlt hrec htb => ?_
    have hq : env.qual ++ "<lambda>" = sc.qual ++ "<lambda>" := by rw [cx.ql]
    obtain ⟨b', x'⟩ := tab_grow hG cx.b hr h1 h2 hk h3 hx (hq ▸ hrec) htb
    exact fin h' c' ctv _ tk b' x' hrec
  | some cv =>
    have hrec := h3 pos _ hk cv hf
    obtain ⟨c, o, vs', t, rfl, e1, e2, e3⟩ := hrec
    refine kla_makeFunctionHit (mg := G.mg) hcl cx.e.glob (hG.ng.keeps cx.b.keep) (cx.cd.trans hcode) hC h1 h2 hf hb.1 fun ctv h' tk hk' hsz => ?_
    have hq : env.qual ++ "<lambda>" = sc.qual ++ "<lambda>" := by rw [cx.ql]
    exact fin h' c ctv _ tk (cx.b.keeps hk') (Ext.of hk') (hq ▸ ⟨c, o, vs', t, rfl, hk' _ _ e1, e2, e3⟩)
end
end Mine

/-! SB8 -/
namespace Mine
open PySem PySem.W PyProof.Rows PySem.Calls PySem.Spec PySem.SeqAt

noncomputable def FnOk (G : Gr) (a : Addr) (F : List EV → Option PyData) (k : Nat) : Prop :=
  ∀ A s H args vals d, AOk A k → Base G s.heap → (∀ b ∈ G.T, b ∈ H) → Hid H s.heap → RdEs G.C H s.heap vals args → F args = some d → Wp G A (call (.ref a) vals) (fun v s' => Gw G s s' ∧ Rd H s'.heap v d) s
noncomputable def FnKOk (G : Gr) (a : Addr) (F : List EV → Option PyData) (k : Nat) : Prop :=
  ∀ A s H x y u v f d, AOk A k → Base G s.heap → (∀ b ∈ G.T, b ∈ H) → Hid H s.heap → RdE G.C H s.heap u x → RdE G.C H s.heap v y → RdE G.C H s.heap f .lam → F [x, y, .dat (.int 0), .dat .none, .lam] = some d →
    Wp G A (call (.ref a) [u, v] [(Str.ofString "key", f)]) (fun v s' => Gw G s s' ∧ Rd H s'.heap v d) s
structure PhiOk (G : Gr) (fa : Nat → Addr) (Φ : Phi) (k : Nat) : Prop where
  fn : ∀ i, i < fnames.length → i ≠ 6 → i ≠ 7 → FnOk G (fa i) (Φ i) k
  key : ∀ i, i = 6 ∨ i = 7 → FnKOk G (fa i) (Φ i) k

section
variable {G : Gr} {fa : Nat → Addr} {Φ : Phi} {k : Nat} {vs : List Str} {sc : Fc}

theorem call_fn (hG : GOk G fa) (hΦ : PhiOk G fa Φ k) {i : Nat} {n : String} {p pos : Pos} (hi : fnames[i]? = some n) (h0 : i ≠ 0) (h6 : i ≠ 6) (h7 : i ≠ 7) (hx : kcls (sc.names.lookup (Str.ofString n)) = 3) (hd : (Str.ofString n == ("__debug__" : Str)) = false)
    {x : X} {xs : List X} {e : Expr} {es : List Expr} (h : EvAll G Φ k vs sc (x :: xs) (e :: es)) {H : List Addr} {A : Around} {env : Env} {ρ : Env'} {s : Shared} {evs : List EV} {d : PyData} (cx : Cx G vs sc k H A env ρ s)
    (he : evs? Φ ρ (x :: xs) evs) (hr : Φ i evs = some d) : Wp G A (eval (.Call (.Name (Str.ofString n) p) (e :: es) [] pos) env) (fun v s' => Gw G s s' ∧ RdE G.C H s'.heap v (.dat d)) s := by
  have hlt : i < fnames.length := (List.getElem?_eq_some_iff.mp hi).1
  obtain ⟨o, fd, ho, hdat⟩ := hG.isf i hlt
  refine Call_ (nm_glob hG cx hx (hG.fn i n hi h0) hd ?_)
  refine callWith_def hdat ((args_ok h cx he).mono fun vals s' zz87 => have g := zz87.1; have r := zz87.2; ⟨g.base.keep _ _ ho, ?_⟩) (h.1.2 _ _)
  exact (hΦ.fn i hlt h6 h7 A s' H evs vals d cx.a g.base cx.h (hx_ext cx.hx g) r hr).mono fun v s'' zz88 => have g' := zz88.1; have r' := zz88.2; ⟨g.trans g', r'⟩

theorem ev_call1 (hG : GOk G fa) (hΦ : PhiOk G fa Φ k) {i : Nat} {n : String} {p pos : Pos} (hi : fnames[i]? = some n) (h0 : i ≠ 0) (h6 : i ≠ 6) (h7 : i ≠ 7) (hx : kcls (sc.names.lookup (Str.ofString n)) = 3) (hd : (Str.ofString n == ("__debug__" : Str)) = false)
    {a : X} {l : Expr} (h : EvAll G Φ k vs sc [a] [l]) : EvOk G Φ k vs sc (.call1 i a) (.Call (.Name (Str.ofString n) p) [l] [] pos) := by
  intro H A env ρ s ev cx he
  dsimp only [xe_var, xe_int, xe_nil, xe_bool, xe_lim, xe_ar, xe_cat, xe_rep, xe_neg, xe_inv, xe_not, xe_cmp, xe_isNone, xe_and2, xe_or2, xe_or3, xe_ite, xe_tup2, xe_tup3, xe_list0, xe_list1, xe_list3, xe_sub, xe_from1, xe_upto1, xe_sl3, xe_len, xe_sum, xe_tuple, xe_bits, xe_divmod, xe_call1, xe_call2, xe_call3, xe_call5, xe_callk, xe_keyc, xe_comp, xe_mk, xe_cmpr, xe_attr] at he
  split at he
  · rename_i x ea; obtain ⟨d, hd', rfl⟩ := Option.map_eq_some_iff.mp he
    exact call_fn hG hΦ hi h0 h6 h7 hx hd h (evs := [x]) cx ⟨ea, trivial⟩ hd'
  · cases he
theorem ev_call2 (hG : GOk G fa) (hΦ : PhiOk G fa Φ k) {i : Nat} {n : String} {p pos : Pos} (hi : fnames[i]? = some n) (h0 : i ≠ 0) (h6 : i ≠ 6) (h7 : i ≠ 7) (hx : kcls (sc.names.lookup (Str.ofString n)) = 3) (hd : (Str.ofString n == ("__debug__" : Str)) = false)
    {a b : X} {l r : Expr} (h : EvAll G Φ k vs sc [a, b] [l, r]) : EvOk G Φ k vs sc (.call2 i a b) (.Call (.Name (Str.ofString n) p) [l, r] [] pos) := by
  intro H A env ρ s ev cx he
  dsimp only [xe_var, xe_int, xe_nil, xe_bool, xe_lim, xe_ar, xe_cat, xe_rep, xe_neg, xe_inv, xe_not, xe_cmp, xe_isNone, xe_and2, xe_or2, xe_or3, xe_ite, xe_tup2, xe_tup3, xe_list0, xe_list1, xe_list3, xe_sub, xe_from1, xe_upto1, xe_sl3, xe_len, xe_sum, xe_tuple, xe_bits, xe_divmod, xe_call1, xe_call2, xe_call3, xe_call5, xe_callk, xe_keyc, xe_comp, xe_mk, xe_cmpr, xe_attr] at he
  split at he
  · rename_i x y ea eb; obtain ⟨d, hd', rfl⟩ := Option.map_eq_some_iff.mp he
    exact call_fn hG hΦ hi h0 h6 h7 hx hd h (evs := [x, y]) cx ⟨ea, eb, trivial⟩ hd'
  · cases he
theorem ev_call3 (hG : GOk G fa) (hΦ : PhiOk G fa Φ k) {i : Nat} {n : String} {p pos : Pos} (hi : fnames[i]? = some n) (h0 : i ≠ 0) (h6 : i ≠ 6) (h7 : i ≠ 7) (hx : kcls (sc.names.lookup (Str.ofString n)) = 3) (hd : (Str.ofString n == ("__debug__" : Str)) = false)
    {a b c : X} {l r m : Expr} (h : EvAll G Φ k vs sc [a, b, c] [l, r, m]) : EvOk G Φ k vs sc (.call3 i a b c) (.Call (.Name (Str.ofString n) p) [l, r, m] [] pos) := by
  intro H A env ρ s ev cx he
  dsimp only [xe_var, xe_int, xe_nil, xe_bool, xe_lim, xe_ar, xe_cat, xe_rep, xe_neg, xe_inv, xe_not, xe_cmp, xe_isNone, xe_and2, xe_or2, xe_or3, xe_ite, xe_tup2, xe_tup3, xe_list0, xe_list1, xe_list3, xe_sub, xe_from1, xe_upto1, xe_sl3, xe_len, xe_sum, xe_tuple, xe_bits, xe_divmod, xe_call1, xe_call2, xe_call3, xe_call5, xe_callk, xe_keyc, xe_comp, xe_mk, xe_cmpr, xe_attr] at he
  split at he
  · rename_i x y z ea eb ec; obtain ⟨d, hd', rfl⟩ := Option.map_eq_some_iff.mp he
    exact call_fn hG hΦ hi h0 h6 h7 hx hd h (evs := [x, y, z]) cx ⟨ea, eb, ec, trivial⟩ hd'
  · cases he
theorem ev_call5 (hG : GOk G fa) (hΦ : PhiOk G fa Φ k) {i : Nat} {n : String} {p pos : Pos} (hi : fnames[i]? = some n) (h0 : i ≠ 0) (h6 : i ≠ 6) (h7 : i ≠ 7) (hx : kcls (sc.names.lookup (Str.ofString n)) = 3) (hd : (Str.ofString n == ("__debug__" : Str)) = false)
    {a b c a' b' : X} {l r m l' r' : Expr} (h : EvAll G Φ k vs sc [a, b, c, a', b'] [l, r, m, l', r']) : EvOk G Φ k vs sc (.call5 i a b c a' b') (.Call (.Name (Str.ofString n) p) [l, r, m, l', r'] [] pos) := by
  intro H A env ρ s ev cx he
  dsimp only [xe_var, xe_int, xe_nil, xe_bool, xe_lim, xe_ar, xe_cat, xe_rep, xe_neg, xe_inv, xe_not, xe_cmp, xe_isNone, xe_and2, xe_or2, xe_or3, xe_ite, xe_tup2, xe_tup3, xe_list0, xe_list1, xe_list3, xe_sub, xe_from1, xe_upto1, xe_sl3, xe_len, xe_sum, xe_tuple, xe_bits, xe_divmod, xe_call1, xe_call2, xe_call3, xe_call5, xe_callk, xe_keyc, xe_comp, xe_mk, xe_cmpr, xe_attr] at he
  split at he
  · rename_i x y z x' y' ea eb ec ea' eb'; obtain ⟨d, hd', rfl⟩ := Option.map_eq_some_iff.mp he
    exact call_fn hG hΦ hi h0 h6 h7 hx hd h (evs := [x, y, z, x', y']) cx ⟨ea, eb, ec, ea', eb', trivial⟩ hd'
  · cases he

theorem ev_lim (hG : GOk G fa) {pos : Pos} (hx : kcls (sc.names.lookup (Str.ofString "_DIV_LIMIT")) = 3) : EvOk G Φ k vs sc .lim (.Name (Str.ofString "_DIV_LIMIT") pos) := by
  intro H A env ρ s ev cx he
  cases he
  obtain ⟨t, ht⟩ := hG.lim
  exact nm_glob hG cx hx ht (by decide) ⟨Gw.refl cx.b, Rd.ofInt _ _⟩

/-- a search with the key function -/
theorem ev_callk (hG : GOk G fa) (hΦ : PhiOk G fa Φ k) {i : Nat} {n : String} {p pos kp lp : Pos} {lam : Expr} (hi : fnames[i]? = some n) (hi67 : i = 6 ∨ i = 7) (hx : kcls (sc.names.lookup (Str.ofString n)) = 3) (hd : (Str.ofString n == ("__debug__" : Str)) = false)
    (hlam : IsKeyExpr lam lp) {r : Row} (hr : r ∈ G.rows) (hcode : sc.code = .ref r.c) (hk : (lp, sc.qual ++ "<lambda>") ∈ r.known)
    {a b : X} {l m : Expr} (h : EvAll G Φ k vs sc [a, b] [l, m]) : EvOk G Φ k vs sc (.callk i a b) (.Call (.Name (Str.ofString n) p) [l, m] [⟨some (Str.ofString "key"), lam, kp⟩] pos) := by
  intro H A env ρ s ev cx he
  dsimp only [xe_var, xe_int, xe_nil, xe_bool, xe_lim, xe_ar, xe_cat, xe_rep, xe_neg, xe_inv, xe_not, xe_cmp, xe_isNone, xe_and2, xe_or2, xe_or3, xe_ite, xe_tup2, xe_tup3, xe_list0, xe_list1, xe_list3, xe_sub, xe_from1, xe_upto1, xe_sl3, xe_len, xe_sum, xe_tuple, xe_bits, xe_divmod, xe_call1, xe_call2, xe_call3, xe_call5, xe_callk, xe_keyc, xe_comp, xe_mk, xe_cmpr, xe_attr] at he
  split at he
  · rename_i x y ea eb; obtain ⟨d, hd', rfl⟩ := Option.map_eq_some_iff.mp he
    have hlt : i < fnames.length := (List.getElem?_eq_some_iff.mp hi).1
    obtain ⟨o, fd, ho, hdat⟩ := hG.isf i hlt
    refine wpAny_Call_Name_kw (nm_glob hG cx hx (hG.fn i n hi (by omega)) hd ?_)
    have hst : backTo pos (starEach [l, m] env) = (false, eval l env) :: backTo pos (starEach [m] env) := by rw [h.1.2]; rfl
    refine callWith_function_kw (o := o) (fd := fd) ?_
    have hargs := args_ok h (evs := [x, y]) (pos := pos) cx ⟨ea, eb, trivial⟩
    rw [hst] at hargs ⊢
    refine evalArgs_kw rfl (hargs.mono fun vals s₁ zz89 => have g := zz89.1; have r' := zz89.2; ?_)
    refine wpAny_evalAll_cons (wpAny_bind ((key_made hG hlam hr hcode hk (cx.step g)).mono fun f s₂ zz90 => have g₂ := zz90.1; have rf := zz90.2; wpAny_bind (wpAny_standAt (wpAny_pure (wpAny_evalAll_nil ?_)))))
    refine ⟨⟨g₂.base.keep _ _ ho, hdat⟩, ?_⟩
    obtain ⟨u, v, rfl, r1, r2⟩ := r'.two
    have g3 := g.trans g₂
    exact (hΦ.key i hi67 A s₂ H x y u v f d cx.a g3.base cx.h (hx_ext cx.hx g3) (r1.ext g₂ cx.h) (r2.ext g₂ cx.h) rf hd').mono fun v s'' zz91 => have g' := zz91.1; have r' := zz91.2; ⟨g3.trans g', r'⟩
  · cases he

/-- the key function at an entry -/
theorem key_call (hG : GOk G fa) {A : Around} {s : Shared} {H : List Addr} {f v : Value} {ds : List PyData} {d : PyData} (hA : AOk A 1) (hb : Base G s.heap) (hT : ∀ b ∈ G.T, b ∈ H) (hH : Hid H s.heap) (rf : RdE G.C H s.heap f .lam) (rv : Rd H s.heap v (.tuple ds))
    (hl : ds.length < 1048576) (hd : itemAt ds 0 = some d) : Wp G A (call f [v]) (fun v s' => Gw G s s' ∧ Rd H s'.heap v d) s := by
  obtain ⟨a, rfl, o, fd, ho, hdat, K, hrec⟩ := rf
  obtain ⟨p0, hp⟩ := K.params
  obtain ⟨p1, p2, p3, hbody⟩ := K.body
  have hk₀ : ∀ b o, (hideAll s.heap H).get? b = some o → s.heap.get? b = some o := fun _ _ e => of_hideAll _ e
  refine wpAny_call (kla_callFunE (body := .Subscript (.Name (Str.ofString "entry") p1) (.Constant (.int 0) 0 p2) p3) (by have := hA.depth; omega) (hk₀ _ _ ho) hdat K.co K.gen hbody (hrec.keeps hk₀) ?_)
  have hbind : bindArgs fd ⟨[v], []⟩ = pure [(Str.ofString "entry", v)] := by
    unfold bindArgs
    rw [hp, K.dflt]
    rfl
  rw [hbind]
  refine wpAny_pure (wpAny_newFunctionEnv K.nocell (by intro y hy; simp at hy; subst hy; exact K.loc) (fun h₁ hns hsb => ?_) K.kind)
  have hkp : ∀ b o, s.heap.get? b = some o → h₁.get? b = some o := fun b o e => hsb.extBut b o (Nat.ne_of_lt (Heap.lt_size e)) (Heap.get?_push_of_some _ e)
  have g1 : Gw G s { s with heap := h₁, toks := s.toks + 1 } := Gw.heapTok hb hkp _
  refine ⟨(hG.nolim.keeps hb.keep).keeps hkp, kla_codeExpr ?_⟩
  have fr := hb.fresh (Nat.le_refl s.heap.objs.size)
  let env : Env := newEnv fd.scope s.heap.objs.size fd.globals fd.closure (fd.qualname ++ ".<locals>.") (some a) fd.code none fd.builtins
  have hkd : env.kindOf (Str.ofString "entry") = some .local := K.loc
  have hcl : env.cells = [] := K.clo
  have hno : ∀ x, kcls (env.kindOf x) ≠ 2 := fun x hx => by
    have hx' : kcls (fd.scope.names.lookup x) = 2 := hx
    cases q : fd.scope.names.lookup x with
    | none => rw [q] at hx'; cases hx'
    | some kd =>
      have hm := mem_of_lookup q
      rw [q] at hx'
      cases kd with
      | cell => exact K.nocell _ hm rfl
      | free => exact K.nofree _ hm rfl
      | _ => cases hx'
  have cx : Cx G [Str.ofString "entry"] ⟨fd.scope, env.code, env.qual⟩ 0 H (A.deeper env) env [some (.dat (.tuple ds))] { s with heap := h₁, toks := s.toks + 1 } := {
    a := ⟨hA.hand, (by have := hA.depth; show A.depth + 1 + 0 < _; omega), (by have := hA.units; show A.units + 3 + 40 * 0 + 200 < _; omega)⟩
    e := ⟨K.kind, K.glob, K.blt, fr.2, ⟨_, hns⟩, (fun x c hc => by rw [hcl] at hc; cases hc), fun x hx => absurd hx (hno x)⟩
    sk := fun x => rfl
    cd := rfl
    ql := rfl
    b := g1.base
    h := hT
    hx := hx_ext hH g1
    v := fun i x ev h1 h2 h3 => by
      cases i with
      | zero =>
        simp at h1 h2; subst h1 h2
        exact ⟨v, .inl ⟨hkd, _, hns, by simp⟩, Rd.ext (G := G) (s := s) rv g1 hT⟩
      | succ i => simp at h1 }
  have hev : evalX (fun _ _ => none) (.sub (.var 0) (.int 0)) [some (.dat (.tuple ds))] = some (.dat d) := by
    simp [xe_var, xe_int, xe_nil, xe_bool, xe_lim, xe_ar, xe_cat, xe_rep, xe_neg, xe_inv, xe_not, xe_cmp, xe_isNone, xe_and2, xe_or2, xe_or3, xe_ite, xe_tup2, xe_tup3, xe_list0, xe_list1, xe_list3, xe_sub, xe_from1, xe_upto1, xe_sl3, xe_len, xe_sum, xe_tuple, xe_bits, xe_divmod, xe_call1, xe_call2, xe_call3, xe_call5, xe_callk, xe_keyc, xe_comp, xe_mk, xe_cmpr, xe_attr, hl, hd]
  have := ev_sub (G := G) (Φ := fun _ _ => none) (k := 0) (pos := p3) (ev_var (n := 0) (id := Str.ofString "entry") (pos := p1) rfl (.inl (by show kcls (fd.scope.names.lookup _) = 1; rw [K.loc]; rfl)) (by decide) (by decide)) (ev_int (kk := 0) (pos := p2)) (by intro _ _ _ _ h; cases h) H (A.deeper env) env _ _ _ cx hev
  exact this.mono fun v s' zz92 => have g := zz92.1; have r := zz92.2; ⟨g1.trans g, r⟩

theorem ev_keyc (hG : GOk G fa) (hk : 1 ≤ k) {n : Nat} {id : Str} {a : X} {p pos : Pos} {l : Expr} (hf : EvOk G Φ k vs sc (.var n) (.Name id p)) (h : EvAll G Φ k vs sc [a] [l]) : EvOk G Φ k vs sc (.keyc n a) (.Call (.Name id p) [l] [] pos) := by
  intro H A env ρ s ev cx he
  dsimp only [xe_var, xe_int, xe_nil, xe_bool, xe_lim, xe_ar, xe_cat, xe_rep, xe_neg, xe_inv, xe_not, xe_cmp, xe_isNone, xe_and2, xe_or2, xe_or3, xe_ite, xe_tup2, xe_tup3, xe_list0, xe_list1, xe_list3, xe_sub, xe_from1, xe_upto1, xe_sl3, xe_len, xe_sum, xe_tuple, xe_bits, xe_divmod, xe_call1, xe_call2, xe_call3, xe_call5, xe_callk, xe_keyc, xe_comp, xe_mk, xe_cmpr, xe_attr] at he
  split at he
  · rename_i ds ef ea
    simp only [Option.ite_none_right_eq_some] at he
    obtain ⟨hl, he⟩ := he
    obtain ⟨d, hd, rfl⟩ := Option.map_eq_some_iff.mp he
    refine Call_ ((hf H A env ρ s .lam cx (by simp only [xe_var, xe_int, xe_nil, xe_bool, xe_lim, xe_ar, xe_cat, xe_rep, xe_neg, xe_inv, xe_not, xe_cmp, xe_isNone, xe_and2, xe_or2, xe_or3, xe_ite, xe_tup2, xe_tup3, xe_list0, xe_list1, xe_list3, xe_sub, xe_from1, xe_upto1, xe_sl3, xe_len, xe_sum, xe_tuple, xe_bits, xe_divmod, xe_call1, xe_call2, xe_call3, xe_call5, xe_callk, xe_keyc, xe_comp, xe_mk, xe_cmpr, xe_attr]; exact ef)).mono fun f s₁ zz93 => have g := zz93.1; have rf := zz93.2; ?_)
    obtain ⟨fad, hfe, K⟩ := rf
    have rf : RdE G.C H s₁.heap f .lam := ⟨fad, hfe, K⟩
    subst hfe
    obtain ⟨o, fd, ho, hdat, _⟩ := K
    have hfT : fad ∉ H := fun q => by rw [hideAll_none H q] at ho; cases ho
    refine callWith_def hdat ((args_ok h (evs := [.dat (.tuple ds)]) (cx.step g) ⟨ea, trivial⟩).mono fun vals s' zz94 => have g' := zz94.1; have r := zz94.2; ⟨g'.ext _ _ (fun q => hfT (cx.h _ q)) (of_hideAll _ ho), ?_⟩) (h.1.2 _ _)
    obtain ⟨v, rfl, q1⟩ := r.one
    have g2 := g.trans g'
    have hu := cx.a.units
    have hd1 := cx.a.depth
    exact (key_call hG ⟨cx.a.hand, by omega, by omega⟩ g2.base cx.h (hx_ext cx.hx g2) (rf.ext g' cx.h) q1 hl hd).mono fun v s'' zz95 => have g'' := zz95.1; have r'' := zz95.2; ⟨g2.trans g'', r''⟩
  · cases he
end
end Mine

/-! SB9 -/
namespace Mine
open PySem PySem.W PyProof.Rows PySem.Calls PySem.Spec PySem.SeqAt

noncomputable def calmKinds : List String := ["list_iterator", "list_reverseiterator", "range_iterator"]
/-- an iterator that owns no tuple -/
noncomputable def Calm (o : Obj) : Prop := ∃ n vs, o.cls = .type n ∧ o.data = .fields vs ∧ calmKinds.contains n = true

structure ItOk (G : Gr) (A : Around) (H : List Addr) (ds : List PyData) (I : Addr) (h₀ : Heap) (n : Nat) (fp : List Addr) (P : Nat → Value → Prop) (St : Nat → Heap → Prop) : Prop where
  w : Walks G.prog G.w A I fp [I] n P St
  ln : n = ds.length
  st : St 0 h₀
  fpH : ∀ b ∈ fp, b ≠ I → b ∉ H
  rd : ∀ i v d, P i v → ds[i]? = some d → Rd (I :: H) h₀ v d
  newH : I ∉ H
  newT : I ∉ G.T
  newG : G.g.get? I = none
  obj : ∀ i h, St i h → ∃ o, h.get? I = some o ∧ NotCode o ∧ Calm o
  ex : ∀ i h, St i h → ∀ b ∈ fp, ∃ o, h.get? b = some o

theorem view_new {H : List Addr} {h : Heap} (ob : Obj) : ∀ b o, (hideAll h H).get? b = some o → (hideAll (h.push ob) (h.objs.size :: H)).get? b = some o := by
  intro b o e
  have e' := of_hideAll _ e
  refine hideAll_get _ (Heap.get?_push_of_some _ e') fun q => ?_
  rcases List.mem_cons.mp q with q | q
  · exact absurd (Heap.lt_size e') (by rw [q]; exact Nat.lt_irrefl _)
  · rw [hideAll_none H q] at e; cases e

section
variable {G : Gr} {fa : Nat → Addr} {Φ : Phi} {k : Nat} {vs : List Str} {sc : Fc}

theorem calm_go {A : Around} {s : Shared} {target : Expr} {I : Addr} {v : Value} {o : Obj} (ho : s.heap.get? I = some o) (hc : Calm o) {Q : Unit → Shared → Prop} {E : Value → Shared → Prop} (h : Q () s) : wpAny (model G.prog G.w) A (letOwnedTupleGo target (.ref I) v) Q E s := by
  obtain ⟨n, vs, h1, h2, h3⟩ := hc
  have h4 : n = "list_iterator" ∨ n = "list_reverseiterator" ∨ n = "range_iterator" := by simpa [calmKinds] using h3
  unfold letOwnedTupleGo
  cases target <;> first
    | exact wpAny_pure h
    | (cases v <;> first
        | exact wpAny_pure h
        | (refine wpAny_bind (wpAny_load ho ?_)
           rw [h1, h2]
           dsimp only
           split
           · rename_i hh
             have hq := (Bool.and_eq_true_iff.mp hh).1
             rcases h4 with rfl | rfl | rfl <;> exact absurd hq (by decide)
           · exact wpAny_pure h))

theorem notCode_int {I : Obj} {vs : Array Value} {i : Int} {t : Tok} (hd : I.data = .fields vs) (h : vs[1]? = some (.int i t)) : NotCode I := by
  intro vs' q t' e1 e2
  rw [hd] at e1; cases e1
  rw [h] at e2; cases e2

/-- over a list -/
theorem iter_list {H : List Addr} {A : Around} {s : Shared} {ax : Addr} {ds : List PyData} (hA : A.handled = none) (b : Base G s.heap) (hT : ∀ b ∈ G.T, b ∈ H) (hH : Hid H s.heap) (r : Rd H s.heap (.ref ax) (.list ds))
    {Q : Value → Shared → Prop} (h : ∀ I h' n fp P St, Gw G s { s with heap := h' } → s.heap.get? I = none → ItOk G A H ds I h' n fp P St → Q (.ref I) { s with heap := h' }) : wpAny (model G.prog G.w) A (pyIter (.ref ax)) Q (fun _ _ => False) s := by
  obtain ⟨ad, o, vals, nn, e, ho, hnH, hc, hdt, rl⟩ := Rd.list r
  cases e
  have hsz : vals.size = ds.length := by rw [← rl.length]; simp
  have g : Gw G s { s with heap := s.heap.push { cls := .type "list_iterator", data := .fields #[.ref ax, .int 0 0] } } := Gw.push b _
  have hne : ax ≠ s.heap.objs.size := Nat.ne_of_lt (Heap.lt_size ho)
  have fr := b.fresh (Nat.le_refl s.heap.objs.size)
  refine wpAny_pyIter_list (items := vals) ⟨o, ho, hc, nn, hdt⟩ (h _ _ _ _ _ _ g (Heap.get?_none_of_le (Nat.le_refl _)) {
    w := Walks.list hA s.heap.objs.size ax hne vals
    ln := hsz
    st := ⟨⟨_, Heap.get?_push_size _ rfl, rfl, rfl⟩, ⟨o, Heap.get?_push_of_some _ ho, hc, nn, hdt⟩⟩
    fpH := fun c hc' hn => ?_
    rd := fun i v d hv hd => ?_
    newH := fun q => ?_
    newT := fr.2
    newG := fr.1
    obj := fun i h' st => ?_
    ex := fun i h' st c hc' => ?_ })
  · simp at hc'; rcases hc' with rfl | rfl
    · exact absurd rfl hn
    · exact hnH
  · obtain ⟨v', hv', rv⟩ := rl.get hd
    have : v' = v := by
      have hv2 : vals.toList[i]? = some v := by simpa using hv
      rw [hv'] at hv2; exact Option.some.inj hv2
    subst this
    exact rv.mono (view_new _)
  · obtain ⟨o', e', _⟩ := hH _ q; exact absurd (Heap.lt_size e') (Nat.lt_irrefl _)
  · obtain ⟨⟨oi, hoi, hci, hdi⟩, _⟩ := st
    exact ⟨oi, hoi, notCode_int (i := i) (t := 0) hdi rfl, _, _, hci, hdi, by decide⟩
  · obtain ⟨⟨oi, hoi, hci, hdi⟩, ol, hol, _⟩ := st
    simp at hc'; rcases hc' with rfl | rfl
    · exact ⟨_, hoi⟩
    · exact ⟨_, hol⟩

/-- over a list, from behind -/
theorem iter_rev {H : List Addr} {A : Around} {s : Shared} {ax : Addr} {ds : List PyData} (hA : A.handled = none) (b : Base G s.heap) (hT : ∀ b ∈ G.T, b ∈ H) (hH : Hid H s.heap) (r : Rd H s.heap (.ref ax) (.list ds))
    {Q : Value → Shared → Prop} (h : ∀ I h' n fp P St, Gw G s { s with heap := h' } → s.heap.get? I = none → ItOk G A H ds.reverse I h' n fp P St → wpAny (model G.prog G.w) A (pyIter (.ref I)) Q (fun _ _ => False) { s with heap := h' }) : wpAny (model G.prog G.w) A (call (.type "reversed") [.ref ax]) (fun v s' => wpAny (model G.prog G.w) A (pyIter v) Q (fun _ _ => False) s') (fun _ _ => False) s := by
  obtain ⟨ad, o, vals, nn, e, ho, hnH, hc, hdt, rl⟩ := Rd.list r
  cases e
  have hsz : vals.size = ds.length := by rw [← rl.length]; simp
  have g : Gw G s { s with heap := s.heap.push (revObj ax ((vals.size : Int) - 1)) } := Gw.push b _
  have hne : ax ≠ s.heap.objs.size := Nat.ne_of_lt (Heap.lt_size ho)
  have fr := b.fresh (Nat.le_refl s.heap.objs.size)
  have st0 : (s.heap.push (revObj ax ((vals.size : Int) - 1))).IsRevIter s.heap.objs.size ax ((vals.size : Int) - 1 - ((0 : Nat) : Int)) := ⟨_, Heap.get?_push_size _ rfl, rfl, by simp [revObj]⟩
  refine call_reversed_list (items := vals) ⟨o, ho, hc, nn, hdt⟩ (h _ _ _ _ _ _ g (Heap.get?_none_of_le (Nat.le_refl _)) {
    w := Walks.listRev hA s.heap.objs.size ax hne vals
    ln := by simp [hsz]
    st := ⟨Nat.zero_le _, st0, ⟨o, Heap.get?_push_of_some _ ho, hc, nn, hdt⟩⟩
    fpH := fun c hc' hn => ?_
    rd := fun i v d hv hd => ?_
    newH := fun q => ?_
    newT := fr.2
    newG := fr.1
    obj := fun i h' st => ?_
    ex := fun i h' st c hc' => ?_ })
  · simp at hc'; rcases hc' with rfl | rfl
    · exact absurd rfl hn
    · exact hnH
  · have hlt : i < ds.reverse.length := (List.getElem?_eq_some_iff.mp hd).1
    simp at hlt
    have hd' : ds[ds.length - 1 - i]? = some d := by
      rw [List.getElem?_reverse (by simpa using hlt)] at hd
      simpa using hd
    obtain ⟨v', hv', rv⟩ := rl.get hd'
    have : v' = v := by
      have hv2 : vals.toList[vals.size - 1 - i]? = some v := by simpa using hv
      rw [hsz, hv'] at hv2; exact Option.some.inj hv2
    subst this
    exact rv.mono (view_new _)
  · obtain ⟨o', e', _⟩ := hH _ q; exact absurd (Heap.lt_size e') (Nat.lt_irrefl _)
  · obtain ⟨_, ⟨oi, hoi, hci, hdi⟩, _⟩ := st
    exact ⟨oi, hoi, notCode_int (i := (vals.size : Int) - 1 - (i : Int)) (t := 0) hdi rfl, _, _, hci, hdi, by decide⟩
  · obtain ⟨_, ⟨oi, hoi, hci, hdi⟩, ol, hol, _⟩ := st
    simp at hc'; rcases hc' with rfl | rfl
    · exact ⟨_, hoi⟩
    · exact ⟨_, hol⟩

theorem upFrom_get : ∀ (n : Nat) (a : Int) (i : Nat) (d : PyData), (upFrom a n)[i]? = some d → d = .int (a + i) := by
  intro n
  induction n with
  | zero => intro a i d h; simp [upFrom] at h
  | succ n ih =>
    intro a i d h
    cases i with
    | zero => simp [upFrom] at h; simp [h]
    | succ i =>
      simp [upFrom] at h
      have := ih _ _ _ h
      rw [this]; congr 1; omega
theorem upFrom_length : ∀ (n : Nat) (a : Int), (upFrom a n).length = n := by
  intro n
  induction n with
  | zero => intro a; rfl
  | succ n ih => intro a; simp [upFrom, ih]

/-- over a range by ones -/
theorem iter_range {H : List Addr} {A : Around} {s : Shared} {r : Addr} {a b : Int} {t u v : Tok} (hA : A.handled = none) (bs : Base G s.heap) (hH : Hid H s.heap) (hr : IsRange s.heap r a b 1 t u v) (h1 : -1048576 < a) (h2 : a < 1048576) (h3 : -1048577 < b) (h4 : b < 1048577)
    {Q : Value → Shared → Prop} (h : ∀ I h' n fp P St, Gw G s { s with heap := h' } → s.heap.get? I = none → ItOk G A H (upFrom a (b - a).toNat) I h' n fp P St → Q (.ref I) { s with heap := h' }) : wpAny (model G.prog G.w) A (pyIter (.ref r)) Q (fun _ _ => False) s := by
  have fr := bs.fresh (Nat.le_refl s.heap.objs.size)
  have hsz : Builtin.Range.rangeSize a b 1 = (((b - a).toNat : Nat) : Int) := by rw [rangeSize_one]; split <;> omega
  refine wpAny_pyIter_range hr (small_one (by omega) (by omega) (by omega) (by omega)) (h _ _ _ _ _ _ (Gw.push bs _) (Heap.get?_none_of_le (Nat.le_refl _)) {
    w := Walks.range hA s.heap.objs.size a 1 (b - a).toNat
    ln := (upFrom_length (b - a).toNat a).symm
    st := ?_
    fpH := fun c hc' hn => absurd (by simpa using hc') hn
    rd := fun i v d hv hd => ?_
    newH := fun q => ?_
    newT := fr.2
    newG := fr.1
    obj := fun i h' st => ?_
    ex := fun i h' st c hc' => ?_ })
  · show IsRangeIter _ _ _ _ _
    rw [hsz]
    have e1 : a + ((0 : Nat) : Int) * 1 = a := by simp
    have e2 : (((b - a).toNat : Nat) : Int) - ((0 : Nat) : Int) = ((b - a).toNat : Int) := by simp
    rw [e1, e2]
    exact Heap.get?_push_size _ rfl
  · obtain ⟨t, rfl⟩ := hv
    rw [upFrom_get _ _ _ _ hd]
    have : a + (i : Int) * 1 = a + i := by omega
    rw [this]
    exact Rd.ofInt _ _
  · obtain ⟨o', e', _⟩ := hH _ q; exact absurd (Heap.lt_size e') (Nat.lt_irrefl _)
  · exact ⟨_, st, notCode_int (i := _) (t := 0) rfl rfl, _, _, rfl, rfl, by decide⟩
  · simp at hc'; subst hc'; exact ⟨_, st⟩
end
end Mine

/-! SB10 -/
namespace Mine
open PySem PySem.W PyProof.Rows PySem.Calls PySem.Spec PySem.SeqAt

section
variable {G : Gr} {fa : Nat → Addr} {Φ : Phi} {k : Nat} {vs : List Str} {sc : Fc}

noncomputable def IterOk (G : Gr) (Φ : Phi) (k : Nat) (vs : List Str) (sc : Fc) (it : It) (i1 i2 : X) (e : Expr) : Prop :=
  ∀ (H : List Addr) (A : Around) (env : Env) (ρ : Env') (s : Shared) (ds : List PyData) (Q : Value → Shared → Prop), Cx G vs sc k H A env ρ s → iterOf it (evalX Φ i1 ρ) (evalX Φ i2 ρ) = some ds →
    (∀ I s₂ n fp P St, Gw G s s₂ → s.heap.get? I = none → ItOk G A H ds I s₂.heap n fp P St → Q (.ref I) s₂) →
    wpAny (model G.prog G.w) A (eval e env) (fun x s₁ => wpAny (model G.prog G.w) A (pyIter x) Q (fun _ _ => False) s₁) (fun _ _ => False) s

theorem ext_none {s s₁ : Shared} (g : Gw G s s₁) {I : Addr} (h : s₁.heap.get? I = none) : s.heap.get? I = none := by
  cases q : s.heap.get? I with
  | none => rfl
  | some o =>
    by_cases hT : I ∈ G.T
    · obtain ⟨r, hr, rfl⟩ := List.mem_map.mp hT
      obtain ⟨ps, h1, _⟩ := g.base.tabs r hr
      rw [h] at h1; cases h1
    · rw [g.ext I o hT q] at h; cases h

theorem iterOf_seq {a b : Option EV} {ds : List PyData} (h : iterOf .seq a b = some ds) : a = some (.dat (.list ds)) := by
  cases a with
  | none => simp [iterOf] at h
  | some ev => cases ev with
    | dat d => cases d <;> simp [iterOf] at h <;> rw [h]
    | _ => simp [iterOf] at h
theorem iterOf_rev {a b : Option EV} {ds : List PyData} (h : iterOf .rev a b = some ds) : ∃ es, a = some (.dat (.list es)) ∧ ds = es.reverse := by
  cases a with
  | none => simp [iterOf] at h
  | some ev => cases ev with
    | dat d => cases d <;> simp [iterOf] at h <;> exact ⟨_, rfl, h.symm⟩
    | _ => simp [iterOf] at h
theorem iterOf_r1 {a b : Option EV} {ds : List PyData} (h : iterOf .r1 a b = some ds) : ∃ n, a = some (.dat (.int n)) ∧ n < 1048576 ∧ -1048576 < n ∧ ds = upFrom 0 n.toNat := by
  cases a with
  | none => simp [iterOf] at h
  | some ev => cases ev with
    | dat d => cases d <;> simp [iterOf] at h <;> exact ⟨_, rfl, h.1.1, h.1.2, h.2.symm⟩
    | _ => simp [iterOf] at h
theorem iterOf_r2 {a b : Option EV} {ds : List PyData} (h : iterOf .r2 a b = some ds) : ∃ m n, a = some (.dat (.int m)) ∧ b = some (.dat (.int n)) ∧ n < 1048576 ∧ -1048576 < n ∧ m < 1048576 ∧ -1048576 < m ∧ ds = upFrom m (n - m).toNat := by
  cases a with
  | none => simp [iterOf] at h
  | some ev => cases ev with
    | dat d => cases d with
      | int m => cases b with
        | none => simp [iterOf] at h
        | some ev => cases ev with
          | dat d => cases d <;> simp [iterOf] at h <;> exact ⟨_, _, rfl, rfl, h.1.1, h.1.2.1, h.1.2.2.1, h.1.2.2.2, h.2.symm⟩
          | _ => simp [iterOf] at h
      | _ => simp [iterOf] at h
    | _ => simp [iterOf] at h

theorem it_seq {a : X} {e : Expr} (ha : EvOk G Φ k vs sc a e) : IterOk G Φ k vs sc .seq a .nil e := by
  intro H A env ρ s ds Q cx he hQ
  refine (ha H A env ρ s _ cx (iterOf_seq he)).mono fun v s₁ zz1 => have g := zz1.1; have r := zz1.2; ?_
  obtain ⟨ad, o, vals, nn, rfl, _⟩ := Rd.list r
  exact iter_list cx.a.hand g.base cx.h (hx_ext cx.hx g) r fun I h' n fp P St g' hI it => hQ I _ n fp P St (g.trans g') (ext_none g hI) it

theorem it_rev (hG : GOk G fa) {a : X} {e : Expr} {p pos : Pos} (hx : kcls (sc.names.lookup (Str.ofString "reversed")) = 3) (h : EvAll G Φ k vs sc [a] [e]) : IterOk G Φ k vs sc .rev a .nil (.Call (.Name (Str.ofString "reversed") p) [e] [] pos) := by
  intro H A env ρ s ds Q cx he hQ
  obtain ⟨es, ea, rfl⟩ := iterOf_rev he
  refine call_ty hG (id := "reversed") hx (by simp [bnames]) (by decide) h (evs := [.dat (.list es)]) cx ⟨ea, trivial⟩ fun vals s₁ g r => ?_
  obtain ⟨v, rfl, q1⟩ := r.one
  obtain ⟨ad, o, vals, nn, rfl, _⟩ := Rd.list q1
  refine iter_rev cx.a.hand g.base cx.h (hx_ext cx.hx g) q1 fun I h' n fp P St g' hI it => ?_
  exact it.w.self 0 _ _ _ it.st (hQ I _ n fp P St (g.trans g') (ext_none g hI) it)

theorem it_r1 (hG : GOk G fa) {a : X} {e : Expr} {p pos : Pos} (hx : kcls (sc.names.lookup (Str.ofString "range")) = 3) (h : EvAll G Φ k vs sc [a] [e]) : IterOk G Φ k vs sc .r1 a .nil (.Call (.Name (Str.ofString "range") p) [e] [] pos) := by
  intro H A env ρ s ds Q cx he hQ
  obtain ⟨n, ea, h1, h2, rfl⟩ := iterOf_r1 he
  refine call_ty hG (id := "range") hx (by simp [bnames]) (by decide) h (evs := [.dat (.int n)]) cx ⟨ea, trivial⟩ fun vals s₁ g r => ?_
  obtain ⟨v, rfl, q1⟩ := r.one
  obtain ⟨t, rfl⟩ := Rd.int q1
  refine call_range_1 ?_
  have g1 := g.trans (Gw.heapTok (h' := s₁.heap.push { cls := .type "range", data := .fields #[.int 0 s₁.toks, .int n t, .int 1 (s₁.toks + 1)] }) g.base (fun _ _ e => Heap.get?_push_of_some _ e) (s₁.toks + 1 + 1))
  refine iter_range cx.a.hand g1.base (hx_ext cx.hx g1) (IsRange.new ..) (by omega) (by omega) (by omega) (by omega) fun I h' n' fp P St g' hI it => ?_
  exact hQ I _ n' fp P St (g1.trans g') (ext_none g1 hI) (by simpa using it)

theorem it_r2 (hG : GOk G fa) {a b : X} {e m : Expr} {p pos : Pos} (hx : kcls (sc.names.lookup (Str.ofString "range")) = 3) (h : EvAll G Φ k vs sc [a, b] [e, m]) : IterOk G Φ k vs sc .r2 a b (.Call (.Name (Str.ofString "range") p) [e, m] [] pos) := by
  intro H A env ρ s ds Q cx he hQ
  obtain ⟨i, j, ea, eb, h1, h2, h3, h4, rfl⟩ := iterOf_r2 he
  refine call_ty hG (id := "range") hx (by simp [bnames]) (by decide) h (evs := [.dat (.int i), .dat (.int j)]) cx ⟨ea, eb, trivial⟩ fun vals s₁ g r => ?_
  obtain ⟨v, u, rfl, q1, q2⟩ := r.two
  obtain ⟨t, rfl⟩ := Rd.int q1
  obtain ⟨t', rfl⟩ := Rd.int q2
  refine call_range_2 ?_
  have g1 := g.trans (Gw.heapTok (h' := s₁.heap.push { cls := .type "range", data := .fields #[.int i t, .int j t', .int 1 s₁.toks] }) g.base (fun _ _ e => Heap.get?_push_of_some _ e) (s₁.toks + 1))
  exact iter_range cx.a.hand g1.base (hx_ext cx.hx g1) (IsRange.new ..) (by omega) (by omega) (by omega) (by omega) fun I h' n' fp P St g' hI it => hQ I _ n' fp P St (g1.trans g') (ext_none g1 hI) it
end
end Mine

/-! SB11 -/
namespace Mine
open PySem PySem.W PyProof.Rows PySem.Calls PySem.Spec PySem.SeqAt

theorem view_same {H : List Addr} {h h' : Heap} {a : Addr} (s : Heap.SameBut a h h') (ha : a ∈ H) : ∀ b o, (hideAll h H).get? b = some o → (hideAll h' H).get? b = some o := by
  intro b o e
  have hb : b ∉ H := fun q => by rw [hideAll_none H q] at e; cases e
  exact hideAll_get _ (s.extBut b o (fun z => hb (z ▸ ha)) (of_hideAll _ e)) hb
theorem ns_uniq {h : Heap} {a : Addr} {m m' : Str → Option Value} (x : h.Ns a m) (y : h.Ns a m') : m = m' := by
  obtain ⟨o, es, ep, e, d, _, f⟩ := x
  obtain ⟨o', es', ep', e', d', _, f'⟩ := y
  rw [e] at e'; cases e'
  rw [d] at d'; cases d'
  funext n; rw [← f, ← f']
theorem ns_notCode {h : Heap} {a : Addr} {m : Str → Option Value} (x : h.Ns a m) : ∃ o, h.get? a = some o ∧ NotCode o := by
  obtain ⟨o, es, ep, e, d, _⟩ := x
  exact ⟨o, e, fun vs q t e1 _ => by rw [d] at e1; cases e1⟩
theorem cell_notCode {h : Heap} {a : Addr} {v : Option Value} (x : h.IsCell a v) : ∃ o, h.get? a = some o ∧ NotCode o := by
  obtain ⟨o, e, d⟩ := x
  exact ⟨o, e, fun vs q t e1 _ => by rw [d] at e1; cases e1⟩
theorem hid_same {H : List Addr} {h h' : Heap} {a : Addr} (x : Hid H h) (s : Heap.SameBut a h h') (ha : ∃ o, h'.get? a = some o ∧ NotCode o) : Hid H h' := by
  intro b hb
  by_cases q : b = a
  · subst q; exact ha
  · obtain ⟨o, e, n⟩ := x b hb; exact ⟨o, s.extBut b o q e, n⟩
theorem kcls1 {o : Option NameKind} (h : kcls o = 1) : o = some .local := by
  cases o with
  | none => cases h
  | some q => cases q <;> first | rfl | cases h

theorem set_get {ρ : Env'} {i j : Nat} {ev ev' : EV} (h : (ρ.set i (some ev))[j]? = some (some ev')) : (i = j ∧ ev' = ev) ∨ (i ≠ j ∧ ρ[j]? = some (some ev')) := by
  by_cases q : i = j
  · subst q
    rw [List.getElem?_set_self'] at h
    cases e : ρ[i]? with
    | none => rw [e] at h; cases h
    | some o => rw [e] at h; simp at h; exact .inl ⟨rfl, h.symm⟩
  · rw [List.getElem?_set_ne q] at h
    exact .inr ⟨q, h⟩
theorem nodup_ne {vs : List Str} (nd : vs.Nodup) {i j : Nat} {x y : Str} (hi : vs[i]? = some x) (hj : vs[j]? = some y) (h : i ≠ j) : y ≠ x := by
  intro q
  subst q
  obtain ⟨h1, e1⟩ := List.getElem?_eq_some_iff.mp hi
  obtain ⟨h2, e2⟩ := List.getElem?_eq_some_iff.mp hj
  exact h ((List.getElem_inj nd).mp (e1.trans e2.symm))

section
variable {G : Gr} {fa : Nat → Addr} {Φ : Phi} {k : Nat} {vs : List Str} {sc : Fc}

theorem st_local {H : List Addr} {A : Around} {env : Env} {ρ : Env'} {s : Shared} (cx : Cx G vs sc k H A env ρ s) (ml : Mut G s.heap env.locals) (lH : env.locals ∈ H) (nd : vs.Nodup) {x : Str} {i : Nat} {v : Value} {ev : EV}
    (hl : env.kindOf x = some .local) (hi : vs[i]? = some x) (r : RdE G.C H s.heap v ev) {Q : Unit → Shared → Prop} {E : Value → Shared → Prop}
    (h : ∀ h', Heap.SameBut env.locals s.heap h' → Mut G h' env.locals → Var h' env x v → (∀ y u, y ≠ x → Var s.heap env y u → Var h' env y u) → Cx G vs sc k H A env (ρ.set i (some ev)) { s with heap := h', toks := s.toks + 1 } → Q () { s with heap := h', toks := s.toks + 1 }) :
    wpAny (model G.prog G.w) A (storeName env x v) Q E s := by
  obtain ⟨m, hm⟩ := cx.e.ns
  refine wpAny_storeName_local hl hm (fun h' hn hs => ?_) (by rw [cx.e.kind]; rfl)
  have hself : Var h' env x v := .inl ⟨hl, _, hn, by simp⟩
  have hoth : ∀ y u, y ≠ x → Var s.heap env y u → Var h' env y u := by
    intro y u hyx hu
    rcases hu with ⟨k1, m', k2, k3⟩ | ⟨k1, c, k2, k3⟩
    · rw [ns_uniq k2 hm] at k3
      exact .inl ⟨k1, _, hn, by rw [if_neg hyx]; exact k3⟩
    · refine .inr ⟨k1, c, k2, k3.sameBut hs fun z => ?_⟩
      obtain ⟨o, e1, e2⟩ := k3
      obtain ⟨o', es, ep, e1', e2', _⟩ := hm
      rw [z, e1'] at e1; cases e1
      rw [e2'] at e2; cases e2
  refine h h' hs ⟨ml.new, ml.notT, ns_notCode hn⟩ hself hoth ?_
  have up := view_same hs lH
  exact {
    a := cx.a
    e := ⟨cx.e.kind, cx.e.glob, cx.e.blt, cx.e.loc, ⟨_, hn⟩, cx.e.cel, cx.e.has⟩
    sk := cx.sk
    cd := cx.cd
    ql := cx.ql
    b := cx.b.same ml hs
    h := cx.h
    hx := hid_same cx.hx hs (ns_notCode hn)
    v := fun j y ev' h1 h2 h3 => by
      rcases set_get h2 with ⟨rfl, rfl⟩ | ⟨hne, h2⟩
      · rw [hi] at h1; cases h1
        exact ⟨v, hself, r.mono up⟩
      · obtain ⟨u, hu, ru⟩ := cx.v j y ev' h1 h2 h3
        exact ⟨u, hoth y u (nodup_ne nd hi h1 hne) hu, ru.mono up⟩ }

theorem st_cell {H : List Addr} {A : Around} {env : Env} {ρ : Env'} {s : Shared} (cx : Cx G vs sc k H A env ρ s) {x : Str} {c : Addr} {v₀ : Option Value} (hk : env.kindOf x = some .cell) (hc : env.cells.lookup x = some c) (hv : s.heap.IsCell c v₀)
    (mc : Mut G s.heap c) (cH : c ∈ H) (ap : ∀ y, env.cells.lookup y = some c → y = x) (nd : vs.Nodup) {i : Nat} {v : Value} {ev : EV} (hi : vs[i]? = some x) (r : RdE G.C H s.heap v ev) {Q : Unit → Shared → Prop} {E : Value → Shared → Prop}
    (h : ∀ h', Heap.SameBut c s.heap h' → Mut G h' c → h'.IsCell c (some v) → Var h' env x v → (∀ y u, y ≠ x → Var s.heap env y u → Var h' env y u) → Cx G vs sc k H A env (ρ.set i (some ev)) { s with heap := h' } → Q () { s with heap := h' }) : wpAny (model G.prog G.w) A (storeName env x v) Q E s := by
  obtain ⟨m, hm⟩ := cx.e.ns
  have hcl : env.locals ≠ c := fun z => by
    obtain ⟨o, e1, e2⟩ := hv
    obtain ⟨o', es, ep, e1', e2', _⟩ := hm
    rw [← z, e1'] at e1; cases e1
    rw [e2'] at e2; cases e2
  refine wpAny_storeName_cell cx.e.kind hk hc hv fun h' hn hs => ?_
  have hself : Var h' env x v := .inr ⟨by rw [hk]; rfl, c, hc, hn⟩
  have hoth : ∀ y u, y ≠ x → Var s.heap env y u → Var h' env y u := by
    intro y u hyx hu
    rcases hu with ⟨k1, m', k2, k3⟩ | ⟨k1, c', k2, k3⟩
    · exact .inl ⟨k1, m', k2.sameBut hs hcl, k3⟩
    · exact .inr ⟨k1, c', k2, k3.sameBut hs fun z => hyx (ap y (z ▸ k2))⟩
  refine h h' hs ⟨mc.new, mc.notT, cell_notCode hn⟩ hn hself hoth ?_
  have up := view_same hs cH
  exact {
    a := cx.a
    e := ⟨cx.e.kind, cx.e.glob, cx.e.blt, cx.e.loc, ⟨m, hm.sameBut hs hcl⟩, cx.e.cel, cx.e.has⟩
    sk := cx.sk
    cd := cx.cd
    ql := cx.ql
    b := cx.b.same mc hs
    h := cx.h
    hx := hid_same cx.hx hs (cell_notCode hn)
    v := fun j y ev' h1 h2 h3 => by
      rcases set_get h2 with ⟨rfl, rfl⟩ | ⟨hne, h2⟩
      · rw [hi] at h1; cases h1
        exact ⟨v, hself, r.mono up⟩
      · obtain ⟨u, hu, ru⟩ := cx.v j y ev' h1 h2 h3
        exact ⟨u, hoth y u (nodup_ne nd hi h1 hne) hu, ru.mono up⟩ }

/-- the names that a frame keeps; what a closure takes of them -/
noncomputable def cloOf (env : Env) : List (Str × NameKind) → List (Str × Addr) → List (Str × Addr)
  | [], acc => acc
  | (n, kd) :: r, acc => if kd == .free then (match env.cells.lookup n with | some c => cloOf env r ((n, c) :: acc) | none => cloOf env r acc) else cloOf env r acc
theorem forIn_clo {env : Env} (f : Str × NameKind → List (Str × Addr) → Sem (ForInStep (List (Str × Addr))))
    (hf : ∀ n kd acc, f (n, kd) acc = if kd == .free then (do let c ← cellOf env n; pure (.yield ((n, c) :: acc))) else pure (.yield acc)) :
    ∀ (names : List (Str × NameKind)), (∀ n, (n, NameKind.free) ∈ names → (env.cells.lookup n).isSome = true) → ∀ acc, forIn names acc f = pure (cloOf env names acc) := by
  intro names
  induction names with
  | nil => intro _ acc; simp [cloOf]
  | cons p r ih =>
    obtain ⟨n, kd⟩ := p
    intro h acc
    have hr : ∀ n, (n, NameKind.free) ∈ r → (env.cells.lookup n).isSome = true := fun n hm => h n (List.mem_cons_of_mem _ hm)
    rw [List.forIn_cons, hf]
    by_cases q : kd = .free
    · subst q
      obtain ⟨c, hc⟩ := Option.isSome_iff_exists.mp (h n (List.mem_cons_self ..))
      simp only [beq_self_eq_true, if_true, cellOf, hc, pure_bind, cloOf]
      exact ih hr _
    · have : (kd == NameKind.free) = false := by simpa using q
      simp only [this, Bool.false_eq_true, if_false, pure_bind, cloOf]
      exact ih hr _
theorem closureFor_clo {env : Env} {scope : Scope} (h : ∀ n, (n, NameKind.free) ∈ scope.names → (env.cells.lookup n).isSome = true) : closureFor scope env = pure (cloOf env scope.names []) := by
  unfold closureFor
  dsimp only
  rw [forIn_clo (env := env) _ (fun n kd acc => rfl) scope.names h []]
  rfl
theorem clo_sound {env : Env} : ∀ (names : List (Str × NameKind)) (acc : List (Str × Addr)), (∀ n c, acc.lookup n = some c → env.cells.lookup n = some c) → ∀ n c, (cloOf env names acc).lookup n = some c → env.cells.lookup n = some c := by
  intro names
  induction names with
  | nil => intro acc h; exact h
  | cons p r ih =>
    obtain ⟨n, kd⟩ := p
    intro acc h
    simp only [cloOf]
    split
    · cases e : env.cells.lookup n with
      | none => exact ih acc h
      | some c =>
        refine ih _ fun m c' hm => ?_
        rw [List.lookup_cons] at hm
        split at hm
        · rename_i q; cases hm; rw [eq_of_beq q]; exact e
        · exact h m c' hm
    · exact ih acc h
theorem clo_mono {env : Env} : ∀ (names : List (Str × NameKind)) (acc : List (Str × Addr)) (n : Str), (acc.lookup n).isSome = true → ((cloOf env names acc).lookup n).isSome = true := by
  intro names
  induction names with
  | nil => intro acc n h; exact h
  | cons p r ih =>
    obtain ⟨n', kd⟩ := p
    intro acc n h
    simp only [cloOf]
    split
    · cases e : env.cells.lookup n' with
      | none => exact ih acc n h
      | some c =>
        refine ih _ n ?_
        rw [List.lookup_cons]
        split
        · rfl
        · exact h
    · exact ih acc n h
theorem clo_has {env : Env} : ∀ (names : List (Str × NameKind)) (acc : List (Str × Addr)) (n : Str), (n, NameKind.free) ∈ names → (env.cells.lookup n).isSome = true → ((cloOf env names acc).lookup n).isSome = true := by
  intro names
  induction names with
  | nil => intro acc n h; cases h
  | cons p r ih =>
    obtain ⟨n', kd⟩ := p
    intro acc n h hc
    simp only [cloOf]
    rcases List.mem_cons.mp h with q | q
    · cases q
      obtain ⟨c, e⟩ := Option.isSome_iff_exists.mp hc
      simp only [beq_self_eq_true, if_true, e]
      exact clo_mono r _ _ (by rw [List.lookup_cons]; simp)
    · split
      · cases e : env.cells.lookup n' with
        | none => exact ih acc n q hc
        | some c => exact ih _ n q hc
      · exact ih acc n q hc
end
end Mine

/-! SB12 -/
namespace Mine
open PySem PySem.W PyProof.Rows PySem.Calls PySem.Spec PySem.SeqAt

/-- all stays but what is named -/
noncomputable def Gs (G : Gr) (X : List Addr) (s s' : Shared) : Prop := ∃ h' tk, s' = { s with heap := h', toks := tk } ∧ (∀ b o, b ∉ X → s.heap.get? b = some o → h'.get? b = some o) ∧ Base G h'
theorem Gs.keep {G : Gr} {X : List Addr} {s s' : Shared} (x : Gs G X s s') : ∀ b o, b ∉ X → s.heap.get? b = some o → s'.heap.get? b = some o := by obtain ⟨h', tk, rfl, k, _⟩ := x; exact k
theorem Gs.base {G : Gr} {X : List Addr} {s s' : Shared} (x : Gs G X s s') : Base G s'.heap := by obtain ⟨h', tk, rfl, _, b⟩ := x; exact b
theorem Gs.trans {G : Gr} {X : List Addr} {s s' s'' : Shared} (x : Gs G X s s') (y : Gs G X s' s'') : Gs G X s s'' := by
  obtain ⟨h', tk, rfl, e, _⟩ := x
  obtain ⟨h'', tk', rfl, e', b'⟩ := y
  exact ⟨h'', tk', rfl, fun b o hb q => e' b o hb (e b o hb q), b'⟩
theorem Gs.mono {G : Gr} {X Y : List Addr} {s s' : Shared} (x : Gs G X s s') (h : ∀ b ∈ X, b ∈ Y) : Gs G Y s s' := by
  obtain ⟨h', tk, rfl, e, b⟩ := x
  exact ⟨h', tk, rfl, fun a o ha q => e a o (fun z => ha (h a z)) q, b⟩
theorem Gw.gs {G : Gr} {X : List Addr} {s s' : Shared} (x : Gw G s s') (h : ∀ b ∈ G.T, b ∈ X) : Gs G X s s' := by
  obtain ⟨h', tk, rfl, e, b⟩ := x
  exact ⟨h', tk, rfl, fun a o ha q => e a o (fun z => ha (h a z)) q, b⟩
theorem Gs.refl {G : Gr} {X : List Addr} {s : Shared} (b : Base G s.heap) : Gs G X s s := ⟨s.heap, s.toks, rfl, fun _ _ _ e => e, b⟩

/-- a target, with its names of the frame's own -/
noncomputable def TgIs (vs : List Str) (kind : Str → Option NameKind) : Tg → Expr → Prop
  | .one i, e => ∃ id pos, e = .Name id pos ∧ vs[i]? = some id ∧ kind id = some .local
  | .two i j, e => ∃ a b p1 p2 kk pos, e = .Tuple [.Name a p1, .Name b p2] kk pos ∧ vs[i]? = some a ∧ vs[j]? = some b ∧ kind a = some .local ∧ kind b = some .local

theorem bindT_two {i j : Nat} {d : PyData} {ρ ρ' : Env'} (h : bindT (.two i j) d ρ = some ρ') : ∃ x y, d = .tuple [x, y] ∧ ρ' = (ρ.set i (some (.dat x))).set j (some (.dat y)) := by
  cases d with
  | tuple xs =>
    match xs with
    | [] => cases h
    | [_] => cases h
    | [a, b] => simp only [bindT, Option.some.injEq] at h; exact ⟨a, b, rfl, h.symm⟩
    | _ :: _ :: _ :: _ => cases h
  | _ => cases h

section
variable {G : Gr} {fa : Nat → Addr} {Φ : Phi} {k : Nat} {vs : List Str} {sc : Fc}

theorem asg_local {H : List Addr} {A : Around} {env : Env} {ρ ρ' : Env'} {s : Shared} (cx : Cx G vs sc k H A env ρ s) (ml : Mut G s.heap env.locals) (lH : env.locals ∈ H) (nd : vs.Nodup) {tg : Tg} {target : Expr} {v : Value} {d : PyData}
    (ht : TgIs vs env.kindOf tg target) (hb : bindT tg d ρ = some ρ') (r : Rd H s.heap v d) {Q : Unit → Shared → Prop} {E : Value → Shared → Prop}
    (h : ∀ s', Gs G (env.locals :: G.T) s s' → Mut G s'.heap env.locals → Cx G vs sc k H A env ρ' s' → Q () s') : wpAny (model G.prog G.w) A (assign target env v) Q E s := by
  cases tg with
  | one i =>
    obtain ⟨id, pos, rfl, h1, h2⟩ := ht
    simp only [bindT, Option.some.injEq] at hb
    subst hb
    refine wpAny_assign_Name (st_local cx ml lH nd h2 h1 (ev := .dat d) r fun h' hs ml' _ _ cx' => h _ ⟨h', _, rfl, fun b o hn e => hs.extBut b o (fun z => hn (z ▸ List.mem_cons_self ..)) e, cx'.b⟩ ml' cx')
  | two i j =>
    obtain ⟨a, b, p1, p2, kk, pos, rfl, h1, h2, h3, h4⟩ := ht
    obtain ⟨x, y, rfl, rfl⟩ := bindT_two hb
    obtain ⟨ad, o, vals, nn, rfl, ho, hnH, hc, hdt, rl⟩ := Rd.tuple r
    obtain ⟨u, us, hu, ru, rus⟩ := rl.cons_inv
    obtain ⟨w, ws, hw, rw_, rws⟩ := rus.cons_inv
    have hws := rws.nil_inv
    subst hws hw
    have hsz : vals.size = 2 := by rw [← Array.length_toList, hu]; rfl
    refine wpAny_assign_Tuple (items := vals) cx.a.hand ⟨o, ho, hc, nn, hdt⟩ (by rw [hsz]; rfl) rfl fun h₁ hx₁ => ?_
    have hk₁ : ∀ b o, s.heap.get? b = some o → h₁.get? b = some o := fun b o e => hx₁ b o (Nat.ne_of_lt (Heap.lt_size e)) e
    have g1 : Gw G s { s with heap := h₁ } := Gw.heapTok cx.b hk₁ s.toks
    have cx1 := cx.step g1
    have ml1 : Mut G h₁ env.locals := ⟨ml.new, ml.notT, let ⟨o, e, n⟩ := ml.obj; ⟨o, hk₁ _ _ e, n⟩⟩
    rw [hu]
    show wpAny _ A (assignInOrder [assign (.Name a p1) env, assign (.Name b p2) env] [u, w]) _ _ _
    unfold assignInOrder
    refine wpAny_bind (wpAny_holding (wpAny_assign_Name (st_local cx1 ml1 lH nd h3 h1 (ev := .dat x) (Rd.ext (G := G) (s := s) ru g1 cx.h) fun h₂ hs₂ ml₂ _ _ cx₂ => ?_)))
    unfold assignInOrder
    refine wpAny_bind (wpAny_holding (wpAny_assign_Name (st_local cx₂ ml₂ lH nd h4 h2 (ev := .dat y) ?_ fun h₃ hs₃ ml₃ _ _ cx₃ => ?_)))
    · exact Rd.mono (view_same hs₂ lH) (Rd.ext (G := G) (s := s) rw_ g1 cx.h)
    · unfold assignInOrder
      refine wpAny_pure (h _ ⟨h₃, _, rfl, fun b o hn e => ?_, cx₃.b⟩ ml₃ cx₃)
      have hbl : b ≠ env.locals := fun z => hn (z ▸ List.mem_cons_self ..)
      exact hs₃.extBut b o hbl (hs₂.extBut b o hbl (hk₁ b o e))

theorem relabel_k (env : Env) : ∀ (names : List (Str × NameKind)) (x : Str),
    kcls ((names.map fun (n, kd) => if (kd == NameKind.free && env.scope.kind == .function && env.kindOf n == some .cell) then (n, NameKind.cell) else (n, kd)).lookup x) = kcls (names.lookup x) := by
  intro names
  induction names with
  | nil => intro x; rfl
  | cons p r ih =>
    obtain ⟨n, kd⟩ := p
    intro x
    simp only [List.map_cons]
    by_cases hc : (kd == NameKind.free && env.scope.kind == .function && env.kindOf n == some .cell) = true
    · rw [if_pos hc]
      have hk : kd = .free := by simp only [Bool.and_eq_true, beq_iff_eq] at hc; exact hc.1.1
      subst hk
      rw [List.lookup_cons, List.lookup_cons]
      split
      · rfl
      · exact ih x
    · rw [if_neg hc, List.lookup_cons, List.lookup_cons]
      split
      · rfl
      · exact ih x

/-- what the frame of a comprehension may hold -/
structure CompSc (vs : List Str) (sc : Fc) (scope : Scope) (tg : Tg) (target : Expr) : Prop where
  kind : scope.kind = .function
  nocell : ∀ x ∈ scope.names, x.2 ≠ .cell
  free : ∀ n, (n, NameKind.free) ∈ scope.names → kcls (sc.names.lookup n) = 2
  names : ∀ y ∈ scope.names, y.2 = .local → scope.names.lookup y.1 = some .local
  tgt : TgIs vs (scope.names.lookup ·) tg target
  only : ∀ (j : Nat) (x : Str), vs[j]? = some x → scope.names.lookup x = some .local → (match tg with | .one i => j = i | .two i i' => j = i ∨ j = i')

noncomputable def clearT (tg : Tg) (ρ : Env') : Env' := match tg with
  | .one i => ρ.set i none
  | .two i j => (ρ.set i none).set j none
theorem bind_clear {tg : Tg} {d : PyData} {ρ : Env'} : bindT tg d (clearT tg ρ) = bindT tg d ρ := by
  cases tg with
  | one i => simp [bindT, clearT]
  | two i j =>
    simp only [bindT, clearT]
    cases d <;> try rfl
    rename_i xs
    match xs with
    | [] => rfl
    | [_] => rfl
    | [a, b] =>
      simp only [Option.some.injEq]
      by_cases q : i = j
      · subst q; simp
      · rw [List.set_comm _ _ (Ne.symm q), List.set_set, List.set_set]
    | _ :: _ :: _ :: _ => rfl
end
end Mine

/-! SB13 -/
namespace Mine
open PySem PySem.W PyProof.Rows PySem.Calls PySem.Spec PySem.SeqAt

section
variable {G : Gr} {fa : Nat → Addr} {Φ : Phi} {k : Nat} {vs : List Str} {sc : Fc}

theorem plain_notCode {h : Heap} {D : Addr} {ys : Array Value} (x : h.PlainList D ys) : ∃ o, h.get? D = some o ∧ NotCode o := by
  obtain ⟨n, e⟩ := x
  exact ⟨_, e, fun vs q t e1 _ => by cases e1⟩

/-- a turn's state: the list so far at D, the comprehension's frame at C, its iterator at I; all else stays -/
structure Turn (G : Gr) (H : List Addr) (s₂ : Shared) (D C I : Addr) (St : Nat → Heap → Prop) (i : Nat) (rs : List PyData) (s' : Shared) : Prop where
  same : ∃ h' tk, s' = { s₂ with heap := h', toks := tk }
  keep : ∀ b o, b ∉ D :: C :: I :: G.T → s₂.heap.get? b = some o → s'.heap.get? b = some o
  base : Base G s'.heap
  st : St i s'.heap
  ns : ∃ m, s'.heap.Ns C m
  out : ∃ ys, s'.heap.PlainList D ys ∧ RdL (D :: C :: I :: H) s'.heap ys.toList rs

/-- what is fixed around a comprehension's loop -/
structure CompFix (G : Gr) (Φ : Phi) (k : Nat) (vs : List Str) (sc : Fc) (H : List Addr) (A : Around) (env : Env) (ρ : Env') (s s₂ : Shared) (scope : Scope) (tg : Tg) (target : Expr) (D C I : Addr) (n : Nat) (fp : List Addr) (ds : List PyData) (P : Nat → Value → Prop) (St : Nat → Heap → Prop) : Prop where
  cx : Cx G vs sc k H A env ρ s
  g : Gw G s s₂
  it : ItOk G A H ds I s₂.heap n fp P St
  noI : s.heap.get? I = none
  nd : vs.Nodup
  scp : CompSc vs sc scope tg target
  dD : s₂.heap.objs.size ≤ D
  dC : s₂.heap.objs.size ≤ C
  ne : D ≠ C

variable {H : List Addr} {A : Around} {env : Env} {ρ : Env'} {s s₂ : Shared} {scope : Scope} {tg : Tg} {target : Expr} {D C I : Addr} {n : Nat} {fp : List Addr} {ds : List PyData} {P : Nat → Value → Prop} {St : Nat → Heap → Prop}

noncomputable abbrev cenvOf (scope : Scope) (C : Addr) (env : Env) : Env := compEnvC scope (cloOf env scope.names []) C env

theorem CompFix.old (F : CompFix G Φ k vs sc H A env ρ s s₂ scope tg target D C I n fp ds P St) {b : Addr} {o : Obj} (e : s.heap.get? b = some o) (hT : b ∉ G.T) : b ∉ D :: C :: I :: G.T ∧ s₂.heap.get? b = some o := by
  have e2 := F.g.ext b o hT e
  have hlt := Heap.lt_size e2
  refine ⟨fun q => ?_, e2⟩
  rcases List.mem_cons.mp q with rfl | q
  · exact absurd hlt (Nat.not_lt.mpr F.dD)
  · rcases List.mem_cons.mp q with rfl | q
    · exact absurd hlt (Nat.not_lt.mpr F.dC)
    · rcases List.mem_cons.mp q with rfl | q
      · rw [F.noI] at e; cases e
      · exact hT q

theorem CompFix.neI (F : CompFix G Φ k vs sc H A env ρ s s₂ scope tg target D C I n fp ds P St) : I ≠ D ∧ I ≠ C := by
  obtain ⟨o, e, _⟩ := F.it.obj 0 _ F.it.st
  have hlt := Heap.lt_size e
  exact ⟨fun q => absurd hlt (Nat.not_lt.mpr (q ▸ F.dD)), fun q => absurd hlt (Nat.not_lt.mpr (q ▸ F.dC))⟩

theorem CompFix.newDC (F : CompFix G Φ k vs sc H A env ρ s s₂ scope tg target D C I n fp ds P St) : (G.g.get? D = none ∧ D ∉ G.T ∧ D ∉ H) ∧ (G.g.get? C = none ∧ C ∉ G.T ∧ C ∉ H) := by
  have hH := hx_ext F.cx.hx F.g
  have f1 := F.g.base.fresh F.dD
  have f2 := F.g.base.fresh F.dC
  refine ⟨⟨f1.1, f1.2, fun q => ?_⟩, f2.1, f2.2, fun q => ?_⟩
  · obtain ⟨o, e, _⟩ := hH _ q; exact absurd (Heap.lt_size e) (Nat.not_lt.mpr F.dD)
  · obtain ⟨o, e, _⟩ := hH _ q; exact absurd (Heap.lt_size e) (Nat.not_lt.mpr F.dC)

/-- the view at the comprehension's start holds at each turn -/
theorem CompFix.view (F : CompFix G Φ k vs sc H A env ρ s s₂ scope tg target D C I n fp ds P St) {s' : Shared} (keep : ∀ b o, b ∉ D :: C :: I :: G.T → s₂.heap.get? b = some o → s'.heap.get? b = some o) :
    ∀ b o, (hideAll s.heap H).get? b = some o → (hideAll s'.heap (D :: C :: I :: H)).get? b = some o := by
  intro b o e
  have hbH : b ∉ H := fun q => by rw [hideAll_none H q] at e; cases e
  have hbT : b ∉ G.T := fun q => hbH (F.cx.h _ q)
  obtain ⟨h1, h2⟩ := F.old (of_hideAll _ e) hbT
  refine hideAll_get _ (keep b o h1 h2) fun q => ?_
  rcases List.mem_cons.mp q with rfl | q
  · exact h1 (List.mem_cons_self ..)
  · rcases List.mem_cons.mp q with rfl | q
    · exact h1 (List.mem_cons_of_mem _ (List.mem_cons_self ..))
    · rcases List.mem_cons.mp q with rfl | q
      · exact h1 (List.mem_cons_of_mem _ (List.mem_cons_of_mem _ (List.mem_cons_self ..)))
      · exact hbH q
/-- so does the view when the iterator was made -/
theorem CompFix.view2 (F : CompFix G Φ k vs sc H A env ρ s s₂ scope tg target D C I n fp ds P St) {s' : Shared} (keep : ∀ b o, b ∉ D :: C :: I :: G.T → s₂.heap.get? b = some o → s'.heap.get? b = some o) {v : Value} {d : PyData}
    (r : Rd (I :: H) s₂.heap v d) : Rd (D :: C :: I :: H) s'.heap v d := by
  refine r.mono fun b o e => ?_
  have hbH : b ∉ I :: H := fun q => by rw [hideAll_none _ q] at e; cases e
  have e2 := of_hideAll _ e
  have hlt := Heap.lt_size e2
  have h1 : b ∉ D :: C :: I :: H := fun q => by
    rcases List.mem_cons.mp q with rfl | q
    · exact absurd hlt (Nat.not_lt.mpr F.dD)
    · rcases List.mem_cons.mp q with rfl | q
      · exact absurd hlt (Nat.not_lt.mpr F.dC)
      · exact hbH q
  refine hideAll_get _ (keep b o (fun q => h1 ?_) e2) h1
  rcases List.mem_cons.mp q with rfl | q
  · exact List.mem_cons_self ..
  · rcases List.mem_cons.mp q with rfl | q
    · exact List.mem_cons_of_mem _ (List.mem_cons_self ..)
    · rcases List.mem_cons.mp q with rfl | q
      · exact List.mem_cons_of_mem _ (List.mem_cons_of_mem _ (List.mem_cons_self ..))
      · exact List.mem_cons_of_mem _ (List.mem_cons_of_mem _ (List.mem_cons_of_mem _ (F.cx.h _ q)))

theorem lookup_free {names : List (Str × NameKind)} (hnc : ∀ x ∈ names, x.2 ≠ .cell) {x : Str} (h : kcls (names.lookup x) = 2) : (x, NameKind.free) ∈ names := by
  cases q : names.lookup x with
  | none => rw [q] at h; cases h
  | some kd =>
    have hm := mem_of_lookup q
    rw [q] at h
    cases kd with
    | cell => exact absurd rfl (hnc _ hm)
    | free => exact hm
    | _ => cases h

theorem CompFix.cenv (F : CompFix G Φ k vs sc H A env ρ s s₂ scope tg target D C I n fp ds P St) {s' : Shared} {i : Nat} {rs : List PyData} (T : Turn G H s₂ D C I St i rs s') :
    Cx G vs ⟨scope, sc.code, sc.qual⟩ k (D :: C :: I :: H) A (cenvOf scope C env) (clearT tg ρ) s' ∧ Mut G s'.heap C := by
  obtain ⟨⟨nD1, nD2, nD3⟩, nC1, nC2, nC3⟩ := F.newDC
  have hk2 : ∀ x, kcls ((cenvOf scope C env).kindOf x) = kcls (scope.names.lookup x) := fun x => relabel_k env scope.names x
  have hfree : ∀ x, kcls (scope.names.lookup x) = 2 → kcls (env.kindOf x) = 2 ∧ (x, NameKind.free) ∈ scope.names := fun x hx => by
    have hm := lookup_free F.scp.nocell hx
    exact ⟨by rw [F.cx.sk]; exact F.scp.free x hm, hm⟩
  have hcl : ∀ x c, (cloOf env scope.names []).lookup x = some c → env.cells.lookup x = some c := fun x c hc => clo_sound scope.names [] (fun _ _ h => by cases h) x c hc
  obtain ⟨m, hns⟩ := T.ns
  refine ⟨{
    a := F.cx.a
    e := ⟨F.scp.kind, F.cx.e.glob, F.cx.e.blt, nC2, ⟨m, hns⟩, fun x c hc => F.cx.e.cel x c (hcl x c hc), fun x hx => ?_⟩
    sk := hk2
    cd := F.cx.cd
    ql := F.cx.ql
    b := T.base
    h := fun b hb => List.mem_cons_of_mem _ (List.mem_cons_of_mem _ (List.mem_cons_of_mem _ (F.cx.h b hb)))
    hx := fun b hb => ?_
    v := fun j x ev h1 h2 h3 => ?_ }, ⟨nC1, nC2, ns_notCode hns⟩⟩
  · rw [hk2] at hx
    obtain ⟨h1, h2⟩ := hfree x hx
    exact clo_has scope.names [] x h2 (F.cx.e.has x h1)
  · rcases List.mem_cons.mp hb with rfl | hb
    · obtain ⟨ys, h1, _⟩ := T.out; exact plain_notCode h1
    · rcases List.mem_cons.mp hb with rfl | hb
      · exact ns_notCode hns
      · rcases List.mem_cons.mp hb with rfl | hb
        · obtain ⟨o, e, nc, _⟩ := F.it.obj i _ T.st; exact ⟨o, e, nc⟩
        · by_cases hT : b ∈ G.T
          · obtain ⟨r, hr, rfl⟩ := List.mem_map.mp hT
            obtain ⟨ps, e1, e2, _⟩ := T.base.tabs r hr
            exact ⟨_, e1, tab_notCode e2⟩
          · obtain ⟨o, e, nc⟩ := F.cx.hx b hb
            obtain ⟨h1, h2⟩ := F.old e hT
            exact ⟨o, T.keep b o h1 h2, nc⟩
  · rw [hk2] at h3
    rcases h3 with h3 | h3
    · exfalso
      have hl := F.scp.only j x h1 (kcls1 h3)
      cases tg with
      | one i =>
        have hl : j = i := hl
        subst hl
        simp only [clearT] at h2
        rw [List.getElem?_set_self'] at h2
        cases e : ρ[j]? <;> rw [e] at h2 <;> simp at h2
      | two i i' =>
        have hl : j = i ∨ j = i' := hl
        simp only [clearT] at h2
        by_cases q : i' = j
        · subst q
          rw [List.getElem?_set_self'] at h2
          cases e : (ρ.set i none)[i']? <;> rw [e] at h2 <;> simp at h2
        · rcases hl with rfl | rfl
          · rw [List.getElem?_set_ne q, List.getElem?_set_self'] at h2
            cases e : ρ[j]? <;> rw [e] at h2 <;> simp at h2
          · exact q rfl
    · obtain ⟨h4, h5⟩ := hfree x h3
      have h2' : ρ[j]? = some (some ev) := by
        have key : ∀ (ρ : Env') (i : Nat), (ρ.set i none)[j]? = some (some ev) → ρ[j]? = some (some ev) := by
          intro ρ i h
          by_cases q : i = j
          · subst q
            rw [List.getElem?_set_self'] at h
            cases e : ρ[i]? <;> rw [e] at h <;> simp at h
          · rwa [List.getElem?_set_ne q] at h
        cases tg with
        | one i => exact key ρ i h2
        | two i i' => exact key ρ i (key _ i' h2)
      obtain ⟨v, hv, rv⟩ := F.cx.v j x ev h1 h2' (.inr h4)
      rcases hv with ⟨hv1, _⟩ | ⟨_, c, hc, hcell⟩
      · rw [hv1] at h4; cases h4
      · refine ⟨v, .inr ⟨by rw [hk2]; exact h3, c, ?_, ?_⟩, rv.mono (F.view T.keep)⟩
        · obtain ⟨c', hc'⟩ := Option.isSome_iff_exists.mp (clo_has scope.names [] x h5 (F.cx.e.has x h4))
          have := hcl x c' hc'
          rw [hc] at this; cases this
          exact hc'
        · obtain ⟨o, e1, e2⟩ := hcell
          obtain ⟨h6, h7⟩ := F.old e1 (F.cx.e.cel x c hc)
          exact ⟨o, T.keep c o h6 h7, e2⟩
end
end Mine

/-! SB14 -/
namespace Mine
open PySem PySem.W PyProof.Rows PySem.Calls PySem.Spec PySem.SeqAt

section
variable {G : Gr} {fa : Nat → Addr} {Φ : Phi} {k : Nat} {vs : List Str} {sc : Fc}
  {H : List Addr} {A : Around} {env : Env} {ρ : Env'} {s s₂ : Shared} {scope : Scope} {tg : Tg} {target : Expr} {D C I : Addr} {n : Nat} {fp : List Addr} {ds : List PyData} {P : Nat → Value → Prop} {St : Nat → Heap → Prop}

/-- what one item gives -/
noncomputable def turnOf (Φ : Phi) (ρ : Env') (tg : Tg) (cond elt : X) (d : PyData) : Option (Option PyData) := (bindT tg d ρ).bind fun ρ' => match evalX Φ cond ρ' with
  | some (.dat (.bool true)) => match evalX Φ elt ρ' with
    | some (.dat x) => some (some x)
    | _ => none
  | some (.dat (.bool false)) => some none
  | _ => none

/-- the tests of a comprehension: none, or one -/
noncomputable def IfsOk (G : Gr) (Φ : Phi) (k : Nat) (vs : List Str) (sc : Fc) (cond : X) (ifs : List Expr) : Prop := (ifs = [] ∧ cond = .bool true) ∨ ∃ c, ifs = [c] ∧ TrOk G Φ k vs sc cond c

theorem fp_ne (F : CompFix G Φ k vs sc H A env ρ s s₂ scope tg target D C I n fp ds P St) {b : Addr} (hb : b ∈ fp) : b ≠ D ∧ b ≠ C ∧ b ∉ G.T := by
  obtain ⟨o, e⟩ := F.it.ex 0 _ F.it.st b hb
  have hlt := Heap.lt_size e
  refine ⟨fun q => absurd hlt (Nat.not_lt.mpr (q ▸ F.dD)), fun q => absurd hlt (Nat.not_lt.mpr (q ▸ F.dC)), fun q => ?_⟩
  by_cases z : b = I
  · subst z; exact F.it.newT q
  · exact F.it.fpH b hb z (F.cx.h _ q)

theorem tests_ok {cond : X} {ifs : List Expr} (h : IfsOk G Φ k vs sc cond ifs) (cx : Cx G vs sc k H A env ρ s) {b : Bool} (hb : evalX Φ cond ρ = some (.dat (.bool b))) :
    Wp G A (forIn ifs true fun c r => if r = true then do let ok ← isTrue c env (eval c env); pure (ForInStep.yield ok) else pure (ForInStep.yield r)) (fun ok s' => ok = b ∧ Gw G s s') s := by
  rcases h with ⟨rfl, rfl⟩ | ⟨c, rfl, h⟩
  · cases hb
    exact wpAny_tests_nil ⟨rfl, Gw.refl cx.b⟩
  · exact wpAny_tests_one (h H A env ρ s b cx hb)

theorem comp_loop (F : CompFix G Φ k vs sc H A env ρ s s₂ scope tg target D C I n fp ds P St) {elt iter : Expr} {ifs : List Expr} {pos : Pos} {cond eltx : X} (hifs : IfsOk G Φ k vs ⟨scope, sc.code, sc.qual⟩ cond ifs) (helt : EvOk G Φ k vs ⟨scope, sc.code, sc.qual⟩ eltx elt)
    (hlen : ds.length < 1048576) {rs : List PyData} (hgo : compGo (turnOf Φ ρ tg cond eltx) ds = some rs) {R : Result → Shared → Prop} (hR : ∀ s', Turn G H s₂ D C I (fun _ _ => True) 0 rs s' → R (.ok .next) s')
    {s' : Shared} (T : Turn G H s₂ D C I St 0 [] s') : codeAny (model G.prog G.w) A (.compLoop (.ListComp elt [⟨target, iter, ifs, 0⟩] scope pos) 0 (.ref I) (.ref D) (cenvOf scope C env)) R s' := by
  obtain ⟨⟨nD1, nD2, nD3⟩, nC1, nC2, nC3⟩ := F.newDC
  obtain ⟨nI1, nI2⟩ := F.neI
  refine codeAny_loop rfl (fun m s'' => ∃ i done rest, Turn G H s₂ D C I St i done s'' ∧ i ≤ ds.length ∧ done.length ≤ i ∧ compGo (turnOf Φ ρ tg cond eltx) (ds.drop i) = some rest ∧ rs = done ++ rest ∧ m = ds.length + 1 - i) ?_ (ds.length + 1)
    ⟨0, [], rs, T, Nat.zero_le _, Nat.le_refl _, by simpa using hgo, by simp, by simp⟩
  rintro m s'' ⟨i, done, rest, T, hi, hdl, hrest, rfl, rfl⟩
  show wpAny _ A ((compTurn (.ListComp elt [⟨target, iter, ifs, 0⟩] scope pos) 0 (.ref I) (.ref D) (cenvOf scope C env)).onRaise (fun x => do noteFrame x (cenvOf scope C env); theTreesLotGoes x)) _ _ s''
  refine wpAny_noted ?_
  rw [compTurn_list]
  refine wpAny_bind (wpAny_standAt (wpAny_bind ?_))
  have stepI : ∀ (h₁ : Heap) (tk₁ : Nat), (∀ b o, b ∉ [I] → s''.heap.get? b = some o → h₁.get? b = some o) → ∀ (St' : Nat → Heap → Prop) (j : Nat), St' j h₁ → Turn G H s₂ D C I St' j done { s'' with heap := h₁, toks := tk₁ } := by
    intro h₁ tk₁ hk₁ St' j hst
    obtain ⟨h', tk, rfl⟩ := T.same
    have hnI : ∀ b, b ≠ I → b ∉ [I] := fun b hb q => hb (by simpa using q)
    have keepI : ∀ b o, b ≠ I → h'.get? b = some o → h₁.get? b = some o := fun b o hb e => hk₁ b o (hnI b hb) e
    have bs : Base G h₁ := by
      refine ⟨fun b o e => keepI b o (fun z => ?_) (T.base.keep b o e), fun r hr => ?_⟩
      · rw [z, F.it.newG] at e; cases e
      · obtain ⟨ps, e1, e2, e3⟩ := T.base.tabs r hr
        refine ⟨ps, keepI _ _ (fun z => F.it.newT (z ▸ List.mem_map_of_mem hr)) e1, e2, fun pos q hm cv hcv => ?_⟩
        obtain ⟨c, oc, vs', t, f1, f2, f3, f4⟩ := e3 pos q hm cv hcv
        refine ⟨c, oc, vs', t, f1, keepI _ _ (fun z => ?_) f2, f3, f4⟩
        obtain ⟨o', g1, g2, _⟩ := F.it.obj i _ T.st
        rw [z] at f2
        rw [g1] at f2; cases f2
        exact g2 _ _ _ f3 f4
    refine ⟨⟨h₁, tk₁, rfl⟩, fun b o hb e => ?_, bs, hst, ?_, ?_⟩
    · exact keepI b o (fun z => hb (z ▸ List.mem_cons_of_mem _ (List.mem_cons_of_mem _ (List.mem_cons_self ..)))) (T.keep b o hb e)
    · obtain ⟨m, o, es, ep, e, r⟩ := T.ns
      exact ⟨m, o, es, ep, keepI _ _ (Ne.symm nI2) e, r⟩
    · obtain ⟨ys, ⟨q, e⟩, r⟩ := T.out
      refine ⟨ys, ⟨q, keepI _ _ (Ne.symm nI1) e⟩, r.mono fun b o eb => ?_⟩
      have hbH : b ∉ D :: C :: I :: H := fun z => by rw [hideAll_none _ z] at eb; cases eb
      exact hideAll_get _ (keepI b o (fun z => hbH (z ▸ List.mem_cons_of_mem _ (List.mem_cons_of_mem _ (List.mem_cons_self ..)))) (of_hideAll _ eb)) hbH
  by_cases hlt : i < ds.length
  · obtain ⟨d, hd⟩ : ∃ d, ds[i]? = some d := ⟨ds[i], by simp [hlt]⟩
    have hdrop : ds.drop i = d :: ds.drop (i + 1) := by
      rw [List.drop_eq_getElem_cons hlt]; congr 1; simpa [hlt] using hd
    rw [hdrop] at hrest
    simp only [compGo] at hrest
    cases ht : turnOf Φ ρ tg cond eltx d with
    | none => rw [ht] at hrest; cases hrest
    | some r =>
      cases hc : compGo (turnOf Φ ρ tg cond eltx) (ds.drop (i + 1)) with
      | none => rw [ht, hc] at hrest; cases hrest
      | some rs' =>
        rw [ht, hc] at hrest
        simp only [Option.bind_eq_bind, Option.bind_some, Option.some.injEq] at hrest
        refine F.it.w.item i s'' _ _ (by rw [F.it.ln]; exact hlt) T.st fun v h₁ tk₁ hP hst hk₁ => ?_
        -- the state behind the iterator's step
        have T1 : Turn G H s₂ D C I St (i + 1) done { s'' with heap := h₁, toks := tk₁ } := stepI h₁ tk₁ hk₁ St (i + 1) hst
        obtain ⟨oI, eI, _, calmI⟩ := F.it.obj (i + 1) _ hst
        refine wpAny_bind (calm_go (s := { s'' with heap := h₁, toks := tk₁ }) eI calmI ?_)
        obtain ⟨cx1, mC1⟩ := F.cenv T1
        have rv : Rd (D :: C :: I :: H) h₁ v d := F.view2 T1.keep (F.it.rd i v d hP hd)
        -- the target
        unfold turnOf at ht
        cases hb : bindT tg d ρ with
        | none => rw [hb] at ht; cases ht
        | some ρ' =>
          rw [hb, Option.bind_some] at ht
          have hb' : bindT tg d (clearT tg ρ) = some ρ' := by rw [bind_clear]; exact hb
          have htg : TgIs vs (cenvOf scope C env).kindOf tg target := by
            have := F.scp.tgt
            cases tg with
            | one i => obtain ⟨id, pos, e, h1, h2⟩ := this; exact ⟨id, pos, e, h1, lookup_relabel_local h2⟩
            | two i j => obtain ⟨a, b, p1, p2, kk, pos, e, h1, h2, h3, h4⟩ := this; exact ⟨a, b, p1, p2, kk, pos, e, h1, h2, lookup_relabel_local h3, lookup_relabel_local h4⟩
          refine wpAny_bind (asg_local cx1 mC1 (List.mem_cons_of_mem _ (List.mem_cons_self ..)) F.nd htg hb' rv fun s₃ gs₃ mC₃ cx₃ => ?_)
          -- any growth from here keeps the turn
          have grow : ∀ s₄, Gw G s₃ s₄ → Turn G H s₂ D C I St (i + 1) done s₄ := by
            intro s₄ g₄
            have gs : Gs G ((cenvOf scope C env).locals :: G.T) { s'' with heap := h₁, toks := tk₁ } s₄ := gs₃.trans (g₄.gs fun b hb => List.mem_cons_of_mem _ hb)
            have kp := gs.keep
            obtain ⟨h', tk, e''⟩ := T.same
            obtain ⟨h4, tk4, e4, _, _⟩ := id gs
            refine ⟨⟨h4, tk4, by rw [e4, e'']⟩, fun b o hb e => ?_, g₄.base, ?_, ?_, ?_⟩
            · refine kp b o (fun z => ?_) (T1.keep b o hb e)
              rcases List.mem_cons.mp z with z | z
              · exact hb (z ▸ List.mem_cons_of_mem _ (List.mem_cons_self ..))
              · exact hb (List.mem_cons_of_mem _ (List.mem_cons_of_mem _ (List.mem_cons_of_mem _ z)))
            · refine F.it.w.frame (i + 1) h₁ _ hst fun b hb o e => kp b o (fun z => ?_) e
              have := fp_ne F hb
              rcases List.mem_cons.mp z with z | z
              · exact this.2.1 z
              · exact this.2.2 z
            · obtain ⟨m, hm⟩ := (cx₃.step g₄).e.ns; exact ⟨m, hm⟩
            · obtain ⟨ys, ⟨q, e⟩, r⟩ := T1.out
              refine ⟨ys, ⟨q, kp _ _ (fun z => ?_) e⟩, r.mono fun b o eb => ?_⟩
              · rcases List.mem_cons.mp z with z | z
                · exact F.ne z
                · exact nD2 z
              · have hbH : b ∉ D :: C :: I :: H := fun z => by rw [hideAll_none _ z] at eb; cases eb
                refine hideAll_get _ (kp b o (fun z => ?_) (of_hideAll _ eb)) hbH
                rcases List.mem_cons.mp z with z | z
                · exact hbH (z ▸ List.mem_cons_of_mem _ (List.mem_cons_self ..))
                · exact hbH (List.mem_cons_of_mem _ (List.mem_cons_of_mem _ (List.mem_cons_of_mem _ (F.cx.h _ z))))
          have again : ∀ (s₄ : Shared) (done' : List PyData), Turn G H s₂ D C I St (i + 1) done' s₄ → done'.length ≤ i + 1 → done ++ rest = done' ++ rs' →
              ∃ m, m < ds.length + 1 - i ∧ ∃ i done_1 rest_1, Turn G H s₂ D C I St i done_1 s₄ ∧ i ≤ ds.length ∧ done_1.length ≤ i ∧ compGo (turnOf Φ ρ tg cond eltx) (ds.drop i) = some rest_1 ∧ done ++ rest = done_1 ++ rest_1 ∧ m = ds.length + 1 - i :=
            fun s₄ done' T4 hl4 he => ⟨ds.length + 1 - (i + 1), by omega, i + 1, done', rs', T4, hlt, hl4, hc, he, rfl⟩
          cases hcv : evalX Φ cond ρ' with
          | none => rw [hcv] at ht; cases ht
          | some cv =>
            rw [hcv] at ht
            have hcb : ∃ b, cv = .dat (.bool b) := by
              cases cv with
              | dat q => cases q <;> first | exact ⟨_, rfl⟩ | cases ht
              | _ => cases ht
            obtain ⟨b, rfl⟩ := hcb
            refine wpAny_bind ((tests_ok hifs cx₃ hcv).mono fun ok s₄ zz2 => have hok := zz2.1; have g₄ := zz2.2; ?_)
            subst hok
            cases ok with
            | false =>
              cases ht
              exact wpAny_pure ⟨rfl, again s₄ done (grow s₄ g₄) (by omega) (by rw [← hrest])⟩
            | true =>
              cases hel : evalX Φ eltx ρ' with
              | none => rw [hel] at ht; cases ht
              | some xv =>
                rw [hel] at ht
                have hxd : ∃ x, xv = .dat x := by
                  cases xv with
                  | dat q => exact ⟨_, rfl⟩
                  | _ => cases ht
                obtain ⟨x, rfl⟩ := hxd
                cases ht
                refine wpAny_bind (wpAny_bind ((helt _ A _ ρ' s₄ _ (cx₃.step g₄) hel).mono fun xval s₅ zz3 => have g₅ := zz3.1; have r₅ := zz3.2; wpAny_bind ?_))
                have T5 := grow s₅ (g₄.trans g₅)
                obtain ⟨ys, hys, rys⟩ := T5.out
                have hsz : ys.size ≤ sizeLine := by
                  have := rys.length
                  rw [sizeLine_eq]
                  rw [Array.length_toList] at this
                  omega
                refine wpAny_list_append_plain (hsz := hsz) hys fun h₆ hl₆ hs₆ => ?_
                have mD : Mut G s₅.heap D := ⟨nD1, nD2, plain_notCode hys⟩
                have up6 : ∀ b o, (hideAll s₅.heap (D :: C :: I :: H)).get? b = some o → (hideAll h₆ (D :: C :: I :: H)).get? b = some o := view_same hs₆ (List.mem_cons_self ..)
                refine wpAny_pure (wpAny_pure ⟨rfl, again _ (done ++ [x]) ⟨?_, fun b o hb e => hs₆.extBut b o (fun z => hb (z ▸ List.mem_cons_self ..)) (T5.keep b o hb e), T5.base.same mD hs₆, ?_, ?_, ?_⟩ (by simp; omega) (by rw [← hrest]; simp)⟩)
                · obtain ⟨h5, tk5, e5⟩ := T5.same; exact ⟨h₆, tk5, by rw [e5]⟩
                · refine F.it.w.frame (i + 1) _ _ T5.st fun b hb o e => hs₆.extBut b o (fp_ne F hb).1 e
                · obtain ⟨m, hm⟩ := T5.ns; exact ⟨m, hm.sameBut hs₆ (Ne.symm F.ne)⟩
                · refine ⟨ys.push xval, hl₆, ?_⟩
                  have := (rys.mono up6).append (RdL.cons (Rd.mono up6 r₅) RdL.nil)
                  simpa using this
  · have hin : i = ds.length := by omega
    subst hin
    simp only [List.drop_length, compGo, Option.some.injEq] at hrest
    subst hrest
    refine F.it.w.done s'' _ _ (by rw [F.it.ln]; exact T.st) fun h₁ tk₁ hk₁ => wpAny_pure ?_
    have T9 := stepI h₁ tk₁ hk₁ (fun _ _ => True) 0 trivial
    exact hR _ (by simpa using T9)
end
end Mine

/-! SB15 -/
namespace Mine
open PySem PySem.W PyProof.Rows PySem.Calls PySem.Spec PySem.SeqAt

section
variable {G : Gr} {fa : Nat → Addr} {Φ : Phi} {k : Nat} {vs : List Str} {sc : Fc}

/-- a comprehension, up to its list -/
theorem comp_run {H : List Addr} {A : Around} {env : Env} {ρ : Env'} {s : Shared} {scope : Scope} {tg : Tg} {target elt iter : Expr} {ifs : List Expr} {pos p0 : Pos} {it : It} {i1 i2 cond eltx : X} {ds rs : List PyData} {use : Option (Value → Sem Unit)} {Q : Value → Shared → Prop}
    (cx : Cx G vs sc k H A env ρ s) (nd : vs.Nodup) (scp : CompSc vs sc scope tg target) (hit : IterOk G Φ k vs sc it i1 i2 iter) (hifs : IfsOk G Φ k vs ⟨scope, sc.code, sc.qual⟩ cond ifs) (helt : EvOk G Φ k vs ⟨scope, sc.code, sc.qual⟩ eltx elt)
    (hs : ∀ x, foldedSetIterable iter env x = pure x) (hds : iterOf it (evalX Φ i1 ρ) (evalX Φ i2 ρ) = some ds) (hlen : ds.length < 1048576) (hgo : compGo (turnOf Φ ρ tg cond eltx) ds = some rs)
    (h : ∀ D C s', Gw G s s' → s.heap.get? D = none → s.heap.get? C = none → C ≠ D → G.g.get? C = none → C ∉ G.T → C ∉ H → (∃ m, s'.heap.Ns C m) → (∃ ys, s'.heap.PlainList D ys ∧ RdL (C :: H) s'.heap ys.toList rs ∧ D ∉ H) →
      compPost (model G.prog G.w) A (fun _ _ => False) use Q (.ref D) C (.ok .next) s') :
    wpAny (model G.prog G.w) A (comprehension (.ListComp elt [⟨target, iter, ifs, 0⟩] scope pos) scope env p0 (newList []) false (eval iter env) use) Q (fun _ _ => False) s := by
  have hcells : ∀ n, (n, NameKind.free) ∈ scope.names → (env.cells.lookup n).isSome = true := fun n hn => cx.e.has n (by rw [cx.sk]; exact scp.free n hn)
  refine wpAny_comprehension_free (g := ⟨target, iter, ifs, 0⟩) (gs := []) rfl hs (closureFor_clo hcells) scp.kind scp.names ?_
  refine hit H A env ρ s ds _ cx hds fun I s₂ n fp P St g noI itk => ?_
  refine wpAny_newObj_type (wpAny_newFunctionEnv scp.nocell (by intro y hy; simp at hy) (fun h₁ hns hsb => ?_) scp.kind)
  dsimp only at hns hsb ⊢
  generalize hH2 : s₂.heap.push { cls := .type "list", dict := none, data := .seq ([] : List Value).toArray } = H2 at hns hsb ⊢
  have hC : H2.objs.size = s₂.heap.objs.size + 1 := by rw [← hH2, Heap.size_push]
  have hDC : s₂.heap.objs.size ≠ H2.objs.size := by rw [hC]; exact Nat.ne_of_lt (Nat.lt_succ_self _)
  have F : CompFix G Φ k vs sc H A env ρ s s₂ scope tg target s₂.heap.objs.size H2.objs.size I n fp ds P St := ⟨cx, g, itk, noI, nd, scp, Nat.le_refl _, by rw [hC]; exact Nat.le_succ _, hDC⟩
  obtain ⟨⟨nD1, nD2, nD3⟩, nC1, nC2, nC3⟩ := F.newDC
  have old : ∀ b o, s₂.heap.get? b = some o → h₁.get? b = some o := fun b o e => by
    have hlt := Heap.lt_size e
    exact hsb.extBut b o (fun z => absurd hlt (by rw [z, hC]; exact Nat.not_lt.mpr (Nat.le_succ _))) (Heap.get?_push_of_some _ (hH2 ▸ Heap.get?_push_of_some _ e))
  have T0 : Turn G H s₂ s₂.heap.objs.size H2.objs.size I St 0 [] { s₂ with heap := h₁, toks := s₂.toks + ([] : List (Str × Value)).length } := {
    same := ⟨h₁, _, rfl⟩
    keep := fun b o _ e => old b o e
    base := g.base.keeps old
    st := itk.w.frame 0 _ _ itk.st fun b _ o e => old b o e
    ns := ⟨_, hns⟩
    out := ⟨#[], ⟨0, hsb.extBut _ _ hDC (Heap.get?_push_of_some _ (hH2 ▸ Heap.get?_push_size _ rfl))⟩, RdL.nil⟩ }
  have loop : codeAny (model G.prog G.w) A (.compLoop (.ListComp elt [⟨target, iter, ifs, 0⟩] scope pos) 0 (.ref I) (.ref s₂.heap.objs.size) (cenvOf scope H2.objs.size env))
      (compPost (model G.prog G.w) A (fun _ _ => False) use Q (.ref s₂.heap.objs.size) H2.objs.size) { s₂ with heap := h₁, toks := s₂.toks + ([] : List (Str × Value)).length } := by
    refine comp_loop F hifs helt hlen hgo (fun s' T => ?_) T0
    obtain ⟨ys, hys, rys⟩ := T.out
    have gw : Gw G s s' := by
      obtain ⟨h', tk, e'⟩ := T.same
      obtain ⟨h2, tk2, e2, _, _⟩ := id g
      refine ⟨h', tk, by rw [e', e2], fun b o hb e => ?_, ?_⟩
      · obtain ⟨h1, h2⟩ := F.old e hb
        have := T.keep b o h1 h2
        rw [e'] at this; exact this
      · have := T.base; rw [e'] at this; exact this
    refine h _ _ s' gw (ext_none g (Heap.get?_none_of_le (Nat.le_refl _))) (ext_none g (Heap.get?_none_of_le (by rw [hC]; exact Nat.le_succ _))) (Ne.symm hDC) nC1 nC2 nC3 T.ns ⟨ys, hys, rys.mono fun b o e => ?_, nD3⟩
    have hb : b ∉ s₂.heap.objs.size :: H2.objs.size :: I :: H := fun z => by rw [hideAll_none _ z] at e; cases e
    refine hideAll_get _ (of_hideAll _ e) fun z => hb ?_
    rcases List.mem_cons.mp z with rfl | z
    · exact List.mem_cons_of_mem _ (List.mem_cons_self ..)
    · exact List.mem_cons_of_mem _ (List.mem_cons_of_mem _ (List.mem_cons_of_mem _ z))
  exact codeAny_compStart_list loop (itk.w.self 0 _ _ _ T0.st loop)

theorem comp_inv {tg : Tg} {it : It} {i1 i2 cond elt : X} {ρ : Env'} {ev : EV} (h : evalX Φ (.comp tg it i1 i2 cond elt) ρ = some ev) :
    ∃ ds rs, iterOf it (evalX Φ i1 ρ) (evalX Φ i2 ρ) = some ds ∧ ds.length < 1048576 ∧ compGo (turnOf Φ ρ tg cond elt) ds = some rs ∧ ev = .dat (.list rs) := by
  simp only [xe_var, xe_int, xe_nil, xe_bool, xe_lim, xe_ar, xe_cat, xe_rep, xe_neg, xe_inv, xe_not, xe_cmp, xe_isNone, xe_and2, xe_or2, xe_or3, xe_ite, xe_tup2, xe_tup3, xe_list0, xe_list1, xe_list3, xe_sub, xe_from1, xe_upto1, xe_sl3, xe_len, xe_sum, xe_tuple, xe_bits, xe_divmod, xe_call1, xe_call2, xe_call3, xe_call5, xe_callk, xe_keyc, xe_comp, xe_mk, xe_cmpr, xe_attr] at h
  split at h
  · rename_i ds hd
    simp only [Option.ite_none_right_eq_some] at h
    obtain ⟨hl, h⟩ := h
    obtain ⟨rs, hr, rfl⟩ := Option.map_eq_some_iff.mp h
    exact ⟨ds, rs, hd, hl, hr, rfl⟩
  · cases h

theorem ev_comp {scope : Scope} {tg : Tg} {target elt iter : Expr} {ifs : List Expr} {pos : Pos} {it : It} {i1 i2 cond eltx : X}
    (nd : vs.Nodup) (scp : CompSc vs sc scope tg target) (hit : IterOk G Φ k vs sc it i1 i2 iter) (hifs : IfsOk G Φ k vs ⟨scope, sc.code, sc.qual⟩ cond ifs) (helt : EvOk G Φ k vs ⟨scope, sc.code, sc.qual⟩ eltx elt)
    (hs : ∀ env x, foldedSetIterable iter env x = pure x) : EvOk G Φ k vs sc (.comp tg it i1 i2 cond eltx) (.ListComp elt [⟨target, iter, ifs, 0⟩] scope pos) := by
  intro H A env ρ s ev cx he
  obtain ⟨ds, rs, hd, hl, hr, rfl⟩ := comp_inv he
  rw [eval_ListComp]
  refine comp_run (use := none) cx nd scp hit hifs helt (hs env) hd hl hr fun D C s' g hD hC hne nC1 nC2 nC3 hns hout => ?_
  obtain ⟨m, hns⟩ := hns
  obtain ⟨ys, ⟨q, hys⟩, rys, hDH⟩ := hout
  refine ⟨m, hns, fun h' hsm => ?_⟩
  have mC : Mut G s'.heap C := ⟨nC1, nC2, ns_notCode hns⟩
  obtain ⟨h2, tk2, e2, x2, b2⟩ := id g
  refine ⟨⟨h', tk2, by rw [e2], fun b o hb e => ?_, ?_⟩, ?_⟩
  · have := g.ext b o hb e
    exact hsm.extBut b o (fun z => by rw [z, hC] at e; cases e) this
  · exact g.base.same mC hsm
  · have up : ∀ b o, (hideAll s'.heap (C :: H)).get? b = some o → (hideAll h' H).get? b = some o := by
      intro b o e
      have hb : b ∉ C :: H := fun z => by rw [hideAll_none _ z] at e; cases e
      exact hideAll_get _ (hsm.extBut b o (fun z => hb (z ▸ List.mem_cons_self ..)) (of_hideAll _ e)) fun z => hb (List.mem_cons_of_mem _ z)
    obtain ⟨as, r⟩ := rys.mono up
    exact ⟨_, .list (hideAll_get _ (hsm.extBut _ _ (Ne.symm hne) hys) hDH) rfl rfl r⟩
end
end Mine

/-! SB16 -/
namespace Mine
open PySem PySem.W PyProof.Rows PySem.Calls PySem.Spec PySem.SeqAt

/-- two states of the names that agree but at the owned ones -/
noncomputable def Agree (own : List Nat) (ρ ρ' : Env') : Prop := ρ.length = ρ'.length ∧ ∀ i, own.contains i = false → ρ[i]? = ρ'[i]?
theorem Agree.set {own : List Nat} {ρ ρ' : Env'} (h : Agree own ρ ρ') (k : Nat) (v : Option EV) : Agree own (ρ.set k v) (ρ'.set k v) := by
  refine ⟨by simp [h.1], fun i hi => ?_⟩
  by_cases q : k = i
  · subst q
    by_cases hl : k < ρ.length
    · rw [List.getElem?_set_self hl, List.getElem?_set_self (h.1 ▸ hl)]
    · rw [List.getElem?_eq_none (by simp; omega), List.getElem?_eq_none (by have := h.1; simp; omega)]
  · rw [List.getElem?_set_ne q, List.getElem?_set_ne q]; exact h.2 i hi
theorem Agree.bind {own : List Nat} {ρ ρ' : Env'} (h : Agree own ρ ρ') (tg : Tg) (d : PyData) : (bindT tg d ρ = none ∧ bindT tg d ρ' = none) ∨ ∃ σ σ', bindT tg d ρ = some σ ∧ bindT tg d ρ' = some σ' ∧ Agree own σ σ' := by
  cases tg with
  | one i => exact .inr ⟨_, _, rfl, rfl, h.set _ _⟩
  | two i j =>
    cases d with
    | tuple xs =>
      match xs with
      | [] => exact .inl ⟨rfl, rfl⟩
      | [_] => exact .inl ⟨rfl, rfl⟩
      | [a, b] => exact .inr ⟨_, _, rfl, rfl, (h.set _ _).set _ _⟩
      | _ :: _ :: _ :: _ => exact .inl ⟨rfl, rfl⟩
    | _ => exact .inl ⟨rfl, rfl⟩
theorem compGo_congr {f g : PyData → Option (Option PyData)} (h : ∀ d, f d = g d) (ds : List PyData) : compGo f ds = compGo g ds := by
  have : f = g := funext h
  rw [this]

theorem evalX_agree (Φ : Phi) (own : List Nat) : ∀ (x : X) (ρ ρ' : Env'), Agree own ρ ρ' → x.hits own = false → evalX Φ x ρ = evalX Φ x ρ' := by
  intro x
  induction x with
  | var k => intro ρ ρ' h hh; simp only [xh_var, xh_int, xh_nil, xh_bool, xh_lim, xh_list0, xh_ar, xh_cat, xh_rep, xh_cmp, xh_and2, xh_or2, xh_tup2, xh_sub, xh_sl3, xh_divmod, xh_call2, xh_callk, xh_neg, xh_inv, xh_not, xh_isNone, xh_list1, xh_from1, xh_upto1, xh_len, xh_sum, xh_tuple, xh_bits, xh_call1, xh_mk, xh_or3, xh_ite, xh_tup3, xh_list3, xh_call3, xh_call5, xh_keyc, xh_comp, xh_cmpr, xh_attr] at hh; simp only [xe_var, xe_int, xe_nil, xe_bool, xe_lim, xe_ar, xe_cat, xe_rep, xe_neg, xe_inv, xe_not, xe_cmp, xe_isNone, xe_and2, xe_or2, xe_or3, xe_ite, xe_tup2, xe_tup3, xe_list0, xe_list1, xe_list3, xe_sub, xe_from1, xe_upto1, xe_sl3, xe_len, xe_sum, xe_tuple, xe_bits, xe_divmod, xe_call1, xe_call2, xe_call3, xe_call5, xe_callk, xe_keyc, xe_comp, xe_mk, xe_cmpr, xe_attr]; rw [h.2 k hh]
  | keyc k a ih => intro ρ ρ' h hh; simp only [xh_var, xh_int, xh_nil, xh_bool, xh_lim, xh_list0, xh_ar, xh_cat, xh_rep, xh_cmp, xh_and2, xh_or2, xh_tup2, xh_sub, xh_sl3, xh_divmod, xh_call2, xh_callk, xh_neg, xh_inv, xh_not, xh_isNone, xh_list1, xh_from1, xh_upto1, xh_len, xh_sum, xh_tuple, xh_bits, xh_call1, xh_mk, xh_or3, xh_ite, xh_tup3, xh_list3, xh_call3, xh_call5, xh_keyc, xh_comp, xh_cmpr, xh_attr, Bool.or_eq_false_iff] at hh; simp only [xe_var, xe_int, xe_nil, xe_bool, xe_lim, xe_ar, xe_cat, xe_rep, xe_neg, xe_inv, xe_not, xe_cmp, xe_isNone, xe_and2, xe_or2, xe_or3, xe_ite, xe_tup2, xe_tup3, xe_list0, xe_list1, xe_list3, xe_sub, xe_from1, xe_upto1, xe_sl3, xe_len, xe_sum, xe_tuple, xe_bits, xe_divmod, xe_call1, xe_call2, xe_call3, xe_call5, xe_callk, xe_keyc, xe_comp, xe_mk, xe_cmpr, xe_attr]; rw [h.2 k hh.1, ih ρ ρ' h hh.2]
  | cmpr k a b iha ihb => intro ρ ρ' h hh; simp only [xh_var, xh_int, xh_nil, xh_bool, xh_lim, xh_list0, xh_ar, xh_cat, xh_rep, xh_cmp, xh_and2, xh_or2, xh_tup2, xh_sub, xh_sl3, xh_divmod, xh_call2, xh_callk, xh_neg, xh_inv, xh_not, xh_isNone, xh_list1, xh_from1, xh_upto1, xh_len, xh_sum, xh_tuple, xh_bits, xh_call1, xh_mk, xh_or3, xh_ite, xh_tup3, xh_list3, xh_call3, xh_call5, xh_keyc, xh_comp, xh_cmpr, xh_attr, Bool.or_eq_false_iff] at hh; simp only [xe_var, xe_int, xe_nil, xe_bool, xe_lim, xe_ar, xe_cat, xe_rep, xe_neg, xe_inv, xe_not, xe_cmp, xe_isNone, xe_and2, xe_or2, xe_or3, xe_ite, xe_tup2, xe_tup3, xe_list0, xe_list1, xe_list3, xe_sub, xe_from1, xe_upto1, xe_sl3, xe_len, xe_sum, xe_tuple, xe_bits, xe_divmod, xe_call1, xe_call2, xe_call3, xe_call5, xe_callk, xe_keyc, xe_comp, xe_mk, xe_cmpr, xe_attr]; rw [h.2 k hh.1.1, iha ρ ρ' h hh.1.2, ihb ρ ρ' h hh.2]
  | attr k => intro ρ ρ' h hh; simp only [xh_var, xh_int, xh_nil, xh_bool, xh_lim, xh_list0, xh_ar, xh_cat, xh_rep, xh_cmp, xh_and2, xh_or2, xh_tup2, xh_sub, xh_sl3, xh_divmod, xh_call2, xh_callk, xh_neg, xh_inv, xh_not, xh_isNone, xh_list1, xh_from1, xh_upto1, xh_len, xh_sum, xh_tuple, xh_bits, xh_call1, xh_mk, xh_or3, xh_ite, xh_tup3, xh_list3, xh_call3, xh_call5, xh_keyc, xh_comp, xh_cmpr, xh_attr] at hh; simp only [xe_var, xe_int, xe_nil, xe_bool, xe_lim, xe_ar, xe_cat, xe_rep, xe_neg, xe_inv, xe_not, xe_cmp, xe_isNone, xe_and2, xe_or2, xe_or3, xe_ite, xe_tup2, xe_tup3, xe_list0, xe_list1, xe_list3, xe_sub, xe_from1, xe_upto1, xe_sl3, xe_len, xe_sum, xe_tuple, xe_bits, xe_divmod, xe_call1, xe_call2, xe_call3, xe_call5, xe_callk, xe_keyc, xe_comp, xe_mk, xe_cmpr, xe_attr]; rw [h.2 k hh]
  | comp tg it i1 i2 cond elt ih1 ih2 ih3 ih4 =>
    intro ρ ρ' h hh
    simp only [xh_var, xh_int, xh_nil, xh_bool, xh_lim, xh_list0, xh_ar, xh_cat, xh_rep, xh_cmp, xh_and2, xh_or2, xh_tup2, xh_sub, xh_sl3, xh_divmod, xh_call2, xh_callk, xh_neg, xh_inv, xh_not, xh_isNone, xh_list1, xh_from1, xh_upto1, xh_len, xh_sum, xh_tuple, xh_bits, xh_call1, xh_mk, xh_or3, xh_ite, xh_tup3, xh_list3, xh_call3, xh_call5, xh_keyc, xh_comp, xh_cmpr, xh_attr, Bool.or_eq_false_iff] at hh
    simp only [xe_var, xe_int, xe_nil, xe_bool, xe_lim, xe_ar, xe_cat, xe_rep, xe_neg, xe_inv, xe_not, xe_cmp, xe_isNone, xe_and2, xe_or2, xe_or3, xe_ite, xe_tup2, xe_tup3, xe_list0, xe_list1, xe_list3, xe_sub, xe_from1, xe_upto1, xe_sl3, xe_len, xe_sum, xe_tuple, xe_bits, xe_divmod, xe_call1, xe_call2, xe_call3, xe_call5, xe_callk, xe_keyc, xe_comp, xe_mk, xe_cmpr, xe_attr]
    rw [ih1 ρ ρ' h hh.1.1.1, ih2 ρ ρ' h hh.1.1.2]
    have hf : ∀ d, turnOf Φ ρ tg cond elt d = turnOf Φ ρ' tg cond elt d := by
      intro d
      unfold turnOf
      rcases h.bind tg d with ⟨e1, e2⟩ | ⟨σ, σ', e1, e2, e3⟩
      · rw [e1, e2]
      · rw [e1, e2]
        simp only [Option.bind_some]
        rw [ih3 σ σ' e3 hh.1.2, ih4 σ σ' e3 hh.2]
    have hc : turnOf Φ ρ tg cond elt = turnOf Φ ρ' tg cond elt := funext hf
    show (match iterOf it (evalX Φ i1 ρ') (evalX Φ i2 ρ') with
      | some ds => if ds.length < 1048576 then (compGo (turnOf Φ ρ tg cond elt) ds).map fun rs => EV.dat (.list rs) else none
      | none => none) = _
    rw [hc]
    rfl
  | int _ => intros; rfl
  | nil => intros; rfl
  | bool _ => intros; rfl
  | lim => intros; rfl
  | list0 => intros; rfl
  | neg a ih | inv a ih | not a ih | isNone a ih | list1 a ih | from1 a ih | upto1 a ih | len a ih | sum a ih | tuple a ih | bits a ih | call1 _ a ih | mk a ih =>
    intro ρ ρ' h hh
    simp only [xh_var, xh_int, xh_nil, xh_bool, xh_lim, xh_list0, xh_ar, xh_cat, xh_rep, xh_cmp, xh_and2, xh_or2, xh_tup2, xh_sub, xh_sl3, xh_divmod, xh_call2, xh_callk, xh_neg, xh_inv, xh_not, xh_isNone, xh_list1, xh_from1, xh_upto1, xh_len, xh_sum, xh_tuple, xh_bits, xh_call1, xh_mk, xh_or3, xh_ite, xh_tup3, xh_list3, xh_call3, xh_call5, xh_keyc, xh_comp, xh_cmpr, xh_attr] at hh
    simp only [xe_var, xe_int, xe_nil, xe_bool, xe_lim, xe_ar, xe_cat, xe_rep, xe_neg, xe_inv, xe_not, xe_cmp, xe_isNone, xe_and2, xe_or2, xe_or3, xe_ite, xe_tup2, xe_tup3, xe_list0, xe_list1, xe_list3, xe_sub, xe_from1, xe_upto1, xe_sl3, xe_len, xe_sum, xe_tuple, xe_bits, xe_divmod, xe_call1, xe_call2, xe_call3, xe_call5, xe_callk, xe_keyc, xe_comp, xe_mk, xe_cmpr, xe_attr]
    rw [ih ρ ρ' h hh]
  | ar _ a b iha ihb | cat a b iha ihb | rep a b iha ihb | cmp _ a b iha ihb | and2 a b iha ihb | or2 a b iha ihb | tup2 a b iha ihb | sub a b iha ihb | sl3 a b iha ihb | divmod a b iha ihb | call2 _ a b iha ihb | callk _ a b iha ihb =>
    intro ρ ρ' h hh
    simp only [xh_var, xh_int, xh_nil, xh_bool, xh_lim, xh_list0, xh_ar, xh_cat, xh_rep, xh_cmp, xh_and2, xh_or2, xh_tup2, xh_sub, xh_sl3, xh_divmod, xh_call2, xh_callk, xh_neg, xh_inv, xh_not, xh_isNone, xh_list1, xh_from1, xh_upto1, xh_len, xh_sum, xh_tuple, xh_bits, xh_call1, xh_mk, xh_or3, xh_ite, xh_tup3, xh_list3, xh_call3, xh_call5, xh_keyc, xh_comp, xh_cmpr, xh_attr, Bool.or_eq_false_iff] at hh
    simp only [xe_var, xe_int, xe_nil, xe_bool, xe_lim, xe_ar, xe_cat, xe_rep, xe_neg, xe_inv, xe_not, xe_cmp, xe_isNone, xe_and2, xe_or2, xe_or3, xe_ite, xe_tup2, xe_tup3, xe_list0, xe_list1, xe_list3, xe_sub, xe_from1, xe_upto1, xe_sl3, xe_len, xe_sum, xe_tuple, xe_bits, xe_divmod, xe_call1, xe_call2, xe_call3, xe_call5, xe_callk, xe_keyc, xe_comp, xe_mk, xe_cmpr, xe_attr]
    rw [iha ρ ρ' h hh.1, ihb ρ ρ' h hh.2]
  | or3 a b c iha ihb ihc | ite a b c iha ihb ihc | tup3 a b c iha ihb ihc | list3 a b c iha ihb ihc | call3 _ a b c iha ihb ihc =>
    intro ρ ρ' h hh
    simp only [xh_var, xh_int, xh_nil, xh_bool, xh_lim, xh_list0, xh_ar, xh_cat, xh_rep, xh_cmp, xh_and2, xh_or2, xh_tup2, xh_sub, xh_sl3, xh_divmod, xh_call2, xh_callk, xh_neg, xh_inv, xh_not, xh_isNone, xh_list1, xh_from1, xh_upto1, xh_len, xh_sum, xh_tuple, xh_bits, xh_call1, xh_mk, xh_or3, xh_ite, xh_tup3, xh_list3, xh_call3, xh_call5, xh_keyc, xh_comp, xh_cmpr, xh_attr, Bool.or_eq_false_iff] at hh
    simp only [xe_var, xe_int, xe_nil, xe_bool, xe_lim, xe_ar, xe_cat, xe_rep, xe_neg, xe_inv, xe_not, xe_cmp, xe_isNone, xe_and2, xe_or2, xe_or3, xe_ite, xe_tup2, xe_tup3, xe_list0, xe_list1, xe_list3, xe_sub, xe_from1, xe_upto1, xe_sl3, xe_len, xe_sum, xe_tuple, xe_bits, xe_divmod, xe_call1, xe_call2, xe_call3, xe_call5, xe_callk, xe_keyc, xe_comp, xe_mk, xe_cmpr, xe_attr]
    rw [iha ρ ρ' h hh.1.1, ihb ρ ρ' h hh.1.2, ihc ρ ρ' h hh.2]
  | call5 _ a b c d e iha ihb ihc ihd ihe =>
    intro ρ ρ' h hh
    simp only [xh_var, xh_int, xh_nil, xh_bool, xh_lim, xh_list0, xh_ar, xh_cat, xh_rep, xh_cmp, xh_and2, xh_or2, xh_tup2, xh_sub, xh_sl3, xh_divmod, xh_call2, xh_callk, xh_neg, xh_inv, xh_not, xh_isNone, xh_list1, xh_from1, xh_upto1, xh_len, xh_sum, xh_tuple, xh_bits, xh_call1, xh_mk, xh_or3, xh_ite, xh_tup3, xh_list3, xh_call3, xh_call5, xh_keyc, xh_comp, xh_cmpr, xh_attr, Bool.or_eq_false_iff] at hh
    simp only [xe_var, xe_int, xe_nil, xe_bool, xe_lim, xe_ar, xe_cat, xe_rep, xe_neg, xe_inv, xe_not, xe_cmp, xe_isNone, xe_and2, xe_or2, xe_or3, xe_ite, xe_tup2, xe_tup3, xe_list0, xe_list1, xe_list3, xe_sub, xe_from1, xe_upto1, xe_sl3, xe_len, xe_sum, xe_tuple, xe_bits, xe_divmod, xe_call1, xe_call2, xe_call3, xe_call5, xe_callk, xe_keyc, xe_comp, xe_mk, xe_cmpr, xe_attr]
    rw [iha ρ ρ' h hh.1.1.1.1, ihb ρ ρ' h hh.1.1.1.2, ihc ρ ρ' h hh.1.1.2, ihd ρ ρ' h hh.1.2, ihe ρ ρ' h hh.2]

noncomputable def mask (own : List Nat) (ρ : Env') : Env' := (ρ.zipIdx).map fun (v, i) => if own.contains i then none else v
theorem mask_get (own : List Nat) (ρ : Env') (i : Nat) : (mask own ρ)[i]? = (ρ[i]?).map fun v => if own.contains i then none else v := by
  simp [mask]
  cases ρ[i]? <;> simp
theorem mask_agree (own : List Nat) (ρ : Env') : Agree own (mask own ρ) ρ := by
  refine ⟨by simp [mask], fun i hi => ?_⟩
  rw [mask_get, hi]
  cases ρ[i]? <;> simp
theorem mask_set {own : List Nat} {ρ : Env'} {k : Nat} {v : Option EV} (h : own.contains k = false) : mask own (ρ.set k v) = (mask own ρ).set k v := by
  apply List.ext_getElem?
  intro i
  rw [mask_get]
  by_cases q : k = i
  · subst q
    by_cases hl : k < ρ.length
    · rw [List.getElem?_set_self hl, List.getElem?_set_self (by simp [mask]; exact hl)]
      simp only [Option.map_some, h]; rfl
    · rw [List.getElem?_eq_none (by simp; omega), List.getElem?_eq_none (by simp [mask]; omega)]; rfl
  · rw [List.getElem?_set_ne q, List.getElem?_set_ne q, mask_get]
theorem mask_set_own {own : List Nat} {ρ : Env'} {k : Nat} {v : Option EV} (h : own.contains k = true) : mask own (ρ.set k v) = mask own ρ := by
  apply List.ext_getElem?
  intro i
  rw [mask_get, mask_get]
  by_cases q : k = i
  · subst q
    by_cases hl : k < ρ.length
    · rw [List.getElem?_set_self hl, List.getElem?_eq_getElem hl]
      simp only [Option.map_some, h]; rfl
    · rw [List.getElem?_eq_none (by simp; omega), List.getElem?_eq_none (by omega)]
  · rw [List.getElem?_set_ne q]
end Mine

/-! SB17 -/
namespace Mine
open PySem PySem.W PyProof.Rows PySem.Calls PySem.Spec PySem.SeqAt

/-- a frame of the text at work: its names, its one list of its own -/
structure Sx (G : Gr) (vs : List Str) (sc : Fc) (k : Nat) (own : List Nat) (M Hc : List Addr) (oa : Option Addr) (A : Around) (env : Env) (ρ : Env') (s : Shared) : Prop where
  cx : Cx G vs sc k (oa.toList ++ (M ++ Hc)) A env (mask own ρ) s
  nd : vs.Nodup
  ml : Mut G s.heap env.locals
  lM : env.locals ∈ M
  mc : ∀ x c, env.kindOf x = some .cell → env.cells.lookup x = some c → c ∈ M ∧ Mut G s.heap c ∧ ∃ v, s.heap.IsCell c v
  ap : ∀ x y c, env.cells.lookup x = some c → env.cells.lookup y = some c → x = y
  nf : ∀ x, env.kindOf x ≠ some .free
  tH : ∀ b ∈ G.T, b ∈ Hc
  ol : ∀ i ev, own.contains i = true → ρ[i]? = some (some ev) → ∃ ds x a ys, ev = .dat (.list ds) ∧ vs[i]? = some x ∧ oa = some a ∧ Var s.heap env x (.ref a) ∧ a ∉ M ++ Hc ∧ Mut G s.heap a ∧ s.heap.PlainList a ys ∧ RdL (oa.toList ++ (M ++ Hc)) s.heap ys.toList ds
  one : ∀ i j, own.contains i = true → own.contains j = true → i = j
  ou : (∀ i, own.contains i = true → (ρ[i]?).join = none) → oa = none

section
variable {G : Gr} {fa : Nat → Addr} {Φ : Phi} {k : Nat} {vs : List Str} {sc : Fc} {own : List Nat} {M Hc : List Addr} {oa : Option Addr} {A : Around} {env : Env} {ρ : Env'} {s : Shared}

theorem Mut.ext {s' : Shared} (g : Gw G s s') {a : Addr} (m : Mut G s.heap a) : Mut G s'.heap a := ⟨m.new, m.notT, let ⟨o, e, n⟩ := m.obj; ⟨o, g.ext _ _ m.notT e, n⟩⟩

theorem Sx.step (x : Sx G vs sc k own M Hc oa A env ρ s) {s' : Shared} (g : Gw G s s') : Sx G vs sc k own M Hc oa A env ρ s' where
  cx := x.cx.step g
  nd := x.nd
  ml := x.ml.ext g
  lM := x.lM
  mc := fun n c h1 h2 => let ⟨p, q, v, o, e, d⟩ := x.mc n c h1 h2; ⟨p, q.ext g, v, o, g.ext _ _ q.notT e, d⟩
  ap := x.ap
  nf := x.nf
  tH := x.tH
  ol := fun i ev h1 h2 => by
    obtain ⟨ds, n, a, ys, e1, e2, e3, e4, e5, e6, e7, e8⟩ := x.ol i ev h1 h2
    obtain ⟨q, e7⟩ := e7
    exact ⟨ds, n, a, ys, e1, e2, e3, e4.ext x.cx.e g.ext, e5, e6.ext g, ⟨q, g.ext _ _ e6.notT e7⟩, e8.mono (view_ext g.ext x.cx.h)⟩
  one := x.one
  ou := x.ou

theorem scal_any {C : Addr} {H H' : List Addr} {h h' : Heap} {v : Value} {ev : EV} (hs : scal ev = true) (r : RdE C H h v ev) : RdE C H' h' v ev := by
  cases ev with
  | dat d =>
    cases d with
    | none => rw [Rd.none r]; exact Rd.ofNone
    | bool b => rw [Rd.bool r]; exact Rd.ofBool b
    | int i => obtain ⟨t, rfl⟩ := Rd.int r; exact Rd.ofInt i t
    | _ => cases hs
  | _ => cases hs

theorem view_less {H H' : List Addr} {h : Heap} (hs : ∀ b ∈ H', b ∈ H) : ∀ b o, (hideAll h H).get? b = some o → (hideAll h H').get? b = some o := by
  intro b o e
  exact hideAll_get _ (of_hideAll _ e) fun q => by rw [hideAll_none H (hs b q)] at e; cases e

/-- with its own list as a value among the others -/
theorem Sx.full (x : Sx G vs sc k own M Hc oa A env ρ s) : Cx G vs sc k (M ++ Hc) A env ρ s where
  a := x.cx.a
  e := x.cx.e
  sk := x.cx.sk
  cd := x.cx.cd
  ql := x.cx.ql
  b := x.cx.b
  h := fun b hb => List.mem_append_right _ (x.tH b hb)
  hx := fun b hb => x.cx.hx b (List.mem_append_right _ hb)
  v := fun i n ev h1 h2 h3 => by
    have less : ∀ b ∈ M ++ Hc, b ∈ oa.toList ++ (M ++ Hc) := fun b hb => List.mem_append_right _ hb
    cases ho : own.contains i with
    | true =>
      obtain ⟨ds, n', a, ys, e1, e2, e3, e4, e5, e6, ⟨q, e7⟩, e8⟩ := x.ol i ev ho h2
      subst e1
      rw [e2] at h1; cases h1
      obtain ⟨as, r⟩ := e8.mono (view_less less)
      exact ⟨_, e4, _, .list (hideAll_get _ e7 e5) rfl rfl r⟩
    | false =>
      have h2' : (mask own ρ)[i]? = some (some ev) := by rw [mask_get, h2]; simp only [Option.map_some, ho]; rfl
      obtain ⟨v, hv, rv⟩ := x.cx.v i n ev h1 h2' h3
      exact ⟨v, hv, rv.mono (view_less less)⟩

theorem sx_eval (x : Sx G vs sc k own M Hc oa A env ρ s) {y : X} {e : Expr} (h : EvOk G Φ k vs sc y e) {ev : EV} (he : evalX Φ y ρ = some ev) (hs : (scal ev || !y.hits own) = true) :
    Wp G A (eval e env) (fun v s' => Gw G s s' ∧ RdE G.C (oa.toList ++ (M ++ Hc)) s'.heap v ev) s := by
  cases hh : y.hits own with
  | false => exact h _ A env _ s ev x.cx (by rw [evalX_agree Φ own y _ _ (mask_agree own ρ) hh]; exact he)
  | true =>
    rw [hh] at hs
    simp at hs
    exact (h _ A env _ s ev x.full he).mono fun v s' zz4 => have g := zz4.1; have r := zz4.2; ⟨g, scal_any hs r⟩

/-- a store of a name that is not the list's -/
theorem sx_store2 (x : Sx G vs sc k own M Hc oa A env ρ s) {n : Str} {i : Nat} {v : Value} {ev : EV} (hi : vs[i]? = some n) (hk : kcls (sc.names.lookup n) = 1 ∨ kcls (sc.names.lookup n) = 2) (ho : own.contains i = false)
    (r : RdE G.C (oa.toList ++ (M ++ Hc)) s.heap v ev) {Q : Unit → Shared → Prop} {E : Value → Shared → Prop} (h : ∀ s', Gs G (M ++ G.T) s s' → Var s'.heap env n v → (∀ y u, y ≠ n → Var s.heap env y u → Var s'.heap env y u) → Sx G vs sc k own M Hc oa A env (ρ.set i (some ev)) s' → Q () s') :
    wpAny (model G.prog G.w) A (storeName env n v) Q E s := by
  have hne : ∀ j, own.contains j = true → i ≠ j := fun j hj q => by subst q; rw [ho] at hj; cases hj
  have hou : (∀ j, own.contains j = true → ((ρ.set i (some ev))[j]?).join = none) → oa = none := fun q => x.ou fun j hj => by have := q j hj; rwa [List.getElem?_set_ne (hne j hj)] at this
  rw [← x.cx.sk] at hk
  rcases hk with hk | hk
  · refine st_local x.cx x.ml (List.mem_append_right _ (List.mem_append_left _ x.lM)) x.nd (kcls1 hk) hi r fun h' hs ml' hself hoth cx' => ?_
    have up := view_same (H := oa.toList ++ (M ++ Hc)) hs (List.mem_append_right _ (List.mem_append_left _ x.lM))
    refine h _ ⟨h', _, rfl, fun b o hb e => hs.extBut b o (fun z => hb (z ▸ List.mem_append_left _ x.lM)) e, cx'.b⟩ hself hoth {
      cx := by rw [mask_set ho]; exact cx'
      nd := x.nd
      ml := ml'
      lM := x.lM
      mc := fun y c h1 h2 => ?_
      ap := x.ap
      nf := x.nf
      tH := x.tH
      ol := fun j ev' h1 h2 => ?_
      one := x.one
      ou := hou }
    · obtain ⟨p, q, v, o, e, d⟩ := x.mc y c h1 h2
      have hcl : c ≠ env.locals := fun z => by
        obtain ⟨m, o', es, ep, e1', e2', _⟩ := x.cx.e.ns
        rw [z, e1'] at e; cases e
        rw [e2'] at d; cases d
      obtain ⟨o2, e2, n2⟩ := q.obj
      exact ⟨p, ⟨q.new, q.notT, o2, hs.extBut _ _ hcl e2, n2⟩, v, o, hs.extBut _ _ hcl e, d⟩
    · rw [List.getElem?_set_ne (hne j h1)] at h2
      obtain ⟨ds, n', a, ys, e1, e2, e3, e4, e5, e6, ⟨q, e7⟩, e8⟩ := x.ol j ev' h1 h2
      have hal : a ≠ env.locals := fun z => e5 (z ▸ List.mem_append_left _ x.lM)
      obtain ⟨o2, e2', n2⟩ := e6.obj
      exact ⟨ds, n', a, ys, e1, e2, e3, hoth n' _ (nodup_ne x.nd hi e2 (hne j h1)) e4, e5, ⟨e6.new, e6.notT, o2, hs.extBut _ _ hal e2', n2⟩, ⟨q, hs.extBut _ _ hal e7⟩, e8.mono up⟩
  · have hk' : env.kindOf n = some .cell := by
      cases q : env.kindOf n with
      | none => rw [q] at hk; cases hk
      | some kd =>
        rw [q] at hk
        cases kd with
        | cell => rfl
        | free => exact absurd q (x.nf n)
        | _ => cases hk
    obtain ⟨c, hc⟩ := Option.isSome_iff_exists.mp (x.cx.e.has n hk)
    obtain ⟨cM, mcc, v₀, hv₀⟩ := x.mc n c hk' hc
    refine st_cell x.cx hk' hc hv₀ mcc (List.mem_append_right _ (List.mem_append_left _ cM)) (fun y hy => x.ap y n c hy hc) x.nd hi r fun h' hs mc' hcell hself hoth cx' => ?_
    have up := view_same (H := oa.toList ++ (M ++ Hc)) hs (List.mem_append_right _ (List.mem_append_left _ cM))
    refine h _ ⟨h', _, rfl, fun b o hb e => hs.extBut b o (fun z => hb (z ▸ List.mem_append_left _ cM)) e, cx'.b⟩ hself hoth {
      cx := by rw [mask_set ho]; exact cx'
      nd := x.nd
      ml := ⟨x.ml.new, x.ml.notT, let ⟨m, hm⟩ := cx'.e.ns; ns_notCode hm⟩
      lM := x.lM
      mc := fun y c' h1 h2 => ?_
      ap := x.ap
      nf := x.nf
      tH := x.tH
      ol := fun j ev' h1 h2 => ?_
      one := x.one
      ou := hou }
    · by_cases z : c' = c
      · subst z; exact ⟨cM, mc', _, hcell⟩
      · obtain ⟨p, q, v, o, e, d⟩ := x.mc y c' h1 h2
        obtain ⟨o2, e2, n2⟩ := q.obj
        exact ⟨p, ⟨q.new, q.notT, o2, hs.extBut _ _ z e2, n2⟩, v, o, hs.extBut _ _ z e, d⟩
    · rw [List.getElem?_set_ne (hne j h1)] at h2
      obtain ⟨ds, n', a, ys, e1, e2, e3, e4, e5, e6, ⟨q, e7⟩, e8⟩ := x.ol j ev' h1 h2
      have hal : a ≠ c := fun z => e5 (z ▸ List.mem_append_left _ cM)
      obtain ⟨o2, e2', n2⟩ := e6.obj
      exact ⟨ds, n', a, ys, e1, e2, e3, hoth n' _ (nodup_ne x.nd hi e2 (hne j h1)) e4, e5, ⟨e6.new, e6.notT, o2, hs.extBut _ _ hal e2', n2⟩, ⟨q, hs.extBut _ _ hal e7⟩, e8.mono up⟩
/-- a store of a name that is not the list's -/
theorem sx_store (x : Sx G vs sc k own M Hc oa A env ρ s) {n : Str} {i : Nat} {v : Value} {ev : EV} (hi : vs[i]? = some n) (hk : kcls (sc.names.lookup n) = 1 ∨ kcls (sc.names.lookup n) = 2) (ho : own.contains i = false)
    (r : RdE G.C (oa.toList ++ (M ++ Hc)) s.heap v ev) {Q : Unit → Shared → Prop} {E : Value → Shared → Prop} (h : ∀ s', Gs G (M ++ G.T) s s' → Sx G vs sc k own M Hc oa A env (ρ.set i (some ev)) s' → Q () s') :
    wpAny (model G.prog G.w) A (storeName env n v) Q E s := sx_store2 x hi hk ho r fun s' g _ _ sx => h s' g sx
end
end Mine

/-! SB18 -/
namespace Mine
open PySem PySem.W PyProof.Rows PySem.Calls PySem.Spec PySem.SeqAt

/-- what a statement leaves -/
noncomputable def Post (G : Gr) (vs : List Str) (sc : Fc) (k : Nat) (own : List Nat) (M Hc : List Addr) (oa : Option Addr) (A : Around) (env : Env) (s : Shared) (out : Out) (f : Flow) (s' : Shared) : Prop :=
  Gs G (oa.toList ++ (M ++ G.T)) s s' ∧ match out with
    | .next ρ' => f = .next ∧ ∃ oa', (oa' = oa ∨ (oa = none ∧ ∃ a, oa' = some a ∧ s.heap.get? a = none)) ∧ Sx G vs sc k own M Hc oa' A env ρ' s'
    | .ret v => ∃ val, f = .ret val ∧ RdE G.C (M ++ Hc) s'.heap val v

noncomputable def StOk (G : Gr) (Φ : Phi) (k : Nat) (vs : List Str) (sc : Fc) (own : List Nat) (x : S) (st : Stmt) : Prop :=
  ∀ M Hc oa A env ρ s out, Sx G vs sc k own M Hc oa A env ρ s → evalS Φ own x ρ = some out → Wp G A (exec st env) (Post G vs sc k own M Hc oa A env s out) s
noncomputable def BlOk (G : Gr) (Φ : Phi) (k : Nat) (vs : List Str) (sc : Fc) (own : List Nat) (x : S) (sts : List Stmt) : Prop :=
  ∀ M Hc oa A env ρ s out, Sx G vs sc k own M Hc oa A env ρ s → evalS Φ own x ρ = some out → Wp G A (execs sts env) (Post G vs sc k own M Hc oa A env s out) s

section
variable {G : Gr} {fa : Nat → Addr} {Φ : Phi} {k : Nat} {vs : List Str} {sc : Fc} {own : List Nat}

/-- one behind the other -/
theorem Post.trans {M Hc : List Addr} {oa oa' : Option Addr} {A : Around} {env : Env} {s s' s'' : Shared} {out : Out} {f : Flow} {ρ₁ : Env'} (sx1 : Sx G vs sc k own M Hc oa' A env ρ₁ s') (h1 : Gs G (oa.toList ++ (M ++ G.T)) s s') (ho : oa' = oa ∨ (oa = none ∧ ∃ a, oa' = some a ∧ s.heap.get? a = none))
    (h2 : Post G vs sc k own M Hc oa' A env s' out f s'') : Post G vs sc k own M Hc oa A env s out f s'' := by
  obtain ⟨g2, h2⟩ := h2
  have g3 : Gs G (oa.toList ++ (M ++ G.T)) s s'' := by
    rcases ho with rfl | ⟨rfl, a, rfl, ha⟩
    · exact h1.trans g2
    · obtain ⟨h', tk, rfl, k1, b1⟩ := h1
      obtain ⟨h'', tk', rfl, k2, b2⟩ := g2
      refine ⟨h'', tk', rfl, fun b o hb e => k2 b o (fun z => ?_) (k1 b o hb e), b2⟩
      simp only [Option.toList_some, List.singleton_append, List.mem_cons] at z
      rcases z with rfl | z
      · rw [ha] at e; cases e
      · exact hb (by simpa using z)
  refine ⟨g3, ?_⟩
  cases out with
  | ret v => exact h2
  | next ρ' =>
    obtain ⟨hf, oa'', ho'', sx⟩ := h2
    refine ⟨hf, oa'', ?_, sx⟩
    rcases ho with rfl | ⟨rfl, a, rfl, ha⟩
    · rcases ho'' with rfl | ⟨rfl, b, rfl, hb⟩
      · exact .inl rfl
      · refine .inr ⟨rfl, b, rfl, ?_⟩
        cases q : s.heap.get? b with
        | none => rfl
        | some o =>
          by_cases hM : b ∈ M ++ G.T
          · exfalso
            have hm : b ∈ M ++ Hc := by
              rcases List.mem_append.mp hM with hM | hM
              · exact List.mem_append_left _ hM
              · exact List.mem_append_right _ (sx1.tH b hM)
            obtain ⟨o', e', _⟩ := sx1.full.hx b hm
            rw [e'] at hb; cases hb
          · rw [h1.keep b o (by simpa using hM) q] at hb; cases hb
    · rcases ho'' with rfl | ⟨q, _⟩
      · exact .inr ⟨rfl, a, rfl, ha⟩
      · cases q

theorem bl_nil : BlOk G Φ k vs sc own .nop [] := by
  intro M Hc oa A env ρ s out x he
  cases he
  exact wpAny_execs_nil ⟨Gs.refl x.cx.b, rfl, oa, .inl rfl, x⟩
theorem bl_cons {a b : S} {st : Stmt} {rest : List Stmt} (ha : StOk G Φ k vs sc own a st) (hb : BlOk G Φ k vs sc own b rest) : BlOk G Φ k vs sc own (.seq a b) (st :: rest) := by
  intro M Hc oa A env ρ s out x he
  dsimp only [se_dead, se_nop, se_seq, se_assign, se_unpack, se_swap, se_newl, se_app, se_ins, se_rvs, se_ite, se_whl, se_loop, se_ret] at he
  split at he
  · rename_i ρ' ea
    refine wpAny_execs_cons ((ha M Hc oa A env ρ s _ x ea).mono fun f s' ⟨g, hf, oa', ho, sx⟩ => ?_)
    subst hf
    exact (hb M Hc oa' A env ρ' s' out sx he).mono fun f' s'' p => Post.trans sx g ho p
  · rename_i r hr
    rw [he] at hr
    cases out with
    | next ρ' => exact absurd rfl (hr ρ')
    | ret v =>
      refine wpAny_execs_cons ((ha M Hc oa A env ρ s _ x he).mono fun f s' ⟨g, val, hf, rv⟩ => ?_)
      subst hf
      exact ⟨g, val, rfl, rv⟩
theorem bl_dead {sts : List Stmt} : BlOk G Φ k vs sc own .dead sts := by intro M Hc oa A env ρ s out x he; cases he
theorem st_dead {st : Stmt} : StOk G Φ k vs sc own .dead st := by intro M Hc oa A env ρ s out x he; cases he

theorem st_ret {y : X} {e : Expr} {pos : Pos} (h : EvOk G Φ k vs sc y e) : StOk G Φ k vs sc own (.ret y) (.Return (some e) pos) := by
  intro M Hc oa A env ρ s out x he
  dsimp only [se_dead, se_nop, se_seq, se_assign, se_unpack, se_swap, se_newl, se_app, se_ins, se_rvs, se_ite, se_whl, se_loop, se_ret] at he
  obtain ⟨v, hv, rfl⟩ := Option.map_eq_some_iff.mp he
  exact wpAny_Return_some ((h _ A env ρ s v x.full hv).mono fun val s' zz5 => have g := zz5.1; have r := zz5.2; ⟨g.gs fun b hb => List.mem_append_right _ (List.mem_append_right _ hb), val, rfl, r⟩)

theorem st_ite {c : X} {a b : S} {t : Expr} {body orelse : List Stmt} {pos : Pos} (hc : TrOk G Φ k vs sc c t) (ha : BlOk G Φ k vs sc own a body) (hb : BlOk G Φ k vs sc own b orelse) : StOk G Φ k vs sc own (.ite c a b) (.If t body orelse pos) := by
  intro M Hc oa A env ρ s out x he
  dsimp only [se_dead, se_nop, se_seq, se_assign, se_unpack, se_swap, se_newl, se_app, se_ins, se_rvs, se_ite, se_whl, se_loop, se_ret] at he
  split at he
  · rename_i ec
    refine wpAny_If ((hc _ A env ρ s _ x.full ec).mono fun v s' zz6 => have hv := zz6.1; have g := zz6.2; ?_)
    subst hv
    rw [if_pos rfl]
    exact (ha M Hc oa A env ρ s' out (x.step g) he).mono fun f s'' p => Post.trans (x.step g) (g.gs fun b hb => List.mem_append_right _ (List.mem_append_right _ hb)) (.inl rfl) p
  · rename_i ec
    refine wpAny_If ((hc _ A env ρ s _ x.full ec).mono fun v s' zz7 => have hv := zz7.1; have g := zz7.2; ?_)
    subst hv
    rw [if_neg Bool.false_ne_true]
    exact (hb M Hc oa A env ρ s' out (x.step g) he).mono fun f s'' p => Post.trans (x.step g) (g.gs fun b hb => List.mem_append_right _ (List.mem_append_right _ hb)) (.inl rfl) p
  · cases he

theorem st_while {c : X} {b : S} {t : Expr} {body : List Stmt} {pos : Pos} (hc : TrOk G Φ k vs sc c t) (hb : BlOk G Φ k vs sc own b body) : StOk G Φ k vs sc own (.whl c b) (.While t body [] pos) := by
  intro M Hc oa A env ρ s out x he
  dsimp only [se_dead, se_nop, se_seq, se_assign, se_unpack, se_swap, se_newl, se_app, se_ins, se_rvs, se_ite, se_whl, se_loop, se_ret] at he
  refine wpAny_While ?_
  refine codeAny_whileLoop (R := fun r s' => match r with | .ok f => Post G vs sc k own M Hc oa A env s out f s' | .error e => cameBackBy (model G.prog G.w) A env (fun _ _ => False) e s')
    (fun n s' => ∃ ρ' oa', Gs G (oa.toList ++ (M ++ G.T)) s s' ∧ (oa' = oa ∨ (oa = none ∧ ∃ a, oa' = some a ∧ s.heap.get? a = none)) ∧ Sx G vs sc k own M Hc oa' A env ρ' s' ∧ whileN (evalX Φ c) (evalS Φ own b) n ρ' = some out) ?_ 100
    ⟨ρ, oa, Gs.refl x.cx.b, .inl rfl, x, he⟩
  rintro n s' ⟨ρ', oa', g, ho, x', he'⟩
  cases n with
  | zero => cases he'
  | succ n =>
    simp only [whileN] at he'
    split at he'
    · rename_i ec
      refine wpAny_mono (hc _ A env ρ' s' _ x'.full ec) (fun v s'' zz8 => have hv := zz8.1; have g' := zz8.2; ?_) fun _ _ f => f.elim
      subst hv
      rw [if_pos rfl]
      have x'' := x'.step g'
      split at he'
      · rename_i ρ'' eb
        refine wpAny_mono (hb M Hc oa' A env ρ' s'' _ x'' eb) (fun f s₃ p => ?_) fun _ _ f => f.elim
        have p1 := Post.trans x' g ho (Post.trans x'' (g'.gs fun b hb => List.mem_append_right _ (List.mem_append_right _ hb)) (.inl rfl) p)
        obtain ⟨g3, hf, oa'', ho'', sx⟩ := p1
        subst hf
        exact ⟨n, Nat.lt_succ_self n, ρ'', oa'', g3, ho'', sx, he'⟩
      · rename_i r hr
        rw [he'] at hr
        cases out with
        | next ρ'' => exact absurd rfl (hr ρ'')
        | ret v =>
          refine wpAny_mono (hb M Hc oa' A env ρ' s'' _ x'' he') (fun f s₃ p => ?_) fun _ _ f => f.elim
          have p1 := Post.trans x' g ho (Post.trans x'' (g'.gs fun b hb => List.mem_append_right _ (List.mem_append_right _ hb)) (.inl rfl) p)
          obtain ⟨g3, val, hf, rv⟩ := p1
          subst hf
          exact ⟨g3, val, rfl, rv⟩
    · rename_i ec
      cases he'
      refine wpAny_mono (hc _ A env ρ' s' _ x'.full ec) (fun v s'' zz9 => have hv := zz9.1; have g' := zz9.2; ?_) fun _ _ f => f.elim
      subst hv
      rw [if_neg Bool.false_ne_true]
      refine wpAny_execs_nil ?_
      exact Post.trans x' g ho ⟨g'.gs fun b hb => List.mem_append_right _ (List.mem_append_right _ hb), rfl, oa', .inl rfl, x'.step g'⟩
    · cases he'

/-- a name is given a value -/
theorem st_assign {y : X} {e : Expr} {n : Str} {i : Nat} {p pos : Pos} (hi : vs[i]? = some n) (hk : kcls (sc.names.lookup n) = 1 ∨ kcls (sc.names.lookup n) = 2) (h : EvOk G Φ k vs sc y e)
    (hs : ∀ env, SameK sc env → swapsWith e (some (.Name n p)) pos.line env = pure false) : StOk G Φ k vs sc own (.assign i y) (.Assign [.Name n p] e pos) := by
  intro M Hc oa A env ρ s out x he
  dsimp only [se_dead, se_nop, se_seq, se_assign, se_unpack, se_swap, se_newl, se_app, se_ins, se_rvs, se_ite, se_whl, se_loop, se_ret] at he
  split at he
  · rename_i v hv
    simp only [Option.ite_none_right_eq_some, Bool.and_eq_true, Bool.not_eq_true'] at he
    obtain ⟨⟨h1, h2⟩, he⟩ := he
    cases he
    refine wpAny_Assign_Name ((sx_eval x h hv h2).mono fun val s' zz10 => have g := zz10.1; have r := zz10.2; ?_) (hs env x.cx.sk)
    refine sx_store (x.step g) hi hk h1 r fun s'' gs sx => ?_
    exact ⟨(g.gs fun b hb => List.mem_append_right _ (List.mem_append_right _ hb)).trans (gs.mono fun b hb => List.mem_append_right _ hb), rfl, oa, .inl rfl, sx⟩
  · cases he
end
end Mine

/-! SB19 -/
namespace Mine
open PySem PySem.W PyProof.Rows PySem.Calls PySem.Spec PySem.SeqAt

section
variable {G : Gr} {fa : Nat → Addr} {Φ : Phi} {k : Nat} {vs : List Str} {sc : Fc} {own : List Nat}

theorem gs_view {s s' : Shared} {X H : List Addr} (g : Gs G X s s') (hX : ∀ b ∈ X, b ∈ H) : ∀ b o, (hideAll s.heap H).get? b = some o → (hideAll s'.heap H).get? b = some o := by
  intro b o e
  have hb : b ∉ H := fun q => by rw [hideAll_none H q] at e; cases e
  exact hideAll_get _ (g.keep b o (fun z => hb (hX b z)) (of_hideAll _ e)) hb

/-- a target whose names are the frame's -/
noncomputable def TgS (vs : List Str) (sc : Fc) : Tg → Expr → Prop
  | .one i, e => ∃ id pos, e = .Name id pos ∧ vs[i]? = some id ∧ (kcls (sc.names.lookup id) = 1 ∨ kcls (sc.names.lookup id) = 2)
  | .two i j, e => ∃ a b p1 p2 kk pos, e = .Tuple [.Name a p1, .Name b p2] kk pos ∧ vs[i]? = some a ∧ vs[j]? = some b ∧ (kcls (sc.names.lookup a) = 1 ∨ kcls (sc.names.lookup a) = 2) ∧ (kcls (sc.names.lookup b) = 1 ∨ kcls (sc.names.lookup b) = 2)
noncomputable def tgOwn (own : List Nat) : Tg → Bool
  | .one k => own.contains k
  | .two k l => own.contains k || own.contains l

theorem asg_sx {M Hc : List Addr} {oa : Option Addr} {A : Around} {env : Env} {ρ ρ' : Env'} {s : Shared} (x : Sx G vs sc k own M Hc oa A env ρ s) {tg : Tg} {target : Expr} {v : Value} {d : PyData}
    (ht : TgS vs sc tg target) (hb : bindT tg d ρ = some ρ') (ho : tgOwn own tg = false) (r : Rd (oa.toList ++ (M ++ Hc)) s.heap v d) {Q : Unit → Shared → Prop} {E : Value → Shared → Prop}
    (h : ∀ s', Gs G (M ++ G.T) s s' → Sx G vs sc k own M Hc oa A env ρ' s' → Q () s') : wpAny (model G.prog G.w) A (assign target env v) Q E s := by
  have hX : ∀ b ∈ M ++ G.T, b ∈ oa.toList ++ (M ++ Hc) := fun b hb => by
    rcases List.mem_append.mp hb with q | q
    · exact List.mem_append_right _ (List.mem_append_left _ q)
    · exact List.mem_append_right _ (List.mem_append_right _ (x.tH b q))
  cases tg with
  | one i =>
    obtain ⟨id, pos, rfl, h1, h2⟩ := ht
    simp only [bindT, Option.some.injEq] at hb
    subst hb
    exact wpAny_assign_Name (sx_store x h1 h2 ho (ev := .dat d) r fun s' g sx => h s' g sx)
  | two i j =>
    obtain ⟨a, b, p1, p2, kk, pos, rfl, h1, h2, h3, h4⟩ := ht
    obtain ⟨y, z, rfl, rfl⟩ := bindT_two hb
    simp only [tgOwn, Bool.or_eq_false_iff] at ho
    obtain ⟨ad, o, vals, nn, rfl, hoo, hnH, hc, hdt, rl⟩ := Rd.tuple r
    obtain ⟨u, us, hu, ru, rus⟩ := rl.cons_inv
    obtain ⟨w, ws, hw, rw_, rws⟩ := rus.cons_inv
    have hws := rws.nil_inv
    subst hws hw
    have hsz : vals.size = 2 := by rw [← Array.length_toList, hu]; rfl
    refine wpAny_assign_Tuple (items := vals) x.cx.a.hand ⟨o, hoo, hc, nn, hdt⟩ (by rw [hsz]; rfl) rfl fun h₁ hx₁ => ?_
    have hk₁ : ∀ b o, s.heap.get? b = some o → h₁.get? b = some o := fun b o e => hx₁ b o (Nat.ne_of_lt (Heap.lt_size e)) e
    have g1 : Gw G s { s with heap := h₁ } := Gw.heapTok x.cx.b hk₁ s.toks
    have x1 := x.step g1
    rw [hu]
    show wpAny _ A (assignInOrder [assign (.Name a p1) env, assign (.Name b p2) env] [u, w]) _ _ _
    refine wpAny_assignInOrder_more (wpAny_assign_Name (sx_store x1 h1 h3 ho.1 (ev := .dat y) (Rd.ext (G := G) (s := s) ru g1 x.cx.h) fun s₂ g₂ x₂ => ?_))
    refine wpAny_assignInOrder_more (wpAny_assign_Name (sx_store x₂ h2 h4 ho.2 (ev := .dat z) ?_ fun s₃ g₃ x₃ => ?_))
    · exact Rd.mono (gs_view g₂ hX) (Rd.ext (G := G) (s := s) rw_ g1 x.cx.h)
    · exact wpAny_assignInOrder_none (h _ (((g1.gs fun b hb => List.mem_append_right _ hb).trans g₂).trans g₃) x₃)

theorem post_next {M Hc : List Addr} {oa : Option Addr} {A : Around} {env : Env} {ρ' : Env'} {s s₁ s₂ : Shared} (g : Gw G s s₁) (g₂ : Gs G (M ++ G.T) s₁ s₂) (x : Sx G vs sc k own M Hc oa A env ρ' s₂) : Post G vs sc k own M Hc oa A env s (.next ρ') .next s₂ :=
  ⟨(g.gs fun b hb => List.mem_append_right _ (List.mem_append_right _ hb)).trans (g₂.mono fun b hb => List.mem_append_right _ hb), rfl, oa, .inl rfl, x⟩

/-- two names out of what a call gives -/
theorem st_unpack {y : X} {f : Expr} {args : List Expr} {kws : List Keyword} {cp : Pos} {a b : Str} {i j : Nat} {p1 p2 tp pos : Pos} {kk : Nat} (hi : vs[i]? = some a) (hj : vs[j]? = some b) (hka : kcls (sc.names.lookup a) = 1 ∨ kcls (sc.names.lookup a) = 2) (hkb : kcls (sc.names.lookup b) = 1 ∨ kcls (sc.names.lookup b) = 2)
    (h : EvOk G Φ k vs sc y (.Call f args kws cp)) : StOk G Φ k vs sc own (.unpack i j y) (.Assign [.Tuple [.Name a p1, .Name b p2] kk tp] (.Call f args kws cp) pos) := by
  intro M Hc oa A env ρ s out x he
  dsimp only [se_dead, se_nop, se_seq, se_assign, se_unpack, se_swap, se_newl, se_app, se_ins, se_rvs, se_ite, se_whl, se_loop, se_ret] at he
  split at he
  · rename_i va vb hv
    simp only [Option.ite_none_right_eq_some, Bool.and_eq_true, Bool.not_eq_true'] at he
    obtain ⟨⟨⟨h1, h2⟩, h3⟩, he⟩ := he
    cases he
    refine Assign_Tuple ((sx_eval x h hv (by rw [h3]; simp)).mono fun val s' zz11 => have g := zz11.1; have r := zz11.2; ?_)
    refine asg_sx (tg := .two i j) (x.step g) ⟨a, b, p1, p2, kk, tp, rfl, hi, hj, hka, hkb⟩ (d := .tuple [va, vb]) rfl (by simp only [tgOwn, h1, h2]; rfl) r fun s'' gs sx => ?_
    exact post_next g gs sx
  · cases he

/-- two names at once -/
theorem st_swap {y z : X} {l r : Expr} {a b : Str} {i j : Nat} {p1 p2 tp vp pos : Pos} {kk k2 : Nat} (hi : vs[i]? = some a) (hj : vs[j]? = some b) (hka : kcls (sc.names.lookup a) = 1 ∨ kcls (sc.names.lookup a) = 2) (hkb : kcls (sc.names.lookup b) = 1 ∨ kcls (sc.names.lookup b) = 2)
    (h : EvAll G Φ k vs sc [y, z] [l, r]) (hw : ∀ env, SameK sc env → env.scope.kind = .function → swappedStores [.Tuple [.Name a p1, .Name b p2] kk tp] (.Tuple [l, r] k2 vp) env = pure (some [a, b])) :
    StOk G Φ k vs sc own (.swap i j y z) (.Assign [.Tuple [.Name a p1, .Name b p2] kk tp] (.Tuple [l, r] k2 vp) pos) := by
  intro M Hc oa A env ρ s out x he
  have hX : ∀ b ∈ M ++ G.T, b ∈ oa.toList ++ (M ++ Hc) := fun b hb => by
    rcases List.mem_append.mp hb with q | q
    · exact List.mem_append_right _ (List.mem_append_left _ q)
    · exact List.mem_append_right _ (List.mem_append_right _ (x.tH b q))
  dsimp only [se_dead, se_nop, se_seq, se_assign, se_unpack, se_swap, se_newl, se_app, se_ins, se_rvs, se_ite, se_whl, se_loop, se_ret] at he
  split at he
  · rename_i va vb ea eb
    simp only [Option.ite_none_right_eq_some, Bool.and_eq_true, Bool.not_eq_true', bne_iff_ne] at he
    obtain ⟨⟨⟨⟨⟨h1, h2⟩, h3⟩, h4⟩, h5⟩, he⟩ := he
    cases he
    refine Assign_Tuple_swapped (names := [a, b]) ((sx_eval x (ev_tup2 (kk := k2) (pos := vp) h) (ev := .dat (.tuple [va, vb])) (by simp only [xe_var, xe_int, xe_nil, xe_bool, xe_lim, xe_ar, xe_cat, xe_rep, xe_neg, xe_inv, xe_not, xe_cmp, xe_isNone, xe_and2, xe_or2, xe_or3, xe_ite, xe_tup2, xe_tup3, xe_list0, xe_list1, xe_list3, xe_sub, xe_from1, xe_upto1, xe_sl3, xe_len, xe_sum, xe_tuple, xe_bits, xe_divmod, xe_call1, xe_call2, xe_call3, xe_call5, xe_callk, xe_keyc, xe_comp, xe_mk, xe_cmpr, xe_attr, ea, eb]) (by simp only [xh_var, xh_int, xh_nil, xh_bool, xh_lim, xh_list0, xh_ar, xh_cat, xh_rep, xh_cmp, xh_and2, xh_or2, xh_tup2, xh_sub, xh_sl3, xh_divmod, xh_call2, xh_callk, xh_neg, xh_inv, xh_not, xh_isNone, xh_list1, xh_from1, xh_upto1, xh_len, xh_sum, xh_tuple, xh_bits, xh_call1, xh_mk, xh_or3, xh_ite, xh_tup3, xh_list3, xh_call3, xh_call5, xh_keyc, xh_comp, xh_cmpr, xh_attr, h3, h4]; rfl)).mono fun val s' zz12 => have g := zz12.1; have rr := zz12.2; ?_) rfl (hw env x.cx.sk x.cx.e.kind)
    obtain ⟨ad, o, vals, nn, rfl, hoo, hnH, hc, hdt, rl⟩ := Rd.tuple rr
    obtain ⟨u, us, hu, ru, rus⟩ := rl.cons_inv
    obtain ⟨w, ws, hw, rw_, rws⟩ := rus.cons_inv
    have hws := rws.nil_inv
    subst hws hw
    have hsz : vals.size = 2 := by rw [← Array.length_toList, hu]; rfl
    have x0 := x.step g
    rw [show [a, b].length = vals.size from hsz.symm]
    refine wpAny_unpackItems_tuple x.cx.a.hand ⟨o, hoo, hc, nn, hdt⟩ fun h₁ hx₁ => ?_
    have hk₁ : ∀ b o, s'.heap.get? b = some o → h₁.get? b = some o := fun b o e => hx₁ b o (Nat.ne_of_lt (Heap.lt_size e)) e
    have g1 : Gw G s' { s' with heap := h₁ } := Gw.heapTok x0.cx.b hk₁ s'.toks
    have x1 := x0.step g1
    rw [hu]
    show wpAny _ A (assignInOrder [bindName env b, bindName env a] [w, u]) _ _ _
    refine wpAny_assignInOrder_more (wpAny_bindName (sx_store x1 hj hkb h2 (ev := .dat vb) (Rd.ext (G := G) (s := s') rw_ g1 x.cx.h) fun s₂ g₂ x₂ => ?_))
    refine wpAny_assignInOrder_more (wpAny_bindName (sx_store x₂ hi hka h1 (ev := .dat va) ?_ fun s₃ g₃ x₃ => ?_))
    · exact Rd.mono (gs_view g₂ hX) (Rd.ext (G := G) (s := s') ru g1 x.cx.h)
    · exact wpAny_assignInOrder_none (post_next (g.trans g1) (g₂.trans g₃) x₃)
  · cases he
end
end Mine

/-! SB20 -/
namespace Mine
open PySem PySem.W PyProof.Rows PySem.Calls PySem.Spec PySem.SeqAt

section
variable {G : Gr} {fa : Nat → Addr} {Φ : Phi} {k : Nat} {vs : List Str} {sc : Fc} {own : List Nat} {M Hc : List Addr} {oa : Option Addr} {A : Around} {env : Env} {ρ : Env'} {s : Shared}

theorem seq_notCode {h : Heap} {a : Addr} {ys : Array Value} (x : h.PlainList a ys) : ∃ o, h.get? a = some o ∧ NotCode o := by
  obtain ⟨n, e⟩ := x
  exact ⟨_, e, fun vs q t e1 _ => by cases e1⟩

theorem Sx.cell (x : Sx G vs sc k own M Hc oa A env ρ s) {y : Str} (h : kcls (env.kindOf y) = 2) : env.kindOf y = some .cell := by
  cases q : env.kindOf y with
  | none => rw [q] at h; cases h
  | some kd =>
    rw [q] at h
    cases kd with
    | cell => rfl
    | free => exact absurd q (x.nf y)
    | _ => cases h

/-- all stays but one hidden thing that holds no name -/
theorem Sx.but (x : Sx G vs sc k own M Hc oa A env ρ s) {z : Addr} (hz : z ∈ oa.toList ++ (M ++ Hc)) (hM : z ∉ M) {h' : Heap} {tk : Nat} (kp : ∀ b o, b ≠ z → s.heap.get? b = some o → h'.get? b = some o) (bs : Base G h') (oz : ∃ o, h'.get? z = some o ∧ NotCode o) :
    Cx G vs sc k (oa.toList ++ (M ++ Hc)) A env (mask own ρ) { s with heap := h', toks := tk } ∧ Mut G h' env.locals ∧ (∀ y c, env.kindOf y = some .cell → env.cells.lookup y = some c → c ∈ M ∧ Mut G h' c ∧ ∃ v, h'.IsCell c v) ∧ (∀ y u, Var s.heap env y u → Var h' env y u) ∧
      (∀ b o, (hideAll s.heap (oa.toList ++ (M ++ Hc))).get? b = some o → (hideAll h' (oa.toList ++ (M ++ Hc))).get? b = some o) := by
  have hl : env.locals ≠ z := fun q => hM (q ▸ x.lM)
  have hv : ∀ y u, Var s.heap env y u → Var h' env y u := by
    intro y u hu
    rcases hu with ⟨h1, m, ⟨o, es, ep, e, r⟩, hm⟩ | ⟨h1, c, hc, o, e, r⟩
    · exact .inl ⟨h1, m, ⟨o, es, ep, kp _ _ hl e, r⟩, hm⟩
    · have hcM := (x.mc y c (x.cell h1) hc).1
      exact .inr ⟨h1, c, hc, o, kp _ _ (fun q => hM (q ▸ hcM)) e, r⟩
  have up : ∀ b o, (hideAll s.heap (oa.toList ++ (M ++ Hc))).get? b = some o → (hideAll h' (oa.toList ++ (M ++ Hc))).get? b = some o := by
    intro b o e
    have hb : b ∉ oa.toList ++ (M ++ Hc) := fun q => by rw [hideAll_none _ q] at e; cases e
    exact hideAll_get _ (kp b o (fun q => hb (q ▸ hz)) (of_hideAll _ e)) hb
  refine ⟨{
    a := x.cx.a
    e := ⟨x.cx.e.kind, x.cx.e.glob, x.cx.e.blt, x.cx.e.loc, let ⟨m, o, es, ep, e, r⟩ := x.cx.e.ns; ⟨m, o, es, ep, kp _ _ hl e, r⟩, x.cx.e.cel, x.cx.e.has⟩
    sk := x.cx.sk
    cd := x.cx.cd
    ql := x.cx.ql
    b := bs
    h := x.cx.h
    hx := fun b hb => ?_
    v := fun i n ev h1 h2 h3 => let ⟨v, h4, h5⟩ := x.cx.v i n ev h1 h2 h3; ⟨v, hv _ _ h4, h5.mono up⟩ }, ?_, ?_, hv, up⟩
  · by_cases q : b = z
    · exact q ▸ oz
    · obtain ⟨o, e, n⟩ := x.cx.hx b hb; exact ⟨o, kp b o q e, n⟩
  · exact ⟨x.ml.new, x.ml.notT, let ⟨o, e, n⟩ := x.ml.obj; ⟨o, kp _ _ hl e, n⟩⟩
  · intro y c h1 h2
    obtain ⟨p, q, v, o, e, d⟩ := x.mc y c h1 h2
    have hc : c ≠ z := fun w => hM (w ▸ p)
    exact ⟨p, ⟨q.new, q.notT, let ⟨o, e, n⟩ := q.obj; ⟨o, kp _ _ hc e, n⟩⟩, v, o, kp _ _ hc e, d⟩

/-- the list of its own is changed -/
theorem sx_own {a : Addr} (x : Sx G vs sc k own M Hc (some a) A env ρ s) {i : Nat} {ev : EV} (hi : own.contains i = true) (hρ : ρ[i]? = some (some ev)) {h' : Heap} {ys : Array Value} {ds : List PyData}
    (hs : Heap.SameBut a s.heap h') (hl : h'.PlainList a ys) (r : RdL (a :: (M ++ Hc)) s.heap ys.toList ds) :
    Sx G vs sc k own M Hc (some a) A env (ρ.set i (some (.dat (.list ds)))) { s with heap := h' } ∧ Gs G ([a] ++ (M ++ G.T)) s { s with heap := h' } := by
  obtain ⟨ds0, n, a', ys0, e1, e2, e3, e4, e5, e6, e7, e8⟩ := x.ol i ev hi hρ
  cases e3
  have kp : ∀ b o, b ≠ a → s.heap.get? b = some o → h'.get? b = some o := fun b o hb e => hs.extBut b o hb e
  have bs : Base G h' := x.cx.b.same e6 hs
  obtain ⟨c1, c2, c3, c4, c5⟩ := x.but (z := a) (tk := s.toks) (List.mem_append_left _ (by simp)) (fun q => e5 (List.mem_append_left _ q)) kp bs (seq_notCode hl)
  refine ⟨{
    cx := by rw [mask_set_own hi]; exact c1
    nd := x.nd
    ml := c2
    lM := x.lM
    mc := c3
    ap := x.ap
    nf := x.nf
    tH := x.tH
    ol := fun j ev' h1 h2 => ?_
    one := x.one
    ou := fun q => ?_ }, ⟨h', s.toks, rfl, fun b o hb e => kp b o (fun z => hb (z ▸ List.mem_append_left _ (by simp))) e, bs⟩⟩
  · have := x.one j i h1 hi
    subst this
    rcases set_get h2 with ⟨_, rfl⟩ | ⟨hne, _⟩
    · exact ⟨ds, n, a, ys, rfl, e2, rfl, c4 _ _ e4, e5, ⟨e6.new, e6.notT, seq_notCode hl⟩, hl, r.mono c5⟩
    · exact absurd rfl hne
  · have := q i hi
    have hlt : i < ρ.length := (List.getElem?_eq_some_iff.mp hρ).1
    rw [List.getElem?_set_self hlt] at this
    cases this

/-- a name's value -/
theorem load_var {x : Str} {pos : Pos} {v : Value} (ek : env.scope.kind = .function) (hv : Var s.heap env x v) (hd : (x == ("__debug__" : Str)) = false) (hc : (x == ("__classdict__" : Str)) = false) {Q : Value → Shared → Prop} {E : Value → Shared → Prop} (h : Q v s) :
    wpAny (model G.prog G.w) A (eval (.Name x pos) env) Q E s := by
  refine wpAny_Name ?_ hd
  rcases hv with ⟨h1, m, h2, h3⟩ | ⟨h1, c, h2, h3⟩
  · exact wpAny_loadName_local ek h1 h2 h3 h
  · cases q : env.kindOf x with
    | none => rw [q] at h1; cases h1
    | some kd =>
      rw [q] at h1
      cases kd with
      | cell => exact wpAny_loadName_cell ek q h2 h3 h
      | free => exact wpAny_loadName_free ek q h2 h3 h hc
      | _ => cases h1

theorem not_interactive (h : env.scope.kind = .function) : interactive env = false := by unfold interactive; rw [h]; rfl

theorem join_some {ρ : Env'} {i : Nat} {ev : EV} (h : (ρ[i]?).join = some ev) : ρ[i]? = some (some ev) := by
  cases q : ρ[i]? with
  | none => rw [q] at h; cases h
  | some o => rw [q] at h; cases o with
    | none => cases h
    | some e' => cases h; rfl

/-- a new list of its own -/
theorem st_newl {n : Str} {i : Nat} {p lp pos : Pos} (hi : vs[i]? = some n) (hk : kcls (sc.names.lookup n) = 1 ∨ kcls (sc.names.lookup n) = 2) : StOk G Φ k vs sc own (.newl i) (.Assign [.Name n p] (.List [] lp) pos) := by
  intro M Hc oa A env ρ s out x he
  dsimp only [se_dead, se_nop, se_seq, se_assign, se_unpack, se_swap, se_newl, se_app, se_ins, se_rvs, se_ite, se_whl, se_loop, se_ret] at he
  split at he
  case h_2 => cases he
  rename_i h2
  simp only [Option.ite_none_right_eq_some] at he
  obtain ⟨h1, he⟩ := he
  cases he
  have hoa : oa = none := x.ou fun j hj => by
    rw [x.one j i hj h1, h2]; rfl
  subst hoa
  have g1 : Gw G s { s with heap := s.heap.push { cls := .type "list", data := .seq #[] } } := Gw.push x.cx.b _
  refine wpAny_Assign_Name (wpAny_List (wpAny_items_nil ⟨by simp, ?_⟩)) rfl
  have fr := x.cx.b.fresh (Nat.le_refl s.heap.objs.size)
  have hno : ∀ b o, s.heap.get? b = some o → b ≠ s.heap.objs.size := fun b o e => Nat.ne_of_lt (Heap.lt_size e)
  have hin : s.heap.objs.size ∉ M ++ Hc := fun q => by obtain ⟨o, e, _⟩ := x.full.hx _ q; exact hno _ _ e rfl
  -- as a frame without a list of its own
  have x0 : Sx G vs sc k [] M Hc none A env (mask own ρ) s := {
    cx := by
      have : mask [] (mask own ρ) = mask own ρ := by
        apply List.ext_getElem?; intro j; rw [mask_get]; cases (mask own ρ)[j]? <;> rfl
      rw [this]; exact x.cx
    nd := x.nd, ml := x.ml, lM := x.lM, mc := x.mc, ap := x.ap, nf := x.nf, tH := x.tH
    ol := fun j ev hj => by cases hj
    one := fun j j' hj => by cases hj
    ou := fun _ => rfl }
  have pl : (s.heap.push { cls := .type "list", data := .seq #[] }).PlainList s.heap.objs.size #[] := ⟨0, Heap.get?_push_size _ rfl⟩
  have rr : RdE G.C ((none : Option Addr).toList ++ (M ++ Hc)) (s.heap.push { cls := .type "list", data := .seq #[] }) (.ref s.heap.objs.size) (.dat (.list [])) := by
    obtain ⟨q, e⟩ := pl
    exact ⟨_, .list (hideAll_get _ e hin) rfl rfl .nil⟩
  refine sx_store2 (x0.step g1) hi hk rfl rr fun s₂ g₂ hself hoth x₂ => ?_
  have hnM : s.heap.objs.size ∉ M ++ G.T := fun q => by
    rcases List.mem_append.mp q with q | q
    · exact hin (List.mem_append_left _ q)
    · exact fr.2 q
  have pl2 : s₂.heap.PlainList s.heap.objs.size #[] := let ⟨q, e⟩ := pl; ⟨q, g₂.keep _ _ hnM e⟩
  have kp : ∀ b o, b ∉ M ++ G.T → s.heap.get? b = some o → s₂.heap.get? b = some o := fun b o hb e => g₂.keep b o hb (Heap.get?_push_of_some _ e)
  refine ⟨(g1.gs fun b hb => List.mem_append_right _ hb).trans g₂, rfl, some s.heap.objs.size, .inr ⟨rfl, _, rfl, Heap.get?_none_of_le (Nat.le_refl _)⟩, {
    cx := {
      a := x₂.cx.a, e := x₂.cx.e, sk := x₂.cx.sk, cd := x₂.cx.cd, ql := x₂.cx.ql, b := x₂.cx.b
      h := fun b hb => List.mem_append_right _ (x.cx.h b hb)
      hx := fun b hb => ?_
      v := fun j y ev q1 q2 q3 => ?_ }
    nd := x.nd, ml := x₂.ml, lM := x₂.lM, mc := x₂.mc, ap := x₂.ap, nf := x₂.nf, tH := x₂.tH
    ol := fun j ev q1 q2 => ?_
    one := x.one
    ou := fun q => ?_ }⟩
  · rcases List.mem_append.mp hb with q | q
    · simp at q; subst q; exact seq_notCode pl2
    · exact x₂.cx.hx b q
  · rw [mask_set_own h1] at q2
    have hj : own.contains j = false := by
      rw [mask_get] at q2
      cases z : own.contains j with
      | false => rfl
      | true =>
        cases w : ρ[j]? with
        | none => rw [w] at q2; cases q2
        | some o => rw [w] at q2; simp only [Option.map_some, z, if_true] at q2; cases q2
    have hji : i ≠ j := fun z => by subst z; rw [h1] at hj; cases hj
    obtain ⟨u, hu, ru⟩ := x.cx.v j y ev q1 q2 q3
    refine ⟨u, hoth y u (nodup_ne x.nd hi q1 hji) (hu.ext x.cx.e g1.ext), ru.mono fun b o e => ?_⟩
    have e' := of_hideAll _ e
    have hb : b ∉ M ++ Hc := fun q => by rw [hideAll_none _ (by simpa using q)] at e; cases e
    refine hideAll_get _ (kp b o (fun q => hb ?_) e') fun q => ?_
    · rcases List.mem_append.mp q with q | q
      · exact List.mem_append_left _ q
      · exact List.mem_append_right _ (x.tH b q)
    · rcases List.mem_append.mp q with q | q
      · simp at q; exact hno _ _ e' q
      · exact hb q
  · have := x.one j i q1 h1
    subst this
    rcases set_get q2 with ⟨_, rfl⟩ | ⟨hne, _⟩
    · exact ⟨[], n, _, #[], rfl, hi, rfl, hself, hin, ⟨fr.1, fr.2, seq_notCode pl2⟩, pl2, RdL.nil⟩
    · exact absurd rfl hne
  · exfalso
    have hlt : i < ρ.length := (List.getElem?_eq_some_iff.mp h2).1
    have := q i h1
    rw [List.getElem?_set_self hlt] at this
    cases this
end
end Mine

/-! SB21 -/
namespace Mine
open PySem PySem.W PyProof.Rows PySem.Calls PySem.Spec PySem.SeqAt

section
variable {G : Gr} {fa : Nat → Addr} {Φ : Phi} {k : Nat} {vs : List Str} {sc : Fc} {own : List Nat}

theorem post_own {M Hc : List Addr} {a : Addr} {A : Around} {env : Env} {ρ' : Env'} {s s₁ s₂ : Shared} (g : Gw G s s₁) (g₂ : Gs G ([a] ++ (M ++ G.T)) s₁ s₂) (x : Sx G vs sc k own M Hc (some a) A env ρ' s₂) : Post G vs sc k own M Hc (some a) A env s (.next ρ') .next s₂ :=
  ⟨(g.gs fun b hb => List.mem_append_right _ (List.mem_append_right _ hb)).trans g₂, rfl, some a, .inl rfl, x⟩

/-- a method of the list of its own -/
theorem own_call {M Hc : List Addr} {a : Addr} {A : Around} {env : Env} {ρ : Env'} {s : Shared} (x : Sx G vs sc k own M Hc (some a) A env ρ s) {n name : Str} {id : String} {p ap cp pos : Pos} {o : Obj} (hv : Var s.heap env n (.ref a)) (ho : s.heap.get? a = some o) (hoc : o = { cls := .type "list", data := o.data })
    (hd : (n == ("__debug__" : Str)) = false) (hc : (n == ("__classdict__" : Str)) = false) (slot : Slot "list" name id) (hty : typeOf (.builtin id) = pure (.type "method_descriptor")) {ys : Array Value} (hpl : s.heap.PlainList a ys)
    {xs : List X} {es : List Expr} (h : EvAll G Φ k vs sc xs es) (hl : ap.endLine = cp.line) (hn : es.length < 30) {evs : List EV} (he : evs? Φ (mask own ρ) xs evs) {Q : Flow → Shared → Prop}
    (hq : ∀ vals s', Gw G s s' → RdEs G.C ([a] ++ (M ++ Hc)) s'.heap vals evs → wpAny (model G.prog G.w) A (call (.builtin id) (.ref a :: vals)) (fun v s'' => v = .none ∧ Q .next s'') (fun _ _ => False) s') :
    Wp G A (exec (.Expr (.Call (.Attribute (.Name n p) name ap) es [] cp) pos) env) Q s := by
  have hst : (backTo cp (starEach es env)).any (·.1) = false := plain_args h env cp
  refine wpAny_Expr (MethodCall_ (load_var x.cx.e.kind hv hd hc ?_) (method_he hl hst hn)) (not_interactive x.cx.e.kind)
  refine getMethod_list_of slot hty hpl.isList ?_ ?_
  · obtain ⟨q, e⟩ := hpl; exact ⟨_, e, rfl⟩
  have fin : ∀ (vals : List Value) (s' : Shared), Gw G s s' → RdEs G.C ([a] ++ (M ++ Hc)) s'.heap vals evs → wpAny (model G.prog G.w) A (call (.builtin id) (.ref a :: vals)) (fun v s' => match v with | .ref _ => False | _ => Q .next s') (fun _ _ => False) s' :=
    fun vals s' g r => wpAny_mono (hq vals s' g r) (fun v s'' zz20 => have e := zz20.1; have q := zz20.2; by subst e; exact q) fun _ _ f => f
  cases xs with
  | nil =>
    cases es with
    | cons _ _ => cases h
    | nil => cases evs with
      | cons _ _ => cases he
      | nil => exact callWith_method0 (fin [] s (Gw.refl x.cx.b) trivial)
  | cons x1 xs =>
    cases es with
    | nil => cases h
    | cons e1 es => exact callWith_method1 ((args_ok h x.cx he).mono fun vals s' zz21 => have g := zz21.1; have r := zz21.2; fin vals s' g r) (h.1.2 _ _) (plain_args h.2 _ _)

theorem st_app {y : X} {e : Expr} {n : Str} {i : Nat} {p ap cp pos : Pos} (hi : vs[i]? = some n) (hd : (n == ("__debug__" : Str)) = false) (hc : (n == ("__classdict__" : Str)) = false) (hl : ap.endLine = cp.line) (h : EvAll G Φ k vs sc [y] [e]) :
    StOk G Φ k vs sc own (.app i y) (.Expr (.Call (.Attribute (.Name n p) (Str.ofString "append") ap) [e] [] cp) pos) := by
  intro M Hc oa A env ρ s out x he
  dsimp only [se_dead, se_nop, se_seq, se_assign, se_unpack, se_swap, se_newl, se_app, se_ins, se_rvs, se_ite, se_whl, se_loop, se_ret] at he
  split at he
  case h_2 => cases he
  rename_i ds d hj ed
  simp only [Option.ite_none_right_eq_some, Bool.and_eq_true, Bool.not_eq_true', decide_eq_true_eq] at he
  obtain ⟨⟨⟨h1, h2⟩, h3⟩, he⟩ := he
  cases he
  have hρ := join_some hj
  obtain ⟨ds', n', a, ys, e1, e2, e3, e4, e5, e6, e7, e8⟩ := x.ol i _ h1 hρ
  cases e1; subst e3
  rw [hi] at e2; cases e2
  refine own_call x e4 e7.choose_spec rfl hd hc F.slot_list_append F.type_list_append e7 h hl (by simp) (evs := [.dat d]) ⟨by rw [evalX_agree Φ own y _ _ (mask_agree own ρ) h2]; exact ed, trivial⟩ fun vals s' g r => ?_
  obtain ⟨v, rfl, rv⟩ := r.one
  have x' := x.step g
  obtain ⟨ds', n', a', ys', f1, f2, f3, f4, f5, f6, f7, f8⟩ := x'.ol i _ h1 hρ
  cases f1; cases f3
  have hsz : ys'.size ≤ sizeLine := by have := f8.length; rw [Array.length_toList] at this; rw [sizeLine_eq]; omega
  refine wpAny_list_append_plain (hsz := hsz) f7 fun h' hl' hs' => ⟨rfl, ?_⟩
  · have := sx_own x' h1 hρ hs' hl' (ds := ds ++ [d]) (by simpa using f8.append (RdL.cons rv RdL.nil))
    exact post_own g this.2 this.1

theorem st_rvs {n : Str} {i : Nat} {p ap cp pos : Pos} (hi : vs[i]? = some n) (hd : (n == ("__debug__" : Str)) = false) (hc : (n == ("__classdict__" : Str)) = false) (hl : ap.endLine = cp.line) :
    StOk G Φ k vs sc own (.rvs i) (.Expr (.Call (.Attribute (.Name n p) (Str.ofString "reverse") ap) [] [] cp) pos) := by
  intro M Hc oa A env ρ s out x he
  dsimp only [se_dead, se_nop, se_seq, se_assign, se_unpack, se_swap, se_newl, se_app, se_ins, se_rvs, se_ite, se_whl, se_loop, se_ret] at he
  split at he
  case h_2 => cases he
  rename_i ds hj
  simp only [Option.ite_none_right_eq_some, Bool.and_eq_true, Bool.not_eq_true', decide_eq_true_eq] at he
  obtain ⟨⟨h1, h3⟩, he⟩ := he
  cases he
  have hρ := join_some hj
  obtain ⟨ds', n', a, ys, e1, e2, e3, e4, e5, e6, e7, e8⟩ := x.ol i _ h1 hρ
  cases e1; subst e3
  rw [hi] at e2; cases e2
  refine own_call (Φ := Φ) x e4 e7.choose_spec rfl hd hc F.slot_list_reverse F.type_list_reverse e7 (xs := []) (es := []) trivial hl (by simp) (evs := []) trivial fun vals s' g r => ?_
  cases vals with
  | cons _ _ => cases r
  | nil =>
  have x' := x.step g
  obtain ⟨ds', n', a', ys', f1, f2, f3, f4, f5, f6, f7, f8⟩ := x'.ol i _ h1 hρ
  cases f1; cases f3
  obtain ⟨q, f7'⟩ := id f7
  have hsz : ys'.size ≤ sizeLine := by have := f8.length; rw [Array.length_toList] at this; rw [sizeLine_eq]; omega
  refine call_meets F.slot_list_reverse ⟨_, f7', rfl⟩ F.entry_list_reverse (F.args_list_reverse_1 _) (AutoSeq1.list_reverse_list_0 a ys' q hsz) ⟨f7', rfl, ?_⟩
  have hr : ∀ {H : List Addr} {h : Heap} (ds : List PyData) (vals : List Value), RdL H h vals ds → RdL H h vals.reverse ds.reverse := by
    intro H h ds
    induction ds with
    | nil => intro vals r; rw [r.nil_inv]; exact RdL.nil
    | cons d ds ih =>
      intro vals r
      obtain ⟨v, vals', rfl, rv, rr⟩ := r.cons_inv
      simpa using (ih _ rr).append (RdL.cons rv RdL.nil)
  have hpl : (s'.heap.update a (Obj.mapSeq fun x => x.reverse)).PlainList a ys'.toList.reverse.toArray := ⟨q, by rw [Heap.get?_update_self _ f7' (by rw [mapSeq_reverse]; rfl), mapSeq_reverse]⟩
  have := sx_own x' h1 hρ (Heap.SameBut.update ..) hpl (ds := ds.reverse) (by simpa using hr _ _ f8)
  exact post_own g this.2 this.1

theorem st_ins {y z : X} {e e' : Expr} {n : Str} {i : Nat} {p ap cp pos : Pos} (hi : vs[i]? = some n) (hd : (n == ("__debug__" : Str)) = false) (hc : (n == ("__classdict__" : Str)) = false) (hl : ap.endLine = cp.line) (h : EvAll G Φ k vs sc [y, z] [e, e']) :
    StOk G Φ k vs sc own (.ins i y z) (.Expr (.Call (.Attribute (.Name n p) (Str.ofString "insert") ap) [e, e'] [] cp) pos) := by
  intro M Hc oa A env ρ s out x he
  dsimp only [se_dead, se_nop, se_seq, se_assign, se_unpack, se_swap, se_newl, se_app, se_ins, se_rvs, se_ite, se_whl, se_loop, se_ret] at he
  split at he
  case h_2 => cases he
  rename_i ds j d hj ey ed
  simp only [Option.ite_none_right_eq_some, Bool.and_eq_true, Bool.not_eq_true', decide_eq_true_eq] at he
  obtain ⟨⟨⟨⟨⟨⟨h1, h2⟩, h2'⟩, h3⟩, h4⟩, h5⟩, he⟩ := he
  cases he
  have hρ := join_some hj
  obtain ⟨ds', n', a, ys, e1, e2, e3, e4, e5, e6, e7, e8⟩ := x.ol i _ h1 hρ
  cases e1; subst e3
  rw [hi] at e2; cases e2
  refine own_call x e4 e7.choose_spec rfl hd hc F.slot_list_insert F.type_list_insert e7 h hl (by simp) (evs := [.dat (.int j), .dat d]) ⟨by rw [evalX_agree Φ own y _ _ (mask_agree own ρ) h2]; exact ey, by rw [evalX_agree Φ own z _ _ (mask_agree own ρ) h2']; exact ed, trivial⟩ fun vals s' g r => ?_
  obtain ⟨v, u, rfl, rv, ru⟩ := r.two
  obtain ⟨t, rfl⟩ := Rd.int rv
  have x' := x.step g
  obtain ⟨ds', n', a', ys', f1, f2, f3, f4, f5, f6, f7, f8⟩ := x'.ol i _ h1 hρ
  cases f1; cases f3
  obtain ⟨q, f7'⟩ := id f7
  have hlen : ys'.size = ds.length := by have := f8.length; rw [Array.length_toList] at this; exact this
  have hsz : ys'.size ≤ sizeLine := by rw [sizeLine_eq]; omega
  refine call_meets F.slot_list_insert ⟨_, f7', rfl⟩ F.entry_list_insert (F.args_list_insert_3 _ _ _) (AutoSeq1.list_insert_list_int_val_1 a ys' q j t u ?_ hsz) ⟨f7', rfl, ?_⟩
  · have : Builtin.List.listFitsIndex j = true := by simp only [Builtin.List.listFitsIndex, Bool.and_eq_true, decide_eq_true_eq]; omega
    rw [this]; simp
  have hk : (if j < 0 then (j + (ys'.size : Int)).toNat else min j.toNat ys'.size) = j.toNat := by rw [if_neg (by omega)]; omega
  have hm : ∃ q', Obj.mapSeq (fun xs => have k := if j < 0 then (j + (xs.size : Int)).toNat else min j.toNat xs.size; (xs.extract 0 k).push u ++ xs.extract k) { cls := .type "list", data := .seq ys' q } = { cls := .type "list", data := .seq ((ys'.toList.take j.toNat ++ u :: ys'.toList.drop j.toNat).toArray) q' } := by
    have : ((ys'.extract 0 j.toNat).push u ++ ys'.extract j.toNat) = (ys'.toList.take j.toNat ++ u :: ys'.toList.drop j.toNat).toArray := by
      apply Array.ext'
      simp
      exact List.take_of_length_le (by simp)
    simp only [Obj.mapSeq, hk, this]
    exact ⟨_, rfl⟩
  obtain ⟨q', hm⟩ := hm
  have hpl : (s'.heap.update a (Obj.mapSeq fun xs => have k := if j < 0 then (j + (xs.size : Int)).toNat else min j.toNat xs.size; (xs.extract 0 k).push u ++ xs.extract k)).PlainList a (ys'.toList.take j.toNat ++ u :: ys'.toList.drop j.toNat).toArray :=
    ⟨q', by rw [Heap.get?_update_self _ f7' (by rw [hm]; rfl), hm]⟩
  have ht : ∀ {H : List Addr} {h : Heap} (m : Nat) (ds : List PyData) (vals : List Value), RdL H h vals ds → RdL H h (vals.take m) (ds.take m) ∧ RdL H h (vals.drop m) (ds.drop m) := by
    intro H h m
    induction m with
    | zero => intro ds vals r; simp; exact ⟨RdL.nil, r⟩
    | succ m ih =>
      intro ds vals r
      cases ds with
      | nil => rw [r.nil_inv]; simp; exact RdL.nil
      | cons d ds =>
        obtain ⟨v, vals', rfl, rv, rr⟩ := r.cons_inv
        have := ih _ _ rr
        simp only [List.take_succ_cons, List.drop_succ_cons]
        exact ⟨RdL.cons rv this.1, this.2⟩
  have hr := ht j.toNat _ _ f8
  have := sx_own x' h1 hρ (Heap.SameBut.update ..) hpl (ds := ds.take j.toNat ++ d :: ds.drop j.toNat) (by simpa using hr.1.append (RdL.cons ru hr.2))
  exact post_own g this.2 this.1
end
end Mine

/-! SB22 -/
namespace Mine
open PySem PySem.W PyProof.Rows PySem.Calls PySem.Spec PySem.SeqAt

section
variable {G : Gr} {fa : Nat → Addr} {Φ : Phi} {k : Nat} {vs : List Str} {sc : Fc} {own : List Nat}

/-- one more thing hidden -/
theorem Sx.hide {M Hc : List Addr} {oa : Option Addr} {A : Around} {env : Env} {ρ : Env'} {s s₂ : Shared} (x : Sx G vs sc k own M Hc oa A env ρ s) (g : Gw G s s₂) {I : Addr} (hI : s.heap.get? I = none) (oI : ∃ o, s₂.heap.get? I = some o ∧ NotCode o) : Sx G vs sc k own M (I :: Hc) oa A env ρ s₂ := by
  have x₂ := x.step g
  have up : ∀ b o, (hideAll s.heap (oa.toList ++ (M ++ Hc))).get? b = some o → (hideAll s₂.heap (oa.toList ++ (M ++ (I :: Hc)))).get? b = some o := by
    intro b o e
    have e' := of_hideAll _ e
    have hb : b ∉ oa.toList ++ (M ++ Hc) := fun q => by rw [hideAll_none _ q] at e; cases e
    have hbT : b ∉ G.T := fun q => hb (List.mem_append_right _ (List.mem_append_right _ (x.tH b q)))
    refine hideAll_get _ (g.ext b o hbT e') fun q => ?_
    simp only [List.mem_append, List.mem_cons] at q hb
    rcases q with q | q | q | q
    · exact hb (.inl q)
    · exact hb (.inr (.inl q))
    · subst q; rw [hI] at e'; cases e'
    · exact hb (.inr (.inr q))
  exact {
    cx := {
      a := x₂.cx.a, e := x₂.cx.e, sk := x₂.cx.sk, cd := x₂.cx.cd, ql := x₂.cx.ql, b := x₂.cx.b
      h := fun b hb => List.mem_append_right _ (List.mem_append_right _ (List.mem_cons_of_mem _ (x.tH b hb)))
      hx := fun b hb => by
        simp only [List.mem_append, List.mem_cons] at hb
        rcases hb with q | q | q | q
        · exact x₂.cx.hx b (List.mem_append_left _ q)
        · exact x₂.cx.hx b (List.mem_append_right _ (List.mem_append_left _ q))
        · subst q; exact oI
        · exact x₂.cx.hx b (List.mem_append_right _ (List.mem_append_right _ q))
      v := fun j y ev q1 q2 q3 => let ⟨u, hu, ru⟩ := x.cx.v j y ev q1 q2 q3; ⟨u, hu.ext x.cx.e g.ext, ru.mono up⟩ }
    nd := x₂.nd, ml := x₂.ml, lM := x₂.lM, mc := x₂.mc, ap := x₂.ap, nf := x₂.nf
    tH := fun b hb => List.mem_cons_of_mem _ (x.tH b hb)
    ol := fun j ev q1 q2 => by
      obtain ⟨ds, n, a, ys, e1, e2, e3, e4, e5, e6, e7, e8⟩ := x.ol j ev q1 q2
      obtain ⟨z, e7⟩ := e7
      refine ⟨ds, n, a, ys, e1, e2, e3, e4.ext x.cx.e g.ext, fun q => ?_, e6.ext g, ⟨z, g.ext _ _ e6.notT e7⟩, e8.mono up⟩
      simp only [List.mem_append, List.mem_cons] at q e5
      rcases q with q | q | q
      · exact e5 (.inl q)
      · subst q; rw [hI] at e7; cases e7
      · exact e5 (.inr q)
    one := x.one
    ou := x.ou }

theorem Sx.less {M Hc : List Addr} {oa : Option Addr} {A : Around} {env : Env} {ρ : Env'} {s : Shared} {I : Addr} (x : Sx G vs sc k own M (I :: Hc) oa A env ρ s) (tH : ∀ b ∈ G.T, b ∈ Hc) : Sx G vs sc k own M Hc oa A env ρ s := by
  have sub : ∀ b ∈ oa.toList ++ (M ++ Hc), b ∈ oa.toList ++ (M ++ (I :: Hc)) := by
    intro b hb
    simp only [List.mem_append, List.mem_cons] at hb ⊢
    rcases hb with q | q | q
    · exact .inl q
    · exact .inr (.inl q)
    · exact .inr (.inr (.inr q))
  exact {
    cx := {
      a := x.cx.a, e := x.cx.e, sk := x.cx.sk, cd := x.cx.cd, ql := x.cx.ql, b := x.cx.b
      h := fun b hb => List.mem_append_right _ (List.mem_append_right _ (tH b hb))
      hx := fun b hb => x.cx.hx b (sub b hb)
      v := fun j y ev q1 q2 q3 => let ⟨u, hu, ru⟩ := x.cx.v j y ev q1 q2 q3; ⟨u, hu, ru.mono (view_less sub)⟩ }
    nd := x.nd, ml := x.ml, lM := x.lM, mc := x.mc, ap := x.ap, nf := x.nf
    tH := tH
    ol := fun j ev q1 q2 => by
      obtain ⟨ds, n, a, ys, e1, e2, e3, e4, e5, e6, e7, e8⟩ := x.ol j ev q1 q2
      refine ⟨ds, n, a, ys, e1, e2, e3, e4, fun q => e5 ?_, e6, e7, e8.mono (view_less sub)⟩
      simp only [List.mem_append, List.mem_cons] at q ⊢
      rcases q with q | q
      · exact .inl q
      · exact .inr (.inr q)
    one := x.one
    ou := x.ou }

theorem Sx.notOa {M Hc : List Addr} {oa : Option Addr} {A : Around} {env : Env} {ρ : Env'} {s : Shared} (x : Sx G vs sc k own M Hc oa A env ρ s) {a : Addr} (h : oa = some a) : a ∉ M ++ Hc := by
  have : ¬ ∀ i, own.contains i = true → (ρ[i]?).join = none := fun q => by rw [x.ou q] at h; cases h
  have ⟨i, hi⟩ := Classical.not_forall.mp this
  have ⟨h1, h2⟩ := Classical.not_imp.mp hi
  cases q : (ρ[i]?).join with
  | none => exact absurd q h2
  | some ev =>
    obtain ⟨ds, n, a', ys, e1, e2, e3, e4, e5, _⟩ := x.ol i ev h1 (join_some q)
    rw [h] at e3; cases e3
    exact e5

/-- the iterator has turned -/
theorem Sx.turn {M Hc : List Addr} {oa : Option Addr} {A : Around} {env : Env} {ρ : Env'} {s : Shared} {I : Addr} (x : Sx G vs sc k own M (I :: Hc) oa A env ρ s) (hM : I ∉ M) {h' : Heap} {tk : Nat} (kp : ∀ b o, b ≠ I → s.heap.get? b = some o → h'.get? b = some o) (bs : Base G h') (oI : ∃ o, h'.get? I = some o ∧ NotCode o) :
    Sx G vs sc k own M (I :: Hc) oa A env ρ { s with heap := h', toks := tk } := by
  obtain ⟨c1, c2, c3, c4, c5⟩ := x.but (z := I) (tk := tk) (List.mem_append_right _ (List.mem_append_right _ (List.mem_cons_self ..))) hM kp bs oI
  exact {
    cx := c1
    nd := x.nd, ml := c2, lM := x.lM, mc := c3, ap := x.ap, nf := x.nf, tH := x.tH
    ol := fun j ev q1 q2 => by
      obtain ⟨ds, n, a, ys, e1, e2, e3, e4, e5, e6, ⟨z, e7⟩, e8⟩ := x.ol j ev q1 q2
      have ha : a ≠ I := fun q => e5 (q ▸ List.mem_append_right _ (List.mem_cons_self ..))
      exact ⟨ds, n, a, ys, e1, e2, e3, c4 _ _ e4, e5, ⟨e6.new, e6.notT, let ⟨o, e, n⟩ := e6.obj; ⟨o, kp _ _ ha e, n⟩⟩, ⟨z, kp _ _ ha e7⟩, e8.mono c5⟩
    one := x.one
    ou := x.ou }

/-- the iterator is let go -/
theorem Sx.drop {M Hc : List Addr} {oa : Option Addr} {A : Around} {env : Env} {ρ : Env'} {s : Shared} {I : Addr} (x : Sx G vs sc k own M (I :: Hc) oa A env ρ s) (hM : I ∉ M) (hHc : I ∉ Hc) (tH : ∀ b ∈ G.T, b ∈ Hc) {h' : Heap} {tk : Nat} (kp : ∀ b o, b ≠ I → s.heap.get? b = some o → h'.get? b = some o) (bs : Base G h') :
    Sx G vs sc k own M Hc oa A env ρ { s with heap := h', toks := tk } := by
  have hoI : I ∉ oa.toList := fun q => by
    have := x.notOa (a := I) (by simpa using q)
    exact this (List.mem_append_right _ (List.mem_cons_self ..))
  have sub : ∀ b ∈ oa.toList ++ (M ++ Hc), b ≠ I ∧ b ∈ oa.toList ++ (M ++ (I :: Hc)) := by
    intro b hb
    simp only [List.mem_append, List.mem_cons] at hb ⊢
    rcases hb with q | q | q
    · exact ⟨fun z => hoI (z ▸ by simpa using q), .inl q⟩
    · exact ⟨fun z => hM (z ▸ q), .inr (.inl q)⟩
    · exact ⟨fun z => hHc (z ▸ q), .inr (.inr (.inr q))⟩
  have hl : env.locals ≠ I := fun q => hM (q ▸ x.lM)
  have hv : ∀ y u, Var s.heap env y u → Var h' env y u := by
    intro y u hu
    rcases hu with ⟨h1, m, ⟨o, es, ep, e, r⟩, hm⟩ | ⟨h1, c, hc, o, e, r⟩
    · exact .inl ⟨h1, m, ⟨o, es, ep, kp _ _ hl e, r⟩, hm⟩
    · have hcM := (x.mc y c (x.cell h1) hc).1
      exact .inr ⟨h1, c, hc, o, kp _ _ (fun q => hM (q ▸ hcM)) e, r⟩
  have up : ∀ b o, (hideAll s.heap (oa.toList ++ (M ++ (I :: Hc)))).get? b = some o → (hideAll h' (oa.toList ++ (M ++ Hc))).get? b = some o := by
    intro b o e
    have hb : b ∉ oa.toList ++ (M ++ (I :: Hc)) := fun q => by rw [hideAll_none _ q] at e; cases e
    refine hideAll_get _ (kp b o (fun q => hb (q ▸ ?_)) (of_hideAll _ e)) fun q => hb (sub b q).2
    exact List.mem_append_right _ (List.mem_append_right _ (List.mem_cons_self ..))
  exact {
    cx := {
      a := x.cx.a
      e := ⟨x.cx.e.kind, x.cx.e.glob, x.cx.e.blt, x.cx.e.loc, let ⟨m, o, es, ep, e, r⟩ := x.cx.e.ns; ⟨m, o, es, ep, kp _ _ hl e, r⟩, x.cx.e.cel, x.cx.e.has⟩
      sk := x.cx.sk, cd := x.cx.cd, ql := x.cx.ql, b := bs
      h := fun b hb => List.mem_append_right _ (List.mem_append_right _ (tH b hb))
      hx := fun b hb => let ⟨h1, h2⟩ := sub b hb; let ⟨o, e, n⟩ := x.cx.hx b h2; ⟨o, kp b o h1 e, n⟩
      v := fun j y ev q1 q2 q3 => let ⟨u, hu, ru⟩ := x.cx.v j y ev q1 q2 q3; ⟨u, hv _ _ hu, ru.mono up⟩ }
    nd := x.nd
    ml := ⟨x.ml.new, x.ml.notT, let ⟨o, e, n⟩ := x.ml.obj; ⟨o, kp _ _ hl e, n⟩⟩
    lM := x.lM
    mc := fun y c h1 h2 => by
      obtain ⟨p, q, v, o, e, d⟩ := x.mc y c h1 h2
      have hc : c ≠ I := fun w => hM (w ▸ p)
      exact ⟨p, ⟨q.new, q.notT, let ⟨o, e, n⟩ := q.obj; ⟨o, kp _ _ hc e, n⟩⟩, v, o, kp _ _ hc e, d⟩
    ap := x.ap, nf := x.nf
    tH := tH
    ol := fun j ev q1 q2 => by
      obtain ⟨ds, n, a, ys, e1, e2, e3, e4, e5, e6, ⟨z, e7⟩, e8⟩ := x.ol j ev q1 q2
      have ha : a ≠ I := fun q => e5 (q ▸ List.mem_append_right _ (List.mem_cons_self ..))
      refine ⟨ds, n, a, ys, e1, e2, e3, hv _ _ e4, fun q => e5 ?_, ⟨e6.new, e6.notT, let ⟨o, e, n⟩ := e6.obj; ⟨o, kp _ _ ha e, n⟩⟩, ⟨z, kp _ _ ha e7⟩, e8.mono up⟩
      simp only [List.mem_append, List.mem_cons] at q ⊢
      rcases q with q | q
      · exact .inl q
      · exact .inr (.inr q)
    one := x.one
    ou := x.ou }

theorem base_but {h h' : Heap} {I : Addr} (b : Base G h) (hT : I ∉ G.T) (hG : G.g.get? I = none) {o : Obj} (ho : h.get? I = some o) (hn : NotCode o) (kp : ∀ b o, b ≠ I → h.get? b = some o → h'.get? b = some o) : Base G h' := by
  refine ⟨fun b' o' e => kp b' o' (fun z => ?_) (b.keep b' o' e), fun r hr => ?_⟩
  · rw [z, hG] at e; cases e
  · obtain ⟨ps, e1, e2, e3⟩ := b.tabs r hr
    refine ⟨ps, kp _ _ (fun z => hT (z ▸ List.mem_map_of_mem hr)) e1, e2, fun pos q hm cv hcv => ?_⟩
    obtain ⟨c, oc, vs', t, f1, f2, f3, f4⟩ := e3 pos q hm cv hcv
    refine ⟨c, oc, vs', t, f1, kp _ _ (fun z => ?_) f2, f3, f4⟩
    rw [z] at f2
    rw [ho] at f2; cases f2
    exact hn _ _ _ f3 f4

theorem st_loop {tg : Tg} {it : It} {i1 i2 : X} {b : S} {target iter : Expr} {body : List Stmt} {pos : Pos} (ht : TgS vs sc tg target) (hit : IterOk G Φ k vs sc it i1 i2 iter) (hb : BlOk G Φ k vs sc own b body) (hf : ∀ env x, foldedSetIterable iter env x = pure x) :
    StOk G Φ k vs sc own (.loop tg it i1 i2 b) (.For target iter body [] pos) := by
  intro M Hc oa A env ρ s out x he
  have he' : (if i1.hits own || i2.hits own || tgOwn own tg then none else match iterOf it (evalX Φ i1 ρ) (evalX Φ i2 ρ) with
    | some ds => if ds.length < 1048576 then forGo (fun d ρ => (bindT tg d ρ).bind (evalS Φ own b)) ds ρ else none
    | none => none) = some out := by
    rw [← he]; cases tg <;> rfl
  clear he
  simp only [Option.ite_none_left_eq_some, Bool.not_eq_true, Bool.or_eq_false_iff] at he'
  obtain ⟨⟨⟨h1, h2⟩, h3⟩, he⟩ := he'
  split at he
  case h_2 => cases he
  rename_i ds hds
  simp only [Option.ite_none_right_eq_some] at he
  obtain ⟨hlen, he⟩ := he
  have hm := mask_agree own ρ
  refine wpAny_For (hit (oa.toList ++ (M ++ Hc)) A env (mask own ρ) s ds _ x.cx (by rw [evalX_agree Φ own i1 _ _ hm h1, evalX_agree Φ own i2 _ _ hm h2]; exact hds) fun I s₂ n fp P St g hI iok => ?_) (hf env)
  obtain ⟨oI, eI, nI, cI⟩ := iok.obj 0 _ iok.st
  have hIM : I ∉ M := fun q => iok.newH (List.mem_append_right _ (List.mem_append_left _ q))
  have x₂ := x.hide g hI ⟨oI, eI, nI⟩
  -- the addresses that the iterator reads
  have fpOk : ∀ c ∈ fp, c ≠ I → c ∉ oa.toList ++ (M ++ Hc) := iok.fpH
  refine codeAny_forLoop_any (fun m s' => ∃ i ρ' oa', m = ds.length + 1 - i ∧ i ≤ ds.length ∧ Gs G (oa.toList ++ (M ++ (I :: G.T))) s₂ s' ∧ (oa' = oa ∨ (oa = none ∧ ∃ a, oa' = some a ∧ s₂.heap.get? a = none)) ∧ Sx G vs sc k own M (I :: Hc) oa' A env ρ' s' ∧ St i s'.heap ∧
    forGo (fun d ρ => (bindT tg d ρ).bind (evalS Φ own b)) (ds.drop i) ρ' = some out) ?_ (ds.length + 1) ⟨0, ρ, oa, rfl, Nat.zero_le _, Gs.refl x₂.cx.b, .inl rfl, x₂, iok.st, by simpa using he⟩
  rintro m s' ⟨i, ρ', oa', rfl, hi, gs, ho, x', hst, hgo⟩
  have nW : ∀ c ∈ fp, c ∉ oa'.toList ++ (M ++ G.T) := by
    intro c hc q
    by_cases hcI : c = I
    · subst hcI
      simp only [List.mem_append, Option.mem_toList] at q
      rcases q with q | q | q
      · exact x'.notOa q (List.mem_append_right _ (List.mem_cons_self ..))
      · exact hIM q
      · exact iok.newT q
    · have hcH := fpOk c hc hcI
      simp only [List.mem_append, Option.mem_toList] at q hcH
      rcases q with q | q | q
      · rcases ho with rfl | ⟨rfl, a, rfl, ha⟩
        · exact hcH (.inl q)
        · cases q
          obtain ⟨o, e⟩ := iok.ex 0 _ iok.st c hc
          rw [ha] at e; cases e
      · exact hcH (.inr (.inl q))
      · exact hcH (.inr (.inr (x.tH c q)))
  have fromHere : ∀ s₃, Gs G (oa.toList ++ (M ++ (I :: G.T))) s₂ s₃ → Gs G (oa.toList ++ (M ++ G.T)) s s₃ := by
    intro s₃ gsB
    obtain ⟨h', tk, e3, kk, bb⟩ := gsB
    obtain ⟨h'', tk'', e4, kk', bb'⟩ := id g
    refine ⟨h', tk, by rw [e3, e4], fun b o hb e => kk b o (fun q => ?_) ?_, bb⟩
    · simp only [List.mem_cons, List.mem_append] at q hb
      rcases q with q | q | q | q
      · exact hb (.inl q)
      · exact hb (.inr (.inl q))
      · subst q; rw [hI] at e; cases e
      · exact hb (.inr (.inr q))
    · rw [e4]; exact kk' b o (fun q => hb (List.mem_append_right _ (List.mem_append_right _ q))) e
  -- what is kept from the loop's first state on
  have grow : ∀ (s₃ s₄ : Shared), Gs G (oa.toList ++ (M ++ (I :: G.T))) s₂ s₃ → Gs G (oa'.toList ++ (M ++ (I :: G.T))) s₃ s₄ → Gs G (oa.toList ++ (M ++ (I :: G.T))) s₂ s₄ := by
    intro s₃ s₄ p q
    rcases ho with rfl | ⟨rfl, a, rfl, ha⟩
    · exact p.trans q
    · obtain ⟨h', tk, rfl, k1, b1⟩ := p
      obtain ⟨h'', tk', rfl, k2, b2⟩ := q
      refine ⟨h'', tk', rfl, fun b o hb e => k2 b o (fun z => ?_) (k1 b o hb e), b2⟩
      simp only [Option.toList_some, List.singleton_append, List.mem_cons] at z
      rcases z with rfl | z
      · rw [ha] at e; cases e
      · exact hb (by simpa using z)
  have stepI : ∀ (h₁ : Heap) (tk₁ : Nat), (∀ b o, b ∉ [I] → s'.heap.get? b = some o → h₁.get? b = some o) → (∃ o, h₁.get? I = some o ∧ NotCode o) → Sx G vs sc k own M (I :: Hc) oa' A env ρ' { s' with heap := h₁, toks := tk₁ } ∧ Gs G (oa.toList ++ (M ++ (I :: G.T))) s₂ { s' with heap := h₁, toks := tk₁ } := by
    intro h₁ tk₁ kp oI'
    have kp' : ∀ b o, b ≠ I → s'.heap.get? b = some o → h₁.get? b = some o := fun b o hb e => kp b o (by simpa using hb) e
    obtain ⟨o, eo, no, _⟩ := iok.obj i _ hst
    have bs := base_but x'.cx.b iok.newT iok.newG eo no kp'
    refine ⟨x'.turn hIM kp' bs oI', grow s' _ gs ⟨h₁, tk₁, rfl, fun b o hb e => kp' b o (fun z => hb (z ▸ List.mem_append_right _ (List.mem_append_right _ (List.mem_cons_self ..)))) e, bs⟩⟩
  by_cases hlt : i < ds.length
  · obtain ⟨d, hd⟩ : ∃ d, ds[i]? = some d := ⟨ds[i], by simp [hlt]⟩
    have hdrop : ds.drop i = d :: ds.drop (i + 1) := by
      rw [List.drop_eq_getElem_cons hlt]; congr 1; simpa [hlt] using hd
    rw [hdrop] at hgo
    simp only [forGo] at hgo
    refine iok.w.item i s' _ _ (by rw [iok.ln]; exact hlt) hst fun v h₁ tk₁ hP hst₁ hk₁ => ?_
    obtain ⟨o1, eo1, no1, calm⟩ := iok.obj (i + 1) _ hst₁
    obtain ⟨x1, gs1⟩ := stepI h₁ tk₁ hk₁ ⟨o1, eo1, no1⟩
    refine calm_go (s := { s' with heap := h₁, toks := tk₁ }) eo1 calm ?_
    have rv : Rd (oa'.toList ++ (M ++ (I :: Hc))) h₁ v d := by
      refine (iok.rd i v d hP hd).mono fun b o e => ?_
      have e' := of_hideAll _ e
      have hb : b ∉ I :: (oa.toList ++ (M ++ Hc)) := fun q => by rw [hideAll_none _ q] at e; cases e
      simp only [List.mem_cons, List.mem_append] at hb
      refine hideAll_get _ (gs1.keep b o (fun q => ?_) e') fun q => ?_
      · simp only [List.mem_cons, List.mem_append] at q
        rcases q with q | q | q | q
        · exact hb (.inr (.inl q))
        · exact hb (.inr (.inr (.inl q)))
        · exact hb (.inl q)
        · exact hb (.inr (.inr (.inr (x.tH b q))))
      · simp only [List.mem_cons, List.mem_append] at q
        rcases q with q | q | q | q
        · rcases ho with rfl | ⟨rfl, a, rfl, ha⟩
          · exact hb (.inr (.inl q))
          · simp at q; subst q; rw [ha] at e'; cases e'
        · exact hb (.inr (.inr (.inl q)))
        · exact hb (.inl q)
        · exact hb (.inr (.inr (.inr q)))
    cases hbd : bindT tg d ρ' with
    | none => rw [hbd] at hgo; cases hgo
    | some ρ₁ =>
      rw [hbd] at hgo
      simp only [Option.bind_some] at hgo
      refine asg_sx x1 ht hbd h3 rv fun s₂' gs₂ x₂' => ?_
      have wide : ∀ b ∈ M ++ G.T, b ∈ oa'.toList ++ (M ++ (I :: G.T)) := fun b hb => by
        simp only [List.mem_cons, List.mem_append] at hb ⊢
        rcases hb with q | q
        · exact .inr (.inl q)
        · exact .inr (.inr (.inr q))
      have gsA := grow _ _ gs1 (gs₂.mono wide)
      have wide' : ∀ b ∈ oa'.toList ++ (M ++ G.T), b ∈ oa'.toList ++ (M ++ (I :: G.T)) := fun b hb => by
        simp only [List.mem_cons, List.mem_append] at hb ⊢
        rcases hb with q | q | q
        · exact .inl q
        · exact .inr (.inl q)
        · exact .inr (.inr (.inr q))
      have hst₂ : St (i + 1) s₂'.heap := iok.w.frame (i + 1) h₁ _ hst₁ fun b hb o e => gs₂.keep b o (fun q => nW b hb (List.mem_append_right _ q)) e
      cases hev : evalS Φ own b ρ₁ with
      | none => rw [hev] at hgo; cases hgo
      | some o' =>
        rw [hev] at hgo
        refine (hb M (I :: Hc) oa' A env ρ₁ s₂' o' x₂' hev).mono fun f s₃ p => ?_
        obtain ⟨gp, p⟩ := p
        have gsB := grow _ _ gsA (gp.mono wide')
        cases o' with
        | ret rv' =>
          simp only [Option.some.injEq] at hgo
          subst hgo
          obtain ⟨val, hf, rr⟩ := p
          subst hf
          refine ⟨fromHere _ gsB, val, rfl, rr.mono (view_less fun b hb => ?_)⟩
          · simp only [List.mem_cons, List.mem_append] at hb ⊢
            rcases hb with q | q
            · exact .inl q
            · exact .inr (.inr q)
        | next ρ₂ =>
          obtain ⟨hf, oa'', ho'', x₃⟩ := p
          subst hf
          refine ⟨ds.length + 1 - (i + 1), by omega, i + 1, ρ₂, oa'', rfl, hlt, gsB, ?_, x₃, ?_, hgo⟩
          · rcases ho'' with rfl | ⟨hn, a, rfl, ha⟩
            · exact ho
            · subst hn
              rcases ho with rfl | ⟨_, a', q, _⟩
              · refine .inr ⟨rfl, a, rfl, ?_⟩
                cases q : s₂.heap.get? a with
                | none => rfl
                | some o =>
                  by_cases hmem : a ∈ (none : Option Addr).toList ++ (M ++ (I :: G.T))
                  · exfalso
                    have : a ∈ M ++ (I :: Hc) := by
                      simp only [List.mem_cons, List.mem_append, Option.toList_none, List.not_mem_nil, false_or] at hmem ⊢
                      rcases hmem with q | q | q
                      · exact .inl q
                      · exact .inr (.inl q)
                      · exact .inr (.inr (x.tH a q))
                    obtain ⟨o', e', _⟩ := x₂'.full.hx a this
                    rw [e'] at ha; cases ha
                  · rw [gsA.keep a o hmem q] at ha; cases ha
              · cases q
          · exact iok.w.frame (i + 1) _ _ hst₂ fun b hb o e => gp.keep b o (nW b hb) e
  · have hin : i = ds.length := by omega
    subst hin
    simp only [List.drop_length, forGo, Option.some.injEq] at hgo
    subst hgo
    refine iok.w.done s' _ _ (by rw [iok.ln]; exact hst) fun h₁ tk₁ hk₁ => wpAny_execs_nil ?_
    have kp' : ∀ b o, b ≠ I → s'.heap.get? b = some o → h₁.get? b = some o := fun b o hb e => hk₁ b o (by simpa using hb) e
    obtain ⟨o, eo, no, _⟩ := iok.obj _ _ hst
    have bs := base_but x'.cx.b iok.newT iok.newG eo no kp'
    have gE : Gs G (oa.toList ++ (M ++ (I :: G.T))) s₂ { s' with heap := h₁, toks := tk₁ } := grow s' _ gs ⟨h₁, tk₁, rfl, fun b o hb e => kp' b o (fun z => hb (z ▸ List.mem_append_right _ (List.mem_append_right _ (List.mem_cons_self ..)))) e, bs⟩
    refine ⟨fromHere _ gE, rfl, oa', ?_, x'.drop hIM (fun q => iok.newH (List.mem_append_right _ (List.mem_append_right _ q))) x.tH kp' bs⟩
    rcases ho with h | ⟨h, a, h', ha⟩
    · exact .inl h
    · exact .inr ⟨h, a, h', ext_none g ha⟩
end
end Mine

/-! SB23 -/
namespace Mine
open PySem PySem.W PyProof.Rows PySem.Calls PySem.Spec PySem.SeqAt

section
variable {G : Gr} {fa : Nat → Addr} {Φ : Phi} {k : Nat} {vs : List Str} {sc : Fc} {own : List Nat}

/-- a comprehension's list is stored before its names go -/
theorem st_assignc {scope : Scope} {tg : Tg} {target elt iter : Expr} {ifs : List Expr} {cp : Pos} {it : It} {i1 i2 cond eltx : X} {n : Str} {i : Nat} {p pos : Pos} (hi : vs[i]? = some n) (hk : kcls (sc.names.lookup n) = 1 ∨ kcls (sc.names.lookup n) = 2)
    (scp : CompSc vs sc scope tg target) (hit : IterOk G Φ k vs sc it i1 i2 iter) (hifs : IfsOk G Φ k vs ⟨scope, sc.code, sc.qual⟩ cond ifs) (helt : EvOk G Φ k vs ⟨scope, sc.code, sc.qual⟩ eltx elt)
    (hf : ∀ env x, foldedSetIterable iter env x = pure x)
    (hs : ∀ env, SameK sc env → env.scope.kind = .function → swapsWith (.ListComp elt [⟨target, iter, ifs, 0⟩] scope cp) (some (.Name n p)) pos.line env = pure true) :
    StOk G Φ k vs sc own (.assign i (.comp tg it i1 i2 cond eltx)) (.Assign [.Name n p] (.ListComp elt [⟨target, iter, ifs, 0⟩] scope cp) pos) := by
  intro M Hc oa A env ρ s out x he
  dsimp only [se_dead, se_nop, se_seq, se_assign, se_unpack, se_swap, se_newl, se_app, se_ins, se_rvs, se_ite, se_whl, se_loop, se_ret] at he
  split at he
  case h_2 => cases he
  rename_i v hv
  simp only [Option.ite_none_right_eq_some, Bool.and_eq_true, Bool.not_eq_true'] at he
  obtain ⟨⟨h1, h2⟩, he⟩ := he
  cases he
  have hh : (X.comp tg it i1 i2 cond eltx).hits own = false := by
    obtain ⟨ds, rs, hd, hl, hr, rfl⟩ := comp_inv hv
    simpa [scal] using h2
  have hv' : evalX Φ (.comp tg it i1 i2 cond eltx) (mask own ρ) = some v := by rw [evalX_agree Φ own _ _ _ (mask_agree own ρ) hh]; exact hv
  obtain ⟨ds, rs, hd, hl, hr, rfl⟩ := comp_inv hv'
  rw [exec_Assign_Name_used _ _ _ _ (hs env x.cx.sk x.cx.e.kind)]
  refine wpAny_bind (wpAny_standAt (wpAny_bind ?_))
  show wpAny _ A (do let _ ← comprehension (.ListComp elt [⟨target, iter, ifs, 0⟩] scope cp) scope env _ (newList []) false (eval iter env) (some (assign (.Name n p) env))) _ _ s
  refine wpAny_bind (wpAny_mono (comp_run (Q := fun _ s' => Post G vs sc k own M Hc oa A env s (.next (ρ.set i (some (.dat (.list rs))))) .next s') (use := some (assign (.Name n p) env)) x.cx x.nd scp hit hifs helt (hf env) hd hl hr fun D C s' g hD hC hne nC1 nC2 nC3 hns hout => ?_)
    (fun _ s' hq => wpAny_pure (wpAny_pure hq)) fun _ _ e => e)
  obtain ⟨m, hns⟩ := hns
  obtain ⟨ys, ⟨q, hys⟩, rys, hDH⟩ := hout
  have x2 := x.hide g hC (ns_notCode hns)
  have hCM : C ∉ M := fun z => nC3 (List.mem_append_right _ (List.mem_append_left _ z))
  have hCH : C ∉ Hc := fun z => nC3 (List.mem_append_right _ (List.mem_append_right _ z))
  have sub : ∀ b ∈ oa.toList ++ (M ++ (C :: Hc)), b ∈ C :: (oa.toList ++ (M ++ Hc)) := by
    intro b hb
    simp only [List.mem_append, List.mem_cons] at hb ⊢
    rcases hb with z | z | z | z
    · exact .inr (.inl z)
    · exact .inr (.inr (.inl z))
    · exact .inl z
    · exact .inr (.inr (.inr z))
  have rr : RdE G.C (oa.toList ++ (M ++ (C :: Hc))) s'.heap (.ref D) (.dat (.list rs)) := by
    obtain ⟨as, r⟩ := rys.mono (view_less sub)
    refine ⟨_, .list (hideAll_get _ hys fun z => ?_) rfl rfl r⟩
    rcases List.mem_cons.mp (sub D z) with z | z
    · exact hne z.symm
    · exact hDH z
  refine wpAny_assign_Name (sx_store x2 hi hk h1 rr fun s'' gs x3 => ?_)
  have hns' : s''.heap.Ns C m := by
    obtain ⟨o, es, ep, e, r⟩ := hns
    refine ⟨o, es, ep, gs.keep _ _ (fun z => ?_) e, r⟩
    rcases List.mem_append.mp z with z | z
    · exact hCM z
    · exact nC2 z
  refine ⟨m, hns', fun h' hsm => ?_⟩
  have mC : Mut G s''.heap C := ⟨nC1, nC2, ns_notCode hns'⟩
  have kp : ∀ b o, b ≠ C → s''.heap.get? b = some o → h'.get? b = some o := fun b o hb e => hsm.extBut b o hb e
  have bs : Base G h' := gs.base.same mC hsm
  have x4 := x3.drop (tk := s''.toks) hCM hCH x.tH kp bs
  refine ⟨?_, rfl, oa, .inl rfl, x4⟩
  have g2 := (g.gs (X := oa.toList ++ (M ++ G.T)) fun b hb => List.mem_append_right _ (List.mem_append_right _ hb)).trans (gs.mono fun b hb => List.mem_append_right _ hb)
  obtain ⟨h3, tk3, e3, k3, b3⟩ := id g2
  refine ⟨h', tk3, by rw [e3], fun b o hb e => kp b o (fun z => ?_) (g2.keep b o hb e), bs⟩
  rw [z, hC] at e; cases e
end
end Mine

/-! SB24 -/
namespace Mine
open PySem PySem.W PyProof.Rows PySem.Calls PySem.Spec PySem.SeqAt

theorem cells_mono : ∀ (names : List (Str × NameKind)) (n : Nat) (acc : List (Str × Addr)) (x : Str), (acc.lookup x).isSome = true → ((cellsFrom n names acc).lookup x).isSome = true := by
  intro names
  induction names with
  | nil => intro n acc x h; exact h
  | cons p r ih =>
    obtain ⟨m, kd⟩ := p
    intro n acc x h
    unfold cellsFrom
    split
    · refine ih _ _ x ?_
      rw [List.lookup_cons]; split
      · rfl
      · exact h
    · exact ih _ _ x h
theorem cells_has : ∀ (names : List (Str × NameKind)) (n : Nat) (acc : List (Str × Addr)) (x : Str), (x, NameKind.cell) ∈ names → ((cellsFrom n names acc).lookup x).isSome = true := by
  intro names
  induction names with
  | nil => intro n acc x h; cases h
  | cons p r ih =>
    obtain ⟨m, kd⟩ := p
    intro n acc x h
    unfold cellsFrom
    rcases List.mem_cons.mp h with q | q
    · cases q
      rw [if_pos (by rfl)]
      exact cells_mono r _ _ _ (by rw [List.lookup_cons]; simp)
    · split
      · exact ih _ _ x q
      · exact ih _ _ x q

theorem bindL_old {kd : Str → Option NameKind} : ∀ (binds : List (Str × Value)) (m : Str → Option Value) (x : Str), (∀ v, (x, v) ∉ binds) → bindL kd binds m x = m x := by
  intro binds
  induction binds with
  | nil => intro m x h; rfl
  | cons p r ih =>
    obtain ⟨n, v⟩ := p
    intro m x h
    unfold bindL
    rw [ih _ x fun w hw => h w (List.mem_cons_of_mem _ hw)]
    have hne : x ≠ n := fun q => h v (by rw [q]; exact List.mem_cons_self ..)
    split
    · exact if_neg hne
    · rfl
theorem bindC_old {kd : Str → Option NameKind} : ∀ (binds : List (Str × Value)) (m : Str → Option Value) (x : Str), (∀ v, (x, v) ∉ binds) → bindC kd binds m x = m x := by
  intro binds
  induction binds with
  | nil => intro m x h; rfl
  | cons p r ih =>
    obtain ⟨n, v⟩ := p
    intro m x h
    unfold bindC
    rw [ih _ x fun w hw => h w (List.mem_cons_of_mem _ hw)]
    have hne : x ≠ n := fun q => h v (by rw [q]; exact List.mem_cons_self ..)
    split
    · rfl
    · exact if_neg hne
theorem bindL_get {kd : Str → Option NameKind} : ∀ (binds : List (Str × Value)) (m : Str → Option Value) (i : Nat) (x : Str) (v : Value), (binds.map (·.1)).Nodup → binds[i]? = some (x, v) → kd x = some .local → bindL kd binds m x = some v := by
  intro binds
  induction binds with
  | nil => intro m i x v _ h; simp at h
  | cons p r ih =>
    obtain ⟨n, w⟩ := p
    intro m i x v nd h hk
    simp only [List.map_cons, List.nodup_cons] at nd
    unfold bindL
    cases i with
    | zero =>
      simp at h
      obtain ⟨rfl, rfl⟩ := h
      rw [bindL_old _ _ _ fun u hu => nd.1 (List.mem_map.mpr ⟨_, hu, rfl⟩), if_pos hk, if_pos rfl]
    | succ i => exact ih _ i x v nd.2 (by simpa using h) hk
theorem bindC_get {kd : Str → Option NameKind} : ∀ (binds : List (Str × Value)) (m : Str → Option Value) (i : Nat) (x : Str) (v : Value), (binds.map (·.1)).Nodup → binds[i]? = some (x, v) → kd x ≠ some .local → bindC kd binds m x = some v := by
  intro binds
  induction binds with
  | nil => intro m i x v _ h; simp at h
  | cons p r ih =>
    obtain ⟨n, w⟩ := p
    intro m i x v nd h hk
    simp only [List.map_cons, List.nodup_cons] at nd
    unfold bindC
    cases i with
    | zero =>
      simp at h
      obtain ⟨rfl, rfl⟩ := h
      rw [bindC_old _ _ _ fun u hu => nd.1 (List.mem_map.mpr ⟨_, hu, rfl⟩), if_neg hk, if_pos rfl]
    | succ i => exact ih _ i x v nd.2 (by simpa using h) hk

/-- a function of the text, as it stands -/
structure FnAt (G : Gr) (a : Addr) (fd : FuncData) (vs : List Str) (body : List Stmt) : Prop where
  at' : ∃ o, G.g.get? a = some o ∧ o.data = .func fd
  body : fd.body = .stmts body
  kind : fd.scope.kind = .function
  co : fd.scope.isCoroutine = false
  gen : fd.scope.isGenerator = false
  clo : fd.closure = []
  glob : fd.globals = mainGlobals
  blt : fd.builtins = builtinsNs
  rec' : G.g.CodeRec fd.code fd.qualname
  nd : vs.Nodup
  nf : ∀ x, fd.scope.names.lookup x ≠ some .free

noncomputable abbrev FnAt.fc (fd : FuncData) : Fc := ⟨fd.scope, fd.code, fd.qualname ++ ".<locals>."⟩

section
variable {G : Gr} {fa : Nat → Addr} {Φ : Phi} {k : Nat} {vs : List Str} {own : List Nat}

theorem RdEs.get {C : Addr} {H : List Addr} {h : Heap} : ∀ {vals : List Value} {evs : List EV}, RdEs C H h vals evs → ∀ (i : Nat) (ev : EV), evs[i]? = some ev → ∃ v, vals[i]? = some v ∧ RdE C H h v ev
  | [], [], _, i, ev, h => by simp at h
  | v :: vs, e :: es, r, i, ev, h => by
    cases i with
    | zero => simp at h; subst h; exact ⟨v, rfl, r.1⟩
    | succ i => simp at h; simpa using RdEs.get r.2 i ev h
theorem RdEs.len {C : Addr} {H : List Addr} {h : Heap} : ∀ {vals : List Value} {evs : List EV}, RdEs C H h vals evs → vals.length = evs.length
  | [], [], _ => rfl
  | v :: vs, e :: es, r => by simp [RdEs.len r.2]

theorem enter0 (hG : GOk G fa) {a : Addr} {fd : FuncData} {body : List Stmt} (F : FnAt G a fd vs body) (hone : ∀ i j, own.contains i = true → own.contains j = true → i = j)
    {A : Around} {s : Shared} {H : List Addr} {vals : List Value} {kws : List (Str × Value)} {binds : List (Str × Value)} {args : List EV} {d : PyData} {m : Nat} (hA : AOk A (k + 1)) (bs : Base G s.heap) (hT : ∀ b ∈ G.T, b ∈ H) (hH : Hid H s.heap)
    (hbind : BindsTo s fd ⟨vals, kws⟩ binds) (hr : RdEs G.C H s.heap (binds.map (·.2)) args) (hn : binds.map (·.1) = vs.take args.length) (hown : ∀ i, own.contains i = true → args.length ≤ i)
    (hkd : ∀ x ∈ binds.map (·.1), fd.scope.names.lookup x = some .local ∨ fd.scope.names.lookup x = some .cell)
    (hb : ∀ M A env s, Sx G vs (FnAt.fc fd) k own M H none A env (args.map some ++ List.replicate m none) s → Wp G A (execs body env) (Post G vs (FnAt.fc fd) k own M H none A env s (.ret (.dat d))) s) : Wp G A (call (.ref a) vals kws) (fun v s' => Gw G s s' ∧ Rd H s'.heap v d) s := by
  obtain ⟨o, ho, hdat⟩ := F.at'
  refine wpAny_call (codeAny_call_function (by have := hA.depth; omega) (bs.keep _ _ ho) hdat F.co F.gen F.body (F.rec'.keeps bs.keep) (hbind _ _ _ _ ?_))
  rw [F.clo]
  refine wpAny_newFunctionEnv_cells F.kind (fun x hx => ?_) fun env henv s₂ ic => ?_
  · rcases hkd x.1 (List.mem_map_of_mem hx) with q | q
    · exact .inl q
    · exact .inr ⟨q, cells_has _ _ _ _ (mem_of_lookup q)⟩
  have hkp : ∀ b o, s.heap.get? b = some o → s₂.heap.get? b = some o := ic.toInCall.keep
  have g1 : Gw G s s₂ := by
    obtain ⟨h', tk, e⟩ := ic.toInCall.same
    rw [e] at hkp ⊢
    exact Gw.heapTok bs hkp tk
  refine ⟨(hG.nolim.keeps bs.keep).keeps hkp, codeAny_func ?_⟩
  have hL : env.locals = s.heap.objs.size := by rw [henv]; rfl
  have hcl : env.cells = cellsFrom (s.heap.objs.size + 1) fd.scope.names [] := by rw [henv]; rfl
  have hko : ∀ x, env.kindOf x = fd.scope.names.lookup x := fun x => by rw [henv]; rfl
  have fr : ∀ c, s.heap.objs.size ≤ c → G.g.get? c = none ∧ c ∉ G.T := fun c hc => bs.fresh hc
  have above : ∀ x c, env.cells.lookup x = some c → s.heap.objs.size ≤ c := fun x c hc => by
    have := ic.above x c (mem_of_lookup hc); rw [hL] at this; exact Nat.le_of_lt this
  have hMc : ∀ c ∈ fd.scope.names.filterMap (fun p => env.cells.lookup p.1), ∃ n, env.cells.lookup n = some c := by
    intro c hc
    obtain ⟨p, _, q⟩ := List.mem_filterMap.mp hc
    exact ⟨p.1, q⟩
  have hM : ∀ c ∈ env.locals :: fd.scope.names.filterMap (fun p => env.cells.lookup p.1), s.heap.objs.size ≤ c ∧ ∃ o, s₂.heap.get? c = some o ∧ NotCode o := by
    intro c hc
    rcases List.mem_cons.mp hc with rfl | hc
    · exact ⟨by rw [hL]; exact Nat.le_refl _, ns_notCode ic.toInCall.ns⟩
    · obtain ⟨n, q⟩ := hMc c hc
      exact ⟨above n c q, cell_notCode (ic.cell n c q)⟩
  have hnf : ∀ x, env.kindOf x ≠ some .free := fun x => by rw [hko]; exact F.nf x
  have hc2 : ∀ x, kcls (env.kindOf x) = 2 → env.kindOf x = some .cell := fun x hx => by
    cases q : env.kindOf x with
    | none => rw [q] at hx; cases hx
    | some kd =>
      rw [q] at hx
      cases kd with
      | cell => rfl
      | free => exact absurd q (hnf x)
      | _ => cases hx
  have up : ∀ b o, (hideAll s.heap H).get? b = some o → (hideAll s₂.heap ((none : Option Addr).toList ++ ((env.locals :: fd.scope.names.filterMap (fun p => env.cells.lookup p.1)) ++ H))).get? b = some o := by
    intro b o e
    have e' := of_hideAll _ e
    refine hideAll_get _ (hkp b o e') fun q => ?_
    rcases List.mem_append.mp q with q | q
    · simp at q
    · rcases List.mem_append.mp q with q | q
      · exact absurd (Heap.lt_size e') (Nat.not_lt.mpr (hM b q).1)
      · rw [hideAll_none _ q] at e; cases e
  have bs₂ := g1.base
  have hlen : (binds.map (·.2)).length = args.length := hr.len
  have hnd : (binds.map (·.1)).Nodup := by rw [hn]; exact F.nd.sublist (List.take_sublist _ _)
  have hslot : ∀ (i : Nat) (ev : EV), (args.map some ++ List.replicate m none)[i]? = some (some ev) → args[i]? = some ev := by
    intro i ev h
    by_cases hi : i < args.length
    · rw [List.getElem?_append_left (by simpa using hi)] at h
      simpa using h
    · rw [List.getElem?_append_right (by simpa using hi)] at h
      rw [List.getElem?_replicate] at h
      split at h <;> cases h
  have x : Sx G vs (FnAt.fc fd) k own (env.locals :: fd.scope.names.filterMap (fun p => env.cells.lookup p.1)) H none (A.deeper env) env (args.map some ++ List.replicate m none) s₂ := {
    cx := {
      a := ⟨hA.hand, (by have := hA.depth; show A.depth + 1 + k < _; omega), (by have := hA.units; show A.units + 3 + 40 * k + 200 < _; omega)⟩
      e := ⟨by rw [henv]; exact F.kind, by rw [henv]; exact F.glob, by rw [henv]; exact F.blt, by rw [hL]; exact (fr _ (Nat.le_refl _)).2, ⟨_, ic.toInCall.ns⟩, fun x c hc => (fr c (above x c hc)).2, fun x hx => by
        rw [hcl]
        exact cells_has _ _ _ _ (mem_of_lookup (by rw [← hko]; exact hc2 x hx))⟩
      sk := fun x => by rw [hko]
      cd := by rw [henv]; rfl
      ql := by rw [henv]; rfl
      b := bs₂
      h := fun b hb => List.mem_append_right _ (List.mem_append_right _ (hT b hb))
      hx := fun b hb => by
        rcases List.mem_append.mp hb with q | q
        · simp at q
        · rcases List.mem_append.mp q with q | q
          · exact (hM b q).2
          · exact hx_ext hH g1 b q
      v := fun i n ev h1 h2 h3 => by
        rw [mask_get] at h2
        have h2' : (args.map some ++ List.replicate m none)[i]? = some (some ev) := by
          cases q : (args.map some ++ List.replicate m none)[i]? with
          | none => rw [q] at h2; cases h2
          | some o =>
            rw [q] at h2
            simp only [Option.map_some, Option.some.injEq] at h2
            split at h2
            · cases h2
            · rw [h2]
        have ha := hslot i ev h2'
        obtain ⟨v, hv, rv⟩ := hr.get i ev ha
        have hi : i < args.length := (List.getElem?_eq_some_iff.mp ha).1
        have hx : (binds.map (·.1))[i]? = some n := by rw [hn, List.getElem?_take_of_lt hi]; exact h1
        have hb : binds[i]? = some (n, v) := by
          cases q : binds[i]? with
          | none => rw [List.getElem?_map, q] at hx; cases hx
          | some p =>
            rw [List.getElem?_map, q] at hx hv
            simp at hx hv
            rw [← hx, ← hv]
        refine ⟨v, ?_, rv.mono up⟩
        rcases h3 with h3 | h3
        · have hk := kcls1 h3
          exact .inl ⟨hk, _, ic.toInCall.ns, bindL_get _ _ i n v hnd hb hk⟩
        · have hk := hc2 n h3
          have hs : (env.cells.lookup n).isSome = true := by rw [hcl]; exact cells_has _ _ _ _ (mem_of_lookup (by rw [← hko]; exact hk))
          obtain ⟨c, hc⟩ := Option.isSome_iff_exists.mp hs
          have := ic.cell n c hc
          rw [bindC_get _ _ i n v hnd hb (by rw [hk]; decide)] at this
          exact .inr ⟨h3, c, hc, this⟩ }
    nd := F.nd
    ml := ⟨by rw [hL]; exact (fr _ (Nat.le_refl _)).1, by rw [hL]; exact (fr _ (Nat.le_refl _)).2, ns_notCode ic.toInCall.ns⟩
    lM := List.mem_cons_self ..
    mc := fun y c h1 h2 => by
      refine ⟨List.mem_cons_of_mem _ (List.mem_filterMap.mpr ⟨(y, .cell), mem_of_lookup (by rw [← hko]; exact h1), h2⟩), ⟨(fr c (above y c h2)).1, (fr c (above y c h2)).2, cell_notCode (ic.cell y c h2)⟩, _, ic.cell y c h2⟩
    ap := fun y z c h1 h2 => name_of_addr ic.apart (mem_of_lookup h1) (mem_of_lookup h2)
    nf := hnf
    tH := hT
    ol := fun i ev h1 h2 => by
      have := (List.getElem?_eq_some_iff.mp (hslot i ev h2)).1
      exact absurd (hown i h1) (Nat.not_le.mpr this)
    one := hone
    ou := fun _ => rfl }
  refine (hb _ (A.deeper env) env s₂ x).mono fun f s' p => ?_
  obtain ⟨gs, val, hf, rv⟩ := p
  subst hf
  refine ⟨?_, rv.mono (view_less fun b hb => List.mem_append_right _ hb)⟩
  obtain ⟨h', tk, e, kk, bb⟩ := gs
  obtain ⟨h1, tk1, e1⟩ := ic.toInCall.same
  refine ⟨h', tk, by rw [e, e1], fun b o hb eb => kk b o (fun q => ?_) (hkp b o eb), bb⟩
  rcases List.mem_append.mp q with q | q
  · simp at q
  · rcases List.mem_append.mp q with q | q
    · exact absurd (Heap.lt_size eb) (Nat.not_lt.mpr (hM b q).1)
    · exact hb q
theorem enter (hG : GOk G fa) {a : Addr} {fd : FuncData} {body : List Stmt} {b : S} (F : FnAt G a fd vs body) (hb : BlOk G Φ k vs (FnAt.fc fd) own b body) (hone : ∀ i j, own.contains i = true → own.contains j = true → i = j)
    {A : Around} {s : Shared} {H : List Addr} {vals : List Value} {kws : List (Str × Value)} {binds : List (Str × Value)} {args : List EV} {d : PyData} {m : Nat} (hA : AOk A (k + 1)) (bs : Base G s.heap) (hT : ∀ b ∈ G.T, b ∈ H) (hH : Hid H s.heap)
    (hbind : BindsTo s fd ⟨vals, kws⟩ binds) (hr : RdEs G.C H s.heap (binds.map (·.2)) args) (hn : binds.map (·.1) = vs.take args.length) (hown : ∀ i, own.contains i = true → args.length ≤ i)
    (hkd : ∀ x ∈ binds.map (·.1), fd.scope.names.lookup x = some .local ∨ fd.scope.names.lookup x = some .cell)
    (he : evalS Φ own b (args.map some ++ List.replicate m none) = some (.ret (.dat d))) : Wp G A (call (.ref a) vals kws) (fun v s' => Gw G s s' ∧ Rd H s'.heap v d) s :=
  enter0 hG F hone hA bs hT hH hbind hr hn hown hkd fun M A env s x => hb M H none A env _ s _ x he
end
end Mine

/-! SB25 -/
namespace Mine
open PySem PySem.W PyProof.Rows PySem.Calls PySem.Spec PySem.SeqAt

noncomputable abbrev csl : Str := Str.ofString "comp_select_list"
/-- the class of the comparisons, as it stands -/
structure COk (G : Gr) (K : Frag) (fI fC : Addr) (fd : FuncData) : Prop where
  X : K.In G.g
  mkc : makesIn K G.C = true
  kp : keepIn K (.ref G.C) = true
  ini : findIn K (.ref G.C) "__init__" = some (some (.ref fI))
  tyI : typeIn K (.ref fI) = some (.type "function")
  ga : findIn K (.ref G.C) "__getattribute__" = some (some (.builtin "object.__getattribute__"))
  gat : findIn K (.ref G.C) "__getattr__" = some none
  sa : findIn K (.ref G.C) "__setattr__" = some (some (.builtin "object.__setattr__"))
  po : plainOver K G.C = true
  tk : takerIn K G.C csl = some none
  hd : (clsIn K G.C).any (·.hasDict) = true
  no : findIn K (.ref G.C) csl = some none
  cmp : findIn K (.ref G.C) (Str.ofString "compare") = some (some (.ref fC))
  tyC : typeIn K (.ref fC) = some (.type "function")
  kpC : keepIn K (.ref fC) = true
  at' : ∃ o, G.g.get? fI = some o ∧ o.data = .func fd
  body : ∃ p1 p2 p3 p4, fd.body = .stmts [.Assign [.Attribute (.Name (Str.ofString "self") p1) csl p2] (.Name csl p3) p4]
  params : ∃ p q, fd.params = { posonlyargs := [], args := [{ arg := Str.ofString "self", annotation := none, pos := p }, { arg := csl, annotation := none, pos := q }], vararg := none, kwonlyargs := [], kw_defaults := [], kwarg := none, defaults := [] }
  dflt : fd.defaults = .none
  kind : fd.scope.kind = .function
  co : fd.scope.isCoroutine = false
  gen : fd.scope.isGenerator = false
  clo : fd.closure = []
  glob : fd.globals = mainGlobals
  blt : fd.builtins = builtinsNs
  rec' : G.g.CodeRec fd.code fd.qualname
  l1 : fd.scope.names.lookup (Str.ofString "self") = some .local
  l2 : fd.scope.names.lookup csl = some .local
  nocell : ∀ x ∈ fd.scope.names, x.2 ≠ .cell

section
variable {G : Gr} {fa : Nat → Addr} {Φ : Phi} {k : Nat} {vs : List Str} {sc : Fc} {K : Frag} {fI fC : Addr} {fd : FuncData}

theorem In.up {h : Heap} (X : K.In G.g) (b : Base G h) : K.In h := fun a o e => b.keep _ _ (X a o e)

/-- an object is made -/
theorem make_inst (hG : GOk G fa) (hC : COk G K fI fC fd) {A : Around} {s : Shared} {H : List Addr} {v : Value} {d : PyData} (hA : AOk A 1) (b : Base G s.heap) (hT : ∀ b ∈ G.T, b ∈ H) (hx : Hid H s.heap) (r : Rd H s.heap v d) :
    Wp G A (call (.ref G.C) [v]) (fun v s' => Gw G s s' ∧ RdE G.C H s'.heap v (.inst d)) s := by
  obtain ⟨h, g, dr, t, os⟩ := s
  have X : K.In h := In.up hC.X b
  refine wpAny_call (make_core (makes_of X hC.mkc) (looks_findIn X hC.ini) (fun self => bind_fn X self hC.tyI) (.inl rfl) ?_)
  obtain ⟨o, ho, hdat⟩ := hC.at'
  obtain ⟨p1, p2, p3, p4, hbody⟩ := hC.body
  obtain ⟨q1, q2, hpar⟩ := hC.params
  have hk1 : ∀ b o, h.get? b = some o → ((h.push emptyDict).push (instObj G.C h.objs.size)).get? b = some o := fun _ _ e => Heap.get?_push_of_some _ (Heap.get?_push_of_some _ e)
  have b1 : Base G ((h.push emptyDict).push (instObj G.C h.objs.size)) := b.keeps hk1
  refine codeAny_call_function (by have := hA.depth; simp only [depth_under_make]; omega) (b1.keep _ _ ho) hdat hC.co hC.gen hbody (hC.rec'.keeps b1.keep) ?_
  have hbind : bindArgs fd ⟨[.ref (h.objs.size + 1), v], []⟩ = pure [(Str.ofString "self", .ref (h.objs.size + 1)), (csl, v)] := by
    unfold bindArgs
    rw [hpar, hC.dflt]
    rfl
  rw [hbind]
  have hloc : ∀ y ∈ [(Str.ofString "self", Value.ref (h.objs.size + 1)), (csl, v)], fd.scope.names.lookup y.1 = some .local := by
    intro y hy
    simp only [List.mem_cons, List.not_mem_nil, or_false] at hy
    rcases hy with rfl | rfl
    · exact hC.l1
    · exact hC.l2
  refine wpAny_pure (wpAny_newFunctionEnv hC.nocell hloc (fun h₁ hns hsb => ?_) hC.kind)
  have hk2 : ∀ b o, ((h.push emptyDict).push (instObj G.C h.objs.size)).get? b = some o → h₁.get? b = some o := fun b o e => hsb.extBut b o (Nat.ne_of_lt (Heap.lt_size e)) (Heap.get?_push_of_some _ e)
  have hk : ∀ b o, h.get? b = some o → h₁.get? b = some o := fun b o e => hk2 b o (hk1 b o e)
  refine ⟨(hG.nolim.keeps b.keep).keeps hk, codeAny_func ?_⟩
  have sz : ((h.push emptyDict).push (instObj G.C h.objs.size)).objs.size = h.objs.size + 2 := by rw [Heap.size_push, Heap.size_push]
  have F : Fr h (h.objs.size + 2) h₁ _ := ⟨sz ▸ hns, hk, by omega⟩
  have e1 : h₁.get? (h.objs.size + 1) = some (instObj G.C h.objs.size) := hk2 _ _ (by heap_get)
  have e2 : h₁.get? h.objs.size = some emptyDict := hk2 _ _ (Heap.get?_push_of_some _ (Heap.get?_push_size _ rfl))
  have X1 : K.In h₁ := In.up hC.X (b.keeps hk)
  have N : News h (h.objs.size + 2) h₁ [(h.objs.size + 1, instObj G.C h.objs.size), (h.objs.size, emptyDict)] := by
    intro p hp
    simp only [List.mem_cons, List.not_mem_nil, or_false] at hp
    rcases hp with rfl | rfl
    · exact ⟨e1, by simp, Heap.get?_none_of_le (by simp)⟩
    · exact ⟨e2, by simp, Heap.get?_none_of_le (Nat.le_refl _)⟩
  have I : InstAt h₁ (h.objs.size + 1) (instObj G.C h.objs.size) G.C (some emptyDict) := ⟨e1, rfl, rfl, e2⟩
  refine wpAny_execs_cons (plainObj_wpAny_Assign_Attribute (wpAny_Name (wpAny_loadName_local hC.kind hC.l2 hns (v := v) ?_ ?_) (by decide)) rfl)
  · rfl
  refine wpAny_Name (wpAny_loadName_local hC.kind hC.l1 hns (v := .ref (h.objs.size + 1)) ?_ ?_) (by decide)
  · rfl
  refine set_plain X1 I hC.sa (osa_dict (pre := [(h.objs.size + 1, instObj G.C h.objs.size)]) (post := []) (od' := { cls := .type "dict", data := .dict #[⟨PyData.keyHash G.w.params csl, .str csl (t + 3), v⟩] 1 }) (es := [⟨PyData.keyHash G.w.params csl, .str csl (t + 3), v⟩]) (n := 1) F N X1 I rfl hC.po hC.tk hC.hd rfl ?_ ?_ rfl rfl ?_ fun h₂ F₂ N₂ => ?_)
  · intro p hp; simp only [List.mem_cons, List.not_mem_nil, or_false] at hp; subst hp; simp
  · intro p hp; cases hp
  · simp
  refine wpAny_execs_nil ?_
  have g2 : Gw G ⟨h, g, dr, t, os⟩ ⟨h₂, g, dr, t + 4, os⟩ := Gw.heapTok (s := ⟨h, g, dr, t, os⟩) b F₂.keep _
  have n1 := (N₂ (h.objs.size + 1, instObj G.C h.objs.size) (by simp)).1
  have n2 := (N₂ _ (List.mem_cons_of_mem _ (List.mem_cons_self ..))).1
  have hnH : ∀ a, h.objs.size ≤ a → a ∉ H := fun a ha q => by
    obtain ⟨o', e', _⟩ := hx a q
    exact absurd (Heap.lt_size e') (Nat.not_lt.mpr ha)
  refine ⟨rfl, g2, _, rfl, ?_⟩
  obtain ⟨as, rr⟩ := Rd.ext (G := G) (s := ⟨h, g, dr, t, os⟩) r g2 hT
  exact ⟨_, _, _, _, _, _, as, hideAll_get _ n1 (hnH _ (Nat.le_succ _)), hideAll_get _ n2 (hnH _ (Nat.le_refl _)), rfl, rr⟩

theorem ev_mk (hG : GOk G fa) (hC : COk G K fI fC fd) (hk : 1 ≤ k) {p pos : Pos} (hx : kcls (sc.names.lookup (Str.ofString "TupleComp")) = 3) {a : X} {l : Expr} (h : EvAll G Φ k vs sc [a] [l]) :
    EvOk G Φ k vs sc (.mk a) (.Call (.Name (Str.ofString "TupleComp") p) [l] [] pos) := by
  intro H A env ρ s ev cx he
  dsimp only [xe_var, xe_int, xe_nil, xe_bool, xe_lim, xe_ar, xe_cat, xe_rep, xe_neg, xe_inv, xe_not, xe_cmp, xe_isNone, xe_and2, xe_or2, xe_or3, xe_ite, xe_tup2, xe_tup3, xe_list0, xe_list1, xe_list3, xe_sub, xe_from1, xe_upto1, xe_sl3, xe_len, xe_sum, xe_tuple, xe_bits, xe_divmod, xe_call1, xe_call2, xe_call3, xe_call5, xe_callk, xe_keyc, xe_comp, xe_mk, xe_cmpr, xe_attr] at he
  split at he
  · rename_i d ea
    cases he
    refine Call_ (nm_glob hG cx hx hG.cls (by decide) ?_)
    refine callWith_K (K := K) (In.up hC.X cx.b) hC.kp ((args_ok h (evs := [.dat d]) cx ⟨ea, trivial⟩).mono fun vals s' zz22 => have g := zz22.1; have r := zz22.2; ⟨In.up hC.X g.base, ?_⟩) (h.1.2 _ _)
    obtain ⟨v, rfl, q1⟩ := r.one
    have hu := cx.a.units
    have hd1 := cx.a.depth
    exact (make_inst hG hC ⟨cx.a.hand, by omega, by omega⟩ g.base cx.h (hx_ext cx.hx g) q1).mono fun v s'' zz23 => have g'' := zz23.1; have r'' := zz23.2; ⟨g.trans g'', r''⟩
  · cases he

theorem inst_at {H : List Addr} {h : Heap} {a : Addr} {d : PyData} (x : IsInst G.C (hideAll h H) a d) : ∃ ox od v as, InstAt h a ox G.C (some od) ∧ lookIn csl od = some (some v) ∧ lookIn (Str.ofString "compare") od = some none ∧ Reads (hideAll h H) v d as := by
  obtain ⟨dA, es, n, t, v, hs, as, h1, h2, h3, h4⟩ := x
  refine ⟨_, _, v, as, ⟨of_hideAll _ h1, rfl, rfl, of_hideAll _ h2⟩, ?_, ?_, h4⟩
  · unfold lookIn
    dsimp only
    rw [h3]
    rfl
  · unfold lookIn
    dsimp only
    rw [h3]
    rfl

theorem ev_attr (hC : COk G K fI fC fd) {n : Nat} {id : Str} {p ap : Pos} (hf : EvOk G Φ k vs sc (.var n) (.Name id p)) : EvOk G Φ k vs sc (.attr n) (.Attribute (.Name id p) csl ap) := by
  intro H A env ρ s ev cx he
  dsimp only [xe_var, xe_int, xe_nil, xe_bool, xe_lim, xe_ar, xe_cat, xe_rep, xe_neg, xe_inv, xe_not, xe_cmp, xe_isNone, xe_and2, xe_or2, xe_or3, xe_ite, xe_tup2, xe_tup3, xe_list0, xe_list1, xe_list3, xe_sub, xe_from1, xe_upto1, xe_sl3, xe_len, xe_sum, xe_tuple, xe_bits, xe_divmod, xe_call1, xe_call2, xe_call3, xe_call5, xe_callk, xe_keyc, xe_comp, xe_mk, xe_cmpr, xe_attr] at he
  split at he
  · rename_i d ef
    cases he
    refine Attribute_name ((hf H A env ρ s (.inst d) cx (by simp only [xe_var, xe_int, xe_nil, xe_bool, xe_lim, xe_ar, xe_cat, xe_rep, xe_neg, xe_inv, xe_not, xe_cmp, xe_isNone, xe_and2, xe_or2, xe_or3, xe_ite, xe_tup2, xe_tup3, xe_list0, xe_list1, xe_list3, xe_sub, xe_from1, xe_upto1, xe_sl3, xe_len, xe_sum, xe_tuple, xe_bits, xe_divmod, xe_call1, xe_call2, xe_call3, xe_call5, xe_callk, xe_keyc, xe_comp, xe_mk, xe_cmpr, xe_attr]; exact ef)).mono fun f s₁ zz24 => have g := zz24.1; have rf := zz24.2; ?_)
    obtain ⟨a, rfl, x⟩ := rf
    obtain ⟨ox, od, v, as, I, l1, l2, r⟩ := inst_at x
    have X := In.up hC.X g.base
    obtain ⟨cd, hc, hd'⟩ := any_some hC.hd
    refine get_value (K := K) (v := v) X I hC.ga ?_ ?_ ?_
    · unfold findObj
      rw [hc, hC.no]
      simp only [Option.bind_some, PySem.W.ownOf, hd', if_true, l1]
    · cases r <;> rfl
    · exact ⟨g.trans (Gw.tok g.base _), as, r⟩
  · cases he

theorem ev_cmpr (hC : COk G K fI (fa 0) fd) (hΦ : PhiOk G fa Φ k) {n : Nat} {id : Str} {p apos pos : Pos} (hf : EvOk G Φ k vs sc (.var n) (.Name id p)) (hl : apos.endLine = pos.line) {a b : X} {l r : Expr} (h : EvAll G Φ k vs sc [a, b] [l, r]) :
    EvOk G Φ k vs sc (.cmpr n a b) (.Call (.Attribute (.Name id p) (Str.ofString "compare") apos) [l, r] [] pos) := by
  intro H A env ρ s ev cx he
  dsimp only [xe_var, xe_int, xe_nil, xe_bool, xe_lim, xe_ar, xe_cat, xe_rep, xe_neg, xe_inv, xe_not, xe_cmp, xe_isNone, xe_and2, xe_or2, xe_or3, xe_ite, xe_tup2, xe_tup3, xe_list0, xe_list1, xe_list3, xe_sub, xe_from1, xe_upto1, xe_sl3, xe_len, xe_sum, xe_tuple, xe_bits, xe_divmod, xe_call1, xe_call2, xe_call3, xe_call5, xe_callk, xe_keyc, xe_comp, xe_mk, xe_cmpr, xe_attr] at he
  split at he
  · rename_i d x y ef ea eb
    obtain ⟨d', hd', rfl⟩ := Option.map_eq_some_iff.mp he
    refine MethodCall_ ((hf H A env ρ s (.inst d) cx (by simp only [xe_var, xe_int, xe_nil, xe_bool, xe_lim, xe_ar, xe_cat, xe_rep, xe_neg, xe_inv, xe_not, xe_cmp, xe_isNone, xe_and2, xe_or2, xe_or3, xe_ite, xe_tup2, xe_tup3, xe_list0, xe_list1, xe_list3, xe_sub, xe_from1, xe_upto1, xe_sl3, xe_len, xe_sum, xe_tuple, xe_bits, xe_divmod, xe_call1, xe_call2, xe_call3, xe_call5, xe_callk, xe_keyc, xe_comp, xe_mk, xe_cmpr, xe_attr]; exact ef)).mono fun f s₁ zz25 => have g := zz25.1; have rf := zz25.2; ?_) (method_he hl (plain_args h _ _) (by simp))
    have rf' : RdE G.C H s₁.heap f (.inst d) := rf
    obtain ⟨ad, rfl, xi⟩ := rf
    obtain ⟨ox, od, v, as, I, l1, l2, rr⟩ := inst_at xi
    have X := In.up hC.X g.base
    refine method_fn (K := K) (f := fa 0) X I hC.ga hC.gat hC.cmp hC.tyC (by unfold shadowIn; dsimp only; rw [l2]; rfl) ?_
    refine callWith_K (K := K) X hC.kpC ((args_ok h (evs := [x, y]) (cx.step g) ⟨ea, eb, trivial⟩).mono fun vals s' zz26 => have g' := zz26.1; have r' := zz26.2; ⟨In.up hC.X g'.base, ?_⟩) (h.1.2 _ _) (plain_args (show EvAll G Φ k vs sc [b] [r] from h.2) _ _)
    have g2 := g.trans g'
    have := hΦ.fn 0 (by decide) (by decide) (by decide) A s' H [.inst d, x, y] (.ref ad :: vals) d' cx.a g2.base cx.h (hx_ext cx.hx g2) ⟨rf'.ext g' cx.h, r'⟩ hd'
    exact this.mono fun v s'' zz27 => have g'' := zz27.1; have r'' := zz27.2; ⟨g2.trans g'', r''⟩
  · cases he
end
end Mine

/-! SB26 -/
namespace Mine
open PySem PySem.W PyProof.Rows PySem.Calls PySem.Spec PySem.SeqAt

/-! ## digits, plainly -/
/-- the m last digits of x, base 2 ^ n, the least first -/
noncomputable def digs (n : Nat) (x : Nat) : Nat → List Int
  | 0 => []
  | m + 1 => ((x % 2 ^ n : Nat) : Int) :: digs n (x / 2 ^ n) m
theorem digs_length (n : Nat) : ∀ (m x : Nat), (digs n x m).length = m := by
  intro m
  induction m with
  | zero => intro x; rfl
  | succ m ih => intro x; simp [digs, ih]
theorem digs_split (n : Nat) : ∀ (p q x : Nat), digs n x (p + q) = digs n (x % 2 ^ (n * p)) p ++ digs n (x / 2 ^ (n * p)) q := by
  intro p
  induction p with
  | zero => intro q x; simp [digs]
  | succ p ih =>
    intro q x
    rw [show p + 1 + q = (p + q) + 1 by omega]
    simp only [digs, List.cons_append]
    have e : 2 ^ (n * (p + 1)) = 2 ^ n * 2 ^ (n * p) := by rw [← Nat.pow_add]; congr 1; rw [Nat.mul_succ]; omega
    rw [ih q (x / 2 ^ n), e, Nat.mod_mul_right_mod, Nat.mod_mul_right_div_self, Nat.div_div_eq_div_mul]

theorem or_shift (x s : Nat) : x ||| ((x / 2 ^ s) * 2 ^ s) = x := by
  rw [← Nat.shiftLeft_eq, ← Nat.shiftRight_eq_div_pow]
  apply Nat.eq_of_testBit_eq
  intro i
  rw [Nat.testBit_or, Nat.testBit_shiftLeft, Nat.testBit_shiftRight]
  by_cases h : s ≤ i
  · simp [h, show s + (i - s) = i by omega]
  · simp [h]
theorem and_shift (x s : Nat) : x &&& ((x / 2 ^ s) * 2 ^ s) = (x / 2 ^ s) * 2 ^ s := by
  rw [← Nat.shiftLeft_eq, ← Nat.shiftRight_eq_div_pow]
  apply Nat.eq_of_testBit_eq
  intro i
  rw [Nat.testBit_and, Nat.testBit_shiftLeft, Nat.testBit_shiftRight]
  by_cases h : s ≤ i
  · simp [h, show s + (i - s) = i by omega]
  · simp [h]
theorem bitAnd_nat (x y : Nat) : Builtin.bitAnd x y = ((x &&& y : Nat) : Int) := by
  unfold Builtin.bitAnd
  have h1 : decide (0 ≤ (x : Int)) = true := by simp
  have h2 : decide (0 ≤ (y : Int)) = true := by simp
  rw [h1, h2]
  simp
theorem bitOr_nat (x y : Nat) : Builtin.bitOr x y = ((x ||| y : Nat) : Int) := by
  unfold Builtin.bitOr Builtin.bitAnd
  have h1 : decide (0 ≤ Builtin.bitNot (x : Int)) = false := by simp [Builtin.bitNot]; omega
  have h2 : decide (0 ≤ Builtin.bitNot (y : Int)) = false := by simp [Builtin.bitNot]; omega
  rw [h1, h2]
  have e : ∀ z : Nat, (Builtin.bitNot (Builtin.bitNot (z : Int))).toNat = z := fun z => by simp only [Builtin.bitNot]; omega
  simp only [e]
  simp only [Builtin.bitNot]; omega
theorem xor_shift (x s : Nat) : Builtin.bitXor x (((x / 2 ^ s : Nat) : Int) * 2 ^ s) = ((x % 2 ^ s : Nat) : Int) := by
  have e : (((x / 2 ^ s : Nat) : Int) * 2 ^ s) = (((x / 2 ^ s) * 2 ^ s : Nat) : Int) := by simp
  rw [e]
  unfold Builtin.bitXor
  rw [bitOr_nat, bitAnd_nat, or_shift, and_shift]
  have := Nat.div_add_mod x (2 ^ s)
  have e2 : x / 2 ^ s * 2 ^ s = 2 ^ s * (x / 2 ^ s) := Nat.mul_comm _ _
  rw [e2]
  omega

/-! ## a function made in a frame -/
structure InnerFn (fd : FuncData) (names : List Str) (body : List Stmt) : Prop where
  body : fd.body = .stmts body
  kind : fd.scope.kind = .function
  co : fd.scope.isCoroutine = false
  gen : fd.scope.isGenerator = false
  glob : fd.globals = mainGlobals
  blt : fd.builtins = builtinsNs
  nocell : ∀ x ∈ fd.scope.names, x.2 ≠ .cell
  bind : ∀ vals : List Value, vals.length = names.length → bindArgs fd ⟨vals, []⟩ = pure (names.zip vals)
  loc : ∀ x ∈ names, fd.scope.names.lookup x = some .local
  nd : names.Nodup

theorem zip_lookup {names : List Str} (nd : names.Nodup) : ∀ (vals : List Value) (i : Nat) (x : Str) (v : Value), names[i]? = some x → vals[i]? = some v → (names.zip vals).reverse.lookup x = some v := by
  induction names with
  | nil => intro vals i x v h; simp at h
  | cons n ns ih =>
    intro vals i x v h1 h2
    cases vals with
    | nil => simp at h2
    | cons w ws =>
      simp only [List.nodup_cons] at nd
      rw [List.zip_cons_cons, List.reverse_cons, List.lookup_append]
      cases i with
      | zero =>
        simp at h1 h2; subst h1 h2
        have : (ns.zip ws).reverse.lookup n = none := by
          rw [List.lookup_eq_none_iff]
          intro p hp
          have hm : p.1 ∈ ns := (List.of_mem_zip (List.mem_reverse.mp hp)).1
          simp only [bne_iff_ne, beq_eq_false_iff_ne, ne_eq]
          intro q
          subst q
          exact nd.1 hm
        rw [this]
        simp [List.lookup]
      | succ i =>
        rw [ih nd.2 ws i x v (by simpa using h1) (by simpa using h2)]
        rfl

section
variable {G : Gr} {fa : Nat → Addr} {Φ : Phi} {k : Nat} {vs : List Str} {sc : Fc}

theorem enter_clo (hG : GOk G fa) {fd : FuncData} {names : List Str} {body : List Stmt} (I : InnerFn fd names body) {A : Around} {s : Shared} {f : Addr} {vals : List Value} (hA : AOk A 1) (b : Base G s.heap) {o : Obj} (ho : s.heap.get? f = some o) (hdat : o.data = .func fd)
    (rec' : s.heap.CodeRec fd.code fd.qualname) (hlen : vals.length = names.length) {Q : Value → Shared → Prop}
    (hq : ∀ h₁ env tk, env = newEnv fd.scope s.heap.objs.size fd.globals fd.closure (fd.qualname ++ ".<locals>.") (some f) fd.code none fd.builtins → (∀ b o, s.heap.get? b = some o → h₁.get? b = some o) →
      h₁.Ns s.heap.objs.size (fun x => (names.zip vals).reverse.lookup x) → Wp G (A.deeper env) (execs body env) (fun fl s' => Q (match fl with | .ret v => v | _ => .none) s') { s with heap := h₁, toks := tk }) :
    Wp G A (call (.ref f) vals) Q s := by
  refine wpAny_call (codeAny_call_function (by have := hA.depth; omega) ho hdat I.co I.gen I.body rec' ?_)
  rw [I.bind vals hlen]
  refine wpAny_pure (wpAny_newFunctionEnv I.nocell (fun y hy => I.loc _ (List.of_mem_zip hy).1) (fun h₁ hns hsb => ?_) I.kind)
  have hkp : ∀ b o, s.heap.get? b = some o → h₁.get? b = some o := fun b o e => hsb.extBut b o (Nat.ne_of_lt (Heap.lt_size e)) (Heap.get?_push_of_some _ e)
  refine ⟨(hG.nolim.keeps b.keep).keeps hkp, codeAny_func ?_⟩
  exact (hq h₁ _ _ rfl hkp hns).mono fun fl s' q => q

theorem Cx.gs {H : List Addr} {A : Around} {env : Env} {ρ : Env'} {s s' : Shared} {Z : List Addr} (x : Cx G vs sc k H A env ρ s) (g : Gs G Z s s') (hZ : ∀ b ∈ Z, b ∈ H) (hl : env.locals ∉ Z) (hc : ∀ n c, env.cells.lookup n = some c → c ∉ Z) (hx' : Hid H s'.heap) :
    Cx G vs sc k H A env ρ s' := by
  have up : ∀ b o, (hideAll s.heap H).get? b = some o → (hideAll s'.heap H).get? b = some o := by
    intro b o e
    have hb : b ∉ H := fun q => by rw [hideAll_none H q] at e; cases e
    exact hideAll_get _ (g.keep b o (fun z => hb (hZ b z)) (of_hideAll _ e)) hb
  refine {
    a := x.a
    e := ⟨x.e.kind, x.e.glob, x.e.blt, x.e.loc, let ⟨m, o, es, ep, e, r⟩ := x.e.ns; ⟨m, o, es, ep, g.keep _ _ hl e, r⟩, x.e.cel, x.e.has⟩
    sk := x.sk
    cd := x.cd
    ql := x.ql
    b := g.base
    h := x.h
    hx := hx'
    v := fun i n ev h1 h2 h3 => ?_ }
  obtain ⟨v, hv, rv⟩ := x.v i n ev h1 h2 h3
  refine ⟨v, ?_, rv.mono up⟩
  rcases hv with ⟨h1, m, ⟨o, es, ep, e, r⟩, hm⟩ | ⟨h1, c, hcc, o, e, r⟩
  · exact .inl ⟨h1, m, ⟨o, es, ep, g.keep _ _ hl e, r⟩, hm⟩
  · exact .inr ⟨h1, c, hcc, o, g.keep _ _ (hc _ _ hcc) e, r⟩

theorem Cx.low {H : List Addr} {A : Around} {env : Env} {ρ : Env'} {s : Shared} {j : Nat} (x : Cx G vs sc k H A env ρ s) (h : j ≤ k) : Cx G vs sc j H A env ρ s :=
  { x with a := ⟨x.a.hand, by have := x.a.depth; omega, by have := x.a.units; omega⟩ }
end
end Mine

/-! SB27 -/
namespace Mine
open PySem PySem.W PyProof.Rows PySem.Calls PySem.Spec PySem.SeqAt

noncomputable abbrev nIn : Str := Str.ofString "inner"
section
variable {G : Gr} {fa : Nat → Addr} {Φ : Phi} {k : Nat} {vs : List Str} {sc : Fc}

/-- a name of the frame is given a value, as it is written -/
noncomputable def AsgOk (G : Gr) (Φ : Phi) (vs : List Str) (sc : Fc) (i : Nat) (x : X) (st : Stmt) : Prop :=
  ∃ n p e pos, st = .Assign [.Name n p] e pos ∧ vs[i]? = some n ∧ sc.names.lookup n = some .local ∧ EvOk G Φ 0 vs sc x e ∧ ∀ env, SameK sc env → swapsWith e (some (.Name n p)) pos.line env = pure false
theorem asg_step {i : Nat} {x : X} {st : Stmt} (h : AsgOk G Φ vs sc i x st) {H : List Addr} {A : Around} {env : Env} {ρ : Env'} {s : Shared} {ev : EV} (cx : Cx G vs sc 0 H A env ρ s) (ml : Mut G s.heap env.locals) (lH : env.locals ∈ H) (nd : vs.Nodup) (hev : evalX Φ x ρ = some ev) :
    Wp G A (exec st env) (fun fl s' => fl = .next ∧ Gs G (env.locals :: G.T) s s' ∧ Mut G s'.heap env.locals ∧ Cx G vs sc 0 H A env (ρ.set i (some ev)) s') s := by
  obtain ⟨n, p, e, pos, rfl, h1, h2, h3, h4⟩ := h
  have hk : env.kindOf n = some .local := kcls1 (by rw [cx.sk, h2]; rfl)
  refine wpAny_Assign_Name ((h3 H A env ρ s ev cx hev).mono fun v s₁ ⟨g, r⟩ => ?_) (h4 env cx.sk)
  refine st_local (cx.step g) (ml.ext g) lH nd hk h1 r fun h' hs ml' _ _ cx' => ⟨rfl, ?_, ml', cx'⟩
  refine (g.gs fun b hb => List.mem_cons_of_mem _ hb).trans ⟨h', _, rfl, fun b o hb e => hs.extBut b o (fun z => hb (z ▸ List.mem_cons_self ..)) e, cx'.b⟩

/-- what the frame of inner leans on -/
structure InCtx (G : Gr) (h : Heap) (f : Addr) (fd : FuncData) (n : Nat) : Prop where
  fn : ∃ o, h.get? f = some o ∧ o.data = .func fd
  rec' : h.CodeRec fd.code fd.qualname
  cI : ∃ c, fd.closure.lookup nIn = some c ∧ h.IsCell c (some (.ref f))
  cN : ∃ c t, fd.closure.lookup (Str.ofString "n") = some c ∧ h.IsCell c (some (.int n t))
  cl : ∀ x c, fd.closure.lookup x = some c → c ∉ G.T ∧ ∃ v, h.IsCell c v
  fT : f ∉ G.T
  nF : fd.scope.names.lookup (Str.ofString "n") = some .free
  fr : ∀ x, (x, NameKind.free) ∈ fd.scope.names → (fd.closure.lookup x).isSome = true

theorem rec_gs {h h' : Heap} {Z : List Addr} {cd : Value} {q : Str} (x : h.CodeRec cd q) (k : ∀ b o, b ∉ Z → h.get? b = some o → h'.get? b = some o) (hz : ∀ b ∈ Z, ∃ o, h.get? b = some o ∧ NotCode o) : h'.CodeRec cd q := by
  obtain ⟨c, o, vs, t, e0, e1, e2, e3⟩ := x
  refine ⟨c, o, vs, t, e0, k c o (fun hc => ?_) e1, e2, e3⟩
  obtain ⟨o', e', n⟩ := hz c hc
  rw [e1] at e'; cases e'
  exact n _ _ _ e2 e3
theorem tabs_not {h : Heap} (b : Base G h) : ∀ a ∈ G.T, ∃ o, h.get? a = some o ∧ NotCode o := by
  intro a ha
  obtain ⟨r, hr, rfl⟩ := List.mem_map.mp ha
  obtain ⟨ps, h1, h2, _⟩ := b.tabs r hr
  exact ⟨_, h1, tab_notCode h2⟩

theorem InCtx.gs {s s' : Shared} {f : Addr} {fd : FuncData} {n : Nat} {Z : List Addr} (x : InCtx G s.heap f fd n) (g : Gs G Z s s') (hz : ∀ b ∈ Z, ∃ o, s.heap.get? b = some o ∧ NotCode o ∧ (∀ v, o.data ≠ .cell v) ∧ ∀ fd, o.data ≠ .func fd) : InCtx G s'.heap f fd n := by
  have hcell : ∀ c v, s.heap.IsCell c v → s'.heap.IsCell c v := fun c v ⟨o, e, d⟩ => ⟨o, g.keep c o (fun hc => by
    obtain ⟨o', e', _, n2, _⟩ := hz c hc
    rw [e] at e'; cases e'
    exact n2 _ d) e, d⟩
  exact {
    fn := let ⟨o, e, d⟩ := x.fn; ⟨o, g.keep f o (fun hc => by
      obtain ⟨o', e', _, _, n3⟩ := hz f hc
      rw [e] at e'; cases e'
      exact n3 _ d) e, d⟩
    rec' := rec_gs x.rec' g.keep fun b hb => let ⟨o, e, n, _⟩ := hz b hb; ⟨o, e, n⟩
    cI := let ⟨c, h1, h2⟩ := x.cI; ⟨c, h1, hcell _ _ h2⟩
    cN := let ⟨c, t, h1, h2⟩ := x.cN; ⟨c, t, h1, hcell _ _ h2⟩
    cl := fun y c h => let ⟨h1, v, h2⟩ := x.cl y c h; ⟨h1, v, hcell _ _ h2⟩
    fT := x.fT
    nF := x.nF
    fr := x.fr }

/-- the call of inner, as it is written -/
noncomputable def CallOk (G : Gr) (Φ : Phi) (vs : List Str) (sc : Fc) (x : X) (xs : List X) (ex : Expr) : Prop :=
  ∃ p e es cp, ex = .Call (.Name nIn p) (e :: es) [] cp ∧ sc.names.lookup nIn = some .free ∧ EvAll G Φ 0 vs sc (x :: xs) (e :: es)

theorem call_inner {x : X} {xs : List X} {ex : Expr} (h : CallOk G Φ vs sc x xs ex) {H : List Addr} {A : Around} {env : Env} {ρ : Env'} {s : Shared} {evs : List EV} (cx : Cx G vs sc 0 H A env ρ s) {f : Addr} {fd : FuncData} {n : Nat} (ic : InCtx G s.heap f fd n)
    (hcl : env.cells = fd.closure) (he : evs? Φ ρ (x :: xs) evs) {Q : Value → Shared → Prop}
    (hq : ∀ vals s', Gw G s s' → RdEs G.C H s'.heap vals evs → Wp G A (call (.ref f) vals) Q s') : Wp G A (eval ex env) Q s := by
  obtain ⟨p, e, es, cp, rfl, h2, h3⟩ := h
  obtain ⟨c, hc1, hc2⟩ := ic.cI
  have hv : Var s.heap env nIn (.ref f) := .inr ⟨by rw [cx.sk, h2]; rfl, c, by rw [hcl]; exact hc1, hc2⟩
  obtain ⟨o, ho, hdat⟩ := ic.fn
  refine Call_ (load_var cx.e.kind hv (by decide) (by decide) ?_)
  refine callWith_def hdat ((args_ok h3 cx he).mono fun vals s' ⟨g, r⟩ => ⟨g.ext _ _ ic.fT ho, ?_⟩) (h3.1.2 _ _)
  exact hq vals s' g r

theorem RdEs.int3 {C : Addr} {H : List Addr} {h : Heap} {vals : List Value} {a b c : Int} (r : RdEs C H h vals [.dat (.int a), .dat (.int b), .dat (.int c)]) : ∃ t u v, vals = [.int a t, .int b u, .int c v] := by
  cases vals with
  | nil => cases r
  | cons v vs =>
    obtain ⟨u, w, rfl, r1, r2⟩ := RdEs.two r.2
    obtain ⟨t, rfl⟩ := Rd.int r.1
    obtain ⟨t', rfl⟩ := Rd.int r1
    obtain ⟨t'', rfl⟩ := Rd.int r2
    exact ⟨_, _, _, rfl⟩
theorem RdEs.int2 {C : Addr} {H : List Addr} {h : Heap} {vals : List Value} {a b : Int} (r : RdEs C H h vals [.dat (.int a), .dat (.int b)]) : ∃ t u, vals = [.int a t, .int b u] := by
  obtain ⟨u, w, rfl, r1, r2⟩ := RdEs.two r
  obtain ⟨t', rfl⟩ := Rd.int r1
  obtain ⟨t'', rfl⟩ := Rd.int r2
  exact ⟨_, _, rfl⟩

/-- the frame of inner as it is entered -/
theorem inner_cx {fd : FuncData} {names : List Str} {body : List Stmt} (I : InnerFn fd names body) {A : Around} {s : Shared} {f : Addr} {n : Nat} {Z : List Addr} (hA : AOk A 1) (b : Base G s.heap) (ic : InCtx G s.heap f fd n)
    (hZ : ∀ b ∈ G.T, b ∈ Z) (hz : Hid Z s.heap) {h₁ : Heap} {tk : Nat} {env : Env} (he : env = newEnv fd.scope s.heap.objs.size fd.globals fd.closure (fd.qualname ++ ".<locals>.") (some f) fd.code none fd.builtins)
    (hk : ∀ b o, s.heap.get? b = some o → h₁.get? b = some o) {vals : List Value} (hns : h₁.Ns s.heap.objs.size (fun x => (names.zip vals).reverse.lookup x)) {evs : List EV} (r : RdEs G.C Z s.heap vals evs) (hlen : vals.length = names.length)
    {rest : List Str} :
    Cx G (names ++ rest ++ [Str.ofString "n"]) (FnAt.fc fd) 0 (s.heap.objs.size :: Z) (A.deeper env) env (evs.map some ++ List.replicate rest.length none ++ [some (.dat (.int n))]) { s with heap := h₁, toks := tk } ∧
      Mut G h₁ s.heap.objs.size ∧ env.locals = s.heap.objs.size ∧ env.cells = fd.closure ∧ Gw G s { s with heap := h₁, toks := tk } := by
  have g1 : Gw G s { s with heap := h₁, toks := tk } := Gw.heapTok b hk _
  have fr := b.fresh (Nat.le_refl s.heap.objs.size)
  have hl : env.locals = s.heap.objs.size := by rw [he]; rfl
  have hc : env.cells = fd.closure := by rw [he]; rfl
  have hko : ∀ x, env.kindOf x = fd.scope.names.lookup x := fun x => by rw [he]; rfl
  have hcell : ∀ c v, s.heap.IsCell c v → h₁.IsCell c v := fun c v ⟨o, e, d⟩ => ⟨o, hk _ _ e, d⟩
  have hev : evs.length = names.length := by rw [← hlen]; exact r.len.symm
  refine ⟨{
    a := ⟨hA.hand, (by have := hA.depth; show A.depth + 1 + 0 < _; omega), (by have := hA.units; show A.units + 3 + 40 * 0 + 200 < _; omega)⟩
    e := ⟨by rw [he]; exact I.kind, by rw [he]; exact I.glob, by rw [he]; exact I.blt, by rw [hl]; exact fr.2, ⟨_, hl ▸ hns⟩, (fun x c q => (ic.cl x c (hc ▸ q)).1), fun x hx => ?_⟩
    sk := fun x => by rw [hko]
    cd := by rw [he]; rfl
    ql := by rw [he]; rfl
    b := g1.base
    h := fun b hb => List.mem_cons_of_mem _ (hZ b hb)
    hx := fun b hb => ?_
    v := fun i x ev h1 h2 h3 => ?_ }, ⟨fr.1, fr.2, ns_notCode hns⟩, hl, hc, g1⟩
  · rw [hko] at hx
    rw [hc]
    exact ic.fr x (lookup_free I.nocell hx)
  · rcases List.mem_cons.mp hb with rfl | q
    · exact ns_notCode hns
    · exact hx_ext hz g1 b q
  · have up : ∀ b o, (hideAll s.heap Z).get? b = some o → (hideAll h₁ (s.heap.objs.size :: Z)).get? b = some o := by
      intro b o e
      have e' := of_hideAll _ e
      refine hideAll_get _ (hk b o e') fun q => ?_
      rcases List.mem_cons.mp q with rfl | q
      · exact absurd (Heap.lt_size e') (Nat.lt_irrefl _)
      · rw [hideAll_none _ q] at e; cases e
    by_cases hi : i < names.length
    · rw [List.append_assoc, List.getElem?_append_left hi] at h1
      rw [List.append_assoc, List.getElem?_append_left (by simp; omega)] at h2
      have ha : evs[i]? = some ev := by simpa using h2
      obtain ⟨v, hv, rv⟩ := r.get i ev ha
      refine ⟨v, .inl ⟨by rw [hko]; exact I.loc x (List.mem_of_getElem? h1), _, hl ▸ hns, zip_lookup I.nd vals i x v h1 hv⟩, rv.mono up⟩
    · have hrest : i < names.length + rest.length ∨ (i = names.length + rest.length ∧ x = Str.ofString "n") := by
        by_cases z : i < names.length + rest.length
        · exact .inl z
        · rw [List.getElem?_append_right (by simp; omega)] at h1
          have h9 := (List.getElem?_eq_some_iff.mp h1).1
          simp at h9
          have h8 : i = names.length + rest.length := by omega
          refine .inr ⟨h8, ?_⟩
          subst h8
          simpa using h1.symm
      rcases hrest with q | ⟨q, rfl⟩
      · rw [List.getElem?_append_left (by simp; omega), List.getElem?_append_right (by simp; omega), List.getElem?_replicate] at h2
        split at h2 <;> cases h2
      · subst q
        rw [List.getElem?_append_right (by simp; omega)] at h2
        simp only [List.length_append, List.length_map, List.length_replicate, hev, Nat.sub_self, List.getElem?_cons_zero, Option.some.injEq] at h2
        subst h2
        obtain ⟨c, t, hc1, hc2⟩ := ic.cN
        rcases h3 with h3 | h3
        · rw [hko, ic.nF] at h3; cases h3
        · exact ⟨_, .inr ⟨h3, c, by rw [hc]; exact hc1, hcell _ _ hc2⟩, Rd.ofInt _ t⟩
end
end Mine

/-! SB28 -/
namespace Mine
open PySem PySem.W PyProof.Rows PySem.Calls PySem.Spec PySem.SeqAt

noncomputable abbrev nD : Str := Str.ofString "a_digits"
noncomputable abbrev n3 : List Str := [Str.ofString "x", Str.ofString "L", Str.ofString "R"]
noncomputable abbrev r3 : List Str := [Str.ofString "mid", Str.ofString "shift", Str.ofString "upper", Str.ofString "lower"]
noncomputable abbrev v1 : List Str := n3 ++ r3 ++ [Str.ofString "n"]
noncomputable def xMid (l r : Nat) : X := .ar .shr (.ar .add (.var l) (.var r)) (.int 1)
noncomputable def xShift (m l n : Nat) : X := .ar .mul (.ar .sub (.var m) (.var l)) (.var n)

/-- inner of the digits' maker, as it is written -/
noncomputable def In1 (G : Gr) (Φ : Phi) (fd : FuncData) (body : List Stmt) : Prop :=
  ∃ t q1 q2 q3 q4 q5 q6 q7 st1 st2 st3 st4 c5 p5 c6 p6,
    body = [.If t [.Assign [.Subscript (.Name nD q1) (.Name (Str.ofString "L") q2) q3] (.Name (Str.ofString "x") q4) q5, .Return none q6] [] q7, st1, st2, st3, st4, .Expr c5 p5, .Expr c6 p6] ∧
    TrOk G Φ 0 v1 (FnAt.fc fd) (.cmp .eq (.ar .add (.var 1) (.int 1)) (.var 2)) t ∧ EvOk G Φ 0 v1 (FnAt.fc fd) (.var 1) (.Name (Str.ofString "L") q2) ∧ EvOk G Φ 0 v1 (FnAt.fc fd) (.var 0) (.Name (Str.ofString "x") q4) ∧ fd.scope.names.lookup nD = some .free ∧
    AsgOk G Φ v1 (FnAt.fc fd) 3 (xMid 1 2) st1 ∧ AsgOk G Φ v1 (FnAt.fc fd) 4 (xShift 3 1 7) st2 ∧ AsgOk G Φ v1 (FnAt.fc fd) 5 (.ar .shr (.var 0) (.var 4)) st3 ∧ AsgOk G Φ v1 (FnAt.fc fd) 6 (.ar .xor (.var 0) (.ar .shl (.var 5) (.var 4))) st4 ∧
    CallOk G Φ v1 (FnAt.fc fd) (.var 6) [.var 1, .var 3] c5 ∧ CallOk G Φ v1 (FnAt.fc fd) (.var 5) [.var 3, .var 2] c6

section
variable {G : Gr} {fa : Nat → Addr} {Φ : Phi} {k : Nat} {vs : List Str} {sc : Fc}

theorem v1_nodup : v1.Nodup := by decide

theorem gs_old {s s₁ s₂ : Shared} {a : Addr} (g : Gw G s s₁) (ha : s.heap.objs.size ≤ a) (h : Gs G (a :: G.T) s₁ s₂) : Gw G s s₂ := by
  obtain ⟨h', tk, rfl, e, _⟩ := g
  obtain ⟨h'', tk', rfl, e', b'⟩ := h
  refine ⟨h'', tk', rfl, fun b o hb q => e' b o (fun z => ?_) (e b o hb q), b'⟩
  rcases List.mem_cons.mp z with z | z
  · subst z; exact absurd (Heap.lt_size q) (Nat.not_lt.mpr ha)
  · exact hb z

theorem Gw.inCtx {s s' : Shared} {f : Addr} {fd : FuncData} {n : Nat} (x : InCtx G s.heap f fd n) (b : Base G s.heap) (g : Gw G s s') : InCtx G s'.heap f fd n := by
  refine x.gs (g.gs (X := G.T) fun _ h => h) fun a ha => ?_
  obtain ⟨r, hr, rfl⟩ := List.mem_map.mp ha
  obtain ⟨ps, h1, h2, _⟩ := b.tabs r hr
  exact ⟨_, h1, tab_notCode h2, (fun v q => by cases q), fun fd q => by cases q⟩

theorem list_z {s : Shared} {D : Addr} {ys : Array Value} (b : Base G s.heap) (hp : s.heap.PlainList D ys) : ∀ a ∈ D :: G.T, ∃ o, s.heap.get? a = some o ∧ NotCode o ∧ (∀ v, o.data ≠ .cell v) ∧ ∀ fd, o.data ≠ .func fd := by
  intro a ha
  rcases List.mem_cons.mp ha with rfl | ha
  · obtain ⟨q, e⟩ := hp
    exact ⟨_, e, (fun vs q t e1 _ => by cases e1), (fun v q => by cases q), fun fd q => by cases q⟩
  · obtain ⟨r, hr, rfl⟩ := List.mem_map.mp ha
    obtain ⟨ps, h1, h2, _⟩ := b.tabs r hr
    exact ⟨_, h1, tab_notCode h2, (fun v q => by cases q), fun fd q => by cases q⟩

theorem cell_gw {s s' : Shared} {c : Addr} {v : Option Value} (x : s.heap.IsCell c v) (hT : c ∉ G.T) (g : Gw G s s') : s'.heap.IsCell c v := let ⟨o, e, d⟩ := x; ⟨o, g.ext _ _ hT e, d⟩
theorem plain_gw {s s' : Shared} {c : Addr} {ys : Array Value} (x : s.heap.PlainList c ys) (hT : c ∉ G.T) (g : Gw G s s') : s'.heap.PlainList c ys := let ⟨o, e⟩ := x; ⟨o, g.ext _ _ hT e⟩
theorem cell_gs {s s' : Shared} {c : Addr} {v : Option Value} {Z : List Addr} (x : s.heap.IsCell c v) (g : Gs G Z s s') (hz : ∀ b ∈ Z, ∃ o, s.heap.get? b = some o ∧ NotCode o ∧ (∀ v, o.data ≠ .cell v) ∧ ∀ fd, o.data ≠ .func fd) : s'.heap.IsCell c v := by
  obtain ⟨o, e, d⟩ := x
  refine ⟨o, g.keep c o (fun hc => ?_) e, d⟩
  obtain ⟨o', e', _, n2, _⟩ := hz c hc
  rw [e] at e'; cases e'
  exact n2 _ d
theorem ints_set {vs : List Value} {is : List Int} (h : IntsAre vs is) : ∀ {i : Nat} {x : Int} {t : Tok}, i < is.length → IntsAre (vs.set i (.int x t)) (is.set i x) := by
  induction h with
  | nil => intro i x t h; simp at h
  | cons m t0 h ih =>
    intro i x t hi
    cases i with
    | zero => exact .cons _ _ h
    | succ i => exact .cons _ _ (ih (by simpa using hi))
theorem fdiv_nat (a b : Nat) : (a : Int).fdiv (b : Int) = ((a / b : Nat) : Int) := by rw [Int.fdiv_eq_ediv_of_nonneg _ (by omega)]; rfl
theorem two_pow (k : Nat) : (2 : Int) ^ k = ((2 ^ k : Nat) : Int) := by simp
theorem Gs.closed {s s' s'' : Shared} {a : Addr} (g : Gw G s s') (h : Gs G (a :: G.T) s' s'') : Gs G (a :: G.T) s s'' := (g.gs fun b hb => List.mem_cons_of_mem _ hb).trans h

set_option maxHeartbeats 1000000 in
theorem inner1 (hG : GOk G fa) {fd : FuncData} {f D : Addr} {n : Nat} {body : List Stmt} (I : InnerFn fd n3 body) (code : In1 G Φ fd body) (hn : 1 ≤ n) (hDT : D ∉ G.T) (hDg : G.g.get? D = none) {cD : Addr} (hcD : fd.closure.lookup nD = some cD) :
    ∀ (len : Nat) (A : Around) (s : Shared) (x L R : Nat) (t u v : Tok) (ys : Array Value) (is : List Int), R - L ≤ len → L < R → R ≤ is.length → x < 2 ^ (n * (R - L)) → n * (R - L) ≤ 60 → is.length < 1048576 → AOk A len → Base G s.heap →
      InCtx G s.heap f fd n → s.heap.IsCell cD (some (.ref D)) → s.heap.PlainList D ys → IntsAre ys.toList is →
      Wp G A (call (.ref f) [.int x t, .int L u, .int R v]) (fun r s' => r = .none ∧ Gs G (D :: G.T) s s' ∧ ∃ ys', s'.heap.PlainList D ys' ∧ IntsAre ys'.toList (is.take L ++ digs n x (R - L) ++ is.drop R)) s := by
  intro len
  induction len with
  | zero => intro A s x L R t u v ys is h1 h2; omega
  | succ len ih =>
    intro A s x L R t u v ys is h1 h2 h3 h4 h5 h6 hA b ic hcell hp hi
    obtain ⟨o, ho, hdat⟩ := ic.fn
    have hA1 : AOk A 1 := ⟨hA.hand, by have := hA.depth; omega, by have := hA.units; omega⟩
    refine enter_clo hG I hA1 b ho hdat ic.rec' rfl fun h₁ env tk he hk hns => ?_
    have hz := list_z b hp
    have hH : Hid (D :: G.T) s.heap := fun a ha => let ⟨o, e, n, _⟩ := hz a ha; ⟨o, e, n⟩
    obtain ⟨cx, ml, hl, hc, g1⟩ := inner_cx (rest := r3) (tk := tk) (Z := D :: G.T) (evs := [.dat (.int x), .dat (.int L), .dat (.int R)]) I hA1 b ic (fun b hb => List.mem_cons_of_mem _ hb) hH he hk hns ⟨Rd.ofInt _ _, Rd.ofInt _ _, Rd.ofInt _ _, trivial⟩ rfl
    obtain ⟨tt, q1, q2, q3, q4, q5, q6, q7, st1, st2, st3, st4, c5, p5, c6, p6, rfl, ht, hL, hx, hF, a1, a2, a3, a4, k5, k6⟩ := code
    simp only [r3, List.map_cons, List.map_nil, List.length_cons, List.length_nil, List.replicate, List.cons_append, List.nil_append, Nat.zero_add, Nat.reduceAdd] at cx
    have hsz : ys.size = is.length := by rw [← Array.length_toList]; exact hi.length
    by_cases hb : L + 1 = R
    · refine wpAny_execs_cons (wpAny_If ((ht _ _ env _ _ true cx ?_).mono fun c s₁ zz28 => have hcc := zz28.1; have g := zz28.2; ?_))
      · simp only [xe_var, xe_int, xe_nil, xe_bool, xe_lim, xe_ar, xe_cat, xe_rep, xe_neg, xe_inv, xe_not, xe_cmp, xe_isNone, xe_and2, xe_or2, xe_or3, xe_ite, xe_tup2, xe_tup3, xe_list0, xe_list1, xe_list3, xe_sub, xe_from1, xe_upto1, xe_sl3, xe_len, xe_sum, xe_tuple, xe_bits, xe_divmod, xe_call1, xe_call2, xe_call3, xe_call5, xe_callk, xe_keyc, xe_comp, xe_mk, xe_cmpr, xe_attr, arith, List.getElem?_cons_succ, List.getElem?_cons_zero, Option.join_some, Option.map_some, cmp_eq_int]
        rw [decide_eq_true (by omega)]
      subst hcc
      rw [if_pos rfl]
      have cx1 := cx.step g
      refine wpAny_execs_cons (wpAny_Assign_Subscript ((hx _ _ env _ _ (.dat (.int x)) cx1 rfl).mono fun w s₂ zz29 => have g2 := zz29.1; have r2 := zz29.2; ?_) rfl)
      have gA : Gw G s s₂ := g1.trans (g.trans g2)
      obtain ⟨w', hw'⟩ := Rd.int r2
      subst hw'
      have ic2 := Gw.inCtx ic b gA
      have cell2 : s₂.heap.IsCell cD (some (.ref D)) := let ⟨o, e, d⟩ := hcell; ⟨o, gA.ext _ _ (ic.cl _ _ hcD).1 e, d⟩
      have hv : Var s₂.heap env nD (.ref D) := .inr ⟨by rw [cx.sk]; show kcls (fd.scope.names.lookup nD) = 2; rw [hF]; rfl, cD, by rw [hc]; exact hcD, cell2⟩
      refine load_var cx.e.kind hv (by decide) (by decide) ?_
      refine (hL _ _ env _ _ (.dat (.int L)) (cx1.step g2) rfl).mono fun w2 s₃ zz30 => have g3 := zz30.1; have r3' := zz30.2; ?_
      obtain ⟨u', hu'⟩ := Rd.int r3'
      subst hu'
      have gB := gA.trans g3
      obtain ⟨nn, hpe⟩ := hp
      have hp3 : s₃.heap.get? D = some (listOf ys nn) := gB.ext _ _ hDT hpe
      refine ki_setAt hp3 (by omega) (by omega) (by omega) ?_
      have q := PySem.IsL.update hp3 (·.setIfInBounds (L : Int).toNat (.int x w'))
      have mD : Mut G s₃.heap D := ⟨hDg, hDT, _, hp3, fun vs q t e1 _ => by cases e1⟩
      have bs := gB.base.same mD (Heap.SameBut.update s₃.heap D (Obj.mapSeq (·.setIfInBounds (L : Int).toNat (.int x w'))))
      refine wpAny_execs_cons (wpAny_Return_none ?_)
      refine ⟨rfl, Gs.closed gB ⟨_, _, rfl, fun a o ha e => (Heap.SameBut.update s₃.heap D _).extBut a o (fun z => ha (z ▸ List.mem_cons_self ..)) e, bs⟩, _, ⟨_, q⟩, ?_⟩
      rw [Array.toList_setIfInBounds, show R - L = 1 by omega, ← hb]
      have := ints_set hi (i := (L : Int).toNat) (x := x) (t := w') (by omega)
      rw [show (L : Int).toNat = L by omega] at this ⊢
      have e2 : is.set L (x : Int) = is.take L ++ (x : Int) :: is.drop (L + 1) := by rw [List.set_eq_take_append_cons_drop, if_pos (by omega)]
      rw [e2] at this
      have e1 : digs n x 1 = [(x : Int)] := by
        simp only [digs]
        rw [Nat.mod_eq_of_lt (by rw [show R - L = 1 by omega, Nat.mul_one] at h4; exact h4)]
      rw [e1, List.append_assoc]
      exact this
    · refine wpAny_execs_cons (wpAny_If ((ht _ _ env _ _ false cx ?_).mono fun c s₁ zz31 => have hcc := zz31.1; have g := zz31.2; ?_))
      · simp only [xe_var, xe_int, xe_nil, xe_bool, xe_lim, xe_ar, xe_cat, xe_rep, xe_neg, xe_inv, xe_not, xe_cmp, xe_isNone, xe_and2, xe_or2, xe_or3, xe_ite, xe_tup2, xe_tup3, xe_list0, xe_list1, xe_list3, xe_sub, xe_from1, xe_upto1, xe_sl3, xe_len, xe_sum, xe_tuple, xe_bits, xe_divmod, xe_call1, xe_call2, xe_call3, xe_call5, xe_callk, xe_keyc, xe_comp, xe_mk, xe_cmpr, xe_attr, arith, List.getElem?_cons_succ, List.getElem?_cons_zero, Option.join_some, Option.map_some, cmp_eq_int]
        rw [decide_eq_false (by omega)]
      subst hcc
      rw [if_neg Bool.false_ne_true]
      refine wpAny_execs_nil ?_
      have cx1 := cx.step g
      have gA : Gw G s s₁ := g1.trans g
      have ml1 : Mut G s₁.heap env.locals := by rw [hl]; exact Mut.ext (s := { s with heap := h₁, toks := tk }) g ml
      have lH : env.locals ∈ s.heap.objs.size :: D :: G.T := by rw [hl]; exact List.mem_cons_self ..
      have hcomm : n * ((L + R) / 2 - L) = ((L + R) / 2 - L) * n := Nat.mul_comm _ _
      have hsh : ((L + R) / 2 - L) * n ≤ 60 := by
        have : n * ((L + R) / 2 - L) ≤ n * (R - L) := Nat.mul_le_mul_left _ (by omega)
        omega
      have hx60 : x < 2 ^ 60 := Nat.lt_of_lt_of_le h4 (Nat.pow_le_pow_right (by omega) h5)
      have hdv : x / 2 ^ (((L + R) / 2 - L) * n) ≤ x := Nat.div_le_self _ _
      refine wpAny_execs_cons ((asg_step a1 cx1 ml1 lH v1_nodup (ev := .dat (.int (((L + R) / 2 : Nat) : Int))) ?_).mono fun fl s₂ zz32 => have hfl := zz32.1; have gs2 := zz32.2.1; have ml2 := zz32.2.2.1; have cx2 := zz32.2.2.2; ?_)
      · simp only [xMid, xe_var, xe_int, xe_nil, xe_bool, xe_lim, xe_ar, xe_cat, xe_rep, xe_neg, xe_inv, xe_not, xe_cmp, xe_isNone, xe_and2, xe_or2, xe_or3, xe_ite, xe_tup2, xe_tup3, xe_list0, xe_list1, xe_list3, xe_sub, xe_from1, xe_upto1, xe_sl3, xe_len, xe_sum, xe_tuple, xe_bits, xe_divmod, xe_call1, xe_call2, xe_call3, xe_call5, xe_callk, xe_keyc, xe_comp, xe_mk, xe_cmpr, xe_attr, arith, List.getElem?_cons_succ, List.getElem?_cons_zero, Option.join_some, Option.map_some]
        rw [if_pos (by decide), show ((L : Int) + (R : Int)) = ((L + R : Nat) : Int) by omega, show ((2 : Int) ^ (1 : Int).toNat) = ((2 : Nat) : Int) by rfl, fdiv_nat]
        rfl
      subst hfl
      refine wpAny_execs_cons ((asg_step a2 cx2 ml2 lH v1_nodup (ev := .dat (.int ((((L + R) / 2 - L) * n : Nat) : Int))) ?_).mono fun fl s₃ zz33 => have hfl := zz33.1; have gs3 := zz33.2.1; have ml3 := zz33.2.2.1; have cx3 := zz33.2.2.2; ?_)
      · simp only [xShift, xe_var, xe_int, xe_nil, xe_bool, xe_lim, xe_ar, xe_cat, xe_rep, xe_neg, xe_inv, xe_not, xe_cmp, xe_isNone, xe_and2, xe_or2, xe_or3, xe_ite, xe_tup2, xe_tup3, xe_list0, xe_list1, xe_list3, xe_sub, xe_from1, xe_upto1, xe_sl3, xe_len, xe_sum, xe_tuple, xe_bits, xe_divmod, xe_call1, xe_call2, xe_call3, xe_call5, xe_callk, xe_keyc, xe_comp, xe_mk, xe_cmpr, xe_attr, arith, List.set_cons_succ, List.set_cons_zero, List.getElem?_cons_succ, List.getElem?_cons_zero, Option.join_some, Option.map_some]
        rw [if_pos (by omega), show ((((L + R) / 2 : Nat) : Int) - (L : Int)) = (((L + R) / 2 - L : Nat) : Int) by omega, ← Int.natCast_mul]
        rfl
      subst hfl
      refine wpAny_execs_cons ((asg_step a3 cx3 ml3 lH v1_nodup (ev := .dat (.int ((x / 2 ^ (((L + R) / 2 - L) * n) : Nat) : Int))) ?_).mono fun fl s₄ zz34 => have hfl := zz34.1; have gs4 := zz34.2.1; have ml4 := zz34.2.2.1; have cx4 := zz34.2.2.2; ?_)
      · simp only [xShift, xe_var, xe_int, xe_nil, xe_bool, xe_lim, xe_ar, xe_cat, xe_rep, xe_neg, xe_inv, xe_not, xe_cmp, xe_isNone, xe_and2, xe_or2, xe_or3, xe_ite, xe_tup2, xe_tup3, xe_list0, xe_list1, xe_list3, xe_sub, xe_from1, xe_upto1, xe_sl3, xe_len, xe_sum, xe_tuple, xe_bits, xe_divmod, xe_call1, xe_call2, xe_call3, xe_call5, xe_callk, xe_keyc, xe_comp, xe_mk, xe_cmpr, xe_attr, arith, List.set_cons_succ, List.set_cons_zero, List.getElem?_cons_succ, List.getElem?_cons_zero, Option.join_some, Option.map_some]
        rw [if_pos (by omega), Int.toNat_natCast, two_pow, fdiv_nat]
        rfl
      subst hfl
      refine wpAny_execs_cons ((asg_step a4 cx4 ml4 lH v1_nodup (ev := .dat (.int ((x % 2 ^ (((L + R) / 2 - L) * n) : Nat) : Int))) ?_).mono fun fl s₅ zz35 => have hfl := zz35.1; have gs5 := zz35.2.1; have ml5 := zz35.2.2.1; have cx5 := zz35.2.2.2; ?_)
      · simp only [xShift, xe_var, xe_int, xe_nil, xe_bool, xe_lim, xe_ar, xe_cat, xe_rep, xe_neg, xe_inv, xe_not, xe_cmp, xe_isNone, xe_and2, xe_or2, xe_or3, xe_ite, xe_tup2, xe_tup3, xe_list0, xe_list1, xe_list3, xe_sub, xe_from1, xe_upto1, xe_sl3, xe_len, xe_sum, xe_tuple, xe_bits, xe_divmod, xe_call1, xe_call2, xe_call3, xe_call5, xe_callk, xe_keyc, xe_comp, xe_mk, xe_cmpr, xe_attr, arith, List.set_cons_succ, List.set_cons_zero, List.getElem?_cons_succ, List.getElem?_cons_zero, Option.join_some, Option.map_some]
        rw [if_pos ⟨by omega, by omega, by rw [Int.natAbs_natCast]; exact Nat.lt_of_le_of_lt hdv (by omega)⟩]
        simp only [Option.map_some, Int.toNat_natCast, xor_shift]
      subst hfl
      simp only [List.set_cons_succ, List.set_cons_zero] at cx5
      have hle : s.heap.objs.size ≤ env.locals := by rw [hl]; exact Nat.le_refl _
      have gB : Gw G s s₅ := gs_old gA hle (((gs2.trans gs3).trans gs4).trans gs5)
      have hsw5 : ∀ l env, swapsWith c5 none l env = pure false := by obtain ⟨_, _, _, _, rfl, _⟩ := k5; intros; rfl
      have hsw6 : ∀ l env, swapsWith c6 none l env = pure false := by obtain ⟨_, _, _, _, rfl, _⟩ := k6; intros; rfl
      have hm1 : L < (L + R) / 2 := by omega
      have hm2 : (L + R) / 2 < R := by omega
      have icB := Gw.inCtx ic b gB
      have cellB : s₅.heap.IsCell cD (some (.ref D)) := let ⟨o, e, d⟩ := hcell; ⟨o, gB.ext _ _ (ic.cl _ _ hcD).1 e, d⟩
      have hpB : s₅.heap.PlainList D ys := let ⟨q, e⟩ := hp; ⟨q, gB.ext _ _ hDT e⟩
      have hAd : AOk (A.deeper env) len := ⟨hA.hand, (by have := hA.depth; show A.depth + 1 + len < _; omega), (by have := hA.units; show A.units + 3 + 40 * len + 200 < _; omega)⟩
      refine wpAny_execs_cons (wpAny_Expr_any (call_inner k5 cx5 icB hc (evs := [.dat (.int ((x % 2 ^ (((L + R) / 2 - L) * n) : Nat) : Int)), .dat (.int L), .dat (.int (((L + R) / 2 : Nat) : Int))]) ⟨rfl, rfl, rfl, trivial⟩ fun vals s₆ g6 r6 => ?_) (not_interactive cx.e.kind) (hsw5 _ _))
      obtain ⟨t6, u6, v6, rfl⟩ := r6.int3
      have gC := gB.trans g6
      refine (ih (A.deeper env) s₆ _ L ((L + R) / 2) t6 u6 v6 ys is (by omega) hm1 (by omega) ?_ ?_ h6 hAd g6.base (Gw.inCtx ic b gC) (cell_gw hcell (ic.cl _ _ hcD).1 gC) (plain_gw hp hDT gC) hi).mono fun r7 s₇ ⟨hr7, gs7, ys7, hp7, hi7⟩ => ?_
      · rw [hcomm]; exact Nat.mod_lt _ (Nat.two_pow_pos _)
      · have : n * ((L + R) / 2 - L) ≤ n * (R - L) := Nat.mul_le_mul_left _ (by omega)
        omega
      have ic7 := (Gw.inCtx ic b gC).gs gs7 (list_z g6.base (plain_gw hp hDT gC))
      have cell7 : s₇.heap.IsCell cD (some (.ref D)) := cell_gs (cell_gw hcell (ic.cl _ _ hcD).1 gC) gs7 (list_z g6.base (plain_gw hp hDT gC))
      have hlZ : env.locals ∉ D :: G.T := fun q => by
        rcases List.mem_cons.mp q with q | q
        · rw [← q, hl] at hp
          obtain ⟨_, e⟩ := hp
          exact absurd (Heap.lt_size e) (Nat.lt_irrefl _)
        · exact cx.e.loc q
      have hcZ : ∀ y c, env.cells.lookup y = some c → c ∉ D :: G.T := fun y c hy q => by
        rw [hc] at hy
        rcases List.mem_cons.mp q with q | q
        · obtain ⟨v', o', e', d'⟩ := (ic.cl y c hy).2
          obtain ⟨_, e⟩ := hp
          rw [q, e] at e'; cases e'; cases d'
        · exact (ic.cl y c hy).1 q
      have hH7 : Hid (s.heap.objs.size :: D :: G.T) s₇.heap := fun a ha => by
        rcases List.mem_cons.mp ha with rfl | ha
        · obtain ⟨m, hm⟩ := (cx5.step g6).e.ns
          obtain ⟨o, e, nn⟩ := ns_notCode hm
          rw [← hl]
          exact ⟨o, gs7.keep _ _ hlZ e, nn⟩
        · rcases List.mem_cons.mp ha with rfl | ha
          · exact seq_notCode hp7
          · exact tabs_not gs7.base a ha
      have cx7 := (cx5.step g6).gs gs7 (fun b hb => List.mem_cons_of_mem _ hb) hlZ hcZ hH7
      refine wpAny_execs_cons (wpAny_Expr_any (call_inner k6 cx7 ic7 hc (evs := [.dat (.int ((x / 2 ^ (((L + R) / 2 - L) * n) : Nat) : Int)), .dat (.int (((L + R) / 2 : Nat) : Int)), .dat (.int R)]) ⟨rfl, rfl, rfl, trivial⟩ fun vals s₈ g8 r8 => ?_) (not_interactive cx.e.kind) (hsw6 _ _))
      obtain ⟨t8, u8, v8, rfl⟩ := r8.int3
      have len7 : (is.take L ++ digs n (x % 2 ^ (((L + R) / 2 - L) * n)) ((L + R) / 2 - L) ++ is.drop ((L + R) / 2)).length = is.length := by
        simp only [List.length_append, List.length_take, List.length_drop, digs_length]; omega
      refine (ih (A.deeper env) s₈ _ ((L + R) / 2) R t8 u8 v8 ys7 _ (by omega) hm2 (by rw [len7]; exact h3) ?_ ?_ (by rw [len7]; exact h6) hAd g8.base (Gw.inCtx ic7 gs7.base g8) (cell_gw cell7 (ic.cl _ _ hcD).1 g8) (plain_gw hp7 hDT g8) hi7).mono fun r9 s₉ ⟨hr9, gs9, ys9, hp9, hi9⟩ => ?_
      · rw [Nat.div_lt_iff_lt_mul (Nat.two_pow_pos _), ← hcomm, ← Nat.pow_add, ← Nat.mul_add, show R - (L + R) / 2 + ((L + R) / 2 - L) = R - L by omega]
        exact h4
      · have : n * (R - (L + R) / 2) ≤ n * (R - L) := Nat.mul_le_mul_left _ (by omega)
        omega
      refine wpAny_execs_nil ⟨rfl, ?_, ys9, hp9, ?_⟩
      · exact (Gs.closed gC gs7).trans (Gs.closed g8 gs9)
      · have e3 := digs_split n ((L + R) / 2 - L) (R - (L + R) / 2) x
        rw [show (L + R) / 2 - L + (R - (L + R) / 2) = R - L by omega, hcomm] at e3
        rw [e3]
        have e4 : (is.take L ++ digs n (x % 2 ^ (((L + R) / 2 - L) * n)) ((L + R) / 2 - L) ++ is.drop ((L + R) / 2)).take ((L + R) / 2) = is.take L ++ digs n (x % 2 ^ (((L + R) / 2 - L) * n)) ((L + R) / 2 - L) := by
          rw [List.take_append_of_le_length (by simp only [List.length_append, List.length_take, digs_length]; omega)]
          exact List.take_of_length_le (by simp only [List.length_append, List.length_take, digs_length]; omega)
        have e5 : (is.take L ++ digs n (x % 2 ^ (((L + R) / 2 - L) * n)) ((L + R) / 2 - L) ++ is.drop ((L + R) / 2)).drop R = is.drop R := by
          rw [List.drop_append, List.drop_eq_nil_of_le (by simp only [List.length_append, List.length_take, digs_length]; omega), List.nil_append, List.drop_drop]
          congr 1
          simp only [List.length_append, List.length_take, digs_length]; omega
        rw [e4, e5] at hi9
        simpa only [List.append_assoc] using hi9
end
end Mine

/-! SB29 -/
namespace Mine
open PySem PySem.W PyProof.Rows PySem.Calls PySem.Spec PySem.SeqAt

/-- what the digits tell -/
noncomputable def undigs (n : Nat) : List Int → Int
  | [] => 0
  | d :: ds => d + 2 ^ n * undigs n ds
theorem undigs_append (n : Nat) : ∀ (a b : List Int), undigs n (a ++ b) = undigs n a + 2 ^ (n * a.length) * undigs n b := by
  intro a
  induction a with
  | nil => intro b; simp [undigs]
  | cons d ds ih =>
    intro b
    simp only [List.cons_append, undigs, ih, List.length_cons]
    rw [show n * (ds.length + 1) = n + n * ds.length by rw [Nat.mul_succ]; omega, Int.pow_add, Int.mul_add, Int.mul_assoc, Int.add_assoc]
theorem undigs_lt (n : Nat) : ∀ (a : List Int), (∀ d ∈ a, 0 ≤ d ∧ d < 2 ^ n) → 0 ≤ undigs n a ∧ undigs n a < 2 ^ (n * a.length) := by
  intro a
  induction a with
  | nil => intro _; simp [undigs]
  | cons d ds ih =>
    intro h
    obtain ⟨h1, h2⟩ := h d (List.mem_cons_self ..)
    obtain ⟨h3, h4⟩ := ih fun x hx => h x (List.mem_cons_of_mem _ hx)
    simp only [undigs, List.length_cons]
    rw [show n * (ds.length + 1) = n + n * ds.length by rw [Nat.mul_succ]; omega, Int.pow_add]
    have hp : (0 : Int) < 2 ^ n := Int.pow_pos (by decide)
    refine ⟨Int.add_nonneg h1 (Int.mul_nonneg (Int.le_of_lt hp) h3), ?_⟩
    have : (2 : Int) ^ n * (undigs n ds + 1) ≤ 2 ^ n * 2 ^ (n * ds.length) := Int.mul_le_mul_of_nonneg_left (by omega) (Int.le_of_lt hp)
    rw [Int.mul_add, Int.mul_one] at this
    omega

noncomputable abbrev nDg : Str := Str.ofString "digits"
noncomputable abbrev n2 : List Str := [Str.ofString "L", Str.ofString "R"]
noncomputable abbrev r2 : List Str := [Str.ofString "mid", Str.ofString "shift"]
noncomputable abbrev v2 : List Str := n2 ++ r2 ++ [Str.ofString "n"] ++ [nDg]

noncomputable def In2 (G : Gr) (Φ : Phi) (fd : FuncData) (body : List Stmt) : Prop :=
  ∃ t e0 q1 q2 st1 st2 c5 c6 sh p1 p2 p3,
    body = [.If t [.Return (some e0) q1] [] q2, st1, st2, .Return (some (.BinOp (.BinOp c5 .LShift sh p1) .Add c6 p2)) p3] ∧
    TrOk G Φ 0 v2 (FnAt.fc fd) (.cmp .eq (.ar .add (.var 0) (.int 1)) (.var 1)) t ∧ EvOk G Φ 0 v2 (FnAt.fc fd) (.sub (.var 5) (.var 0)) e0 ∧ EvOk G Φ 0 v2 (FnAt.fc fd) (.var 3) sh ∧
    AsgOk G Φ v2 (FnAt.fc fd) 2 (xMid 0 1) st1 ∧ AsgOk G Φ v2 (FnAt.fc fd) 3 (xShift 2 0 4) st2 ∧
    CallOk G Φ v2 (FnAt.fc fd) (.var 2) [.var 1] c5 ∧ CallOk G Φ v2 (FnAt.fc fd) (.var 0) [.var 2] c6

section
variable {G : Gr} {fa : Nat → Addr} {Φ : Phi} {k : Nat} {vs : List Str} {sc : Fc}

theorem v2_nodup : v2.Nodup := by decide

theorem Cx.snoc {H : List Addr} {A : Around} {env : Env} {ρ : Env'} {s : Shared} (x : Cx G vs sc k H A env ρ s) (hl : vs.length = ρ.length) {n : Str} {v : Value} {ev : EV} (hv : Var s.heap env n v) (r : RdE G.C H s.heap v ev) : Cx G (vs ++ [n]) sc k H A env (ρ ++ [some ev]) s :=
  { a := x.a, e := x.e, sk := x.sk, cd := x.cd, ql := x.ql, b := x.b, h := x.h, hx := x.hx
    v := fun i y ev' h1 h2 h3 => by
      by_cases hi : i < vs.length
      · rw [List.getElem?_append_left hi] at h1
        rw [List.getElem?_append_left (by omega)] at h2
        exact x.v i y ev' h1 h2 h3
      · rw [List.getElem?_append_right (by omega)] at h1
        rw [List.getElem?_append_right (by omega)] at h2
        have h9 := (List.getElem?_eq_some_iff.mp h1).1
        simp at h9
        have h8 : i = vs.length := by omega
        subst h8
        simp at h1
        rw [hl] at h2
        simp at h2
        subst h1 h2
        exact ⟨v, hv, r⟩ }

theorem list_free {s : Shared} (b : Base G s.heap) : Hid G.T s.heap := tabs_not b

theorem itemAt_ints {is : List Int} {i : Nat} {d : Int} (h : is[i]? = some d) : itemAt (is.map .int) (i : Int) = some (.int d) := by
  unfold itemAt
  rw [if_pos (by omega)]
  simp [h]

set_option maxHeartbeats 1000000 in
theorem inner2 (hG : GOk G fa) {fd : FuncData} {f a : Addr} {n : Nat} {body : List Stmt} (I : InnerFn fd n2 body) (code : In2 G Φ fd body) {cD : Addr} (hcD : fd.closure.lookup nDg = some cD) (hF : fd.scope.names.lookup nDg = some .free) {is : List Int}
    (hdig : ∀ d ∈ is, 0 ≤ d ∧ d < 2 ^ n) (hlen : is.length < 1048576) :
    ∀ (len : Nat) (A : Around) (s : Shared) (L R : Nat) (t u : Tok), R - L ≤ len → L < R → R ≤ is.length → n * (R - L) ≤ 60 → AOk A len → Base G s.heap →
      InCtx G s.heap f fd n → s.heap.IsCell cD (some (.ref a)) → Rd G.T s.heap (.ref a) (.list (is.map .int)) →
      Wp G A (call (.ref f) [.int L t, .int R u]) (fun r s' => (∃ t, r = .int (undigs n ((is.drop L).take (R - L))) t) ∧ Gw G s s') s := by
  intro len
  induction len with
  | zero => intro A s L R t u h1 h2; omega
  | succ len ih =>
    intro A s L R t u h1 h2 h3 h5 hA b ic hcell hr
    obtain ⟨o, ho, hdat⟩ := ic.fn
    have hA1 : AOk A 1 := ⟨hA.hand, by have := hA.depth; omega, by have := hA.units; omega⟩
    refine enter_clo hG I hA1 b ho hdat ic.rec' rfl fun h₁ env tk he hk hns => ?_
    obtain ⟨cx0, ml, hl, hc, g1⟩ := inner_cx (rest := r2) (tk := tk) (Z := G.T) (evs := [.dat (.int L), .dat (.int R)]) I hA1 b ic (fun b hb => hb) (list_free b) he hk hns ⟨Rd.ofInt _ _, Rd.ofInt _ _, trivial⟩ rfl
    have hv : Var h₁ env nDg (.ref a) := .inr ⟨by rw [cx0.sk]; show kcls (fd.scope.names.lookup nDg) = 2; rw [hF]; rfl, cD, by rw [hc]; exact hcD, cell_gw hcell (ic.cl _ _ hcD).1 g1⟩
    have hrd : Rd (s.heap.objs.size :: G.T) h₁ (.ref a) (.list (is.map .int)) := hr.mono fun b o e => by
      have e' := of_hideAll _ e
      refine hideAll_get _ (hk b o e') fun q => ?_
      rcases List.mem_cons.mp q with rfl | q
      · exact absurd (Heap.lt_size e') (Nat.lt_irrefl _)
      · rw [hideAll_none _ q] at e; cases e
    have cx := cx0.snoc (by simp) hv (ev := .dat (.list (is.map .int))) hrd
    obtain ⟨tt, e0, q1, q2, st1, st2, c5, c6, sh, p1, p2, p3, rfl, ht, h0, hsh, a1, a2, k5, k6⟩ := code
    simp only [r2, List.map_cons, List.map_nil, List.length_cons, List.length_nil, List.replicate, List.cons_append, List.nil_append, Nat.zero_add, Nat.reduceAdd] at cx
    by_cases hb : L + 1 = R
    · refine wpAny_execs_cons (wpAny_If ((ht _ _ env _ _ true cx ?_).mono fun c s₁ zz36 => have hcc := zz36.1; have g := zz36.2; ?_))
      · simp only [xe_var, xe_int, xe_nil, xe_bool, xe_lim, xe_ar, xe_cat, xe_rep, xe_neg, xe_inv, xe_not, xe_cmp, xe_isNone, xe_and2, xe_or2, xe_or3, xe_ite, xe_tup2, xe_tup3, xe_list0, xe_list1, xe_list3, xe_sub, xe_from1, xe_upto1, xe_sl3, xe_len, xe_sum, xe_tuple, xe_bits, xe_divmod, xe_call1, xe_call2, xe_call3, xe_call5, xe_callk, xe_keyc, xe_comp, xe_mk, xe_cmpr, xe_attr, arith, List.getElem?_cons_succ, List.getElem?_cons_zero, Option.join_some, Option.map_some, cmp_eq_int]
        rw [decide_eq_true (by omega)]
      subst hcc
      rw [if_pos rfl]
      have hget : is[L]? = some is[L] := List.getElem?_eq_getElem (by omega)
      refine wpAny_execs_cons (wpAny_Return_some ((h0 _ _ env _ _ (.dat (.int is[L])) (cx.step g) ?_).mono fun v s₂ zz37 => have g2 := zz37.1; have r2' := zz37.2; ?_))
      · simp only [xe_var, xe_int, xe_nil, xe_bool, xe_lim, xe_ar, xe_cat, xe_rep, xe_neg, xe_inv, xe_not, xe_cmp, xe_isNone, xe_and2, xe_or2, xe_or3, xe_ite, xe_tup2, xe_tup3, xe_list0, xe_list1, xe_list3, xe_sub, xe_from1, xe_upto1, xe_sl3, xe_len, xe_sum, xe_tuple, xe_bits, xe_divmod, xe_call1, xe_call2, xe_call3, xe_call5, xe_callk, xe_keyc, xe_comp, xe_mk, xe_cmpr, xe_attr, List.getElem?_cons_succ, List.getElem?_cons_zero, Option.join_some, List.length_map, if_pos hlen, itemAt_ints hget, Option.map_some]
      obtain ⟨t', ht'⟩ := Rd.int r2'
      subst ht'
      refine ⟨⟨t', ?_⟩, g1.trans (g.trans g2)⟩
      rw [show R - L = 1 by omega, List.drop_eq_getElem_cons (by omega), List.take_succ_cons, List.take_zero]
      simp [undigs]
    · refine wpAny_execs_cons (wpAny_If ((ht _ _ env _ _ false cx ?_).mono fun c s₁ zz38 => have hcc := zz38.1; have g := zz38.2; ?_))
      · simp only [xe_var, xe_int, xe_nil, xe_bool, xe_lim, xe_ar, xe_cat, xe_rep, xe_neg, xe_inv, xe_not, xe_cmp, xe_isNone, xe_and2, xe_or2, xe_or3, xe_ite, xe_tup2, xe_tup3, xe_list0, xe_list1, xe_list3, xe_sub, xe_from1, xe_upto1, xe_sl3, xe_len, xe_sum, xe_tuple, xe_bits, xe_divmod, xe_call1, xe_call2, xe_call3, xe_call5, xe_callk, xe_keyc, xe_comp, xe_mk, xe_cmpr, xe_attr, arith, List.getElem?_cons_succ, List.getElem?_cons_zero, Option.join_some, Option.map_some, cmp_eq_int]
        rw [decide_eq_false (by omega)]
      subst hcc
      rw [if_neg Bool.false_ne_true]
      refine wpAny_execs_nil ?_
      have cx1 := cx.step g
      have gA : Gw G s s₁ := g1.trans g
      have ml1 : Mut G s₁.heap env.locals := by rw [hl]; exact Mut.ext (s := { s with heap := h₁, toks := tk }) g ml
      have lH : env.locals ∈ s.heap.objs.size :: G.T := by rw [hl]; exact List.mem_cons_self ..
      have hcomm : n * ((L + R) / 2 - L) = ((L + R) / 2 - L) * n := Nat.mul_comm _ _
      have hle1 : n * ((L + R) / 2 - L) ≤ n * (R - L) := Nat.mul_le_mul_left _ (by omega)
      have hle2 : n * (R - (L + R) / 2) ≤ n * (R - L) := Nat.mul_le_mul_left _ (by omega)
      refine wpAny_execs_cons ((asg_step a1 cx1 ml1 lH v2_nodup (ev := .dat (.int (((L + R) / 2 : Nat) : Int))) ?_).mono fun fl s₂ zz39 => have hfl := zz39.1; have gs2 := zz39.2.1; have ml2 := zz39.2.2.1; have cx2 := zz39.2.2.2; ?_)
      · simp only [xMid, xe_var, xe_int, xe_nil, xe_bool, xe_lim, xe_ar, xe_cat, xe_rep, xe_neg, xe_inv, xe_not, xe_cmp, xe_isNone, xe_and2, xe_or2, xe_or3, xe_ite, xe_tup2, xe_tup3, xe_list0, xe_list1, xe_list3, xe_sub, xe_from1, xe_upto1, xe_sl3, xe_len, xe_sum, xe_tuple, xe_bits, xe_divmod, xe_call1, xe_call2, xe_call3, xe_call5, xe_callk, xe_keyc, xe_comp, xe_mk, xe_cmpr, xe_attr, arith, List.getElem?_cons_succ, List.getElem?_cons_zero, Option.join_some, Option.map_some]
        rw [if_pos (by decide), show ((L : Int) + (R : Int)) = ((L + R : Nat) : Int) by omega, show ((2 : Int) ^ (1 : Int).toNat) = ((2 : Nat) : Int) by rfl, fdiv_nat]
        rfl
      subst hfl
      refine wpAny_execs_cons ((asg_step a2 cx2 ml2 lH v2_nodup (ev := .dat (.int ((((L + R) / 2 - L) * n : Nat) : Int))) ?_).mono fun fl s₃ zz40 => have hfl := zz40.1; have gs3 := zz40.2.1; have ml3 := zz40.2.2.1; have cx3 := zz40.2.2.2; ?_)
      · simp only [xShift, xe_var, xe_int, xe_nil, xe_bool, xe_lim, xe_ar, xe_cat, xe_rep, xe_neg, xe_inv, xe_not, xe_cmp, xe_isNone, xe_and2, xe_or2, xe_or3, xe_ite, xe_tup2, xe_tup3, xe_list0, xe_list1, xe_list3, xe_sub, xe_from1, xe_upto1, xe_sl3, xe_len, xe_sum, xe_tuple, xe_bits, xe_divmod, xe_call1, xe_call2, xe_call3, xe_call5, xe_callk, xe_keyc, xe_comp, xe_mk, xe_cmpr, xe_attr, arith, List.set_cons_succ, List.set_cons_zero, List.getElem?_cons_succ, List.getElem?_cons_zero, Option.join_some, Option.map_some]
        rw [if_pos (by omega), show ((((L + R) / 2 : Nat) : Int) - (L : Int)) = (((L + R) / 2 - L : Nat) : Int) by omega, ← Int.natCast_mul]
        rfl
      subst hfl
      simp only [List.set_cons_succ, List.set_cons_zero] at cx3
      have hle : s.heap.objs.size ≤ env.locals := by rw [hl]; exact Nat.le_refl _
      have gB : Gw G s s₃ := gs_old gA hle (gs2.trans gs3)
      have icB := Gw.inCtx ic b gB
      have hAd : AOk (A.deeper env) len := ⟨hA.hand, (by have := hA.depth; show A.depth + 1 + len < _; omega), (by have := hA.units; show A.units + 3 + 40 * len + 200 < _; omega)⟩
      refine wpAny_execs_cons (wpAny_Return_some (wpAny_BinOp (wpAny_BinOp (call_inner k5 cx3 icB hc (evs := [.dat (.int (((L + R) / 2 : Nat) : Int)), .dat (.int R)]) ⟨rfl, rfl, trivial⟩ fun vals s₆ g6 r6 => ?_))))
      obtain ⟨t6, u6, rfl⟩ := r6.int2
      have gC := gB.trans g6
      refine (ih (A.deeper env) s₆ ((L + R) / 2) R t6 u6 (by omega) (by omega) h3 (by omega) hAd g6.base (Gw.inCtx ic b gC) (cell_gw hcell (ic.cl _ _ hcD).1 gC) (Rd.ext (G := G) (s := s) hr gC fun _ h => h)).mono fun r7 s₇ ⟨⟨t7, hr7⟩, g7⟩ => ?_
      subst hr7
      have gD := gC.trans g7
      refine (hsh _ _ env _ _ _ (cx3.step (g6.trans g7)) rfl).mono fun v8 s₈ zz41 => have g8 := zz41.1; have r8 := zz41.2; ?_
      obtain ⟨t8, rfl⟩ := Rd.int r8
      have bd := undigs_lt n ((is.drop ((L + R) / 2)).take (R - (L + R) / 2)) fun d hd => hdig d (List.mem_of_mem_drop (List.mem_of_mem_take hd))
      have hb60 : undigs n ((is.drop ((L + R) / 2)).take (R - (L + R) / 2)) < 2 ^ 60 := by
        refine Int.lt_of_lt_of_le bd.2 ?_
        rw [two_pow, two_pow]
        refine Int.ofNat_le.mpr (Nat.pow_le_pow_right (by omega) ?_)
        rw [List.length_take, List.length_drop]
        refine Nat.le_trans (Nat.mul_le_mul_left _ (Nat.min_le_left _ _)) ?_
        omega
      refine arith_ok (op := .shl) (z := undigs n ((is.drop ((L + R) / 2)).take (R - (L + R) / 2)) * 2 ^ (((L + R) / 2 - L) * n)) ?_ fun t9 => ?_
      · simp only [arith]
        rw [if_pos ⟨by omega, by omega, by omega⟩, Int.toNat_natCast]
      have gE : Gw G s₈ { s₈ with toks := s₈.toks + 1 } := Gw.tok g8.base _
      have gF := (g6.trans g7).trans (g8.trans gE)
      have gG := gB.trans gF
      refine call_inner k6 (cx3.step gF) (Gw.inCtx ic b gG) hc (evs := [.dat (.int L), .dat (.int (((L + R) / 2 : Nat) : Int))]) ⟨rfl, rfl, trivial⟩ fun vals s₁₀ g10 r10 => ?_
      obtain ⟨t10, u10, rfl⟩ := r10.int2
      have gH := gG.trans g10
      refine (ih (A.deeper env) s₁₀ L ((L + R) / 2) t10 u10 (by omega) (by omega) (by omega) (by omega) hAd g10.base (Gw.inCtx ic b gH) (cell_gw hcell (ic.cl _ _ hcD).1 gH) (Rd.ext (G := G) (s := s) hr gH fun _ h => h)).mono fun r11 s₁₁ ⟨⟨t11, hr11⟩, g11⟩ => ?_
      subst hr11
      refine arith_ok (op := .add) rfl fun t12 => ⟨⟨t12, ?_⟩, (gH.trans g11).trans (Gw.tok g11.base _)⟩
      congr 1
      have e1 : (is.drop L).take (R - L) = (is.drop L).take ((L + R) / 2 - L) ++ (is.drop ((L + R) / 2)).take (R - (L + R) / 2) := by
        rw [show R - L = ((L + R) / 2 - L) + (R - (L + R) / 2) by omega, List.take_add, List.drop_drop, show L + ((L + R) / 2 - L) = (L + R) / 2 by omega]
      rw [e1, undigs_append, List.length_take, List.length_drop, Nat.min_eq_left (by omega), hcomm, Int.mul_comm, Int.add_comm]
end
end Mine

/-! SB30 -/
namespace Mine
open PySem PySem.W PyProof.Rows PySem.Calls PySem.Spec PySem.SeqAt

section
variable {G : Gr} {fa : Nat → Addr} {Φ : Phi} {k : Nat} {vs : List Str} {sc : Fc} {own : List Nat} {M Hc : List Addr} {oa : Option Addr} {A : Around} {env : Env} {ρ : Env'} {s : Shared}

theorem ints_rd {vs : List Value} {is : List Int} (h : IntsAre vs is) : ∀ (H : List Addr) (hp : Heap), RdL H hp vs (is.map .int) := by
  induction h with
  | nil => intro H hp; exact RdL.nil
  | cons m t h ih => intro H hp; exact RdL.cons (Rd.ofInt _ _) (ih H hp)
theorem ints_rep (m : Nat) (t : Tok) : IntsAre (List.replicate m (.int 0 t)) (List.replicate m 0) := by
  induction m with
  | zero => exact .nil
  | succ m ih => exact .cons _ _ ih

/-- noughts in a list of its own -/
theorem rep_fresh {b : X} {r : Expr} {kk : Nat} {p0 p pos : Pos} (hb : EvOk G Φ k vs sc b r) {H : List Addr} (cx : Cx G vs sc k H A env ρ s) {m : Int} (eb : evalX Φ b ρ = some (.dat (.int m))) (hlo : -1048576 < m) (hhi : m < 1048576) :
    Wp G A (eval (.BinOp (.List [.Constant (.int 0) kk p0] p) .Mult r pos) env) (fun v s' => ∃ a ys, v = .ref a ∧ Gw G s s' ∧ s.heap.get? a = none ∧ s'.heap.PlainList a ys ∧ IntsAre ys.toList (List.replicate m.toNat 0)) s := by
  have ha : EvAll G Φ k vs sc [.int 0] [.Constant (.int 0) kk p0] := ⟨⟨ev_int, fun rest env => rfl⟩, trivial⟩
  refine wpAny_BinOp (wpAny_List ((args_ok ha (evs := [.dat (.int 0)]) cx ⟨rfl, trivial⟩).mono fun vals s₁ zz42 => have g := zz42.1; have r := zz42.2; ?_))
  obtain ⟨v, rfl, q1⟩ := r.one
  obtain ⟨t0, rfl⟩ := Rd.int q1
  refine ⟨by rw [sizeLine_eq]; simp, ?_⟩
  have g1 : Gw G s { s₁ with heap := s₁.heap.push { cls := .type "list", data := .seq [.int 0 t0].toArray } } := g.trans (Gw.push g.base _)
  refine (hb H A env ρ _ _ (cx.step g1) eb).mono fun u s₂ zz43 => have g₂ := zz43.1; have r₂ := zz43.2; ?_
  obtain ⟨t, rfl⟩ := Rd.int r₂
  have fr := g.base.fresh (Nat.le_refl s₁.heap.objs.size)
  have ho : s₂.heap.get? s₁.heap.objs.size = some { cls := .type "list", dict := none, data := .seq #[.int 0 t0] 0, slots := #[] } := g₂.ext _ _ fr.2 (Heap.get?_push_size _ rfl)
  refine mul_one ho hlo hhi ?_
  have g3 := g1.trans g₂
  exact ⟨_, _, rfl, g3.trans (Gw.push g3.base _), g3.base.extFresh g3.ext (Nat.le_refl _), ⟨_, Heap.get?_push_size _ rfl⟩, by simpa using ints_rep m.toNat t0⟩

/-- a new list becomes the frame's own -/
theorem sx_newown (x : Sx G vs sc k own M Hc none A env ρ s) {n : Str} {i : Nat} (hi : vs[i]? = some n) (hk : kcls (sc.names.lookup n) = 1 ∨ kcls (sc.names.lookup n) = 2) (h1 : own.contains i = true) (h2 : ρ[i]? = some none)
    {s₁ : Shared} (g1 : Gw G s s₁) {a : Addr} {ys : Array Value} {is : List Int} (ha : s.heap.get? a = none) (pl : s₁.heap.PlainList a ys) (hint : IntsAre ys.toList is) {Q : Unit → Shared → Prop} {E : Value → Shared → Prop}
    (h : ∀ s₂, Gs G (M ++ G.T) s s₂ → Sx G vs sc k own M Hc (some a) A env (ρ.set i (some (.dat (.list (is.map .int))))) s₂ → Q () s₂) : wpAny (model G.prog G.w) A (storeName env n (.ref a)) Q E s₁ := by
  have fr1 : G.g.get? a = none := by
    cases q : G.g.get? a with
    | none => rfl
    | some o => rw [x.cx.b.keep _ _ q] at ha; cases ha
  have fr2 : a ∉ G.T := fun q => by
    obtain ⟨o, e, _⟩ := tabs_not x.cx.b a q
    rw [e] at ha; cases ha
  have hno : ∀ b o, s.heap.get? b = some o → b ≠ a := fun b o e q => by subst q; rw [ha] at e; cases e
  have hin : a ∉ M ++ Hc := fun q => by obtain ⟨o, e, _⟩ := x.full.hx _ q; exact hno _ _ e rfl
  have x0 : Sx G vs sc k [] M Hc none A env (mask own ρ) s := {
    cx := by
      have : mask [] (mask own ρ) = mask own ρ := by
        apply List.ext_getElem?; intro j; rw [mask_get]; cases (mask own ρ)[j]? <;> rfl
      rw [this]; exact x.cx
    nd := x.nd, ml := x.ml, lM := x.lM, mc := x.mc, ap := x.ap, nf := x.nf, tH := x.tH
    ol := fun j ev hj => by cases hj
    one := fun j j' hj => by cases hj
    ou := fun _ => rfl }
  have rr : RdE G.C ((none : Option Addr).toList ++ (M ++ Hc)) s₁.heap (.ref a) (.dat (.list (is.map .int))) := by
    obtain ⟨q, e⟩ := pl
    obtain ⟨as, r⟩ := ints_rd hint ((none : Option Addr).toList ++ (M ++ Hc)) s₁.heap
    exact ⟨_, .list (hideAll_get _ e hin) rfl rfl r⟩
  refine sx_store2 (x0.step g1) hi hk rfl rr fun s₂ g₂ hself hoth x₂ => ?_
  have hnM : a ∉ M ++ G.T := fun q => by
    rcases List.mem_append.mp q with q | q
    · exact hin (List.mem_append_left _ q)
    · exact fr2 q
  have pl2 : s₂.heap.PlainList a ys := let ⟨q, e⟩ := pl; ⟨q, g₂.keep _ _ hnM e⟩
  have kp : ∀ b o, b ∉ M ++ G.T → s.heap.get? b = some o → s₂.heap.get? b = some o := fun b o hb e => g₂.keep b o hb (g1.ext b o (fun z => hb (List.mem_append_right _ z)) e)
  refine h s₂ ((g1.gs fun b hb => List.mem_append_right _ hb).trans g₂) {
    cx := {
      a := x₂.cx.a, e := x₂.cx.e, sk := x₂.cx.sk, cd := x₂.cx.cd, ql := x₂.cx.ql, b := x₂.cx.b
      h := fun b hb => List.mem_append_right _ (x.cx.h b hb)
      hx := fun b hb => ?_
      v := fun j y ev q1 q2 q3 => ?_ }
    nd := x.nd, ml := x₂.ml, lM := x₂.lM, mc := x₂.mc, ap := x₂.ap, nf := x₂.nf, tH := x₂.tH
    ol := fun j ev q1 q2 => ?_
    one := x.one
    ou := fun q => ?_ }
  · rcases List.mem_append.mp hb with q | q
    · simp at q; subst q; exact seq_notCode pl2
    · exact x₂.cx.hx b q
  · rw [mask_set_own h1] at q2
    have hj : own.contains j = false := by
      rw [mask_get] at q2
      cases z : own.contains j with
      | false => rfl
      | true =>
        cases w : ρ[j]? with
        | none => rw [w] at q2; cases q2
        | some o => rw [w] at q2; simp only [Option.map_some, z, if_true] at q2; cases q2
    have hji : i ≠ j := fun z => by subst z; rw [h1] at hj; cases hj
    obtain ⟨u, hu, ru⟩ := x.cx.v j y ev q1 q2 q3
    refine ⟨u, hoth y u (nodup_ne x.nd hi q1 hji) (hu.ext x.cx.e g1.ext), ru.mono fun b o e => ?_⟩
    have e' := of_hideAll _ e
    have hb : b ∉ M ++ Hc := fun q => by rw [hideAll_none _ (by simpa using q)] at e; cases e
    refine hideAll_get _ (kp b o (fun q => hb ?_) e') fun q => ?_
    · rcases List.mem_append.mp q with q | q
      · exact List.mem_append_left _ q
      · exact List.mem_append_right _ (x.tH b q)
    · rcases List.mem_append.mp q with q | q
      · simp at q; exact hno _ _ e' q
      · exact hb q
  · have := x.one j i q1 h1
    subst this
    rcases set_get q2 with ⟨_, rfl⟩ | ⟨hne, _⟩
    · exact ⟨_, n, _, ys, rfl, hi, rfl, hself, hin, ⟨fr1, fr2, seq_notCode pl2⟩, pl2, ints_rd hint _ _⟩
    · exact absurd rfl hne
  · exfalso
    have hlt : i < ρ.length := (List.getElem?_eq_some_iff.mp h2).1
    have := q i h1
    rw [List.getElem?_set_self hlt] at this
    cases this

/-- the own list has been changed from within -/
theorem sx_own2 {a : Addr} (x : Sx G vs sc k own M Hc (some a) A env ρ s) {i : Nat} {ev : EV} (hi : own.contains i = true) (hρ : ρ[i]? = some (some ev)) {s' : Shared} {ys : Array Value} {is : List Int}
    (g : Gs G (a :: G.T) s s') (hl : s'.heap.PlainList a ys) (hint : IntsAre ys.toList is) :
    Sx G vs sc k own M Hc (some a) A env (ρ.set i (some (.dat (.list (is.map .int))))) s' := by
  obtain ⟨ds0, n, a', ys0, e1, e2, e3, e4, e5, e6, e7, e8⟩ := x.ol i ev hi hρ
  cases e3
  have aM : a ∉ M := fun q => e5 (List.mem_append_left _ q)
  have hlZ : env.locals ∉ a :: G.T := fun q => by
    rcases List.mem_cons.mp q with q | q
    · exact aM (q ▸ x.lM)
    · exact x.cx.e.loc q
  have hcZ : ∀ y c, env.kindOf y = some .cell → env.cells.lookup y = some c → c ∉ a :: G.T := fun y c hk hc q => by
    rcases List.mem_cons.mp q with q | q
    · exact aM (q ▸ (x.mc y c hk hc).1)
    · exact x.cx.e.cel _ _ hc q
  have hv : ∀ y u, Var s.heap env y u → Var s'.heap env y u := by
    intro y u hu
    rcases hu with ⟨h1, m, ⟨o, es, ep, e, r⟩, hm⟩ | ⟨h1, c, hc, o, e, r⟩
    · exact .inl ⟨h1, m, ⟨o, es, ep, g.keep _ _ hlZ e, r⟩, hm⟩
    · exact .inr ⟨h1, c, hc, o, g.keep _ _ (hcZ y c (x.cell h1) hc) e, r⟩
  have up : ∀ b o, (hideAll s.heap ((some a).toList ++ (M ++ Hc))).get? b = some o → (hideAll s'.heap ((some a).toList ++ (M ++ Hc))).get? b = some o := by
    intro b o e
    have hb : b ∉ (some a).toList ++ (M ++ Hc) := fun q => by rw [hideAll_none _ q] at e; cases e
    refine hideAll_get _ (g.keep b o (fun q => hb ?_) (of_hideAll _ e)) hb
    rcases List.mem_cons.mp q with q | q
    · exact List.mem_append_left _ (by simp [q])
    · exact List.mem_append_right _ (List.mem_append_right _ (x.tH b q))
  refine {
    cx := {
      a := x.cx.a
      e := ⟨x.cx.e.kind, x.cx.e.glob, x.cx.e.blt, x.cx.e.loc, let ⟨m, o, es, ep, e, r⟩ := x.cx.e.ns; ⟨m, o, es, ep, g.keep _ _ hlZ e, r⟩, x.cx.e.cel, x.cx.e.has⟩
      sk := x.cx.sk
      cd := x.cx.cd
      ql := x.cx.ql
      b := g.base
      h := x.cx.h
      hx := fun b hb => ?_
      v := fun j y ev' h1 h2 h3 => by
        rw [mask_set_own hi] at h2
        obtain ⟨v, h4, h5⟩ := x.cx.v j y ev' h1 h2 h3
        exact ⟨v, hv _ _ h4, h5.mono up⟩ }
    nd := x.nd
    ml := ⟨x.ml.new, x.ml.notT, let ⟨o, e, n⟩ := x.ml.obj; ⟨o, g.keep _ _ hlZ e, n⟩⟩
    lM := x.lM
    mc := fun y c h1 h2 => ?_
    ap := x.ap
    nf := x.nf
    tH := x.tH
    ol := fun j ev' h1 h2 => ?_
    one := x.one
    ou := fun q => ?_ }
  · by_cases q : b = a
    · subst q; exact seq_notCode hl
    · by_cases hT : b ∈ G.T
      · exact tabs_not g.base b hT
      · obtain ⟨o, e, n⟩ := x.cx.hx b hb
        exact ⟨o, g.keep b o (fun z => by rcases List.mem_cons.mp z with z | z; · exact q z
                                          · exact hT z) e, n⟩
  · obtain ⟨p, q, v, o, e, d⟩ := x.mc y c h1 h2
    have hc := hcZ y c h1 h2
    exact ⟨p, ⟨q.new, q.notT, let ⟨o, e, n⟩ := q.obj; ⟨o, g.keep _ _ hc e, n⟩⟩, v, o, g.keep _ _ hc e, d⟩
  · have := x.one j i h1 hi
    subst this
    rcases set_get h2 with ⟨_, rfl⟩ | ⟨hne, _⟩
    · exact ⟨_, n, a, ys, rfl, e2, rfl, hv _ _ e4, e5, ⟨e6.new, e6.notT, seq_notCode hl⟩, hl, ints_rd hint _ _⟩
    · exact absurd rfl hne
  · have := q i hi
    have hlt : i < ρ.length := (List.getElem?_eq_some_iff.mp hρ).1
    rw [List.getElem?_set_self hlt] at this
    cases this

/-! ## a function made by def -/
theorem clo_free {env : Env} : ∀ (names : List (Str × NameKind)) (acc : List (Str × Addr)) (n : Str) (c : Addr), (cloOf env names acc).lookup n = some c → (n, NameKind.free) ∈ names ∨ acc.lookup n = some c := by
  intro names
  induction names with
  | nil => intro acc n c h; exact .inr h
  | cons p r ih =>
    obtain ⟨m, kd⟩ := p
    intro acc n c h
    unfold cloOf at h
    split at h
    · rename_i hk
      have hkd : kd = .free := by simpa using hk
      subst hkd
      split at h
      · rename_i c' hc'
        rcases ih _ n c h with q | q
        · exact .inl (List.mem_cons_of_mem _ q)
        · rw [List.lookup_cons] at q
          split at q
          · rename_i hm
            have : n = m := by simpa using hm
            subst this
            exact .inl (List.mem_cons_self ..)
          · exact .inr q
      · rcases ih _ n c h with q | q
        · exact .inl (List.mem_cons_of_mem _ q)
        · exact .inr q
    · rcases ih _ n c h with q | q
      · exact .inl (List.mem_cons_of_mem _ q)
      · exact .inr q

theorem fn_made (hG : GOk G fa) {name : Str} {params : Arguments} {body : List Stmt} {scope : Scope} {pos : Pos} {r : Row} (hr : r ∈ G.rows) (hcode : sc.code = .ref r.c) (hk : (pos, sc.qual ++ name) ∈ r.known)
    (hd0 : params.defaults = []) (hk0 : params.kw_defaults = []) (ha : ∀ env, annTrees params none env = []) {H : List Addr} (cx : Cx G vs sc k H A env ρ s) (hnm : kcls (sc.names.lookup name) ≠ 0)
    (hfree : ∀ n, (n, NameKind.free) ∈ scope.names → (env.cells.lookup n).isSome = true) {Q : Flow → Shared → Prop}
    (h : ∀ f s' doc pm cv ctv, Gw G s s' → s.heap.get? f = none →
      (∃ o, s'.heap.get? f = some o ∧ o.data = .func (fnX name (sc.qual ++ name) params body scope (cloOf env scope.names []) .none .none doc pm none cv ctv)) → s'.heap.CodeRec cv (sc.qual ++ name) →
      wpAny (model G.prog G.w) A (storeName env name (.ref f)) (fun _ s'' => Q .next s'') (fun _ _ => False) s') :
    Wp G A (exec (.FunctionDef name params body [] none [] scope none name pos) env) Q s := by
  refine nestDef_K hd0 hk0 (ha env) ?_
  have hq : qualnameIn env name name = sc.qual ++ name := by
    unfold qualnameIn
    rw [cx.ql, if_neg]
    intro z
    have hz : env.kindOf name = some .globalExplicit := by simpa using z
    apply hnm
    rw [← cx.sk, hz]
    rfl
  rw [hq]
  obtain ⟨ps, h1, h2, h3⟩ := cx.b.tabs r hr
  have hb := blt_at hG cx.b hr
  have hcl := closureFor_clo (env := env) (scope := scope) hfree
  have hC := (hG.hd r hr).keeps cx.b.keep
  cases hf : codeAmong pos ps.toList with
  | none =>
    refine makeFunction_K (mg := G.mg) hcl cx.e.glob (hG.ng.keeps cx.b.keep) (cx.cd.trans hcode) hC h1 h2 hf hb.2 hb.1 fun c' ctv doc h' tk hx hge hlt hrec htb => ?_
    obtain ⟨b', x'⟩ := tab_grow hG cx.b hr h1 h2 hk h3 hx hrec htb
    have g1 : Gw G s { s with heap := h' } := ⟨h', s.toks, rfl, x', b'⟩
    refine h _ _ doc _ (.ref c') ctv (g1.trans (Gw.heapTok (s := { s with heap := h' }) b' (fun _ _ e => Heap.get?_push_of_some _ e) tk)) (b'.extFresh x' (Nat.le_refl _)) ⟨_, Heap.get?_push_size _ rfl, rfl⟩ (hrec.keeps fun _ _ e => Heap.get?_push_of_some _ e)
  | some cv =>
    have hrec := h3 pos _ hk cv hf
    refine makeFunction_hit (mg := G.mg) hcl cx.e.glob (hG.ng.keeps cx.b.keep) (cx.cd.trans hcode) hC h1 h2 hf hb.1 fun ctv doc h' tk hk' hsz => ?_
    have b' := cx.b.keeps hk'
    have g1 : Gw G s { s with heap := h' } := ⟨h', s.toks, rfl, Ext.of hk', b'⟩
    exact h _ _ doc _ cv ctv (g1.trans (Gw.heapTok (s := { s with heap := h' }) b' (fun _ _ e => Heap.get?_push_of_some _ e) tk)) (b'.extFresh (Ext.of hk') (Nat.le_refl _)) ⟨_, Heap.get?_push_size _ rfl, rfl⟩ ((hrec.keeps hk').keeps fun _ _ e => Heap.get?_push_of_some _ e)
end
end Mine

/-! SB31 -/
namespace Mine
open PySem PySem.W PyProof.Rows PySem.Calls PySem.Spec PySem.SeqAt

/-! ## what the written frames are: asked by computation -/
noncomputable def compScB (vs : List Str) (names outer : List (Str × NameKind)) (tg : Tg) : Bool :=
  (names.all fun x => decide (x.2 ≠ .cell)) && (names.all fun x => decide (x.2 ≠ .free) || kcls (outer.lookup x.1) == 2) &&
  (names.all fun x => decide (x.2 ≠ .local) || decide (names.lookup x.1 = some .local)) &&
  ((List.range vs.length).all fun j => match vs[j]? with
    | some x => decide (names.lookup x ≠ some .local) || (match tg with | .one i => j == i | .two i i' => j == i || j == i')
    | none => true)

theorem compSc_of {vs : List Str} {sc : Fc} {scope : Scope} {tg : Tg} {target : Expr} (hk : scope.kind = .function) (ht : TgIs vs (scope.names.lookup ·) tg target) (h : compScB vs scope.names sc.names tg = true) : CompSc vs sc scope tg target := by
  simp only [compScB, Bool.and_eq_true, List.all_eq_true, decide_eq_true_eq, Bool.or_eq_true, beq_iff_eq] at h
  obtain ⟨⟨⟨h1, h2⟩, h3⟩, h4⟩ := h
  refine ⟨hk, h1, fun n hn => ?_, fun y hy he => ?_, ht, fun j x hj hx => ?_⟩
  · rcases h2 _ hn with q | q
    · exact absurd rfl q
    · exact q
  · rcases h3 _ hy with q | q
    · exact absurd he q
    · exact q
  · have := h4 j (List.mem_range.mpr (List.getElem?_eq_some_iff.mp hj).1)
    rw [hj] at this
    simp only [Bool.or_eq_true, decide_eq_true_eq] at this
    rcases this with q | q
    · exact absurd hx q
    · cases tg with
      | one i => simpa using q
      | two i i' => simpa using q

theorem swap_cell {sc : Fc} {elt : Expr} {gens : List Comprehension} {scope : Scope} {cp p : Pos} {n : Str} {line : Nat} (h : kcls (sc.names.lookup n) = 2) : ∀ env, SameK sc env → swapsWith (.ListComp elt gens scope cp) (some (.Name n p)) line env = pure false := by
  intro env hk
  show pure (env.blockKind == .function && env.kindOf n == some .local && p.line == cp.line && !(scope.names.any fun x => x.1 == n && (x.2 == .local || x.2 == .cell))) = _
  have : (env.kindOf n == some NameKind.local) = false := by
    rw [← hk] at h
    cases q : env.kindOf n with
    | none => rfl
    | some kd => rw [q] at h; cases kd <;> first | rfl | cases h
  rw [this]; simp
theorem swap_local {sc : Fc} {elt : Expr} {gens : List Comprehension} {scope : Scope} {cp p : Pos} {n : Str} {line : Nat} (h : kcls (sc.names.lookup n) = 1) (hl : (p.line == cp.line && !(scope.names.any fun x => x.1 == n && (x.2 == .local || x.2 == .cell))) = true) :
    ∀ env, SameK sc env → env.scope.kind = .function → swapsWith (.ListComp elt gens scope cp) (some (.Name n p)) line env = pure true := by
  intro env hk hf
  show pure (env.blockKind == .function && env.kindOf n == some .local && p.line == cp.line && !(scope.names.any fun x => x.1 == n && (x.2 == .local || x.2 == .cell))) = _
  have h1 : (env.kindOf n == some NameKind.local) = true := by rw [kcls1 (show kcls (env.kindOf n) = 1 by rw [hk]; exact h)]; rfl
  have h2 : (env.blockKind == ScopeKind.function) = true := by unfold Env.blockKind; rw [hf]; rfl
  rw [h1, h2, Bool.true_and, Bool.true_and, hl]

theorem swap_two {sc : Fc} {a b : Str} {p1 p2 tp vp : Pos} {kk k2 : Nat} {l r : Expr} (ha : kcls (sc.names.lookup a) = 1) (hb : kcls (sc.names.lookup b) = 1) (hl : (p1.line == p2.line && a != b) = true)
    (hs : ([l, r].any fun | .Starred .. => true | _ => false) = false) (hc : constantsAlone 8 l = false) (hf : foldedForSure 8 l = false) :
    ∀ env, SameK sc env → env.scope.kind = .function → swappedStores [.Tuple [.Name a p1, .Name b p2] kk tp] (.Tuple [l, r] k2 vp) env = pure (some [a, b]) := by
  intro env hk hfn
  have h1 : (env.kindOf a == some NameKind.local) = true := by rw [kcls1 (show kcls (env.kindOf a) = 1 by rw [hk]; exact ha)]; rfl
  have h2 : (env.kindOf b == some NameKind.local) = true := by rw [kcls1 (show kcls (env.kindOf b) = 1 by rw [hk]; exact hb)]; rfl
  have h3 : (env.blockKind != ScopeKind.function) = false := by unfold Env.blockKind; rw [hfn]; rfl
  simp only [Bool.and_eq_true, beq_iff_eq, bne_iff_ne] at hl
  obtain ⟨hl, hab⟩ := hl
  have hba : (b == a) = false := by simp only [beq_eq_false_iff_ne, ne_eq]; exact fun q => hab q.symm
  simp only [List.any_cons, List.any_nil, Bool.or_false] at hs
  have h1' : env.kindOf a = some NameKind.local := by simpa using h1
  have h2' : env.kindOf b = some NameKind.local := by simpa using h2
  have he : [a, b].eraseDups.length = 2 := by
    rw [List.eraseDups_cons]; simp [hba, List.eraseDups_cons]
  have hn : ∀ (f : Expr → Option Str), f (Expr.Name a p1) = some a → f (Expr.Name b p2) = some b → List.filterMap f [Expr.Name a p1, Expr.Name b p2] = [a, b] := by
    intro f f1 f2; simp [f1, f2]
  unfold swappedStores
  simp only [List.length_cons, List.length_nil, List.head?_cons, Option.map_some, Option.getD_some, h3, List.any_cons, List.any_nil, Bool.or_false, List.all_cons, List.all_nil, Bool.and_true, hf, hc, Bool.false_and]
  rw [hn _ (by simp [h1', Expr.pos]) (by simp [h2', Expr.pos, hl])]
  simp only [he]
  exact (if_neg (by decide)).trans ((if_neg (fun q => by cases hs.symm.trans q)).trans (if_neg (by simp)))
end Mine

/-! SB32 -/
namespace Mine
open PySem PySem.W PyProof.Rows PySem.Calls PySem.Spec PySem.SeqAt

section
variable {G : Gr} {fa : Nat → Addr} {Φ : Phi} {k : Nat} {vs : List Str} {sc : Fc} {own : List Nat} {M Hc : List Addr} {oa : Option Addr} {A : Around} {env : Env} {ρ : Env'} {s : Shared}

theorem ints_map : ∀ is : List Int, ints? (is.map .int) = some is
  | [] => rfl
  | i :: is => by simp only [List.map_cons, ints?, ints_map is]; rfl

theorem var_cell {h : Heap} {y : Str} {v : Value} (hk : kcls (env.kindOf y) = 2) (x : Var h env y v) : ∃ c, env.cells.lookup y = some c ∧ h.IsCell c (some v) := by
  rcases x with ⟨h1, _⟩ | ⟨_, c, h2, h3⟩
  · rw [h1] at hk; cases hk
  · exact ⟨c, h2, h3⟩

theorem clo_get {scope : Scope} {y : Str} {c : Addr} (hf : (y, NameKind.free) ∈ scope.names) (hc : env.cells.lookup y = some c) : (cloOf env scope.names []).lookup y = some c := by
  obtain ⟨c', h⟩ := Option.isSome_iff_exists.mp (clo_has (env := env) scope.names [] y hf (by rw [hc]; rfl))
  have := clo_sound (env := env) scope.names [] (fun n c h => by cases h) y c' h
  rw [hc] at this; cases this
  exact h

noncomputable def freeB (names outer : List (Str × NameKind)) : Bool := names.all fun x => decide (x.2 ≠ .free) || kcls (outer.lookup x.1) == 2
theorem freeB_of {names outer : List (Str × NameKind)} (h : freeB names outer = true) : ∀ n, (n, NameKind.free) ∈ names → kcls (outer.lookup n) = 2 := by
  intro n hn
  simp only [freeB, List.all_eq_true, Bool.or_eq_true, decide_eq_true_eq, beq_iff_eq] at h
  rcases h _ hn with q | q
  · exact absurd rfl q
  · exact q

theorem made_ctx (x : Sx G vs sc k own M Hc oa A env ρ s) {f : Addr} {n : Nat} {t : Tok} {qn : Str} {params : Arguments} {body : List Stmt} {scope : Scope} {doc pm cv ctv : Value} (hvI : Var s.heap env nIn (.ref f)) (hvN : Var s.heap env (Str.ofString "n") (.int n t))
    (hfo : ∃ o, s.heap.get? f = some o ∧ o.data = .func (fnX nIn qn params body scope (cloOf env scope.names []) .none .none doc pm none cv ctv)) (hrec : s.heap.CodeRec cv qn) (fT : f ∉ G.T)
    (hfree : ∀ n, (n, NameKind.free) ∈ scope.names → kcls (sc.names.lookup n) = 2) (hI : (nIn, NameKind.free) ∈ scope.names) (hN : (Str.ofString "n", NameKind.free) ∈ scope.names) (nF : scope.names.lookup (Str.ofString "n") = some .free) :
    InCtx G s.heap f (fnX nIn qn params body scope (cloOf env scope.names []) .none .none doc pm none cv ctv) n := by
  have k2 : ∀ y, (y, NameKind.free) ∈ scope.names → kcls (env.kindOf y) = 2 := fun y hy => by rw [x.cx.sk]; exact hfree y hy
  refine ⟨hfo, hrec, ?_, ?_, ?_, fT, nF, fun y hy => ?_⟩
  · obtain ⟨c, h1, h2⟩ := var_cell (k2 _ hI) hvI
    exact ⟨c, clo_get hI h1, h2⟩
  · obtain ⟨c, h1, h2⟩ := var_cell (k2 _ hN) hvN
    exact ⟨c, t, clo_get hN h1, h2⟩
  · intro y c hy
    have h1 := clo_sound (env := env) scope.names [] (fun n c h => by cases h) y c hy
    rcases clo_free _ _ _ _ hy with q | q
    · exact ⟨x.cx.e.cel _ _ h1, (x.mc y c (x.cell (k2 _ q)) h1).2.2⟩
    · cases q
  · exact clo_has _ _ _ hy (x.cx.e.has _ (k2 _ hy))

/-- a new thing lies in no frame -/
theorem new_apart (x : Sx G vs sc k own M Hc oa A env ρ s) {f : Addr} (hf : s.heap.get? f = none) : f ∉ M ++ Hc ∧ f ∉ M ++ G.T ∧ f ∉ G.T := by
  have h1 : f ∉ M ++ Hc := fun q => by obtain ⟨o, e, _⟩ := x.full.hx _ q; rw [hf] at e; cases e
  refine ⟨h1, fun q => h1 ?_, fun q => h1 (List.mem_append_right _ (x.tH _ q))⟩
  rcases List.mem_append.mp q with q | q
  · exact List.mem_append_left _ q
  · exact List.mem_append_right _ (x.tH _ q)
theorem hid_MT (x : Sx G vs sc k own M Hc oa A env ρ s) : ∀ b ∈ M ++ G.T, ∃ o, s.heap.get? b = some o ∧ NotCode o := fun b q => x.full.hx b (by
  rcases List.mem_append.mp q with q | q
  · exact List.mem_append_left _ q
  · exact List.mem_append_right _ (x.tH _ q))

theorem innerFn_of {names : List Str} {qn : Str} {params : Arguments} {body : List Stmt} {scope : Scope} {clo : List (Str × Addr)} {doc pm cv ctv : Value} (kind : scope.kind = .function) (co : scope.isCoroutine = false) (gen : scope.isGenerator = false) (nc : (scope.names.all fun x => decide (x.2 ≠ .cell)) = true)
    (loc : (names.all fun x => decide (scope.names.lookup x = some .local)) = true) (nd : names.Nodup) (bind : ∀ vals : List Value, vals.length = names.length → bindArgs (fnX nIn qn params body scope clo .none .none doc pm none cv ctv) ⟨vals, []⟩ = pure (names.zip vals)) :
    InnerFn (fnX nIn qn params body scope clo .none .none doc pm none cv ctv) names body :=
  ⟨rfl, kind, co, gen, rfl, rfl, fun x hx => by simpa using List.all_eq_true.mp nc x hx, bind, fun x hx => by simpa using List.all_eq_true.mp loc x hx, nd⟩

noncomputable abbrev vs3 : List Str := [Str.ofString "a", Str.ofString "n", nD, nIn]
noncomputable abbrev xLen3 : X := .ar .fdiv (.ar .sub (.ar .add (.bits (.var 0)) (.var 1)) (.int 1)) (.var 1)

set_option maxHeartbeats 1000000 in
/-- the digits' maker -/
theorem body3 (hG : GOk G fa) {e1 : Expr} {kk : Nat} {p0 p1 p2 p3 p4 : Pos} {params : Arguments} {ib : List Stmt} {scope : Scope} {pd : Pos} {ea e0 el : Expr} {q1 q2 q3 q4 q5 q6 q7 : Pos} {m n a : Nat} {Hc : List Addr}
    (h1 : EvOk G Φ k vs3 sc xLen3 e1) (ka : kcls (sc.names.lookup (Str.ofString "a")) = 1) (kn : kcls (sc.names.lookup (Str.ofString "n")) = 2) (kd : kcls (sc.names.lookup nD) = 2) (ki : kcls (sc.names.lookup nIn) = 2)
    {r : Row} (hr : r ∈ G.rows) (hcode : sc.code = .ref r.c) (hk : (pd, sc.qual ++ nIn) ∈ r.known) (hd0 : params.defaults = []) (hk0 : params.kw_defaults = []) (ha : ∀ env, annTrees params none env = [])
    (hfree : ∀ n, (n, NameKind.free) ∈ scope.names → kcls (sc.names.lookup n) = 2) (hI : (nIn, NameKind.free) ∈ scope.names) (hN : (Str.ofString "n", NameKind.free) ∈ scope.names) (hD : (nD, NameKind.free) ∈ scope.names) (nF : scope.names.lookup (Str.ofString "n") = some .free)
    (I : ∀ clo doc pm cv ctv, InnerFn (fnX nIn (sc.qual ++ nIn) params ib scope clo .none .none doc pm none cv ctv) n3 ib) (C : ∀ clo doc pm cv ctv, In1 G Φ (fnX nIn (sc.qual ++ nIn) params ib scope clo .none .none doc pm none cv ctv) ib)
    (harg : EvAll G Φ k vs3 sc [.var 0, .int 0, .len (.var 2)] [ea, e0, el])
    (hn : 1 ≤ n) (hm : (((bitLen a : Int) + n - 1).fdiv n) = m) (hn30 : n < 1073741824) (hmn : n * m ≤ 60) (hlt : a < 2 ^ (n * m)) (hm0 : a = 0 → m = 0) (hmk : m ≤ k) :
    ∀ M A env s, Sx G vs3 sc k [2] M Hc none A env [some (.dat (.int a)), some (.dat (.int n)), none, none] s →
      Wp G A (execs [.Assign [.Name nD p1] (.BinOp (.List [.Constant (.int 0) kk p0] p2) .Mult e1 p3) p4, .FunctionDef nIn params ib [] none [] scope none nIn pd, .If (.Name (Str.ofString "a") q1) [.Expr (.Call (.Name nIn q2) [ea, e0, el] [] q3) q4] [] q5, .Return (some (.Name nD q6)) q7] env)
        (Post G vs3 sc k [2] M Hc none A env s (.ret (.dat (.list ((digs n a m).map .int))))) s := by
  intro M A env s x
  have hm60 : m ≤ 60 := Nat.le_trans (Nat.le_mul_of_pos_left m hn) hmn
  have ha60 : a < 2 ^ 60 := Nat.lt_of_lt_of_le hlt (Nat.pow_le_pow_right (by omega) hmn)
  have ev1 : evalX Φ xLen3 (mask [2] [some (.dat (.int a)), some (.dat (.int n)), none, none]) = some (.dat (.int m)) := by
    have e0 : mask [2] [some (.dat (.int (a : Int))), some (.dat (.int (n : Int))), none, none] = [some (.dat (.int (a : Int))), some (.dat (.int (n : Int))), none, none] := by
      unfold mask; rfl
    rw [e0]
    simp only [xe_var, xe_int, xe_nil, xe_bool, xe_lim, xe_ar, xe_cat, xe_rep, xe_neg, xe_inv, xe_not, xe_cmp, xe_isNone, xe_and2, xe_or2, xe_or3, xe_ite, xe_tup2, xe_tup3, xe_list0, xe_list1, xe_list3, xe_sub, xe_from1, xe_upto1, xe_sl3, xe_len, xe_sum, xe_tuple, xe_bits, xe_divmod, xe_call1, xe_call2, xe_call3, xe_call5, xe_callk, xe_keyc, xe_comp, xe_mk, xe_cmpr, xe_attr, arith, List.getElem?_cons_succ, List.getElem?_cons_zero, Option.join_some, Option.map_some]
    rw [if_pos (by rw [Int.natAbs_natCast]; omega)]
    simp only [Option.map_some]
    rw [if_pos ⟨by omega, by rw [Int.natAbs_natCast]; exact hn30⟩]
    simp only [Option.map_some, hm]
  refine wpAny_execs_cons (wpAny_Assign_Name ((rep_fresh h1 x.cx ev1 (by omega) (by omega)).mono fun v s₁ ⟨D, ys, hv, g1, hDn, hpl, hint⟩ => ?_) rfl)
  subst hv
  refine sx_newown x (n := nD) (i := 2) rfl (.inr kd) rfl rfl g1 hDn hpl hint fun s₂ gs2 x2 => ?_
  rw [Int.toNat_natCast] at x2
  simp only [List.set_cons_succ, List.set_cons_zero] at x2
  -- the def
  refine wpAny_execs_cons (fn_made hG hr hcode hk hd0 hk0 ha x2.cx (by rw [ki]; decide) (fun y hy => x2.cx.e.has _ (by rw [x2.cx.sk]; exact hfree y hy)) fun f s₃ doc pm cv ctv g3 hfn hfo hrec => ?_)
  have x3 := x2.step g3
  have fap := new_apart x2 hfn
  refine sx_store2 x3 (n := nIn) (i := 3) rfl (.inr ki) rfl (ev := .obj f) rfl fun s₄ gs4 hself hoth x4 => ?_
  simp only [List.set_cons_succ, List.set_cons_zero] at x4
  obtain ⟨vN, hvN, rN⟩ := x4.full.v 1 (Str.ofString "n") _ rfl rfl (.inr (by rw [x4.cx.sk]; exact kn))
  obtain ⟨tN, rfl⟩ := Rd.int rN
  have hfo4 : ∃ o, s₄.heap.get? f = some o ∧ o.data = .func (fnX nIn (sc.qual ++ nIn) params ib scope (cloOf env scope.names []) .none .none doc pm none cv ctv) := let ⟨o, e, d⟩ := hfo; ⟨o, gs4.keep _ _ fap.2.1 e, d⟩
  have hrec4 : s₄.heap.CodeRec cv (sc.qual ++ nIn) := rec_gs hrec gs4.keep (hid_MT x3)
  have ic := made_ctx x4 hself hvN hfo4 hrec4 fap.2.2 hfree hI hN nF
  obtain ⟨ds, nx, a', ys4, e1', e2, e3, e4, e5, e6, e7, e8⟩ := x4.ol 2 _ rfl rfl
  cases e1'; cases e3; cases e2
  obtain ⟨cD, hcD1, hcD2⟩ := var_cell (by rw [x4.cx.sk]; exact kd) e4
  have hcDl : (fnX nIn (sc.qual ++ nIn) params ib scope (cloOf env scope.names []) .none .none doc pm none cv ctv).closure.lookup nD = some cD := clo_get hD hcD1
  have gsA : Gs G (M ++ G.T) s s₄ := (gs2.trans (g3.gs fun b hb => List.mem_append_right _ hb)).trans gs4
  obtain ⟨vA, hvA, rA⟩ := x4.full.v 0 (Str.ofString "a") _ rfl rfl (.inl (by rw [x4.cx.sk]; exact ka))
  obtain ⟨tA, rfl⟩ := Rd.int rA
  -- the end
  have fin : ∀ s₅, Gs G (M ++ G.T) s s₅ → ∀ env' ρ', Sx G vs3 sc k [2] M Hc (some D) A env ρ' s₅ → env' = env → ρ'[2]? = some (some (.dat (.list ((digs n a m).map .int)))) → Wp G A (execs [.Return (some (.Name nD q6)) q7] env) (Post G vs3 sc k [2] M Hc none A env s (.ret (.dat (.list ((digs n a m).map .int))))) s₅ := by
    intro s₅ gs5 _ ρ' x5 _ hρ
    obtain ⟨u, hu, ru⟩ := x5.full.v 2 nD _ rfl hρ (.inr (by rw [x5.cx.sk]; exact kd))
    refine wpAny_execs_cons (wpAny_Return_some (load_var x.cx.e.kind hu (by decide) (by decide) ?_))
    exact ⟨by simpa using gs5, u, rfl, ru⟩
  refine wpAny_execs_cons (wpAny_If (isTrue_plain (load_var x.cx.e.kind hvA (by decide) (by decide) (PyProof.Rows.truthy_int ?_))))
  by_cases hz : a = 0
  · subst hz
    have : m = 0 := hm0 rfl
    subst this
    have hb : (((0 : Nat) : Int) != 0) = false := rfl
    rw [hb]
    rw [if_neg Bool.false_ne_true]
    exact wpAny_execs_nil (fin s₄ gsA env _ x4 rfl rfl)
  · have : ((a : Int) != 0) = true := by simp; omega
    rw [this, if_pos rfl]
    have hm1 : 0 < m := by
      rcases Nat.eq_zero_or_pos m with q | q
      · subst q; simp at hlt; omega
      · exact q
    obtain ⟨o, ho, hdat⟩ := hfo4
    refine wpAny_execs_cons (wpAny_Expr_any (Call_ (load_var x.cx.e.kind hself (by decide) (by decide) ?_)) (not_interactive x.cx.e.kind) rfl)
    refine callWith_def hdat ((args_ok harg x4.full (evs := [.dat (.int a), .dat (.int 0), .dat (.int m)]) ⟨rfl, rfl, ?_, trivial⟩).mono fun vals s₅ zz44 => have g5 := zz44.1; have r5 := zz44.2; ⟨g5.ext _ _ fap.2.2 ho, ?_⟩) (harg.1.2 _ _)
    · simp only [xe_var, xe_int, xe_nil, xe_bool, xe_lim, xe_ar, xe_cat, xe_rep, xe_neg, xe_inv, xe_not, xe_cmp, xe_isNone, xe_and2, xe_or2, xe_or3, xe_ite, xe_tup2, xe_tup3, xe_list0, xe_list1, xe_list3, xe_sub, xe_from1, xe_upto1, xe_sl3, xe_len, xe_sum, xe_tuple, xe_bits, xe_divmod, xe_call1, xe_call2, xe_call3, xe_call5, xe_callk, xe_keyc, xe_comp, xe_mk, xe_cmpr, xe_attr, List.getElem?_cons_succ, List.getElem?_cons_zero, Option.join_some, List.length_map, List.length_replicate]
      rw [if_pos (by omega)]
    obtain ⟨t1, t2, t3, rfl⟩ := r5.int3
    have x5 := x4.step g5
    refine (inner1 hG (I _ _ _ _ _) (C _ _ _ _ _) hn e6.notT e6.new hcDl m A s₅ a 0 m t1 t2 t3 ys4 (List.replicate m 0) (by omega) hm1 (by simp) (by simpa using hlt) (by simpa using hmn) (by simp; omega)
      ⟨x.cx.a.hand, by have := x.cx.a.depth; omega, by have := x.cx.a.units; omega⟩ g5.base (Gw.inCtx ic x4.cx.b g5) (cell_gw hcD2 (x4.cx.e.cel _ _ hcD1) g5) (plain_gw e7 e6.notT g5) (rdL_ints (e8.mono (view_ext g5.ext x4.cx.h)) ?_)).mono fun rv s₆ ⟨_, gs6, ys', hp6, hi6⟩ => ?_
    · exact ints_map _
    refine wpAny_execs_nil ?_
    have hi6' : IntsAre ys'.toList (digs n a m) := by simpa using hi6
    have x6 := sx_own2 x5 (i := 2) rfl rfl gs6 hp6 hi6'
    refine fin s₆ ?_ env _ x6 rfl rfl
    obtain ⟨h', tk, e, kk', bb⟩ := gsA.trans (g5.gs fun b hb => List.mem_append_right _ hb)
    obtain ⟨h'', tk'', e'', kk'', bb''⟩ := gs6
    refine ⟨h'', tk'', by rw [e'', e], fun b o hb eb => kk'' b o (fun q => ?_) (by rw [e]; exact kk' b o hb eb), bb''⟩
    rcases List.mem_cons.mp q with q | q
    · subst q; rw [hDn] at eb; cases eb
    · exact hb (List.mem_append_right _ q)
end
end Mine

/-! SB33 -/
namespace Mine
open PySem PySem.W PyProof.Rows PySem.Calls PySem.Spec PySem.SeqAt

section
variable {G : Gr} {fa : Nat → Addr} {Φ : Phi} {k : Nat} {vs : List Str} {sc : Fc} {own : List Nat} {M Hc : List Addr} {oa : Option Addr} {A : Around} {env : Env} {ρ : Env'} {s : Shared}

noncomputable abbrev vs4 : List Str := [nDg, Str.ofString "n", nIn]

set_option maxHeartbeats 1000000 in
/-- the digits' reader -/
theorem body4 (hG : GOk G fa) {kk : Nat} {p0 : Pos} {params : Arguments} {ib : List Stmt} {scope : Scope} {pd : Pos} {e0 el : Expr} {q1 q2 q3 q4 q5 : Pos} {n : Nat} {is : List Int} {Hc : List Addr}
    (kd : kcls (sc.names.lookup nDg) = 2) (kn : kcls (sc.names.lookup (Str.ofString "n")) = 2) (ki : kcls (sc.names.lookup nIn) = 2)
    {r : Row} (hr : r ∈ G.rows) (hcode : sc.code = .ref r.c) (hk : (pd, sc.qual ++ nIn) ∈ r.known) (hd0 : params.defaults = []) (hk0 : params.kw_defaults = []) (ha : ∀ env, annTrees params none env = [])
    (hfree : ∀ n, (n, NameKind.free) ∈ scope.names → kcls (sc.names.lookup n) = 2) (hI : (nIn, NameKind.free) ∈ scope.names) (hN : (Str.ofString "n", NameKind.free) ∈ scope.names) (hD : (nDg, NameKind.free) ∈ scope.names) (nF : scope.names.lookup (Str.ofString "n") = some .free) (dF : scope.names.lookup nDg = some .free)
    (I : ∀ clo doc pm cv ctv, InnerFn (fnX nIn (sc.qual ++ nIn) params ib scope clo .none .none doc pm none cv ctv) n2 ib) (C : ∀ clo doc pm cv ctv, In2 G Φ (fnX nIn (sc.qual ++ nIn) params ib scope clo .none .none doc pm none cv ctv) ib)
    (harg : EvAll G Φ k vs4 sc [.int 0, .len (.var 0)] [e0, el])
    (hn : 1 ≤ n) (hmn : n * is.length ≤ 60) (hdig : ∀ d ∈ is, 0 ≤ d ∧ d < 2 ^ n) (hmk : is.length ≤ k) :
    ∀ M A env s, Sx G vs4 sc k [] M Hc none A env [some (.dat (.list (is.map .int))), some (.dat (.int n)), none] s →
      Wp G A (execs [.FunctionDef nIn params ib [] none [] scope none nIn pd, .Return (some (.IfExp (.Name nDg q1) (.Call (.Name nIn q2) [e0, el] [] q3) (.Constant (.int 0) kk p0) q4)) q5] env)
        (Post G vs4 sc k [] M Hc none A env s (.ret (.dat (.int (undigs n is))))) s := by
  intro M A env s x
  have hm60 : is.length ≤ 60 := Nat.le_trans (Nat.le_mul_of_pos_left _ hn) hmn
  refine wpAny_execs_cons (fn_made hG hr hcode hk hd0 hk0 ha x.cx (by rw [ki]; decide) (fun y hy => x.cx.e.has _ (by rw [x.cx.sk]; exact hfree y hy)) fun f s₃ doc pm cv ctv g3 hfn hfo hrec => ?_)
  have x3 := x.step g3
  have fap := new_apart x hfn
  refine sx_store2 x3 (n := nIn) (i := 2) rfl (.inr ki) rfl (ev := .obj f) rfl fun s₄ gs4 hself hoth x4 => ?_
  simp only [List.set_cons_succ, List.set_cons_zero] at x4
  obtain ⟨vN, hvN, rN⟩ := x4.full.v 1 (Str.ofString "n") _ rfl rfl (.inr (by rw [x4.cx.sk]; exact kn))
  obtain ⟨tN, rfl⟩ := Rd.int rN
  obtain ⟨vD, hvD, rD⟩ := x4.full.v 0 nDg _ rfl rfl (.inr (by rw [x4.cx.sk]; exact kd))
  have rD0 : Rd (M ++ Hc) s₄.heap vD (.list (is.map .int)) := rD
  obtain ⟨ad, o, vals, nn, rfl, hoo, hnH, hoc, hdt, rl⟩ := Rd.list rD0
  have hfo4 : ∃ o, s₄.heap.get? f = some o ∧ o.data = .func (fnX nIn (sc.qual ++ nIn) params ib scope (cloOf env scope.names []) .none .none doc pm none cv ctv) := let ⟨o, e, d⟩ := hfo; ⟨o, gs4.keep _ _ fap.2.1 e, d⟩
  have hrec4 : s₄.heap.CodeRec cv (sc.qual ++ nIn) := rec_gs hrec gs4.keep (hid_MT x3)
  have ic := made_ctx x4 hself hvN hfo4 hrec4 fap.2.2 hfree hI hN nF
  obtain ⟨cD, hcD1, hcD2⟩ := var_cell (by rw [x4.cx.sk]; exact kd) hvD
  have hcDl : (fnX nIn (sc.qual ++ nIn) params ib scope (cloOf env scope.names []) .none .none doc pm none cv ctv).closure.lookup nDg = some cD := clo_get hD hcD1
  have gsA : Gs G (M ++ G.T) s s₄ := (g3.gs fun b hb => List.mem_append_right _ hb).trans gs4
  have hsz : vals.size = is.length := by rw [← Array.length_toList, rl.length]; simp
  refine wpAny_execs_cons (wpAny_Return_some (IfExp_ (isTrue_plain (load_var x.cx.e.kind hvD (by decide) (by decide) (wpAny_truthy_list (items := vals) ⟨o, hoo, hoc, nn, hdt⟩ (by omega) ?_)))))
  have gt : Gw G s₄ { s₄ with toks := s₄.toks + 1 + 1 } := Gw.tok x4.cx.b _
  have x4' := x4.step gt
  by_cases hz : is.length = 0
  · have : (!vals.isEmpty) = false := by
      have : vals.size = 0 := by omega
      simp [Array.isEmpty, this]
    rw [this, if_neg Bool.false_ne_true]
    have hnil : is = [] := List.eq_nil_of_length_eq_zero hz
    subst hnil
    refine wpAny_Constant_int ⟨by simpa using gsA.trans ((gt.trans (Gw.tok x4'.cx.b _)).gs fun b hb => List.mem_append_right _ hb), _, rfl, Rd.ofInt _ _⟩
  · have : (!vals.isEmpty) = true := by
      have : vals.size ≠ 0 := by omega
      simp [Array.isEmpty, this]
    rw [this, if_pos rfl]
    obtain ⟨o, ho, hdat⟩ := hfo4
    refine Call_ (load_var x.cx.e.kind (hself.ext x4.cx.e gt.ext) (by decide) (by decide) ?_)
    refine callWith_def hdat ((args_ok harg x4'.full (evs := [.dat (.int 0), .dat (.int (is.length : Nat))]) ⟨rfl, ?_, trivial⟩).mono fun vals' s₅ zz45 => have g5 := zz45.1; have r5 := zz45.2; ⟨(gt.trans g5).ext _ _ fap.2.2 ho, ?_⟩) (harg.1.2 _ _)
    · simp only [xe_var, xe_int, xe_nil, xe_bool, xe_lim, xe_ar, xe_cat, xe_rep, xe_neg, xe_inv, xe_not, xe_cmp, xe_isNone, xe_and2, xe_or2, xe_or3, xe_ite, xe_tup2, xe_tup3, xe_list0, xe_list1, xe_list3, xe_sub, xe_from1, xe_upto1, xe_sl3, xe_len, xe_sum, xe_tuple, xe_bits, xe_divmod, xe_call1, xe_call2, xe_call3, xe_call5, xe_callk, xe_keyc, xe_comp, xe_mk, xe_cmpr, xe_attr, List.getElem?_cons_succ, List.getElem?_cons_zero, Option.join_some, List.length_map]
      rw [if_pos (by omega)]
    obtain ⟨t1, t2, rfl⟩ := r5.int2
    have g6 := gt.trans g5
    refine (inner2 hG (a := ad) (I _ _ _ _ _) (C _ _ _ _ _) hcDl dF hdig (by omega) is.length A s₅ 0 is.length t1 t2 (by omega) (by omega) (Nat.le_refl _) (by simpa using hmn)
      ⟨x.cx.a.hand, by have := x.cx.a.depth; omega, by have := x.cx.a.units; omega⟩ g6.base (Gw.inCtx ic x4.cx.b g6) (cell_gw hcD2 (x4.cx.e.cel _ _ hcD1) g6) ?_).mono fun rv s₆ ⟨⟨t, hrv⟩, g7⟩ => ?_
    · exact (Rd.ext (G := G) (s := s₄) rD0 g6 (fun b hb => List.mem_append_right _ (x4.tH b hb))).mono (view_less fun b hb => List.mem_append_right _ (x4.tH b hb))
    subst hrv
    refine ⟨by simpa using gsA.trans ((g6.trans g7).gs fun b hb => List.mem_append_right _ hb), _, rfl, ?_⟩
    have e : (is.drop 0).take (is.length - 0) = is := by simp
    rw [e]
    exact Rd.ofInt _ _
end
end Mine

/-! HD -/
open PySem PySem.W PyProof.Rows
namespace Mine
/-- the statements of the text that the view keeps: the class, the limit, the defs without defaults -/
noncomputable def kept : List Nat := [1, 3, 4, 5, 6, 7, 8, 9, 14, 15, 16, 17, 18, 19, 20, 21, 22, 23, 24, 25, 26]
noncomputable def view : Program := { PySem.Challenge.pw_pe0194_01 with main := { PySem.Challenge.pw_pe0194_01.main with body := kept.filterMap fun i => PySem.Challenge.pw_pe0194_01.main.body[i]? } }
set_option maxRecDepth 100000 in
theorem said_row : PySem.Challenge.rw_pe0194_01.row.wellSaid = true := by
  unfold OpenRow.wellSaid OpenRow.partSaid looksOpen
  repeat' with_reducible refine look_both ?_ ?_
  all_goals decide +kernel
set_option maxRecDepth 100000 in
theorem said : PySem.Challenge.rw_pe0194_01.wellSaid = true := by
  unfold OpenLaw.wellSaid
  repeat' with_reducible refine look_both ?_ ?_
  · exact said_row
  all_goals decide +kernel
end Mine
local macro_rules | `(tactic| o_law) => `(tactic| refine holds_law Mine.said fun _ => ?_)
-- the head at once, in place of its pieces: these make a compiled file over the lid
local macro_rules | `(tactic| o_head $H) => `(tactic| (
  refine holds_open (q := Mine.view) (loose := [PySem.Str.ofString "bisect_right", PySem.Str.ofString "bisect_left"]) (Xt := fun s => xlAt Mine.view [] s && recOk (RowW.records (OpenRow.toRowW PySem.Challenge.rw_pe0194_01.row)) s) (XP := XL Mine.view []) (Yf := Hook.obs $H) (Ya := Hook.val $H) (YP := Hook.says $H) (N := 2094) ?hl (Hook.of $H) (Hook.keeps $H) (fun s e => xl_of s (Bool.and_eq_true_iff.mp e).1) XL.keeps (by rfl) (by rfl) (by rfl) (fun s e => recFacts_of (Bool.and_eq_true_iff.mp e).2) (by rfl) (by first | assumption | decide +kernel) (by decide +kernel) ⟨rfl, rfl, rfl, rfl, rfl, by decide +kernel⟩ ?hw ?hc
  case hl => (intro w; kernel_rfl)))
namespace Mine
set_option maxRecDepth 100000 in
set_option maxHeartbeats 8000000 in
open_top hd for PySem.Challenge.rw_pe0194_01
end Mine

/-! B1 -/
namespace Mine
open PySem PySem.W PyProof.Rows PySem.Calls PySem.Spec PySem.SeqAt

/-! ## each function's text does what its S term says (printed by gen_b.py) -/
def objAt (a : Addr) (K : List (Addr × Obj)) : Obj := (K.lookup a).getD default
noncomputable def fdAt (P : Params) (a : Addr) : FuncData := match (objAt a (Mine.hd.heap_1 P)).data with | .func fd => fd | _ => default
noncomputable def bodyAt (P : Params) (a : Addr) : List Stmt := match (fdAt P a).body with | .stmts b => b | _ => []
def nmsOf (l : List String) : List Str := l.map Str.ofString

theorem nd_compare : (nmsOf v_compare).Nodup := by decide +kernel
theorem bo_compare (P : Params) {G : Gr} {fa : Nat → Addr} {Φ : Phi} {k : Nat} (hG : GOk G fa) (hΦ : PhiOk G fa Φ k) {K : Frag} {fI : Addr} {fd : FuncData} (hC : COk G K fI (fa 0) fd) :
    BlOk G Φ k (nmsOf v_compare) (FnAt.fc (fdAt P 35)) f_compare.own f_compare.body (bodyAt P 35) :=
  (bl_cons (st_loop ⟨_, _, _, _, _, _, rfl, rfl, rfl, (.inl (by kernel_rfl)), (.inl (by kernel_rfl))⟩ (it_seq (ev_attr hC (ev_var rfl (.inl (by kernel_rfl)) (by kernel_rfl) (by kernel_rfl)))) (bl_cons (st_assign rfl (.inl (by kernel_rfl)) (ev_sub (ev_var rfl (.inl (by kernel_rfl)) (by kernel_rfl) (by kernel_rfl)) (ev_var rfl (.inl (by kernel_rfl)) (by kernel_rfl) (by kernel_rfl)) (fun _ _ _ _ h => nomatch h)) (fun _ _ => rfl))
  (bl_cons (st_assign rfl (.inl (by kernel_rfl)) (ev_sub (ev_var rfl (.inl (by kernel_rfl)) (by kernel_rfl) (by kernel_rfl)) (ev_var rfl (.inl (by kernel_rfl)) (by kernel_rfl) (by kernel_rfl)) (fun _ _ _ _ h => nomatch h)) (fun _ _ => rfl))
  (bl_cons (st_ite (tr_cmp (ev_var rfl (.inl (by kernel_rfl)) (by kernel_rfl) (by kernel_rfl)) (ev_var rfl (.inl (by kernel_rfl)) (by kernel_rfl) (by kernel_rfl))) (bl_cons (st_ret (ev_neg (ev_var rfl (.inl (by kernel_rfl)) (by kernel_rfl) (by kernel_rfl))))
  bl_nil) bl_nil)
  (bl_cons (st_ite (tr_cmp (ev_var rfl (.inl (by kernel_rfl)) (by kernel_rfl) (by kernel_rfl)) (ev_var rfl (.inl (by kernel_rfl)) (by kernel_rfl) (by kernel_rfl))) (bl_cons (st_ret (ev_var rfl (.inl (by kernel_rfl)) (by kernel_rfl) (by kernel_rfl)))
  bl_nil) bl_nil)
  bl_nil)))) (fun _ _ => rfl))
  (bl_cons (st_ret ev_int)
  bl_nil))

theorem nd_int_divmod : (nmsOf v_int_divmod).Nodup := by decide +kernel
theorem bo_int_divmod (P : Params) {G : Gr} {fa : Nat → Addr} {Φ : Phi} {k : Nat} (hG : GOk G fa) (hΦ : PhiOk G fa Φ k) :
    BlOk G Φ k (nmsOf v_int_divmod) (FnAt.fc (fdAt P 84)) f_int_divmod.own f_int_divmod.body (bodyAt P 84) :=
  (bl_cons (st_ite (tr_cmp (ev_var rfl (.inl (by kernel_rfl)) (by kernel_rfl) (by kernel_rfl)) ev_int) (bl_cons st_dead
  bl_nil) (bl_cons (st_ite (tr_cmp (ev_var rfl (.inl (by kernel_rfl)) (by kernel_rfl) (by kernel_rfl)) ev_int) (bl_cons (st_unpack rfl rfl (.inl (by kernel_rfl)) (.inl (by kernel_rfl)) (ev_call2 hG hΦ (n := "int_divmod") rfl (by decide) (by decide) (by decide) (by kernel_rfl) (by kernel_rfl) ⟨⟨(ev_neg (ev_var rfl (.inl (by kernel_rfl)) (by kernel_rfl) (by kernel_rfl))), fun _ _ => rfl⟩, ⟨⟨(ev_neg (ev_var rfl (.inl (by kernel_rfl)) (by kernel_rfl) (by kernel_rfl))), fun _ _ => rfl⟩, trivial⟩⟩))
  (bl_cons (st_ret (ev_tup2 ⟨⟨(ev_var rfl (.inl (by kernel_rfl)) (by kernel_rfl) (by kernel_rfl)), fun _ _ => rfl⟩, ⟨⟨(ev_neg (ev_var rfl (.inl (by kernel_rfl)) (by kernel_rfl) (by kernel_rfl))), fun _ _ => rfl⟩, trivial⟩⟩))
  bl_nil)) (bl_cons (st_ite (tr_cmp (ev_var rfl (.inl (by kernel_rfl)) (by kernel_rfl) (by kernel_rfl)) ev_int) (bl_cons (st_unpack rfl rfl (.inl (by kernel_rfl)) (.inl (by kernel_rfl)) (ev_call2 hG hΦ (n := "int_divmod") rfl (by decide) (by decide) (by decide) (by kernel_rfl) (by kernel_rfl) ⟨⟨(ev_inv (ev_var rfl (.inl (by kernel_rfl)) (by kernel_rfl) (by kernel_rfl))), fun _ _ => rfl⟩, ⟨⟨(ev_var rfl (.inl (by kernel_rfl)) (by kernel_rfl) (by kernel_rfl)), fun _ _ => rfl⟩, trivial⟩⟩))
  (bl_cons (st_ret (ev_tup2 ⟨⟨(ev_inv (ev_var rfl (.inl (by kernel_rfl)) (by kernel_rfl) (by kernel_rfl))), fun _ _ => rfl⟩, ⟨⟨(ev_ar (op := .add) (ev_var rfl (.inl (by kernel_rfl)) (by kernel_rfl) (by kernel_rfl)) (ev_inv (ev_var rfl (.inl (by kernel_rfl)) (by kernel_rfl) (by kernel_rfl)))), fun _ _ => rfl⟩, trivial⟩⟩))
  bl_nil)) (bl_cons (st_ret (ev_call2 hG hΦ (n := "_divmod_pos") rfl (by decide) (by decide) (by decide) (by kernel_rfl) (by kernel_rfl) ⟨⟨(ev_var rfl (.inl (by kernel_rfl)) (by kernel_rfl) (by kernel_rfl)), fun _ _ => rfl⟩, ⟨⟨(ev_var rfl (.inl (by kernel_rfl)) (by kernel_rfl) (by kernel_rfl)), fun _ _ => rfl⟩, trivial⟩⟩))
  bl_nil))
  bl_nil))
  bl_nil))
  bl_nil)

theorem nd_divmod_pos : (nmsOf v_divmod_pos).Nodup := by decide +kernel
theorem bo_divmod_pos (P : Params) {G : Gr} {fa : Nat → Addr} {Φ : Phi} {k : Nat} (hG : GOk G fa) (hΦ : PhiOk G fa Φ k) :
    BlOk G Φ k (nmsOf v_divmod_pos) (FnAt.fc (fdAt P 77)) f_divmod_pos.own f_divmod_pos.body (bodyAt P 77) :=
  (bl_cons (st_assign rfl (.inl (by kernel_rfl)) (ev_bits (ev_var rfl (.inl (by kernel_rfl)) (by kernel_rfl) (by kernel_rfl)) rfl) (fun _ _ => rfl))
  (bl_cons (st_assign rfl (.inl (by kernel_rfl)) (ev_call2 hG hΦ (n := "_int2digits") rfl (by decide) (by decide) (by decide) (by kernel_rfl) (by kernel_rfl) ⟨⟨(ev_var rfl (.inl (by kernel_rfl)) (by kernel_rfl) (by kernel_rfl)), fun _ _ => rfl⟩, ⟨⟨(ev_var rfl (.inl (by kernel_rfl)) (by kernel_rfl) (by kernel_rfl)), fun _ _ => rfl⟩, trivial⟩⟩) (fun _ _ => rfl))
  (bl_cons (st_assign rfl (.inl (by kernel_rfl)) ev_int (fun _ _ => rfl))
  (bl_cons (st_newl rfl (.inl (by kernel_rfl)))
  (bl_cons (st_loop ⟨_, _, rfl, rfl, (.inl (by kernel_rfl))⟩ (it_rev hG (by kernel_rfl) ⟨⟨(ev_var rfl (.inl (by kernel_rfl)) (by kernel_rfl) (by kernel_rfl)), fun _ _ => rfl⟩, trivial⟩) (bl_cons (st_unpack rfl rfl (.inl (by kernel_rfl)) (.inl (by kernel_rfl)) (ev_call3 hG hΦ (n := "_div2n1n") rfl (by decide) (by decide) (by decide) (by kernel_rfl) (by kernel_rfl) ⟨⟨(ev_ar (op := .add) (ev_ar (op := .shl) (ev_var rfl (.inl (by kernel_rfl)) (by kernel_rfl) (by kernel_rfl)) (ev_var rfl (.inl (by kernel_rfl)) (by kernel_rfl) (by kernel_rfl))) (ev_var rfl (.inl (by kernel_rfl)) (by kernel_rfl) (by kernel_rfl))), fun _ _ => rfl⟩, ⟨⟨(ev_var rfl (.inl (by kernel_rfl)) (by kernel_rfl) (by kernel_rfl)), fun _ _ => rfl⟩, ⟨⟨(ev_var rfl (.inl (by kernel_rfl)) (by kernel_rfl) (by kernel_rfl)), fun _ _ => rfl⟩, trivial⟩⟩⟩))
  (bl_cons (st_app rfl (by kernel_rfl) (by kernel_rfl) rfl ⟨⟨(ev_var rfl (.inl (by kernel_rfl)) (by kernel_rfl) (by kernel_rfl)), fun _ _ => rfl⟩, trivial⟩)
  bl_nil)) (fun _ _ => rfl))
  (bl_cons (st_rvs rfl (by kernel_rfl) (by kernel_rfl) rfl)
  (bl_cons (st_assign rfl (.inl (by kernel_rfl)) (ev_call2 hG hΦ (n := "_digits2int") rfl (by decide) (by decide) (by decide) (by kernel_rfl) (by kernel_rfl) ⟨⟨(ev_var rfl (.inl (by kernel_rfl)) (by kernel_rfl) (by kernel_rfl)), fun _ _ => rfl⟩, ⟨⟨(ev_var rfl (.inl (by kernel_rfl)) (by kernel_rfl) (by kernel_rfl)), fun _ _ => rfl⟩, trivial⟩⟩) (fun _ _ => rfl))
  (bl_cons (st_ret (ev_tup2 ⟨⟨(ev_var rfl (.inl (by kernel_rfl)) (by kernel_rfl) (by kernel_rfl)), fun _ _ => rfl⟩, ⟨⟨(ev_var rfl (.inl (by kernel_rfl)) (by kernel_rfl) (by kernel_rfl)), fun _ _ => rfl⟩, trivial⟩⟩))
  bl_nil))))))))

theorem nd_div2n1n : (nmsOf v_div2n1n).Nodup := by decide +kernel
theorem bo_div2n1n (P : Params) {G : Gr} {fa : Nat → Addr} {Φ : Phi} {k : Nat} (hG : GOk G fa) (hΦ : PhiOk G fa Φ k) :
    BlOk G Φ k (nmsOf v_div2n1n) (FnAt.fc (fdAt P 49)) f_div2n1n.own f_div2n1n.body (bodyAt P 49) :=
  (bl_cons (st_ite (tr_cmp (ev_ar (op := .sub) (ev_bits (ev_var rfl (.inl (by kernel_rfl)) (by kernel_rfl) (by kernel_rfl)) rfl) (ev_var rfl (.inl (by kernel_rfl)) (by kernel_rfl) (by kernel_rfl))) (ev_lim hG (by kernel_rfl))) (bl_cons (st_ret (ev_divmod hG (by kernel_rfl) ⟨⟨(ev_var rfl (.inl (by kernel_rfl)) (by kernel_rfl) (by kernel_rfl)), fun _ _ => rfl⟩, ⟨⟨(ev_var rfl (.inl (by kernel_rfl)) (by kernel_rfl) (by kernel_rfl)), fun _ _ => rfl⟩, trivial⟩⟩))
  bl_nil) bl_nil)
  bl_dead)

theorem nd_bisect_left : (nmsOf v_bisect_left).Nodup := by decide +kernel
theorem bo_bisect_left (P : Params) {G : Gr} {fa : Nat → Addr} {Φ : Phi} {k : Nat} (hG : GOk G fa) (hΦ : PhiOk G fa Φ k) (hk1 : 1 ≤ k) :
    BlOk G Φ k (nmsOf v_bisect_left) (FnAt.fc (fdAt P 102)) f_bisect_left.own f_bisect_left.body (bodyAt P 102) :=
  (bl_cons (st_ite (tr_cmp (ev_var rfl (.inl (by kernel_rfl)) (by kernel_rfl) (by kernel_rfl)) ev_int) (bl_cons st_dead
  bl_nil) bl_nil)
  (bl_cons (st_ite (tr_isNone (ev_var rfl (.inl (by kernel_rfl)) (by kernel_rfl) (by kernel_rfl))) (bl_cons (st_assign rfl (.inl (by kernel_rfl)) (ev_len hG (by kernel_rfl) ⟨⟨(ev_var rfl (.inl (by kernel_rfl)) (by kernel_rfl) (by kernel_rfl)), fun _ _ => rfl⟩, trivial⟩) (fun _ _ => rfl))
  bl_nil) bl_nil)
  (bl_cons (st_ite (tr_isNone (ev_var rfl (.inl (by kernel_rfl)) (by kernel_rfl) (by kernel_rfl))) (bl_cons (st_while (tr_cmp (ev_var rfl (.inl (by kernel_rfl)) (by kernel_rfl) (by kernel_rfl)) (ev_var rfl (.inl (by kernel_rfl)) (by kernel_rfl) (by kernel_rfl))) (bl_cons (st_assign rfl (.inl (by kernel_rfl)) (ev_ar (op := .fdiv) (ev_ar (op := .add) (ev_var rfl (.inl (by kernel_rfl)) (by kernel_rfl) (by kernel_rfl)) (ev_var rfl (.inl (by kernel_rfl)) (by kernel_rfl) (by kernel_rfl))) ev_int) (fun _ _ => rfl))
  (bl_cons (st_ite (tr_cmp (ev_sub (ev_var rfl (.inl (by kernel_rfl)) (by kernel_rfl) (by kernel_rfl)) (ev_var rfl (.inl (by kernel_rfl)) (by kernel_rfl) (by kernel_rfl)) (fun _ _ _ _ h => nomatch h)) (ev_var rfl (.inl (by kernel_rfl)) (by kernel_rfl) (by kernel_rfl))) (bl_cons (st_assign rfl (.inl (by kernel_rfl)) (ev_ar (op := .add) (ev_var rfl (.inl (by kernel_rfl)) (by kernel_rfl) (by kernel_rfl)) ev_int) (fun _ _ => rfl))
  bl_nil) (bl_cons (st_assign rfl (.inl (by kernel_rfl)) (ev_var rfl (.inl (by kernel_rfl)) (by kernel_rfl) (by kernel_rfl)) (fun _ _ => rfl))
  bl_nil))
  bl_nil)))
  bl_nil) (bl_cons (st_while (tr_cmp (ev_var rfl (.inl (by kernel_rfl)) (by kernel_rfl) (by kernel_rfl)) (ev_var rfl (.inl (by kernel_rfl)) (by kernel_rfl) (by kernel_rfl))) (bl_cons (st_assign rfl (.inl (by kernel_rfl)) (ev_ar (op := .fdiv) (ev_ar (op := .add) (ev_var rfl (.inl (by kernel_rfl)) (by kernel_rfl) (by kernel_rfl)) (ev_var rfl (.inl (by kernel_rfl)) (by kernel_rfl) (by kernel_rfl))) ev_int) (fun _ _ => rfl))
  (bl_cons (st_ite (tr_cmp (ev_keyc hG hk1 (ev_var rfl (.inl (by kernel_rfl)) (by kernel_rfl) (by kernel_rfl)) ⟨⟨(ev_sub (ev_var rfl (.inl (by kernel_rfl)) (by kernel_rfl) (by kernel_rfl)) (ev_var rfl (.inl (by kernel_rfl)) (by kernel_rfl) (by kernel_rfl)) (fun _ _ _ _ h => nomatch h)), fun _ _ => rfl⟩, trivial⟩) (ev_var rfl (.inl (by kernel_rfl)) (by kernel_rfl) (by kernel_rfl))) (bl_cons (st_assign rfl (.inl (by kernel_rfl)) (ev_ar (op := .add) (ev_var rfl (.inl (by kernel_rfl)) (by kernel_rfl) (by kernel_rfl)) ev_int) (fun _ _ => rfl))
  bl_nil) (bl_cons (st_assign rfl (.inl (by kernel_rfl)) (ev_var rfl (.inl (by kernel_rfl)) (by kernel_rfl) (by kernel_rfl)) (fun _ _ => rfl))
  bl_nil))
  bl_nil)))
  bl_nil))
  (bl_cons (st_ret (ev_var rfl (.inl (by kernel_rfl)) (by kernel_rfl) (by kernel_rfl)))
  bl_nil))))

theorem nd_bisect_right : (nmsOf v_bisect_right).Nodup := by decide +kernel
theorem bo_bisect_right (P : Params) {G : Gr} {fa : Nat → Addr} {Φ : Phi} {k : Nat} (hG : GOk G fa) (hΦ : PhiOk G fa Φ k) (hk1 : 1 ≤ k) :
    BlOk G Φ k (nmsOf v_bisect_right) (FnAt.fc (fdAt P 93)) f_bisect_right.own f_bisect_right.body (bodyAt P 93) :=
  (bl_cons (st_ite (tr_cmp (ev_var rfl (.inl (by kernel_rfl)) (by kernel_rfl) (by kernel_rfl)) ev_int) (bl_cons st_dead
  bl_nil) bl_nil)
  (bl_cons (st_ite (tr_isNone (ev_var rfl (.inl (by kernel_rfl)) (by kernel_rfl) (by kernel_rfl))) (bl_cons (st_assign rfl (.inl (by kernel_rfl)) (ev_len hG (by kernel_rfl) ⟨⟨(ev_var rfl (.inl (by kernel_rfl)) (by kernel_rfl) (by kernel_rfl)), fun _ _ => rfl⟩, trivial⟩) (fun _ _ => rfl))
  bl_nil) bl_nil)
  (bl_cons (st_ite (tr_isNone (ev_var rfl (.inl (by kernel_rfl)) (by kernel_rfl) (by kernel_rfl))) (bl_cons (st_while (tr_cmp (ev_var rfl (.inl (by kernel_rfl)) (by kernel_rfl) (by kernel_rfl)) (ev_var rfl (.inl (by kernel_rfl)) (by kernel_rfl) (by kernel_rfl))) (bl_cons (st_assign rfl (.inl (by kernel_rfl)) (ev_ar (op := .fdiv) (ev_ar (op := .add) (ev_var rfl (.inl (by kernel_rfl)) (by kernel_rfl) (by kernel_rfl)) (ev_var rfl (.inl (by kernel_rfl)) (by kernel_rfl) (by kernel_rfl))) ev_int) (fun _ _ => rfl))
  (bl_cons (st_ite (tr_cmp (ev_var rfl (.inl (by kernel_rfl)) (by kernel_rfl) (by kernel_rfl)) (ev_sub (ev_var rfl (.inl (by kernel_rfl)) (by kernel_rfl) (by kernel_rfl)) (ev_var rfl (.inl (by kernel_rfl)) (by kernel_rfl) (by kernel_rfl)) (fun _ _ _ _ h => nomatch h))) (bl_cons (st_assign rfl (.inl (by kernel_rfl)) (ev_var rfl (.inl (by kernel_rfl)) (by kernel_rfl) (by kernel_rfl)) (fun _ _ => rfl))
  bl_nil) (bl_cons (st_assign rfl (.inl (by kernel_rfl)) (ev_ar (op := .add) (ev_var rfl (.inl (by kernel_rfl)) (by kernel_rfl) (by kernel_rfl)) ev_int) (fun _ _ => rfl))
  bl_nil))
  bl_nil)))
  bl_nil) (bl_cons (st_while (tr_cmp (ev_var rfl (.inl (by kernel_rfl)) (by kernel_rfl) (by kernel_rfl)) (ev_var rfl (.inl (by kernel_rfl)) (by kernel_rfl) (by kernel_rfl))) (bl_cons (st_assign rfl (.inl (by kernel_rfl)) (ev_ar (op := .fdiv) (ev_ar (op := .add) (ev_var rfl (.inl (by kernel_rfl)) (by kernel_rfl) (by kernel_rfl)) (ev_var rfl (.inl (by kernel_rfl)) (by kernel_rfl) (by kernel_rfl))) ev_int) (fun _ _ => rfl))
  (bl_cons (st_ite (tr_cmp (ev_var rfl (.inl (by kernel_rfl)) (by kernel_rfl) (by kernel_rfl)) (ev_keyc hG hk1 (ev_var rfl (.inl (by kernel_rfl)) (by kernel_rfl) (by kernel_rfl)) ⟨⟨(ev_sub (ev_var rfl (.inl (by kernel_rfl)) (by kernel_rfl) (by kernel_rfl)) (ev_var rfl (.inl (by kernel_rfl)) (by kernel_rfl) (by kernel_rfl)) (fun _ _ _ _ h => nomatch h)), fun _ _ => rfl⟩, trivial⟩)) (bl_cons (st_assign rfl (.inl (by kernel_rfl)) (ev_var rfl (.inl (by kernel_rfl)) (by kernel_rfl) (by kernel_rfl)) (fun _ _ => rfl))
  bl_nil) (bl_cons (st_assign rfl (.inl (by kernel_rfl)) (ev_ar (op := .add) (ev_var rfl (.inl (by kernel_rfl)) (by kernel_rfl) (by kernel_rfl)) ev_int) (fun _ _ => rfl))
  bl_nil))
  bl_nil)))
  bl_nil))
  (bl_cons (st_ret (ev_var rfl (.inl (by kernel_rfl)) (by kernel_rfl) (by kernel_rfl)))
  bl_nil))))

theorem nd_law_fractions : (nmsOf v_law_fractions).Nodup := by decide +kernel
theorem bo_law_fractions (P : Params) {G : Gr} {fa : Nat → Addr} {Φ : Phi} {k : Nat} (hG : GOk G fa) (hΦ : PhiOk G fa Φ k) :
    BlOk G Φ k (nmsOf v_law_fractions) (FnAt.fc (fdAt P 107)) f_law_fractions.own f_law_fractions.body (bodyAt P 107) :=
  have nd := nd_law_fractions
  (bl_cons (st_assign rfl (.inr (by kernel_rfl)) (ev_list3 ⟨⟨ev_int, fun _ _ => rfl⟩, ⟨⟨ev_int, fun _ _ => rfl⟩, ⟨⟨ev_int, fun _ _ => rfl⟩, trivial⟩⟩⟩) (fun _ _ => rfl))
  (bl_cons (st_assignc rfl (.inl (by kernel_rfl)) (compSc_of rfl ⟨_, _, rfl, rfl, (by kernel_rfl)⟩ (by kernel_rfl)) (it_r1 hG (by kernel_rfl) ⟨⟨ev_int, fun _ _ => rfl⟩, trivial⟩) (.inl ⟨rfl, rfl⟩) (ev_ar (op := .add) (ev_sub (ev_var rfl (.inr (by kernel_rfl)) (by kernel_rfl) (by kernel_rfl)) (ev_var rfl (.inl (by kernel_rfl)) (by kernel_rfl) (by kernel_rfl)) (fun _ _ _ _ h => nomatch h)) (ev_sum hG (by kernel_rfl) ⟨⟨(ev_comp nd (compSc_of rfl ⟨_, _, rfl, rfl, (by kernel_rfl)⟩ (by kernel_rfl)) (it_seq (ev_sl3 (ev_var rfl (.inr (by kernel_rfl)) (by kernel_rfl) (by kernel_rfl)) (ev_var rfl (.inl (by kernel_rfl)) (by kernel_rfl) (by kernel_rfl)))) (.inl ⟨rfl, rfl⟩) (ev_ar (op := .fmod) (ev_var rfl (.inl (by kernel_rfl)) (by kernel_rfl) (by kernel_rfl)) ev_int) (fun _ _ => rfl)), fun _ _ => rfl⟩, trivial⟩)) (fun _ _ => rfl) (swap_local (by kernel_rfl) (by kernel_rfl)))
  (bl_cons (st_ret (ev_comp nd (compSc_of rfl ⟨_, _, rfl, rfl, (by kernel_rfl)⟩ (by kernel_rfl)) (it_seq (ev_var rfl (.inl (by kernel_rfl)) (by kernel_rfl) (by kernel_rfl))) (.inl ⟨rfl, rfl⟩) (ev_tup2 ⟨⟨(ev_ar (op := .sub) (ev_ar (op := .fmod) (ev_ar (op := .fdiv) (ev_var rfl (.inl (by kernel_rfl)) (by kernel_rfl) (by kernel_rfl)) ev_int) ev_int) ev_int), fun _ _ => rfl⟩, ⟨⟨(ev_ar (op := .add) ev_int (ev_ar (op := .fmod) (ev_var rfl (.inl (by kernel_rfl)) (by kernel_rfl) (by kernel_rfl)) ev_int)), fun _ _ => rfl⟩, trivial⟩⟩) (fun _ _ => rfl)))
  bl_nil)))

theorem nd_law_quotients : (nmsOf v_law_quotients).Nodup := by decide +kernel
theorem bo_law_quotients (P : Params) {G : Gr} {fa : Nat → Addr} {Φ : Phi} {k : Nat} (hG : GOk G fa) (hΦ : PhiOk G fa Φ k) :
    BlOk G Φ k (nmsOf v_law_quotients) (FnAt.fc (fdAt P 114)) f_law_quotients.own f_law_quotients.body (bodyAt P 114) :=
  (bl_cons (st_newl rfl (.inl (by kernel_rfl)))
  (bl_cons (st_while (tr_cmp (ev_var rfl (.inl (by kernel_rfl)) (by kernel_rfl) (by kernel_rfl)) ev_int) (bl_cons (st_unpack rfl rfl (.inl (by kernel_rfl)) (.inl (by kernel_rfl)) (ev_call2 hG hΦ (n := "int_divmod") rfl (by decide) (by decide) (by decide) (by kernel_rfl) (by kernel_rfl) ⟨⟨(ev_var rfl (.inl (by kernel_rfl)) (by kernel_rfl) (by kernel_rfl)), fun _ _ => rfl⟩, ⟨⟨(ev_var rfl (.inl (by kernel_rfl)) (by kernel_rfl) (by kernel_rfl)), fun _ _ => rfl⟩, trivial⟩⟩))
  (bl_cons (st_app rfl (by kernel_rfl) (by kernel_rfl) rfl ⟨⟨(ev_var rfl (.inl (by kernel_rfl)) (by kernel_rfl) (by kernel_rfl)), fun _ _ => rfl⟩, trivial⟩)
  (bl_cons (st_swap rfl rfl (.inl (by kernel_rfl)) (.inl (by kernel_rfl)) ⟨⟨(ev_var rfl (.inl (by kernel_rfl)) (by kernel_rfl) (by kernel_rfl)), fun _ _ => rfl⟩, ⟨⟨(ev_var rfl (.inl (by kernel_rfl)) (by kernel_rfl) (by kernel_rfl)), fun _ _ => rfl⟩, trivial⟩⟩ (swap_two (by kernel_rfl) (by kernel_rfl) (by kernel_rfl) rfl (by kernel_rfl) rfl))
  bl_nil))))
  (bl_cons (st_ret (ev_var rfl (.inl (by kernel_rfl)) (by kernel_rfl) (by kernel_rfl)))
  bl_nil)))

theorem nd_law_row : (nmsOf v_law_row).Nodup := by decide +kernel
theorem bo_law_row (P : Params) {G : Gr} {fa : Nat → Addr} {Φ : Phi} {k : Nat} (hG : GOk G fa) (hΦ : PhiOk G fa Φ k) :
    BlOk G Φ k (nmsOf v_law_row) (FnAt.fc (fdAt P 121)) f_law_row.own f_law_row.body (bodyAt P 121) :=
  (bl_cons (st_ret (ev_tuple hG (by kernel_rfl) ⟨⟨(ev_cat (ev_var rfl (.inl (by kernel_rfl)) (by kernel_rfl) (by kernel_rfl)) (ev_rep ⟨⟨ev_int, fun _ _ => rfl⟩, trivial⟩ (ev_ar (op := .sub) ev_int (ev_len hG (by kernel_rfl) ⟨⟨(ev_var rfl (.inl (by kernel_rfl)) (by kernel_rfl) (by kernel_rfl)), fun _ _ => rfl⟩, trivial⟩)))), fun _ _ => rfl⟩, trivial⟩))
  bl_nil)

theorem nd_law_key : (nmsOf v_law_key).Nodup := by decide +kernel
theorem bo_law_key (P : Params) {G : Gr} {fa : Nat → Addr} {Φ : Phi} {k : Nat} (hG : GOk G fa) (hΦ : PhiOk G fa Φ k) :
    BlOk G Φ k (nmsOf v_law_key) (FnAt.fc (fdAt P 126)) f_law_key.own f_law_key.body (bodyAt P 126) :=
  have nd := nd_law_key
  (bl_cons (st_ret (ev_tuple hG (by kernel_rfl) ⟨⟨(ev_comp nd (compSc_of rfl ⟨_, _, rfl, rfl, (by kernel_rfl)⟩ (by kernel_rfl)) (it_r1 hG (by kernel_rfl) ⟨⟨ev_int, fun _ _ => rfl⟩, trivial⟩) (.inl ⟨rfl, rfl⟩) (ev_ite (tr_cmp (ev_ar (op := .fmod) (ev_var rfl (.inl (by kernel_rfl)) (by kernel_rfl) (by kernel_rfl)) ev_int) ev_int) (ev_neg (ev_sub (ev_var rfl (.inr (by kernel_rfl)) (by kernel_rfl) (by kernel_rfl)) (ev_var rfl (.inl (by kernel_rfl)) (by kernel_rfl) (by kernel_rfl)) (fun _ _ _ _ h => nomatch h))) (ev_sub (ev_var rfl (.inr (by kernel_rfl)) (by kernel_rfl) (by kernel_rfl)) (ev_var rfl (.inl (by kernel_rfl)) (by kernel_rfl) (by kernel_rfl)) (fun _ _ _ _ h => nomatch h))) (fun _ _ => rfl)), fun _ _ => rfl⟩, trivial⟩))
  bl_nil)

theorem nd_law_folded : (nmsOf v_law_folded).Nodup := by decide +kernel
theorem bo_law_folded (P : Params) {G : Gr} {fa : Nat → Addr} {Φ : Phi} {k : Nat} (hG : GOk G fa) (hΦ : PhiOk G fa Φ k) :
    BlOk G Φ k (nmsOf v_law_folded) (FnAt.fc (fdAt P 133)) f_law_folded.own f_law_folded.body (bodyAt P 133) :=
  (bl_cons (st_swap rfl rfl (.inl (by kernel_rfl)) (.inl (by kernel_rfl)) ⟨⟨(ev_sub (ev_var rfl (.inl (by kernel_rfl)) (by kernel_rfl) (by kernel_rfl)) (ev_neg ev_int) (fun _ _ _ _ h => nomatch h)), fun _ _ => rfl⟩, ⟨⟨ev_int, fun _ _ => rfl⟩, trivial⟩⟩ (swap_two (by kernel_rfl) (by kernel_rfl) (by kernel_rfl) rfl (by kernel_rfl) rfl))
  (bl_cons (st_loop ⟨_, _, rfl, rfl, (.inl (by kernel_rfl))⟩ (it_rev hG (by kernel_rfl) ⟨⟨(ev_upto1 (ev_var rfl (.inl (by kernel_rfl)) (by kernel_rfl) (by kernel_rfl))), fun _ _ => rfl⟩, trivial⟩) (bl_cons (st_swap rfl rfl (.inl (by kernel_rfl)) (.inl (by kernel_rfl)) ⟨⟨(ev_ar (op := .add) (ev_ar (op := .mul) (ev_var rfl (.inl (by kernel_rfl)) (by kernel_rfl) (by kernel_rfl)) (ev_var rfl (.inl (by kernel_rfl)) (by kernel_rfl) (by kernel_rfl))) (ev_var rfl (.inl (by kernel_rfl)) (by kernel_rfl) (by kernel_rfl))), fun _ _ => rfl⟩, ⟨⟨(ev_var rfl (.inl (by kernel_rfl)) (by kernel_rfl) (by kernel_rfl)), fun _ _ => rfl⟩, trivial⟩⟩ (swap_two (by kernel_rfl) (by kernel_rfl) (by kernel_rfl) rfl (by kernel_rfl) rfl))
  bl_nil) (fun _ _ => rfl))
  (bl_cons (st_ret (ev_tup2 ⟨⟨(ev_var rfl (.inl (by kernel_rfl)) (by kernel_rfl) (by kernel_rfl)), fun _ _ => rfl⟩, ⟨⟨(ev_var rfl (.inl (by kernel_rfl)) (by kernel_rfl) (by kernel_rfl)), fun _ _ => rfl⟩, trivial⟩⟩))
  bl_nil)))

theorem nd_law_is_run : (nmsOf v_law_is_run).Nodup := by decide +kernel
theorem bo_law_is_run (P : Params) {G : Gr} {fa : Nat → Addr} {Φ : Phi} {k : Nat} (hG : GOk G fa) (hΦ : PhiOk G fa Φ k) :
    BlOk G Φ k (nmsOf v_law_is_run) (FnAt.fc (fdAt P 138)) f_law_is_run.own f_law_is_run.body (bodyAt P 138) :=
  have nd := nd_law_is_run
  (bl_cons (st_unpack rfl rfl (.inr (by kernel_rfl)) (.inr (by kernel_rfl)) (ev_call1 hG hΦ (n := "_law_folded") rfl (by decide) (by decide) (by decide) (by kernel_rfl) (by kernel_rfl) ⟨⟨(ev_var rfl (.inl (by kernel_rfl)) (by kernel_rfl) (by kernel_rfl)), fun _ _ => rfl⟩, trivial⟩))
  (bl_cons (st_ite (tr_or3 (tr_cmp (ev_var rfl (.inr (by kernel_rfl)) (by kernel_rfl) (by kernel_rfl)) ev_int) (tr_cmp (ev_ar (op := .mul) (ev_var rfl (.inr (by kernel_rfl)) (by kernel_rfl) (by kernel_rfl)) (ev_var rfl (.inl (by kernel_rfl)) (by kernel_rfl) (by kernel_rfl))) (ev_ar (op := .mul) (ev_var rfl (.inl (by kernel_rfl)) (by kernel_rfl) (by kernel_rfl)) (ev_var rfl (.inr (by kernel_rfl)) (by kernel_rfl) (by kernel_rfl)))) (tr_cmp (ev_comp nd (compSc_of rfl ⟨_, _, rfl, rfl, (by kernel_rfl)⟩ (by kernel_rfl)) (it_r2 hG (by kernel_rfl) ⟨⟨ev_int, fun _ _ => rfl⟩, ⟨⟨(ev_var rfl (.inr (by kernel_rfl)) (by kernel_rfl) (by kernel_rfl)), fun _ _ => rfl⟩, trivial⟩⟩) (.inr ⟨_, rfl, (tr_cmp (ev_ar (op := .fmod) (ev_ar (op := .mul) (ev_var rfl (.inr (by kernel_rfl)) (by kernel_rfl) (by kernel_rfl)) (ev_var rfl (.inl (by kernel_rfl)) (by kernel_rfl) (by kernel_rfl))) (ev_var rfl (.inr (by kernel_rfl)) (by kernel_rfl) (by kernel_rfl))) ev_int)⟩) (ev_var rfl (.inl (by kernel_rfl)) (by kernel_rfl) (by kernel_rfl)) (fun _ _ => rfl)) ev_list0)) (bl_cons (st_ret ev_bool)
  bl_nil) bl_nil)
  (bl_cons (st_ret (ev_and2 (ev_cmp (op := .eq) (ev_comp nd (compSc_of rfl ⟨_, _, rfl, rfl, (by kernel_rfl)⟩ (by kernel_rfl)) (it_seq (ev_from1 (ev_var rfl (.inl (by kernel_rfl)) (by kernel_rfl) (by kernel_rfl)))) (.inr ⟨_, rfl, (tr_cmp (ev_var rfl (.inl (by kernel_rfl)) (by kernel_rfl) (by kernel_rfl)) ev_int)⟩) (ev_var rfl (.inl (by kernel_rfl)) (by kernel_rfl) (by kernel_rfl)) (fun _ _ => rfl)) ev_list0) (ev_or2 (ev_cmp (op := .eq) (ev_len hG (by kernel_rfl) ⟨⟨(ev_var rfl (.inl (by kernel_rfl)) (by kernel_rfl) (by kernel_rfl)), fun _ _ => rfl⟩, trivial⟩) ev_int) (ev_cmp (op := .gt) (ev_sub (ev_var rfl (.inl (by kernel_rfl)) (by kernel_rfl) (by kernel_rfl)) (ev_neg ev_int) (fun _ _ _ _ h => nomatch h)) ev_int))))
  bl_nil)))

theorem nd_law_listing : (nmsOf v_law_listing).Nodup := by decide +kernel
theorem bo_law_listing (P : Params) {G : Gr} {fa : Nat → Addr} {Φ : Phi} {k : Nat} (hG : GOk G fa) (hΦ : PhiOk G fa Φ k) {r : Row} (hr : r ∈ G.rows) (hcode : (FnAt.fc (fdAt P 145)).code = .ref r.c) (hkn : ∀ p ∈ ([⟨164, 53, 164, 75⟩] : List Pos), (p, (FnAt.fc (fdAt P 145)).qual ++ "<lambda>") ∈ r.known) :
    BlOk G Φ k (nmsOf v_law_listing) (FnAt.fc (fdAt P 145)) f_law_listing.own f_law_listing.body (bodyAt P 145) :=
  (bl_cons (st_newl rfl (.inl (by kernel_rfl)))
  (bl_cons (st_loop ⟨_, _, rfl, rfl, (.inl (by kernel_rfl))⟩ (it_r2 hG (by kernel_rfl) ⟨⟨ev_int, fun _ _ => rfl⟩, ⟨⟨(ev_ar (op := .add) (ev_var rfl (.inl (by kernel_rfl)) (by kernel_rfl) (by kernel_rfl)) ev_int), fun _ _ => rfl⟩, trivial⟩⟩) (bl_cons (st_loop ⟨_, _, rfl, rfl, (.inl (by kernel_rfl))⟩ (it_r1 hG (by kernel_rfl) ⟨⟨(ev_ar (op := .add) (ev_var rfl (.inl (by kernel_rfl)) (by kernel_rfl) (by kernel_rfl)) ev_int), fun _ _ => rfl⟩, trivial⟩) (bl_cons (st_assign rfl (.inl (by kernel_rfl)) (ev_call1 hG hΦ (n := "_law_row") rfl (by decide) (by decide) (by decide) (by kernel_rfl) (by kernel_rfl) ⟨⟨(ev_call2 hG hΦ (n := "_law_quotients") rfl (by decide) (by decide) (by decide) (by kernel_rfl) (by kernel_rfl) ⟨⟨(ev_var rfl (.inl (by kernel_rfl)) (by kernel_rfl) (by kernel_rfl)), fun _ _ => rfl⟩, ⟨⟨(ev_var rfl (.inl (by kernel_rfl)) (by kernel_rfl) (by kernel_rfl)), fun _ _ => rfl⟩, trivial⟩⟩), fun _ _ => rfl⟩, trivial⟩) (fun _ _ => rfl))
  (bl_cons (st_assign rfl (.inl (by kernel_rfl)) (ev_call1 hG hΦ (n := "_law_key") rfl (by decide) (by decide) (by decide) (by kernel_rfl) (by kernel_rfl) ⟨⟨(ev_var rfl (.inl (by kernel_rfl)) (by kernel_rfl) (by kernel_rfl)), fun _ _ => rfl⟩, trivial⟩) (fun _ _ => rfl))
  (bl_cons (st_assign rfl (.inl (by kernel_rfl)) (ev_callk hG hΦ (n := "bisect_left") rfl (by decide) (by kernel_rfl) (by kernel_rfl) ⟨_, _, _, _, _, rfl, rfl, (by kernel_rfl), (by decide +kernel), (by decide +kernel), rfl, rfl⟩ hr hcode (hkn _ (by simp)) ⟨⟨(ev_var rfl (.inl (by kernel_rfl)) (by kernel_rfl) (by kernel_rfl)), fun _ _ => rfl⟩, ⟨⟨(ev_var rfl (.inl (by kernel_rfl)) (by kernel_rfl) (by kernel_rfl)), fun _ _ => rfl⟩, trivial⟩⟩) (fun _ _ => rfl))
  (bl_cons (st_ite (tr_or2 (tr_cmp (ev_var rfl (.inl (by kernel_rfl)) (by kernel_rfl) (by kernel_rfl)) (ev_len hG (by kernel_rfl) ⟨⟨(ev_var rfl (.inl (by kernel_rfl)) (by kernel_rfl) (by kernel_rfl)), fun _ _ => rfl⟩, trivial⟩)) (tr_cmp (ev_sub (ev_sub (ev_var rfl (.inl (by kernel_rfl)) (by kernel_rfl) (by kernel_rfl)) (ev_var rfl (.inl (by kernel_rfl)) (by kernel_rfl) (by kernel_rfl)) (fun _ _ _ _ h => nomatch h)) ev_int (fun _ _ _ _ h => nomatch h)) (ev_var rfl (.inl (by kernel_rfl)) (by kernel_rfl) (by kernel_rfl)))) (bl_cons (st_ins rfl (by kernel_rfl) (by kernel_rfl) rfl ⟨⟨(ev_var rfl (.inl (by kernel_rfl)) (by kernel_rfl) (by kernel_rfl)), fun _ _ => rfl⟩, ⟨⟨(ev_tup3 ⟨⟨(ev_var rfl (.inl (by kernel_rfl)) (by kernel_rfl) (by kernel_rfl)), fun _ _ => rfl⟩, ⟨⟨(ev_var rfl (.inl (by kernel_rfl)) (by kernel_rfl) (by kernel_rfl)), fun _ _ => rfl⟩, ⟨⟨(ev_tup2 ⟨⟨(ev_var rfl (.inl (by kernel_rfl)) (by kernel_rfl) (by kernel_rfl)), fun _ _ => rfl⟩, ⟨⟨(ev_var rfl (.inl (by kernel_rfl)) (by kernel_rfl) (by kernel_rfl)), fun _ _ => rfl⟩, trivial⟩⟩), fun _ _ => rfl⟩, trivial⟩⟩⟩), fun _ _ => rfl⟩, trivial⟩⟩)
  bl_nil) bl_nil)
  bl_nil)))) (fun _ _ => rfl))
  bl_nil) (fun _ _ => rfl))
  (bl_cons (st_ret (ev_var rfl (.inl (by kernel_rfl)) (by kernel_rfl) (by kernel_rfl)))
  bl_nil)))

theorem nd_law_farey : (nmsOf v_law_farey).Nodup := by decide +kernel
theorem bo_law_farey (P : Params) {G : Gr} {fa : Nat → Addr} {Φ : Phi} {k : Nat} (hG : GOk G fa) (hΦ : PhiOk G fa Φ k) :
    BlOk G Φ k (nmsOf v_law_farey) (FnAt.fc (fdAt P 150)) f_law_farey.own f_law_farey.body (bodyAt P 150) :=
  have nd := nd_law_farey
  (bl_cons (st_newl rfl (.inl (by kernel_rfl)))
  (bl_cons (st_loop ⟨_, _, rfl, rfl, (.inr (by kernel_rfl))⟩ (it_r1 hG (by kernel_rfl) ⟨⟨ev_int, fun _ _ => rfl⟩, trivial⟩) (bl_cons (st_assignc rfl (.inl (by kernel_rfl)) (compSc_of rfl ⟨_, _, rfl, rfl, (by kernel_rfl)⟩ (by kernel_rfl)) (it_r2 hG (by kernel_rfl) ⟨⟨ev_int, fun _ _ => rfl⟩, ⟨⟨(ev_ar (op := .add) (ev_var rfl (.inl (by kernel_rfl)) (by kernel_rfl) (by kernel_rfl)) ev_int), fun _ _ => rfl⟩, trivial⟩⟩) (.inr ⟨_, rfl, (tr_cmp (ev_ar (op := .fmod) (ev_ar (op := .mul) (ev_var rfl (.inr (by kernel_rfl)) (by kernel_rfl) (by kernel_rfl)) (ev_var rfl (.inl (by kernel_rfl)) (by kernel_rfl) (by kernel_rfl))) ev_int) ev_int)⟩) (ev_var rfl (.inl (by kernel_rfl)) (by kernel_rfl) (by kernel_rfl)) (fun _ _ => rfl) (swap_local (by kernel_rfl) (by kernel_rfl)))
  (bl_cons (st_ite (tr_cmp (ev_var rfl (.inl (by kernel_rfl)) (by kernel_rfl) (by kernel_rfl)) ev_list0) (bl_cons (st_app rfl (by kernel_rfl) (by kernel_rfl) rfl ⟨⟨(ev_tup2 ⟨⟨(ev_ar (op := .fdiv) (ev_ar (op := .mul) (ev_var rfl (.inr (by kernel_rfl)) (by kernel_rfl) (by kernel_rfl)) (ev_sub (ev_var rfl (.inl (by kernel_rfl)) (by kernel_rfl) (by kernel_rfl)) ev_int (fun _ _ _ _ h => nomatch h))) ev_int), fun _ _ => rfl⟩, ⟨⟨(ev_sub (ev_var rfl (.inl (by kernel_rfl)) (by kernel_rfl) (by kernel_rfl)) ev_int (fun _ _ _ _ h => nomatch h)), fun _ _ => rfl⟩, trivial⟩⟩), fun _ _ => rfl⟩, trivial⟩)
  bl_nil) bl_nil)
  bl_nil)) (fun _ _ => rfl))
  (bl_cons (st_ret (ev_var rfl (.inl (by kernel_rfl)) (by kernel_rfl) (by kernel_rfl)))
  bl_nil)))

theorem nd_law_sign : (nmsOf v_law_sign).Nodup := by decide +kernel
theorem bo_law_sign (P : Params) {G : Gr} {fa : Nat → Addr} {Φ : Phi} {k : Nat} (hG : GOk G fa) (hΦ : PhiOk G fa Φ k) :
    BlOk G Φ k (nmsOf v_law_sign) (FnAt.fc (fdAt P 157)) f_law_sign.own f_law_sign.body (bodyAt P 157) :=
  (bl_cons (st_assign rfl (.inl (by kernel_rfl)) (ev_ar (op := .sub) (ev_ar (op := .mul) (ev_sub (ev_var rfl (.inl (by kernel_rfl)) (by kernel_rfl) (by kernel_rfl)) ev_int (fun _ _ _ _ h => nomatch h)) (ev_sub (ev_var rfl (.inl (by kernel_rfl)) (by kernel_rfl) (by kernel_rfl)) ev_int (fun _ _ _ _ h => nomatch h))) (ev_ar (op := .mul) (ev_sub (ev_var rfl (.inl (by kernel_rfl)) (by kernel_rfl) (by kernel_rfl)) ev_int (fun _ _ _ _ h => nomatch h)) (ev_sub (ev_var rfl (.inl (by kernel_rfl)) (by kernel_rfl) (by kernel_rfl)) ev_int (fun _ _ _ _ h => nomatch h)))) (fun _ _ => rfl))
  (bl_cons (st_ite (tr_cmp (ev_var rfl (.inl (by kernel_rfl)) (by kernel_rfl) (by kernel_rfl)) ev_int) (bl_cons (st_ret ev_int)
  bl_nil) bl_nil)
  (bl_cons (st_ret (ev_ite (tr_cmp (ev_var rfl (.inl (by kernel_rfl)) (by kernel_rfl) (by kernel_rfl)) ev_int) ev_int (ev_neg ev_int)))
  bl_nil)))

theorem nd_law_in_order : (nmsOf v_law_in_order).Nodup := by decide +kernel
theorem bo_law_in_order (P : Params) {G : Gr} {fa : Nat → Addr} {Φ : Phi} {k : Nat} (hG : GOk G fa) (hΦ : PhiOk G fa Φ k) (hk1 : 1 ≤ k) {K : Frag} {fI : Addr} {fd : FuncData} (hC : COk G K fI (fa 0) fd) :
    BlOk G Φ k (nmsOf v_law_in_order) (FnAt.fc (fdAt P 162)) f_law_in_order.own f_law_in_order.body (bodyAt P 162) :=
  have nd := nd_law_in_order
  (bl_cons (st_assign rfl (.inl (by kernel_rfl)) (ev_mk hG hC hk1 (by kernel_rfl) ⟨⟨(ev_comp nd (compSc_of rfl ⟨_, _, rfl, rfl, (by kernel_rfl)⟩ (by kernel_rfl)) (it_r1 hG (by kernel_rfl) ⟨⟨ev_int, fun _ _ => rfl⟩, trivial⟩) (.inl ⟨rfl, rfl⟩) (ev_tup2 ⟨⟨(ev_var rfl (.inl (by kernel_rfl)) (by kernel_rfl) (by kernel_rfl)), fun _ _ => rfl⟩, ⟨⟨(ev_ar (op := .sub) ev_int (ev_ar (op := .mul) (ev_ar (op := .fmod) (ev_var rfl (.inl (by kernel_rfl)) (by kernel_rfl) (by kernel_rfl)) ev_int) ev_int)), fun _ _ => rfl⟩, trivial⟩⟩) (fun _ _ => rfl)), fun _ _ => rfl⟩, trivial⟩) (fun _ _ => rfl))
  (bl_cons (st_assign rfl (.inl (by kernel_rfl)) (ev_mk hG hC hk1 (by kernel_rfl) ⟨⟨(ev_comp nd (compSc_of rfl ⟨_, _, rfl, rfl, (by kernel_rfl)⟩ (by kernel_rfl)) (it_r1 hG (by kernel_rfl) ⟨⟨ev_int, fun _ _ => rfl⟩, trivial⟩) (.inl ⟨rfl, rfl⟩) (ev_tup2 ⟨⟨(ev_var rfl (.inl (by kernel_rfl)) (by kernel_rfl) (by kernel_rfl)), fun _ _ => rfl⟩, ⟨⟨(ev_ar (op := .sub) (ev_ar (op := .mul) (ev_ar (op := .fmod) (ev_var rfl (.inl (by kernel_rfl)) (by kernel_rfl) (by kernel_rfl)) ev_int) ev_int) ev_int), fun _ _ => rfl⟩, trivial⟩⟩) (fun _ _ => rfl)), fun _ _ => rfl⟩, trivial⟩) (fun _ _ => rfl))
  (bl_cons (st_loop ⟨_, _, _, _, _, _, rfl, rfl, rfl, (.inl (by kernel_rfl)), (.inl (by kernel_rfl))⟩ (it_seq (ev_var rfl (.inl (by kernel_rfl)) (by kernel_rfl) (by kernel_rfl))) (bl_cons (st_loop ⟨_, _, _, _, _, _, rfl, rfl, rfl, (.inl (by kernel_rfl)), (.inl (by kernel_rfl))⟩ (it_seq (ev_var rfl (.inl (by kernel_rfl)) (by kernel_rfl) (by kernel_rfl))) (bl_cons (st_assign rfl (.inl (by kernel_rfl)) (ev_call2 hG hΦ (n := "_law_sign") rfl (by decide) (by decide) (by decide) (by kernel_rfl) (by kernel_rfl) ⟨⟨(ev_var rfl (.inl (by kernel_rfl)) (by kernel_rfl) (by kernel_rfl)), fun _ _ => rfl⟩, ⟨⟨(ev_var rfl (.inl (by kernel_rfl)) (by kernel_rfl) (by kernel_rfl)), fun _ _ => rfl⟩, trivial⟩⟩) (fun _ _ => rfl))
  (bl_cons (st_ite (tr_or2 (tr_cmp (ev_cmpr hC hΦ (ev_var rfl (.inl (by kernel_rfl)) (by kernel_rfl) (by kernel_rfl)) rfl ⟨⟨(ev_var rfl (.inl (by kernel_rfl)) (by kernel_rfl) (by kernel_rfl)), fun _ _ => rfl⟩, ⟨⟨(ev_var rfl (.inl (by kernel_rfl)) (by kernel_rfl) (by kernel_rfl)), fun _ _ => rfl⟩, trivial⟩⟩) (ev_var rfl (.inl (by kernel_rfl)) (by kernel_rfl) (by kernel_rfl))) (tr_cmp (ev_cmpr hC hΦ (ev_var rfl (.inl (by kernel_rfl)) (by kernel_rfl) (by kernel_rfl)) rfl ⟨⟨(ev_var rfl (.inl (by kernel_rfl)) (by kernel_rfl) (by kernel_rfl)), fun _ _ => rfl⟩, ⟨⟨(ev_var rfl (.inl (by kernel_rfl)) (by kernel_rfl) (by kernel_rfl)), fun _ _ => rfl⟩, trivial⟩⟩) (ev_neg (ev_var rfl (.inl (by kernel_rfl)) (by kernel_rfl) (by kernel_rfl))))) (bl_cons (st_ret ev_bool)
  bl_nil) bl_nil)
  bl_nil)) (fun _ _ => rfl))
  bl_nil) (fun _ _ => rfl))
  (bl_cons (st_ret ev_bool)
  bl_nil))))

theorem nd_law_nearest : (nmsOf v_law_nearest).Nodup := by decide +kernel
theorem bo_law_nearest (P : Params) {G : Gr} {fa : Nat → Addr} {Φ : Phi} {k : Nat} (hG : GOk G fa) (hΦ : PhiOk G fa Φ k) :
    BlOk G Φ k (nmsOf v_law_nearest) (FnAt.fc (fdAt P 169)) f_law_nearest.own f_law_nearest.body (bodyAt P 169) :=
  (bl_cons (st_assign rfl (.inl (by kernel_rfl)) ev_nil (fun _ _ => rfl))
  (bl_cons (st_assign rfl (.inl (by kernel_rfl)) ev_nil (fun _ _ => rfl))
  (bl_cons (st_loop ⟨_, _, rfl, rfl, (.inl (by kernel_rfl))⟩ (it_r2 hG (by kernel_rfl) ⟨⟨ev_int, fun _ _ => rfl⟩, ⟨⟨(ev_ar (op := .add) (ev_var rfl (.inl (by kernel_rfl)) (by kernel_rfl) (by kernel_rfl)) ev_int), fun _ _ => rfl⟩, trivial⟩⟩) (bl_cons (st_assign rfl (.inl (by kernel_rfl)) (ev_ar (op := .fdiv) (ev_ar (op := .sub) (ev_ar (op := .mul) (ev_var rfl (.inl (by kernel_rfl)) (by kernel_rfl) (by kernel_rfl)) (ev_var rfl (.inl (by kernel_rfl)) (by kernel_rfl) (by kernel_rfl))) ev_int) (ev_var rfl (.inl (by kernel_rfl)) (by kernel_rfl) (by kernel_rfl))) (fun _ _ => rfl))
  (bl_cons (st_ite (tr_and2 (tr_cmp (ev_var rfl (.inl (by kernel_rfl)) (by kernel_rfl) (by kernel_rfl)) ev_int) (tr_or2 (tr_isNone (ev_var rfl (.inl (by kernel_rfl)) (by kernel_rfl) (by kernel_rfl))) (tr_cmp (ev_ar (op := .mul) (ev_var rfl (.inl (by kernel_rfl)) (by kernel_rfl) (by kernel_rfl)) (ev_sub (ev_var rfl (.inl (by kernel_rfl)) (by kernel_rfl) (by kernel_rfl)) ev_int (fun _ _ _ _ h => nomatch h))) (ev_ar (op := .mul) (ev_sub (ev_var rfl (.inl (by kernel_rfl)) (by kernel_rfl) (by kernel_rfl)) ev_int (fun _ _ _ _ h => nomatch h)) (ev_var rfl (.inl (by kernel_rfl)) (by kernel_rfl) (by kernel_rfl)))))) (bl_cons (st_assign rfl (.inl (by kernel_rfl)) (ev_tup2 ⟨⟨(ev_var rfl (.inl (by kernel_rfl)) (by kernel_rfl) (by kernel_rfl)), fun _ _ => rfl⟩, ⟨⟨(ev_var rfl (.inl (by kernel_rfl)) (by kernel_rfl) (by kernel_rfl)), fun _ _ => rfl⟩, trivial⟩⟩) (fun _ _ => rfl))
  bl_nil) bl_nil)
  (bl_cons (st_assign rfl (.inl (by kernel_rfl)) (ev_ar (op := .add) (ev_ar (op := .fdiv) (ev_ar (op := .mul) (ev_var rfl (.inl (by kernel_rfl)) (by kernel_rfl) (by kernel_rfl)) (ev_var rfl (.inl (by kernel_rfl)) (by kernel_rfl) (by kernel_rfl))) (ev_var rfl (.inl (by kernel_rfl)) (by kernel_rfl) (by kernel_rfl))) ev_int) (fun _ _ => rfl))
  (bl_cons (st_ite (tr_or2 (tr_isNone (ev_var rfl (.inl (by kernel_rfl)) (by kernel_rfl) (by kernel_rfl))) (tr_cmp (ev_ar (op := .mul) (ev_var rfl (.inl (by kernel_rfl)) (by kernel_rfl) (by kernel_rfl)) (ev_sub (ev_var rfl (.inl (by kernel_rfl)) (by kernel_rfl) (by kernel_rfl)) ev_int (fun _ _ _ _ h => nomatch h))) (ev_ar (op := .mul) (ev_sub (ev_var rfl (.inl (by kernel_rfl)) (by kernel_rfl) (by kernel_rfl)) ev_int (fun _ _ _ _ h => nomatch h)) (ev_var rfl (.inl (by kernel_rfl)) (by kernel_rfl) (by kernel_rfl))))) (bl_cons (st_assign rfl (.inl (by kernel_rfl)) (ev_tup2 ⟨⟨(ev_var rfl (.inl (by kernel_rfl)) (by kernel_rfl) (by kernel_rfl)), fun _ _ => rfl⟩, ⟨⟨(ev_var rfl (.inl (by kernel_rfl)) (by kernel_rfl) (by kernel_rfl)), fun _ _ => rfl⟩, trivial⟩⟩) (fun _ _ => rfl))
  bl_nil) bl_nil)
  bl_nil)))) (fun _ _ => rfl))
  (bl_cons (st_ret (ev_tup2 ⟨⟨(ev_var rfl (.inl (by kernel_rfl)) (by kernel_rfl) (by kernel_rfl)), fun _ _ => rfl⟩, ⟨⟨(ev_var rfl (.inl (by kernel_rfl)) (by kernel_rfl) (by kernel_rfl)), fun _ _ => rfl⟩, trivial⟩⟩))
  bl_nil))))

theorem nd_law_stands : (nmsOf v_law_stands).Nodup := by decide +kernel
theorem bo_law_stands (P : Params) {G : Gr} {fa : Nat → Addr} {Φ : Phi} {k : Nat} (hG : GOk G fa) (hΦ : PhiOk G fa Φ k) {r : Row} (hr : r ∈ G.rows) (hcode : (FnAt.fc (fdAt P 176)).code = .ref r.c) (hkn : ∀ p ∈ ([⟨201, 52, 201, 74⟩, ⟨202, 52, 202, 74⟩] : List Pos), (p, (FnAt.fc (fdAt P 176)).qual ++ "<lambda>") ∈ r.known) :
    BlOk G Φ k (nmsOf v_law_stands) (FnAt.fc (fdAt P 176)) f_law_stands.own f_law_stands.body (bodyAt P 176) :=
  (bl_cons (st_assign rfl (.inl (by kernel_rfl)) (ev_callk hG hΦ (n := "bisect_left") rfl (by decide) (by kernel_rfl) (by kernel_rfl) ⟨_, _, _, _, _, rfl, rfl, (by kernel_rfl), (by decide +kernel), (by decide +kernel), rfl, rfl⟩ hr hcode (hkn _ (by simp)) ⟨⟨(ev_var rfl (.inl (by kernel_rfl)) (by kernel_rfl) (by kernel_rfl)), fun _ _ => rfl⟩, ⟨⟨(ev_call1 hG hΦ (n := "_law_key") rfl (by decide) (by decide) (by decide) (by kernel_rfl) (by kernel_rfl) ⟨⟨(ev_var rfl (.inl (by kernel_rfl)) (by kernel_rfl) (by kernel_rfl)), fun _ _ => rfl⟩, trivial⟩), fun _ _ => rfl⟩, trivial⟩⟩) (fun _ _ => rfl))
  (bl_cons (st_assign rfl (.inl (by kernel_rfl)) (ev_callk hG hΦ (n := "bisect_right") rfl (by decide) (by kernel_rfl) (by kernel_rfl) ⟨_, _, _, _, _, rfl, rfl, (by kernel_rfl), (by decide +kernel), (by decide +kernel), rfl, rfl⟩ hr hcode (hkn _ (by simp)) ⟨⟨(ev_var rfl (.inl (by kernel_rfl)) (by kernel_rfl) (by kernel_rfl)), fun _ _ => rfl⟩, ⟨⟨(ev_call1 hG hΦ (n := "_law_key") rfl (by decide) (by decide) (by decide) (by kernel_rfl) (by kernel_rfl) ⟨⟨(ev_var rfl (.inl (by kernel_rfl)) (by kernel_rfl) (by kernel_rfl)), fun _ _ => rfl⟩, trivial⟩), fun _ _ => rfl⟩, trivial⟩⟩) (fun _ _ => rfl))
  (bl_cons (st_assign rfl (.inl (by kernel_rfl)) (ev_ite (tr_cmp (ev_var rfl (.inl (by kernel_rfl)) (by kernel_rfl) (by kernel_rfl)) ev_int) (ev_sub (ev_sub (ev_var rfl (.inl (by kernel_rfl)) (by kernel_rfl) (by kernel_rfl)) (ev_ar (op := .sub) (ev_var rfl (.inl (by kernel_rfl)) (by kernel_rfl) (by kernel_rfl)) ev_int) (fun _ _ _ _ h => nomatch h)) ev_int (fun _ _ _ _ h => nomatch h)) ev_nil) (fun _ _ => rfl))
  (bl_cons (st_assign rfl (.inl (by kernel_rfl)) (ev_sub (ev_sub (ev_var rfl (.inl (by kernel_rfl)) (by kernel_rfl) (by kernel_rfl)) (ev_var rfl (.inl (by kernel_rfl)) (by kernel_rfl) (by kernel_rfl)) (fun _ _ _ _ h => nomatch h)) ev_int (fun _ _ _ _ h => nomatch h)) (fun _ _ => rfl))
  (bl_cons (st_ite (tr_cmp (ev_tup2 ⟨⟨(ev_var rfl (.inl (by kernel_rfl)) (by kernel_rfl) (by kernel_rfl)), fun _ _ => rfl⟩, ⟨⟨(ev_var rfl (.inl (by kernel_rfl)) (by kernel_rfl) (by kernel_rfl)), fun _ _ => rfl⟩, trivial⟩⟩) (ev_call3 hG hΦ (n := "_law_nearest") rfl (by decide) (by decide) (by decide) (by kernel_rfl) (by kernel_rfl) ⟨⟨(ev_var rfl (.inl (by kernel_rfl)) (by kernel_rfl) (by kernel_rfl)), fun _ _ => rfl⟩, ⟨⟨(ev_var rfl (.inl (by kernel_rfl)) (by kernel_rfl) (by kernel_rfl)), fun _ _ => rfl⟩, ⟨⟨(ev_var rfl (.inl (by kernel_rfl)) (by kernel_rfl) (by kernel_rfl)), fun _ _ => rfl⟩, trivial⟩⟩⟩)) (bl_cons (st_ret ev_bool)
  bl_nil) bl_nil)
  (bl_cons (st_ite (tr_isNone (ev_var rfl (.inl (by kernel_rfl)) (by kernel_rfl) (by kernel_rfl))) (bl_cons (st_ret (ev_and2 (ev_cmp (op := .eq) (ev_var rfl (.inl (by kernel_rfl)) (by kernel_rfl) (by kernel_rfl)) ev_int) (ev_cmp (op := .eq) (ev_tup2 ⟨⟨(ev_var rfl (.inl (by kernel_rfl)) (by kernel_rfl) (by kernel_rfl)), fun _ _ => rfl⟩, ⟨⟨(ev_var rfl (.inl (by kernel_rfl)) (by kernel_rfl) (by kernel_rfl)), fun _ _ => rfl⟩, trivial⟩⟩) (ev_tup2 ⟨⟨ev_int, fun _ _ => rfl⟩, ⟨⟨ev_int, fun _ _ => rfl⟩, trivial⟩⟩))))
  bl_nil) bl_nil)
  (bl_cons (st_ite (tr_cmp (ev_var rfl (.inl (by kernel_rfl)) (by kernel_rfl) (by kernel_rfl)) (ev_var rfl (.inl (by kernel_rfl)) (by kernel_rfl) (by kernel_rfl))) (bl_cons (st_ret (ev_and2 (ev_cmp (op := .eq) (ev_ar (op := .sub) (ev_ar (op := .mul) (ev_sub (ev_var rfl (.inl (by kernel_rfl)) (by kernel_rfl) (by kernel_rfl)) ev_int (fun _ _ _ _ h => nomatch h)) (ev_sub (ev_var rfl (.inl (by kernel_rfl)) (by kernel_rfl) (by kernel_rfl)) ev_int (fun _ _ _ _ h => nomatch h))) (ev_ar (op := .mul) (ev_sub (ev_var rfl (.inl (by kernel_rfl)) (by kernel_rfl) (by kernel_rfl)) ev_int (fun _ _ _ _ h => nomatch h)) (ev_sub (ev_var rfl (.inl (by kernel_rfl)) (by kernel_rfl) (by kernel_rfl)) ev_int (fun _ _ _ _ h => nomatch h)))) ev_int) (ev_cmp (op := .gt) (ev_ar (op := .add) (ev_sub (ev_var rfl (.inl (by kernel_rfl)) (by kernel_rfl) (by kernel_rfl)) ev_int (fun _ _ _ _ h => nomatch h)) (ev_sub (ev_var rfl (.inl (by kernel_rfl)) (by kernel_rfl) (by kernel_rfl)) ev_int (fun _ _ _ _ h => nomatch h))) (ev_var rfl (.inl (by kernel_rfl)) (by kernel_rfl) (by kernel_rfl)))))
  bl_nil) bl_nil)
  (bl_cons (st_ret (ev_and2 (ev_cmp (op := .eq) (ev_var rfl (.inl (by kernel_rfl)) (by kernel_rfl) (by kernel_rfl)) (ev_ar (op := .add) (ev_var rfl (.inl (by kernel_rfl)) (by kernel_rfl) (by kernel_rfl)) ev_int)) (ev_cmp (op := .eq) (ev_ar (op := .mul) (ev_ar (op := .add) (ev_sub (ev_var rfl (.inl (by kernel_rfl)) (by kernel_rfl) (by kernel_rfl)) ev_int (fun _ _ _ _ h => nomatch h)) (ev_sub (ev_var rfl (.inl (by kernel_rfl)) (by kernel_rfl) (by kernel_rfl)) ev_int (fun _ _ _ _ h => nomatch h))) (ev_var rfl (.inl (by kernel_rfl)) (by kernel_rfl) (by kernel_rfl))) (ev_ar (op := .mul) (ev_ar (op := .add) (ev_sub (ev_var rfl (.inl (by kernel_rfl)) (by kernel_rfl) (by kernel_rfl)) ev_int (fun _ _ _ _ h => nomatch h)) (ev_sub (ev_var rfl (.inl (by kernel_rfl)) (by kernel_rfl) (by kernel_rfl)) ev_int (fun _ _ _ _ h => nomatch h))) (ev_var rfl (.inl (by kernel_rfl)) (by kernel_rfl) (by kernel_rfl))))))
  bl_nil))))))))

theorem nd_law : (nmsOf v_law).Nodup := by decide +kernel
theorem bo_law (P : Params) {G : Gr} {fa : Nat → Addr} {Φ : Phi} {k : Nat} (hG : GOk G fa) (hΦ : PhiOk G fa Φ k) :
    BlOk G Φ k (nmsOf v_law) (FnAt.fc (fdAt P 181)) f_law.own f_law.body (bodyAt P 181) :=
  have nd := nd_law
  (bl_cons (st_assign rfl (.inr (by kernel_rfl)) (ev_ar (op := .add) ev_int (ev_ar (op := .fmod) (ev_len hG (by kernel_rfl) ⟨⟨(ev_var rfl (.inl (by kernel_rfl)) (by kernel_rfl) (by kernel_rfl)), fun _ _ => rfl⟩, trivial⟩) ev_int)) (fun _ _ => rfl))
  (bl_cons (st_assign rfl (.inr (by kernel_rfl)) (ev_call1 hG hΦ (n := "_law_fractions") rfl (by decide) (by decide) (by decide) (by kernel_rfl) (by kernel_rfl) ⟨⟨(ev_var rfl (.inl (by kernel_rfl)) (by kernel_rfl) (by kernel_rfl)), fun _ _ => rfl⟩, trivial⟩) (fun _ _ => rfl))
  (bl_cons (st_assign rfl (.inr (by kernel_rfl)) (ev_comp nd (compSc_of rfl ⟨_, _, _, _, _, _, rfl, rfl, rfl, (by kernel_rfl), (by kernel_rfl)⟩ (by kernel_rfl)) (it_seq (ev_var rfl (.inr (by kernel_rfl)) (by kernel_rfl) (by kernel_rfl))) (.inl ⟨rfl, rfl⟩) (ev_call2 hG hΦ (n := "_law_quotients") rfl (by decide) (by decide) (by decide) (by kernel_rfl) (by kernel_rfl) ⟨⟨(ev_var rfl (.inl (by kernel_rfl)) (by kernel_rfl) (by kernel_rfl)), fun _ _ => rfl⟩, ⟨⟨(ev_var rfl (.inl (by kernel_rfl)) (by kernel_rfl) (by kernel_rfl)), fun _ _ => rfl⟩, trivial⟩⟩) (fun _ _ => rfl)) (swap_cell (by kernel_rfl)))
  (bl_cons (st_ite (tr_cmp (ev_comp nd (compSc_of rfl ⟨_, _, rfl, rfl, (by kernel_rfl)⟩ (by kernel_rfl)) (it_r1 hG (by kernel_rfl) ⟨⟨ev_int, fun _ _ => rfl⟩, trivial⟩) (.inr ⟨_, rfl, (tr_not (TrOk.plain (ev_call3 hG hΦ (n := "_law_is_run") rfl (by decide) (by decide) (by decide) (by kernel_rfl) (by kernel_rfl) ⟨⟨(ev_sub (ev_var rfl (.inr (by kernel_rfl)) (by kernel_rfl) (by kernel_rfl)) (ev_var rfl (.inl (by kernel_rfl)) (by kernel_rfl) (by kernel_rfl)) (fun _ _ _ _ h => nomatch h)), fun _ _ => rfl⟩, ⟨⟨(ev_sub (ev_sub (ev_var rfl (.inr (by kernel_rfl)) (by kernel_rfl) (by kernel_rfl)) (ev_var rfl (.inl (by kernel_rfl)) (by kernel_rfl) (by kernel_rfl)) (fun _ _ _ _ h => nomatch h)) ev_int (fun _ _ _ _ h => nomatch h)), fun _ _ => rfl⟩, ⟨⟨(ev_sub (ev_sub (ev_var rfl (.inr (by kernel_rfl)) (by kernel_rfl) (by kernel_rfl)) (ev_var rfl (.inl (by kernel_rfl)) (by kernel_rfl) (by kernel_rfl)) (fun _ _ _ _ h => nomatch h)) ev_int (fun _ _ _ _ h => nomatch h)), fun _ _ => rfl⟩, trivial⟩⟩⟩) (fun _ _ => rfl)))⟩) (ev_var rfl (.inl (by kernel_rfl)) (by kernel_rfl) (by kernel_rfl)) (fun _ _ => rfl)) ev_list0) (bl_cons (st_ret ev_bool)
  bl_nil) bl_nil)
  (bl_cons (st_assign rfl (.inr (by kernel_rfl)) (ev_call1 hG hΦ (n := "_law_listing") rfl (by decide) (by decide) (by decide) (by kernel_rfl) (by kernel_rfl) ⟨⟨(ev_var rfl (.inr (by kernel_rfl)) (by kernel_rfl) (by kernel_rfl)), fun _ _ => rfl⟩, trivial⟩) (fun _ _ => rfl))
  (bl_cons (st_assign rfl (.inr (by kernel_rfl)) (ev_comp nd (compSc_of rfl ⟨_, _, rfl, rfl, (by kernel_rfl)⟩ (by kernel_rfl)) (it_seq (ev_var rfl (.inr (by kernel_rfl)) (by kernel_rfl) (by kernel_rfl))) (.inl ⟨rfl, rfl⟩) (ev_sub (ev_var rfl (.inl (by kernel_rfl)) (by kernel_rfl) (by kernel_rfl)) ev_int (fun _ _ _ _ h => nomatch h)) (fun _ _ => rfl)) (swap_cell (by kernel_rfl)))
  (bl_cons (st_ite (tr_cmp (ev_var rfl (.inr (by kernel_rfl)) (by kernel_rfl) (by kernel_rfl)) (ev_call1 hG hΦ (n := "_law_farey") rfl (by decide) (by decide) (by decide) (by kernel_rfl) (by kernel_rfl) ⟨⟨(ev_var rfl (.inr (by kernel_rfl)) (by kernel_rfl) (by kernel_rfl)), fun _ _ => rfl⟩, trivial⟩)) (bl_cons (st_ret ev_bool)
  bl_nil) bl_nil)
  (bl_cons (st_ite (tr_cmp (ev_comp nd (compSc_of rfl ⟨_, _, rfl, rfl, (by kernel_rfl)⟩ (by kernel_rfl)) (it_r2 hG (by kernel_rfl) ⟨⟨ev_int, fun _ _ => rfl⟩, ⟨⟨(ev_len hG (by kernel_rfl) ⟨⟨(ev_var rfl (.inr (by kernel_rfl)) (by kernel_rfl) (by kernel_rfl)), fun _ _ => rfl⟩, trivial⟩), fun _ _ => rfl⟩, trivial⟩⟩) (.inr ⟨_, rfl, (tr_cmp (ev_ar (op := .sub) (ev_ar (op := .mul) (ev_sub (ev_sub (ev_var rfl (.inr (by kernel_rfl)) (by kernel_rfl) (by kernel_rfl)) (ev_var rfl (.inl (by kernel_rfl)) (by kernel_rfl) (by kernel_rfl)) (fun _ _ _ _ h => nomatch h)) ev_int (fun _ _ _ _ h => nomatch h)) (ev_sub (ev_sub (ev_var rfl (.inr (by kernel_rfl)) (by kernel_rfl) (by kernel_rfl)) (ev_ar (op := .sub) (ev_var rfl (.inl (by kernel_rfl)) (by kernel_rfl) (by kernel_rfl)) ev_int) (fun _ _ _ _ h => nomatch h)) ev_int (fun _ _ _ _ h => nomatch h))) (ev_ar (op := .mul) (ev_sub (ev_sub (ev_var rfl (.inr (by kernel_rfl)) (by kernel_rfl) (by kernel_rfl)) (ev_ar (op := .sub) (ev_var rfl (.inl (by kernel_rfl)) (by kernel_rfl) (by kernel_rfl)) ev_int) (fun _ _ _ _ h => nomatch h)) ev_int (fun _ _ _ _ h => nomatch h)) (ev_sub (ev_sub (ev_var rfl (.inr (by kernel_rfl)) (by kernel_rfl) (by kernel_rfl)) (ev_var rfl (.inl (by kernel_rfl)) (by kernel_rfl) (by kernel_rfl)) (fun _ _ _ _ h => nomatch h)) ev_int (fun _ _ _ _ h => nomatch h)))) ev_int)⟩) (ev_var rfl (.inl (by kernel_rfl)) (by kernel_rfl) (by kernel_rfl)) (fun _ _ => rfl)) ev_list0) (bl_cons (st_ret ev_bool)
  bl_nil) bl_nil)
  (bl_cons (st_assignc rfl (.inl (by kernel_rfl)) (compSc_of rfl ⟨_, _, rfl, rfl, (by kernel_rfl)⟩ (by kernel_rfl)) (it_r1 hG (by kernel_rfl) ⟨⟨ev_int, fun _ _ => rfl⟩, trivial⟩) (.inl ⟨rfl, rfl⟩) (ev_tup2 ⟨⟨(ev_call1 hG hΦ (n := "_law_row") rfl (by decide) (by decide) (by decide) (by kernel_rfl) (by kernel_rfl) ⟨⟨(ev_sub (ev_var rfl (.inr (by kernel_rfl)) (by kernel_rfl) (by kernel_rfl)) (ev_var rfl (.inl (by kernel_rfl)) (by kernel_rfl) (by kernel_rfl)) (fun _ _ _ _ h => nomatch h)), fun _ _ => rfl⟩, trivial⟩), fun _ _ => rfl⟩, ⟨⟨(ev_sub (ev_var rfl (.inr (by kernel_rfl)) (by kernel_rfl) (by kernel_rfl)) (ev_var rfl (.inl (by kernel_rfl)) (by kernel_rfl) (by kernel_rfl)) (fun _ _ _ _ h => nomatch h)), fun _ _ => rfl⟩, trivial⟩⟩) (fun _ _ => rfl) (swap_local (by kernel_rfl) (by kernel_rfl)))
  (bl_cons (st_assignc rfl (.inl (by kernel_rfl)) (compSc_of rfl ⟨_, _, rfl, rfl, (by kernel_rfl)⟩ (by kernel_rfl)) (it_r1 hG (by kernel_rfl) ⟨⟨ev_int, fun _ _ => rfl⟩, trivial⟩) (.inl ⟨rfl, rfl⟩) (ev_tup2 ⟨⟨(ev_call1 hG hΦ (n := "_law_row") rfl (by decide) (by decide) (by decide) (by kernel_rfl) (by kernel_rfl) ⟨⟨(ev_cat (ev_list1 ⟨⟨ev_int, fun _ _ => rfl⟩, trivial⟩) (ev_from1 (ev_sub (ev_var rfl (.inr (by kernel_rfl)) (by kernel_rfl) (by kernel_rfl)) (ev_var rfl (.inl (by kernel_rfl)) (by kernel_rfl) (by kernel_rfl)) (fun _ _ _ _ h => nomatch h)))), fun _ _ => rfl⟩, trivial⟩), fun _ _ => rfl⟩, ⟨⟨(ev_tup2 ⟨⟨(ev_ar (op := .fmod) (ev_sub (ev_sub (ev_var rfl (.inr (by kernel_rfl)) (by kernel_rfl) (by kernel_rfl)) (ev_var rfl (.inl (by kernel_rfl)) (by kernel_rfl) (by kernel_rfl)) (fun _ _ _ _ h => nomatch h)) ev_int (fun _ _ _ _ h => nomatch h)) (ev_sub (ev_sub (ev_var rfl (.inr (by kernel_rfl)) (by kernel_rfl) (by kernel_rfl)) (ev_var rfl (.inl (by kernel_rfl)) (by kernel_rfl) (by kernel_rfl)) (fun _ _ _ _ h => nomatch h)) ev_int (fun _ _ _ _ h => nomatch h))), fun _ _ => rfl⟩, ⟨⟨(ev_sub (ev_sub (ev_var rfl (.inr (by kernel_rfl)) (by kernel_rfl) (by kernel_rfl)) (ev_var rfl (.inl (by kernel_rfl)) (by kernel_rfl) (by kernel_rfl)) (fun _ _ _ _ h => nomatch h)) ev_int (fun _ _ _ _ h => nomatch h)), fun _ _ => rfl⟩, trivial⟩⟩), fun _ _ => rfl⟩, trivial⟩⟩) (fun _ _ => rfl) (swap_local (by kernel_rfl) (by kernel_rfl)))
  (bl_cons (st_ite (tr_not (TrOk.plain (ev_call2 hG hΦ (n := "_law_in_order") rfl (by decide) (by decide) (by decide) (by kernel_rfl) (by kernel_rfl) ⟨⟨(ev_var rfl (.inl (by kernel_rfl)) (by kernel_rfl) (by kernel_rfl)), fun _ _ => rfl⟩, ⟨⟨(ev_var rfl (.inl (by kernel_rfl)) (by kernel_rfl) (by kernel_rfl)), fun _ _ => rfl⟩, trivial⟩⟩) (fun _ _ => rfl))) (bl_cons (st_ret ev_bool)
  bl_nil) bl_nil)
  (bl_cons (st_ite (tr_not (TrOk.plain (ev_call2 hG hΦ (n := "_law_in_order") rfl (by decide) (by decide) (by decide) (by kernel_rfl) (by kernel_rfl) ⟨⟨(ev_var rfl (.inl (by kernel_rfl)) (by kernel_rfl) (by kernel_rfl)), fun _ _ => rfl⟩, ⟨⟨(ev_cat (ev_comp nd (compSc_of rfl ⟨_, _, rfl, rfl, (by kernel_rfl)⟩ (by kernel_rfl)) (it_seq (ev_var rfl (.inr (by kernel_rfl)) (by kernel_rfl) (by kernel_rfl))) (.inl ⟨rfl, rfl⟩) (ev_tup2 ⟨⟨(ev_sub (ev_var rfl (.inl (by kernel_rfl)) (by kernel_rfl) (by kernel_rfl)) ev_int (fun _ _ _ _ h => nomatch h)), fun _ _ => rfl⟩, ⟨⟨(ev_sub (ev_var rfl (.inl (by kernel_rfl)) (by kernel_rfl) (by kernel_rfl)) ev_int (fun _ _ _ _ h => nomatch h)), fun _ _ => rfl⟩, trivial⟩⟩) (fun _ _ => rfl)) (ev_var rfl (.inl (by kernel_rfl)) (by kernel_rfl) (by kernel_rfl))), fun _ _ => rfl⟩, trivial⟩⟩) (fun _ _ => rfl))) (bl_cons (st_ret ev_bool)
  bl_nil) bl_nil)
  (bl_cons (st_ret (ev_cmp (op := .eq) (ev_comp nd (compSc_of rfl ⟨_, _, _, _, _, _, rfl, rfl, rfl, (by kernel_rfl), (by kernel_rfl)⟩ (by kernel_rfl)) (it_seq (ev_var rfl (.inl (by kernel_rfl)) (by kernel_rfl) (by kernel_rfl))) (.inr ⟨_, rfl, (tr_not (TrOk.plain (ev_call5 hG hΦ (n := "_law_stands") rfl (by decide) (by decide) (by decide) (by kernel_rfl) (by kernel_rfl) ⟨⟨(ev_var rfl (.inr (by kernel_rfl)) (by kernel_rfl) (by kernel_rfl)), fun _ _ => rfl⟩, ⟨⟨(ev_var rfl (.inl (by kernel_rfl)) (by kernel_rfl) (by kernel_rfl)), fun _ _ => rfl⟩, ⟨⟨(ev_sub (ev_var rfl (.inl (by kernel_rfl)) (by kernel_rfl) (by kernel_rfl)) ev_int (fun _ _ _ _ h => nomatch h)), fun _ _ => rfl⟩, ⟨⟨(ev_sub (ev_var rfl (.inl (by kernel_rfl)) (by kernel_rfl) (by kernel_rfl)) ev_int (fun _ _ _ _ h => nomatch h)), fun _ _ => rfl⟩, ⟨⟨(ev_var rfl (.inr (by kernel_rfl)) (by kernel_rfl) (by kernel_rfl)), fun _ _ => rfl⟩, trivial⟩⟩⟩⟩⟩) (fun _ _ => rfl)))⟩) (ev_var rfl (.inl (by kernel_rfl)) (by kernel_rfl) (by kernel_rfl)) (fun _ _ => rfl)) ev_list0))
  bl_nil)))))))))))))

end Mine

/-! LV -/
namespace Mine
open PySem PySem.W PyProof.Rows PySem.Calls PySem.Spec PySem.SeqAt

noncomputable def fa0 : Nat → Addr := fun i => [35, 84, 77, 63, 70, 49, 102, 93, 107, 114, 121, 126, 133, 138, 145, 150, 157, 162, 169, 176, 181].getD i 0
noncomputable def row19 (P : Params) : Row := ⟨175, 171, [(⟨201, 52, 201, 74⟩, (FnAt.fc (fdAt P 176)).qual ++ "<lambda>"), (⟨202, 52, 202, 74⟩, (FnAt.fc (fdAt P 176)).qual ++ "<lambda>")]⟩
noncomputable def row14 (P : Params) : Row := ⟨144, 140, [(⟨164, 53, 164, 75⟩, (FnAt.fc (fdAt P 145)).qual ++ "<lambda>")]⟩
noncomputable def inAt (P : Params) (a : Addr) (i : Nat) : Stmt := ((bodyAt P a)[i]?).getD default
noncomputable def defParams : Stmt → Arguments | .FunctionDef _ ps _ _ _ _ _ _ _ _ => ps | _ => default
noncomputable def defBody : Stmt → List Stmt | .FunctionDef _ _ b _ _ _ _ _ _ _ => b | _ => default
noncomputable def defScope : Stmt → Scope | .FunctionDef _ _ _ _ _ _ s _ _ _ => s | _ => default
noncomputable def defPos : Stmt → Pos | .FunctionDef _ _ _ _ _ _ _ _ _ p => p | _ => default
noncomputable def row4 (P : Params) : Row := ⟨69, 65, [(defPos (inAt P 70 0), (FnAt.fc (fdAt P 70)).qual ++ nIn)]⟩
noncomputable def row3 (P : Params) : Row := ⟨62, 58, [(defPos (inAt P 63 1), (FnAt.fc (fdAt P 63)).qual ++ nIn)]⟩
noncomputable def rowsOf (P : Params) : List Row := [row19 P, row14 P, row4 P, row3 P]

/-- the ground on which the text's functions stand -/
structure Grd (P : Params) (G : Gr) : Prop where
  X : (Mine.hd.heap_1 P).In G.g
  C : G.C = 38
  rows : G.rows = rowsOf P

section
variable {P : Params} {G : Gr} {fa : Nat → Addr} {Φ : Phi} {k : Nat}

theorem fnAt_of {K : Frag} {a : Addr} {o : Obj} {fd : FuncData} {vs : List Str} {body : List Stmt} (X : K.In G.g) (h1 : K.lookup a = some o) (h2 : o.data = .func fd) (h3 : fd.body = .stmts body) (h4 : fd.scope.kind = .function) (h5 : fd.scope.isCoroutine = false) (h6 : fd.scope.isGenerator = false)
    (h7 : fd.closure = []) (h8 : fd.globals = mainGlobals) (h9 : fd.builtins = builtinsNs) (h10 : codeIn K fd.code fd.qualname = true) (h11 : vs.Nodup) (h12 : (fd.scope.names.all fun x => decide (x.2 ≠ .free)) = true) : FnAt G a fd vs body :=
  ⟨⟨o, X _ _ h1, h2⟩, h3, h4, h5, h6, h7, h8, h9, codeRec_of X h10, h11, fun x hx => by
    have := List.all_eq_true.mp h12 _ (mem_of_lookup hx)
    simp at this⟩

noncomputable def runA (ar : Nat) (f : Fn) (Φ : Phi) (args : List EV) : Option PyData := if args.length = ar then f.run Φ args else none

theorem run_inv {ar : Nat} {f : Fn} {args : List EV} {d : PyData} (h : runA ar f Φ args = some d) : args.length = ar ∧ evalS Φ f.own f.body (args.map some ++ List.replicate (f.slots - args.length) none) = some (.ret (.dat d)) := by
  unfold runA at h
  split at h
  · rename_i hl
    refine ⟨hl, ?_⟩
    unfold Fn.run at h
    split at h
    · rename_i e; cases h; exact e
    · cases h
  · cases h

noncomputable def ownB (own : List Nat) (ar : Nat) : Bool := match own with | [] => true | [i] => decide (ar ≤ i) | _ => false
theorem own_one {own : List Nat} {ar : Nat} (h : ownB own ar = true) : (∀ i j, own.contains i = true → own.contains j = true → i = j) ∧ ∀ i, own.contains i = true → ar ≤ i := by
  match own, h with
  | [], _ => exact ⟨fun i j h => (by cases h), fun i h => (by cases h)⟩
  | [c], h =>
    have hc : ar ≤ c := of_decide_eq_true h
    refine ⟨fun i j h1 h2 => ?_, fun i h1 => ?_⟩ <;> simp at * <;> omega
noncomputable def kdB (names : List (Str × NameKind)) (xs : List Str) : Bool := xs.all fun x => decide (names.lookup x = some .local) || decide (names.lookup x = some .cell)

theorem bd1 {fd : FuncData} {xs : List Str} (h : ∀ a, bindArgs fd ⟨[a], []⟩ = pure (xs.zip [a])) : ∀ vals : List Value, vals.length = 1 → ∀ {s : Shared}, BindsTo s fd ⟨vals, []⟩ (xs.zip vals)
  | [a], _, _ => .of_eq (h a)
theorem bd2 {fd : FuncData} {xs : List Str} (h : ∀ a b, bindArgs fd ⟨[a, b], []⟩ = pure (xs.zip [a, b])) : ∀ vals : List Value, vals.length = 2 → ∀ {s : Shared}, BindsTo s fd ⟨vals, []⟩ (xs.zip vals)
  | [a, b], _, _ => .of_eq (h a b)
theorem bd3 {fd : FuncData} {xs : List Str} (h : ∀ a b c, bindArgs fd ⟨[a, b, c], []⟩ = pure (xs.zip [a, b, c])) : ∀ vals : List Value, vals.length = 3 → ∀ {s : Shared}, BindsTo s fd ⟨vals, []⟩ (xs.zip vals)
  | [a, b, c], _, _ => .of_eq (h a b c)
theorem bd5 {fd : FuncData} {xs : List Str} (h : ∀ a b c d e, bindArgs fd ⟨[a, b, c, d, e], []⟩ = pure (xs.zip [a, b, c, d, e])) : ∀ vals : List Value, vals.length = 5 → ∀ {s : Shared}, BindsTo s fd ⟨vals, []⟩ (xs.zip vals)
  | [a, b, c, d, e], _, _ => .of_eq (h a b c d e)

theorem fn_ok (hG : GOk G fa) {a : Addr} {fd : FuncData} {vs : List Str} {body : List Stmt} {f : Fn} {ar : Nat} (F : FnAt G a fd vs body) (hb : BlOk G Φ k vs (FnAt.fc fd) f.own f.body body) (how : ownB f.own ar = true)
    (hbind : ∀ vals : List Value, vals.length = ar → ∀ {s : Shared}, BindsTo s fd ⟨vals, []⟩ ((vs.take ar).zip vals)) (hl : (vs.take ar).length = ar) (hkd : kdB fd.scope.names (vs.take ar) = true) (_ : ar < 100) : FnOk G a (runA ar f Φ) (k + 1) := by
  intro A s H args vals d hA bs hT hH hr he
  obtain ⟨h1, h2⟩ := run_inv he
  have hv : vals.length = ar := by rw [hr.len, h1]
  have z1 : ((vs.take ar).zip vals).map (·.2) = vals := List.map_snd_zip (by omega)
  have z2 : ((vs.take ar).zip vals).map (·.1) = vs.take ar := List.map_fst_zip (by omega)
  refine enter hG F hb (own_one how).1 hA bs hT hH (hbind vals hv) (by rw [z1]; exact hr) (by rw [z2, h1]) (by rw [h1]; exact (own_one how).2) (fun x hx => ?_) h2
  rw [z2] at hx
  have := List.all_eq_true.mp hkd x hx
  simpa using this

noncomputable def tokAt (P : Params) (a : Addr) : Tok := match (objAt a (Mine.hd.heap_1 P)).data with
  | .seq vs _ => (match vs.toList with | Value.int _ t :: _ => t | _ => default)
  | _ => default
theorem fnk_ok (hG : GOk G fa) {K : Frag} (X : K.In G.g) {a : Addr} {fd : FuncData} {vs : List Str} {body : List Stmt} {f : Fn} (F : FnAt G a fd vs body) (hb : BlOk G Φ k vs (FnAt.fc fd) f.own f.body body) (how : ownB f.own 5 = true)
    (hbind : ∃ t : Tok, ∀ u v f S, peek K S (bindArgs fd ⟨[u, v], [(Str.ofString "key", f)]⟩) = some ((vs.take 5).zip [u, v, .int 0 t, .none, f])) (hl : (vs.take 5).length = 5) (hkd : kdB fd.scope.names (vs.take 5) = true) : FnKOk G a (runA 5 f Φ) (k + 1) := by
  intro A s H x y u v fv d hA bs hT hH hx hy hf he
  obtain ⟨h1, h2⟩ := run_inv he
  obtain ⟨t, hbind⟩ := hbind
  have z1 : ((vs.take 5).zip [u, v, .int 0 t, .none, fv]).map (·.2) = [u, v, .int 0 t, .none, fv] := List.map_snd_zip (by rw [hl]; exact Nat.le_refl 5)
  have z2 : ((vs.take 5).zip [u, v, .int 0 t, .none, fv]).map (·.1) = vs.take 5 := List.map_fst_zip (by rw [hl]; exact Nat.le_refl 5)
  refine enter hG F hb (own_one how).1 hA bs hT hH (kp_binds (In.up X bs) (hbind u v fv)) (by rw [z1]; exact ⟨hx, hy, Rd.ofInt _ _, Rd.ofNone, hf, trivial⟩) (by rw [z2, h1]) (by rw [h1]; exact (own_one how).2) (fun x hx => ?_) h2
  rw [z2] at hx
  have := List.all_eq_true.mp hkd x hx
  simpa using this

theorem cok (g : Grd P G) : COk G (Mine.hd.heap_1 P) 28 35 (fdAt P 28) := by
  have hC := g.C
  refine { X := g.X, mkc := ?_, kp := ?_, ini := ?_, tyI := by kernel_rfl, ga := ?_, gat := ?_, sa := ?_, po := ?_, tk := ?_, hd := ?_, no := ?_, cmp := ?_, tyC := by kernel_rfl, kpC := by kernel_rfl, at' := ⟨objAt 28 (Mine.hd.heap_1 P), g.X 28 _ (by kernel_rfl), by kernel_rfl⟩, body := ⟨_, _, _, _, rfl⟩, params := ⟨_, _, rfl⟩, dflt := by kernel_rfl, kind := by kernel_rfl, co := by kernel_rfl, gen := by kernel_rfl, clo := by kernel_rfl, glob := by kernel_rfl, blt := by kernel_rfl, rec' := codeRec_of g.X (by kernel_rfl), l1 := by kernel_rfl, l2 := by kernel_rfl, nocell := ?_ }
  all_goals (try rw [hC])
  all_goals first | kernel_rfl | skip
  intro x hx
  have : ((fdAt P 28).scope.names.all fun x => decide (x.2 ≠ .cell)) = true := by kernel_rfl
  simpa using List.all_eq_true.mp this x hx

theorem fat_0 (g : Grd P G) : FnAt G 35 (fdAt P 35) (nmsOf v_compare) (bodyAt P 35) :=
  fnAt_of (o := objAt 35 (Mine.hd.heap_1 P)) g.X (by kernel_rfl) (by kernel_rfl) (by kernel_rfl) (by kernel_rfl) (by kernel_rfl) (by kernel_rfl) (by kernel_rfl) (by kernel_rfl) (by kernel_rfl) (by kernel_rfl) (by decide +kernel) (by kernel_rfl)
theorem fat_1 (g : Grd P G) : FnAt G 84 (fdAt P 84) (nmsOf v_int_divmod) (bodyAt P 84) :=
  fnAt_of (o := objAt 84 (Mine.hd.heap_1 P)) g.X (by kernel_rfl) (by kernel_rfl) (by kernel_rfl) (by kernel_rfl) (by kernel_rfl) (by kernel_rfl) (by kernel_rfl) (by kernel_rfl) (by kernel_rfl) (by kernel_rfl) (by decide +kernel) (by kernel_rfl)
theorem fat_2 (g : Grd P G) : FnAt G 77 (fdAt P 77) (nmsOf v_divmod_pos) (bodyAt P 77) :=
  fnAt_of (o := objAt 77 (Mine.hd.heap_1 P)) g.X (by kernel_rfl) (by kernel_rfl) (by kernel_rfl) (by kernel_rfl) (by kernel_rfl) (by kernel_rfl) (by kernel_rfl) (by kernel_rfl) (by kernel_rfl) (by kernel_rfl) (by decide +kernel) (by kernel_rfl)
theorem fat_3 (g : Grd P G) : FnAt G 63 (fdAt P 63) (vs3) (bodyAt P 63) :=
  fnAt_of (o := objAt 63 (Mine.hd.heap_1 P)) g.X (by kernel_rfl) (by kernel_rfl) (by kernel_rfl) (by kernel_rfl) (by kernel_rfl) (by kernel_rfl) (by kernel_rfl) (by kernel_rfl) (by kernel_rfl) (by kernel_rfl) (by decide +kernel) (by kernel_rfl)
theorem fat_4 (g : Grd P G) : FnAt G 70 (fdAt P 70) (vs4) (bodyAt P 70) :=
  fnAt_of (o := objAt 70 (Mine.hd.heap_1 P)) g.X (by kernel_rfl) (by kernel_rfl) (by kernel_rfl) (by kernel_rfl) (by kernel_rfl) (by kernel_rfl) (by kernel_rfl) (by kernel_rfl) (by kernel_rfl) (by kernel_rfl) (by decide +kernel) (by kernel_rfl)
theorem fat_5 (g : Grd P G) : FnAt G 49 (fdAt P 49) (nmsOf v_div2n1n) (bodyAt P 49) :=
  fnAt_of (o := objAt 49 (Mine.hd.heap_1 P)) g.X (by kernel_rfl) (by kernel_rfl) (by kernel_rfl) (by kernel_rfl) (by kernel_rfl) (by kernel_rfl) (by kernel_rfl) (by kernel_rfl) (by kernel_rfl) (by kernel_rfl) (by decide +kernel) (by kernel_rfl)
theorem fat_6 (g : Grd P G) : FnAt G 102 (fdAt P 102) (nmsOf v_bisect_left) (bodyAt P 102) :=
  fnAt_of (o := objAt 102 (Mine.hd.heap_1 P)) g.X (by kernel_rfl) (by kernel_rfl) (by kernel_rfl) (by kernel_rfl) (by kernel_rfl) (by kernel_rfl) (by kernel_rfl) (by kernel_rfl) (by kernel_rfl) (by kernel_rfl) (by decide +kernel) (by kernel_rfl)
theorem fat_7 (g : Grd P G) : FnAt G 93 (fdAt P 93) (nmsOf v_bisect_right) (bodyAt P 93) :=
  fnAt_of (o := objAt 93 (Mine.hd.heap_1 P)) g.X (by kernel_rfl) (by kernel_rfl) (by kernel_rfl) (by kernel_rfl) (by kernel_rfl) (by kernel_rfl) (by kernel_rfl) (by kernel_rfl) (by kernel_rfl) (by kernel_rfl) (by decide +kernel) (by kernel_rfl)
theorem fat_8 (g : Grd P G) : FnAt G 107 (fdAt P 107) (nmsOf v_law_fractions) (bodyAt P 107) :=
  fnAt_of (o := objAt 107 (Mine.hd.heap_1 P)) g.X (by kernel_rfl) (by kernel_rfl) (by kernel_rfl) (by kernel_rfl) (by kernel_rfl) (by kernel_rfl) (by kernel_rfl) (by kernel_rfl) (by kernel_rfl) (by kernel_rfl) (by decide +kernel) (by kernel_rfl)
theorem fat_9 (g : Grd P G) : FnAt G 114 (fdAt P 114) (nmsOf v_law_quotients) (bodyAt P 114) :=
  fnAt_of (o := objAt 114 (Mine.hd.heap_1 P)) g.X (by kernel_rfl) (by kernel_rfl) (by kernel_rfl) (by kernel_rfl) (by kernel_rfl) (by kernel_rfl) (by kernel_rfl) (by kernel_rfl) (by kernel_rfl) (by kernel_rfl) (by decide +kernel) (by kernel_rfl)
theorem fat_10 (g : Grd P G) : FnAt G 121 (fdAt P 121) (nmsOf v_law_row) (bodyAt P 121) :=
  fnAt_of (o := objAt 121 (Mine.hd.heap_1 P)) g.X (by kernel_rfl) (by kernel_rfl) (by kernel_rfl) (by kernel_rfl) (by kernel_rfl) (by kernel_rfl) (by kernel_rfl) (by kernel_rfl) (by kernel_rfl) (by kernel_rfl) (by decide +kernel) (by kernel_rfl)
theorem fat_11 (g : Grd P G) : FnAt G 126 (fdAt P 126) (nmsOf v_law_key) (bodyAt P 126) :=
  fnAt_of (o := objAt 126 (Mine.hd.heap_1 P)) g.X (by kernel_rfl) (by kernel_rfl) (by kernel_rfl) (by kernel_rfl) (by kernel_rfl) (by kernel_rfl) (by kernel_rfl) (by kernel_rfl) (by kernel_rfl) (by kernel_rfl) (by decide +kernel) (by kernel_rfl)
theorem fat_12 (g : Grd P G) : FnAt G 133 (fdAt P 133) (nmsOf v_law_folded) (bodyAt P 133) :=
  fnAt_of (o := objAt 133 (Mine.hd.heap_1 P)) g.X (by kernel_rfl) (by kernel_rfl) (by kernel_rfl) (by kernel_rfl) (by kernel_rfl) (by kernel_rfl) (by kernel_rfl) (by kernel_rfl) (by kernel_rfl) (by kernel_rfl) (by decide +kernel) (by kernel_rfl)
theorem fat_13 (g : Grd P G) : FnAt G 138 (fdAt P 138) (nmsOf v_law_is_run) (bodyAt P 138) :=
  fnAt_of (o := objAt 138 (Mine.hd.heap_1 P)) g.X (by kernel_rfl) (by kernel_rfl) (by kernel_rfl) (by kernel_rfl) (by kernel_rfl) (by kernel_rfl) (by kernel_rfl) (by kernel_rfl) (by kernel_rfl) (by kernel_rfl) (by decide +kernel) (by kernel_rfl)
theorem fat_14 (g : Grd P G) : FnAt G 145 (fdAt P 145) (nmsOf v_law_listing) (bodyAt P 145) :=
  fnAt_of (o := objAt 145 (Mine.hd.heap_1 P)) g.X (by kernel_rfl) (by kernel_rfl) (by kernel_rfl) (by kernel_rfl) (by kernel_rfl) (by kernel_rfl) (by kernel_rfl) (by kernel_rfl) (by kernel_rfl) (by kernel_rfl) (by decide +kernel) (by kernel_rfl)
theorem fat_15 (g : Grd P G) : FnAt G 150 (fdAt P 150) (nmsOf v_law_farey) (bodyAt P 150) :=
  fnAt_of (o := objAt 150 (Mine.hd.heap_1 P)) g.X (by kernel_rfl) (by kernel_rfl) (by kernel_rfl) (by kernel_rfl) (by kernel_rfl) (by kernel_rfl) (by kernel_rfl) (by kernel_rfl) (by kernel_rfl) (by kernel_rfl) (by decide +kernel) (by kernel_rfl)
theorem fat_16 (g : Grd P G) : FnAt G 157 (fdAt P 157) (nmsOf v_law_sign) (bodyAt P 157) :=
  fnAt_of (o := objAt 157 (Mine.hd.heap_1 P)) g.X (by kernel_rfl) (by kernel_rfl) (by kernel_rfl) (by kernel_rfl) (by kernel_rfl) (by kernel_rfl) (by kernel_rfl) (by kernel_rfl) (by kernel_rfl) (by kernel_rfl) (by decide +kernel) (by kernel_rfl)
theorem fat_17 (g : Grd P G) : FnAt G 162 (fdAt P 162) (nmsOf v_law_in_order) (bodyAt P 162) :=
  fnAt_of (o := objAt 162 (Mine.hd.heap_1 P)) g.X (by kernel_rfl) (by kernel_rfl) (by kernel_rfl) (by kernel_rfl) (by kernel_rfl) (by kernel_rfl) (by kernel_rfl) (by kernel_rfl) (by kernel_rfl) (by kernel_rfl) (by decide +kernel) (by kernel_rfl)
theorem fat_18 (g : Grd P G) : FnAt G 169 (fdAt P 169) (nmsOf v_law_nearest) (bodyAt P 169) :=
  fnAt_of (o := objAt 169 (Mine.hd.heap_1 P)) g.X (by kernel_rfl) (by kernel_rfl) (by kernel_rfl) (by kernel_rfl) (by kernel_rfl) (by kernel_rfl) (by kernel_rfl) (by kernel_rfl) (by kernel_rfl) (by kernel_rfl) (by decide +kernel) (by kernel_rfl)
theorem fat_19 (g : Grd P G) : FnAt G 176 (fdAt P 176) (nmsOf v_law_stands) (bodyAt P 176) :=
  fnAt_of (o := objAt 176 (Mine.hd.heap_1 P)) g.X (by kernel_rfl) (by kernel_rfl) (by kernel_rfl) (by kernel_rfl) (by kernel_rfl) (by kernel_rfl) (by kernel_rfl) (by kernel_rfl) (by kernel_rfl) (by kernel_rfl) (by decide +kernel) (by kernel_rfl)
theorem fat_20 (g : Grd P G) : FnAt G 181 (fdAt P 181) (nmsOf v_law) (bodyAt P 181) :=
  fnAt_of (o := objAt 181 (Mine.hd.heap_1 P)) g.X (by kernel_rfl) (by kernel_rfl) (by kernel_rfl) (by kernel_rfl) (by kernel_rfl) (by kernel_rfl) (by kernel_rfl) (by kernel_rfl) (by kernel_rfl) (by kernel_rfl) (by decide +kernel) (by kernel_rfl)
theorem fok_0 (g : Grd P G) (hG : GOk G fa0) (hΦ : PhiOk G fa0 Φ k) (hk : 64 ≤ k) : FnOk G 35 (runA 3 f_compare Φ) (k + 1) :=
  fn_ok hG (fat_0 g) (bo_compare P hG hΦ (cok g)) (by kernel_rfl) (bd3 fun a0 a1 a2 => by kernel_rfl) (by kernel_rfl) (by kernel_rfl) (by decide)
theorem fok_1 (g : Grd P G) (hG : GOk G fa0) (hΦ : PhiOk G fa0 Φ k) (hk : 64 ≤ k) : FnOk G 84 (runA 2 f_int_divmod Φ) (k + 1) :=
  fn_ok hG (fat_1 g) (bo_int_divmod P hG hΦ) (by kernel_rfl) (bd2 fun a0 a1 => by kernel_rfl) (by kernel_rfl) (by kernel_rfl) (by decide)
theorem fok_2 (g : Grd P G) (hG : GOk G fa0) (hΦ : PhiOk G fa0 Φ k) (hk : 64 ≤ k) : FnOk G 77 (runA 2 f_divmod_pos Φ) (k + 1) :=
  fn_ok hG (fat_2 g) (bo_divmod_pos P hG hΦ) (by kernel_rfl) (bd2 fun a0 a1 => by kernel_rfl) (by kernel_rfl) (by kernel_rfl) (by decide)
theorem fok_5 (g : Grd P G) (hG : GOk G fa0) (hΦ : PhiOk G fa0 Φ k) (hk : 64 ≤ k) : FnOk G 49 (runA 3 f_div2n1n Φ) (k + 1) :=
  fn_ok hG (fat_5 g) (bo_div2n1n P hG hΦ) (by kernel_rfl) (bd3 fun a0 a1 a2 => by kernel_rfl) (by kernel_rfl) (by kernel_rfl) (by decide)
theorem fok_8 (g : Grd P G) (hG : GOk G fa0) (hΦ : PhiOk G fa0 Φ k) (hk : 64 ≤ k) : FnOk G 107 (runA 1 f_law_fractions Φ) (k + 1) :=
  fn_ok hG (fat_8 g) (bo_law_fractions P hG hΦ) (by kernel_rfl) (bd1 fun a0 => by kernel_rfl) (by kernel_rfl) (by kernel_rfl) (by decide)
theorem fok_9 (g : Grd P G) (hG : GOk G fa0) (hΦ : PhiOk G fa0 Φ k) (hk : 64 ≤ k) : FnOk G 114 (runA 2 f_law_quotients Φ) (k + 1) :=
  fn_ok hG (fat_9 g) (bo_law_quotients P hG hΦ) (by kernel_rfl) (bd2 fun a0 a1 => by kernel_rfl) (by kernel_rfl) (by kernel_rfl) (by decide)
theorem fok_10 (g : Grd P G) (hG : GOk G fa0) (hΦ : PhiOk G fa0 Φ k) (hk : 64 ≤ k) : FnOk G 121 (runA 1 f_law_row Φ) (k + 1) :=
  fn_ok hG (fat_10 g) (bo_law_row P hG hΦ) (by kernel_rfl) (bd1 fun a0 => by kernel_rfl) (by kernel_rfl) (by kernel_rfl) (by decide)
theorem fok_11 (g : Grd P G) (hG : GOk G fa0) (hΦ : PhiOk G fa0 Φ k) (hk : 64 ≤ k) : FnOk G 126 (runA 1 f_law_key Φ) (k + 1) :=
  fn_ok hG (fat_11 g) (bo_law_key P hG hΦ) (by kernel_rfl) (bd1 fun a0 => by kernel_rfl) (by kernel_rfl) (by kernel_rfl) (by decide)
theorem fok_12 (g : Grd P G) (hG : GOk G fa0) (hΦ : PhiOk G fa0 Φ k) (hk : 64 ≤ k) : FnOk G 133 (runA 1 f_law_folded Φ) (k + 1) :=
  fn_ok hG (fat_12 g) (bo_law_folded P hG hΦ) (by kernel_rfl) (bd1 fun a0 => by kernel_rfl) (by kernel_rfl) (by kernel_rfl) (by decide)
theorem fok_13 (g : Grd P G) (hG : GOk G fa0) (hΦ : PhiOk G fa0 Φ k) (hk : 64 ≤ k) : FnOk G 138 (runA 3 f_law_is_run Φ) (k + 1) :=
  fn_ok hG (fat_13 g) (bo_law_is_run P hG hΦ) (by kernel_rfl) (bd3 fun a0 a1 a2 => by kernel_rfl) (by kernel_rfl) (by kernel_rfl) (by decide)
theorem fok_14 (g : Grd P G) (hG : GOk G fa0) (hΦ : PhiOk G fa0 Φ k) (hk : 64 ≤ k) : FnOk G 145 (runA 1 f_law_listing Φ) (k + 1) :=
  fn_ok hG (fat_14 g) (bo_law_listing P hG hΦ (r := row14 P) (by rw [g.rows]; simp [rowsOf]) (by kernel_rfl) (fun p hp => by simp only [List.mem_cons, List.not_mem_nil, or_false] at hp; subst hp; simp [row14])) (by kernel_rfl) (bd1 fun a0 => by kernel_rfl) (by kernel_rfl) (by kernel_rfl) (by decide)
theorem fok_15 (g : Grd P G) (hG : GOk G fa0) (hΦ : PhiOk G fa0 Φ k) (hk : 64 ≤ k) : FnOk G 150 (runA 1 f_law_farey Φ) (k + 1) :=
  fn_ok hG (fat_15 g) (bo_law_farey P hG hΦ) (by kernel_rfl) (bd1 fun a0 => by kernel_rfl) (by kernel_rfl) (by kernel_rfl) (by decide)
theorem fok_16 (g : Grd P G) (hG : GOk G fa0) (hΦ : PhiOk G fa0 Φ k) (hk : 64 ≤ k) : FnOk G 157 (runA 2 f_law_sign Φ) (k + 1) :=
  fn_ok hG (fat_16 g) (bo_law_sign P hG hΦ) (by kernel_rfl) (bd2 fun a0 a1 => by kernel_rfl) (by kernel_rfl) (by kernel_rfl) (by decide)
theorem fok_17 (g : Grd P G) (hG : GOk G fa0) (hΦ : PhiOk G fa0 Φ k) (hk : 64 ≤ k) : FnOk G 162 (runA 2 f_law_in_order Φ) (k + 1) :=
  fn_ok hG (fat_17 g) (bo_law_in_order P hG hΦ (by omega) (cok g)) (by kernel_rfl) (bd2 fun a0 a1 => by kernel_rfl) (by kernel_rfl) (by kernel_rfl) (by decide)
theorem fok_18 (g : Grd P G) (hG : GOk G fa0) (hΦ : PhiOk G fa0 Φ k) (hk : 64 ≤ k) : FnOk G 169 (runA 3 f_law_nearest Φ) (k + 1) :=
  fn_ok hG (fat_18 g) (bo_law_nearest P hG hΦ) (by kernel_rfl) (bd3 fun a0 a1 a2 => by kernel_rfl) (by kernel_rfl) (by kernel_rfl) (by decide)
theorem fok_19 (g : Grd P G) (hG : GOk G fa0) (hΦ : PhiOk G fa0 Φ k) (hk : 64 ≤ k) : FnOk G 176 (runA 5 f_law_stands Φ) (k + 1) :=
  fn_ok hG (fat_19 g) (bo_law_stands P hG hΦ (r := row19 P) (by rw [g.rows]; simp [rowsOf]) (by kernel_rfl) (fun p hp => by simp only [List.mem_cons, List.not_mem_nil, or_false] at hp; rcases hp with rfl | rfl <;> simp [row19])) (by kernel_rfl) (bd5 fun a0 a1 a2 a3 a4 => by kernel_rfl) (by kernel_rfl) (by kernel_rfl) (by decide)
theorem fok_20 (g : Grd P G) (hG : GOk G fa0) (hΦ : PhiOk G fa0 Φ k) (hk : 64 ≤ k) : FnOk G 181 (runA 1 f_law Φ) (k + 1) :=
  fn_ok hG (fat_20 g) (bo_law P hG hΦ) (by kernel_rfl) (bd1 fun a0 => by kernel_rfl) (by kernel_rfl) (by kernel_rfl) (by decide)
theorem fok_6 (g : Grd P G) (hG : GOk G fa0) (hΦ : PhiOk G fa0 Φ k) (hk : 64 ≤ k) : FnKOk G 102 (runA 5 f_bisect_left Φ) (k + 1) :=
  fnk_ok hG g.X (fat_6 g) (bo_bisect_left P hG hΦ (by omega)) (by kernel_rfl) ⟨tokAt P 94, fun u v f S => by kernel_rfl⟩ (by kernel_rfl) (by kernel_rfl)
theorem fok_7 (g : Grd P G) (hG : GOk G fa0) (hΦ : PhiOk G fa0 Φ k) (hk : 64 ≤ k) : FnKOk G 93 (runA 5 f_bisect_right Φ) (k + 1) :=
  fnk_ok hG g.X (fat_7 g) (bo_bisect_right P hG hΦ (by omega)) (by kernel_rfl) ⟨tokAt P 85, fun u v f S => by kernel_rfl⟩ (by kernel_rfl) (by kernel_rfl)

/-! ## the digits' functions -/
theorem in1_ok (P : Params) : ∀ qn clo doc pm cv ctv, In1 G Φ (fnX nIn qn (defParams (inAt P 63 1)) (defBody (inAt P 63 1)) (defScope (inAt P 63 1)) clo .none .none doc pm none cv ctv) (defBody (inAt P 63 1)) := by
  intro qn clo doc pm cv ctv
  exact ⟨_, _, _, _, _, _, _, _, _, _, _, _, _, _, _, _, rfl, tr_cmp (op := .eq) (ev_ar (op := .add) (ev_var rfl (.inl (by kernel_rfl)) (by kernel_rfl) (by kernel_rfl)) ev_int) (ev_var rfl (.inl (by kernel_rfl)) (by kernel_rfl) (by kernel_rfl)), (ev_var rfl (.inl (by kernel_rfl)) (by kernel_rfl) (by kernel_rfl)), (ev_var rfl (.inl (by kernel_rfl)) (by kernel_rfl) (by kernel_rfl)), (by kernel_rfl),
    ⟨_, _, _, _, rfl, rfl, (by kernel_rfl), ev_ar (op := .shr) (ev_ar (op := .add) (ev_var rfl (.inl (by kernel_rfl)) (by kernel_rfl) (by kernel_rfl)) (ev_var rfl (.inl (by kernel_rfl)) (by kernel_rfl) (by kernel_rfl))) ev_int, fun _ _ => rfl⟩,
    ⟨_, _, _, _, rfl, rfl, (by kernel_rfl), ev_ar (op := .mul) (ev_ar (op := .sub) (ev_var rfl (.inl (by kernel_rfl)) (by kernel_rfl) (by kernel_rfl)) (ev_var rfl (.inl (by kernel_rfl)) (by kernel_rfl) (by kernel_rfl))) (ev_var rfl (.inr (by kernel_rfl)) (by kernel_rfl) (by kernel_rfl)), fun _ _ => rfl⟩,
    ⟨_, _, _, _, rfl, rfl, (by kernel_rfl), ev_ar (op := .shr) (ev_var rfl (.inl (by kernel_rfl)) (by kernel_rfl) (by kernel_rfl)) (ev_var rfl (.inl (by kernel_rfl)) (by kernel_rfl) (by kernel_rfl)), fun _ _ => rfl⟩,
    ⟨_, _, _, _, rfl, rfl, (by kernel_rfl), ev_ar (op := .xor) (ev_var rfl (.inl (by kernel_rfl)) (by kernel_rfl) (by kernel_rfl)) (ev_ar (op := .shl) (ev_var rfl (.inl (by kernel_rfl)) (by kernel_rfl) (by kernel_rfl)) (ev_var rfl (.inl (by kernel_rfl)) (by kernel_rfl) (by kernel_rfl))), fun _ _ => rfl⟩,
    ⟨_, _, _, _, rfl, (by kernel_rfl), ⟨(ev_var rfl (.inl (by kernel_rfl)) (by kernel_rfl) (by kernel_rfl)), fun _ _ => rfl⟩, ⟨(ev_var rfl (.inl (by kernel_rfl)) (by kernel_rfl) (by kernel_rfl)), fun _ _ => rfl⟩, ⟨(ev_var rfl (.inl (by kernel_rfl)) (by kernel_rfl) (by kernel_rfl)), fun _ _ => rfl⟩, trivial⟩,
    ⟨_, _, _, _, rfl, (by kernel_rfl), ⟨(ev_var rfl (.inl (by kernel_rfl)) (by kernel_rfl) (by kernel_rfl)), fun _ _ => rfl⟩, ⟨(ev_var rfl (.inl (by kernel_rfl)) (by kernel_rfl) (by kernel_rfl)), fun _ _ => rfl⟩, ⟨(ev_var rfl (.inl (by kernel_rfl)) (by kernel_rfl) (by kernel_rfl)), fun _ _ => rfl⟩, trivial⟩⟩
theorem in2_ok (P : Params) : ∀ qn clo doc pm cv ctv, In2 G Φ (fnX nIn qn (defParams (inAt P 70 0)) (defBody (inAt P 70 0)) (defScope (inAt P 70 0)) clo .none .none doc pm none cv ctv) (defBody (inAt P 70 0)) := by
  intro qn clo doc pm cv ctv
  exact ⟨_, _, _, _, _, _, _, _, _, _, _, _, rfl, tr_cmp (op := .eq) (ev_ar (op := .add) (ev_var rfl (.inl (by kernel_rfl)) (by kernel_rfl) (by kernel_rfl)) ev_int) (ev_var rfl (.inl (by kernel_rfl)) (by kernel_rfl) (by kernel_rfl)), ev_sub (ev_var rfl (.inr (by kernel_rfl)) (by kernel_rfl) (by kernel_rfl)) (ev_var rfl (.inl (by kernel_rfl)) (by kernel_rfl) (by kernel_rfl)) (fun _ _ _ _ h => nomatch h), (ev_var rfl (.inl (by kernel_rfl)) (by kernel_rfl) (by kernel_rfl)),
    ⟨_, _, _, _, rfl, rfl, (by kernel_rfl), ev_ar (op := .shr) (ev_ar (op := .add) (ev_var rfl (.inl (by kernel_rfl)) (by kernel_rfl) (by kernel_rfl)) (ev_var rfl (.inl (by kernel_rfl)) (by kernel_rfl) (by kernel_rfl))) ev_int, fun _ _ => rfl⟩,
    ⟨_, _, _, _, rfl, rfl, (by kernel_rfl), ev_ar (op := .mul) (ev_ar (op := .sub) (ev_var rfl (.inl (by kernel_rfl)) (by kernel_rfl) (by kernel_rfl)) (ev_var rfl (.inl (by kernel_rfl)) (by kernel_rfl) (by kernel_rfl))) (ev_var rfl (.inr (by kernel_rfl)) (by kernel_rfl) (by kernel_rfl)), fun _ _ => rfl⟩,
    ⟨_, _, _, _, rfl, (by kernel_rfl), ⟨(ev_var rfl (.inl (by kernel_rfl)) (by kernel_rfl) (by kernel_rfl)), fun _ _ => rfl⟩, ⟨(ev_var rfl (.inl (by kernel_rfl)) (by kernel_rfl) (by kernel_rfl)), fun _ _ => rfl⟩, trivial⟩,
    ⟨_, _, _, _, rfl, (by kernel_rfl), ⟨(ev_var rfl (.inl (by kernel_rfl)) (by kernel_rfl) (by kernel_rfl)), fun _ _ => rfl⟩, ⟨(ev_var rfl (.inl (by kernel_rfl)) (by kernel_rfl) (by kernel_rfl)), fun _ _ => rfl⟩, trivial⟩⟩
theorem if1_ok (P : Params) : ∀ qn clo doc pm cv ctv, InnerFn (fnX nIn qn (defParams (inAt P 63 1)) (defBody (inAt P 63 1)) (defScope (inAt P 63 1)) clo .none .none doc pm none cv ctv) n3 (defBody (inAt P 63 1)) := by
  intro qn clo doc pm cv ctv
  refine innerFn_of (by kernel_rfl) (by kernel_rfl) (by kernel_rfl) (by kernel_rfl) (by kernel_rfl) (by decide +kernel) fun vals h => ?_
  match vals, h with
  | [a, b, c], _ => kernel_rfl
theorem if2_ok (P : Params) : ∀ qn clo doc pm cv ctv, InnerFn (fnX nIn qn (defParams (inAt P 70 0)) (defBody (inAt P 70 0)) (defScope (inAt P 70 0)) clo .none .none doc pm none cv ctv) n2 (defBody (inAt P 70 0)) := by
  intro qn clo doc pm cv ctv
  refine innerFn_of (by kernel_rfl) (by kernel_rfl) (by kernel_rfl) (by kernel_rfl) (by kernel_rfl) (by decide +kernel) fun vals h => ?_
  match vals, h with
  | [a, b], _ => kernel_rfl

theorem free_mem {names : List (Str × NameKind)} {x : Str} (h : names.lookup x = some .free) : (x, NameKind.free) ∈ names := mem_of_lookup h

theorem names_two {binds : List (Str × Value)} (F : Prop) : True := trivial

noncomputable def prim3 : List EV → Option PyData
  | [.dat (.int a), .dat (.int n)] =>
    if 0 ≤ a ∧ 1 ≤ n ∧ n ≤ 60 ∧ n.toNat * (((bitLen a : Int) + n - 1).fdiv n).toNat ≤ 60 ∧ a.toNat < 2 ^ (n.toNat * (((bitLen a : Int) + n - 1).fdiv n).toNat) ∧ (a ≠ 0 ∨ (((bitLen a : Int) + n - 1).fdiv n).toNat = 0)
    then some (.list ((digs n.toNat a.toNat (((bitLen a : Int) + n - 1).fdiv n).toNat).map .int)) else none
  | _ => none
noncomputable def prim4 : List EV → Option PyData
  | [.dat (.list ds), .dat (.int n)] => match ints? ds with
    | some is => if 1 ≤ n ∧ n.toNat * is.length ≤ 60 ∧ ∀ d ∈ is, 0 ≤ d ∧ d < 2 ^ n.toNat then some (.int (undigs n.toNat is)) else none
    | none => none
  | _ => none

theorem ints_eq : ∀ {ds : List PyData} {is : List Int}, ints? ds = some is → ds = is.map .int
  | [], is, h => by cases h; rfl
  | .int i :: r, is, h => by
    simp only [ints?, Option.map_eq_some_iff] at h
    obtain ⟨is', h1, rfl⟩ := h
    rw [ints_eq h1]; rfl
  | .none :: _, _, h => by cases h
  | .bool _ :: _, _, h => by cases h
  | .str _ :: _, _, h => by cases h
  | .list _ :: _, _, h => by cases h
  | .tuple _ :: _, _, h => by cases h
  | .dict _ :: _, _, h => by cases h

theorem fok_3 (g : Grd P G) (hG : GOk G fa0) (hk : 64 ≤ k) : FnOk G 63 prim3 (k + 1) := by
  intro A s H args vals d hA bs hT hH hr he
  unfold prim3 at he
  split at he
  · rename_i a n
    simp only [Option.ite_none_right_eq_some, Option.some.injEq] at he
    obtain ⟨⟨h1, h2, h3, h4, h5, h6⟩, rfl⟩ := he
    obtain ⟨a, rfl⟩ := Int.eq_ofNat_of_zero_le h1
    obtain ⟨n, rfl⟩ := Int.eq_ofNat_of_zero_le (show 0 ≤ n by omega)
    have hv : vals.length = 2 := by rw [hr.len]; rfl
    have hq : 0 ≤ (((bitLen a : Int) + n - 1).fdiv n) := by
      rw [Int.fdiv_eq_ediv_of_nonneg _ (by omega)]; exact Int.ediv_nonneg (by omega) (by omega)
    simp only [Int.toNat_natCast] at h4 h5 h6 ⊢
    generalize hm : (((bitLen a : Int) + n - 1).fdiv n).toNat = m at *
    have z1 : ((vs3.take 2).zip vals).map (·.2) = vals := List.map_snd_zip (by rw [hv]; exact Nat.le_refl 2)
    have z2 : ((vs3.take 2).zip vals).map (·.1) = vs3.take 2 := List.map_fst_zip (by rw [hv]; exact Nat.le_refl 2)
    have hkd : kdB (fdAt P 63).scope.names (vs3.take 2) = true := by kernel_rfl
    refine enter0 (own := [2]) (m := 2) (args := [.dat (.int a), .dat (.int n)]) hG (fat_3 g) (own_one (ar := 2) rfl).1 hA bs hT hH (bd2 (xs := vs3.take 2) (fun a b => by kernel_rfl) vals hv) (by rw [z1]; exact hr) (by rw [z2]; rfl) (own_one (ar := 2) rfl).2 (fun x hx => ?_) ?_
    · rw [z2] at hx
      have := List.all_eq_true.mp hkd x hx
      simpa using this
    exact body3 (Φ := fun _ _ => none) (r := row3 P) (params := defParams (inAt P 63 1)) (scope := defScope (inAt P 63 1)) (ib := defBody (inAt P 63 1)) (pd := defPos (inAt P 63 1)) hG
      (ev_ar (op := .fdiv) (ev_ar (op := .sub) (ev_ar (op := .add) (ev_bits (ev_var rfl (.inl (by kernel_rfl)) (by kernel_rfl) (by kernel_rfl)) rfl) (ev_var rfl (.inr (by kernel_rfl)) (by kernel_rfl) (by kernel_rfl))) ev_int) (ev_var rfl (.inr (by kernel_rfl)) (by kernel_rfl) (by kernel_rfl))) (by kernel_rfl) (by kernel_rfl) (by kernel_rfl) (by kernel_rfl)
      (by rw [g.rows]; simp [rowsOf]) (by kernel_rfl) (List.mem_cons_self ..) (by kernel_rfl) (by kernel_rfl) (fun env => rfl) (freeB_of (by kernel_rfl)) (free_mem (by kernel_rfl)) (free_mem (by kernel_rfl)) (free_mem (by kernel_rfl)) (by kernel_rfl)
      (if1_ok P _) (in1_ok P _) ⟨⟨(ev_var rfl (.inl (by kernel_rfl)) (by kernel_rfl) (by kernel_rfl)), fun _ _ => rfl⟩, ⟨ev_int, fun _ _ => rfl⟩, ⟨ev_len hG (by kernel_rfl) ⟨⟨(ev_var rfl (.inr (by kernel_rfl)) (by kernel_rfl) (by kernel_rfl)), fun _ _ => rfl⟩, trivial⟩, fun _ _ => rfl⟩, trivial⟩
      (by omega) (by omega) (by omega) h4 h5 (by omega) (by have : m ≤ n * m := Nat.le_mul_of_pos_left m (by omega); omega)
  · cases he

theorem fok_4 (g : Grd P G) (hG : GOk G fa0) (hk : 64 ≤ k) : FnOk G 70 prim4 (k + 1) := by
  intro A s H args vals d hA bs hT hH hr he
  unfold prim4 at he
  split at he
  · rename_i ds n
    split at he
    · rename_i is hi
      simp only [Option.ite_none_right_eq_some, Option.some.injEq] at he
      obtain ⟨⟨h1, h2, h3⟩, rfl⟩ := he
      have := ints_eq hi
      subst this
      obtain ⟨n, rfl⟩ := Int.eq_ofNat_of_zero_le (show 0 ≤ n by omega)
      simp only [Int.toNat_natCast] at h2 h3 ⊢
      have hv : vals.length = 2 := by rw [hr.len]; rfl
      have z1 : ((vs4.take 2).zip vals).map (·.2) = vals := List.map_snd_zip (by rw [hv]; exact Nat.le_refl 2)
      have z2 : ((vs4.take 2).zip vals).map (·.1) = vs4.take 2 := List.map_fst_zip (by rw [hv]; exact Nat.le_refl 2)
      have hkd : kdB (fdAt P 70).scope.names (vs4.take 2) = true := by kernel_rfl
      refine enter0 (own := []) (m := 1) (args := [.dat (.list (is.map .int)), .dat (.int n)]) hG (fat_4 g) (own_one (ar := 2) rfl).1 hA bs hT hH (bd2 (xs := vs4.take 2) (fun a b => by kernel_rfl) vals hv) (by rw [z1]; exact hr) (by rw [z2]; rfl) (own_one (ar := 2) rfl).2 (fun x hx => ?_) ?_
      · rw [z2] at hx
        have := List.all_eq_true.mp hkd x hx
        simpa using this
      exact body4 (Φ := fun _ _ => none) (r := row4 P) (params := defParams (inAt P 70 0)) (scope := defScope (inAt P 70 0)) (ib := defBody (inAt P 70 0)) (pd := defPos (inAt P 70 0)) hG
        (by kernel_rfl) (by kernel_rfl) (by kernel_rfl)
        (by rw [g.rows]; simp [rowsOf]) (by kernel_rfl) (List.mem_cons_self ..) (by kernel_rfl) (by kernel_rfl) (fun env => rfl) (freeB_of (by kernel_rfl)) (free_mem (by kernel_rfl)) (free_mem (by kernel_rfl)) (free_mem (by kernel_rfl)) (by kernel_rfl) (by kernel_rfl)
        (if2_ok P _) (in2_ok P _) ⟨⟨ev_int, fun _ _ => rfl⟩, ⟨ev_len hG (by kernel_rfl) ⟨⟨(ev_var rfl (.inr (by kernel_rfl)) (by kernel_rfl) (by kernel_rfl)), fun _ _ => rfl⟩, trivial⟩, fun _ _ => rfl⟩, trivial⟩
        (by omega) h2 h3 (by have : is.length ≤ n * is.length := Nat.le_mul_of_pos_left _ (by omega); omega)
    · cases he
  · cases he

/-! ## the levels -/
noncomputable def lev : Nat → Phi
  | 0, _ => fun _ => none
  | n + 1, 3 => prim3
  | n + 1, 4 => prim4
  | n + 1, 0 => runA 3 f_compare (lev n)
  | n + 1, 1 => runA 2 f_int_divmod (lev n)
  | n + 1, 2 => runA 2 f_divmod_pos (lev n)
  | n + 1, 5 => runA 3 f_div2n1n (lev n)
  | n + 1, 6 => runA 5 f_bisect_left (lev n)
  | n + 1, 7 => runA 5 f_bisect_right (lev n)
  | n + 1, 8 => runA 1 f_law_fractions (lev n)
  | n + 1, 9 => runA 2 f_law_quotients (lev n)
  | n + 1, 10 => runA 1 f_law_row (lev n)
  | n + 1, 11 => runA 1 f_law_key (lev n)
  | n + 1, 12 => runA 1 f_law_folded (lev n)
  | n + 1, 13 => runA 3 f_law_is_run (lev n)
  | n + 1, 14 => runA 1 f_law_listing (lev n)
  | n + 1, 15 => runA 1 f_law_farey (lev n)
  | n + 1, 16 => runA 2 f_law_sign (lev n)
  | n + 1, 17 => runA 2 f_law_in_order (lev n)
  | n + 1, 18 => runA 3 f_law_nearest (lev n)
  | n + 1, 19 => runA 5 f_law_stands (lev n)
  | n + 1, 20 => runA 1 f_law (lev n)
  | n + 1, _ => fun _ => none

theorem lev_ok (g : Grd P G) (hG : GOk G fa0) : ∀ n, PhiOk G fa0 (lev n) (64 + n)
  | 0 => ⟨fun i _ _ _ A s H args vals d _ _ _ _ _ he => (by cases he), fun i hi A s H x y u v f d _ _ _ _ _ _ _ he => (by cases he)⟩
  | n + 1 => by
    have hΦ := lev_ok g hG n
    refine ⟨fun i hi h6 h7 => ?_, fun i hi => ?_⟩
    · match i, hi, h6, h7 with
      | 0, _, _, _ => exact fok_0 g hG hΦ (Nat.le_add_right 64 n)
      | 1, _, _, _ => exact fok_1 g hG hΦ (Nat.le_add_right 64 n)
      | 2, _, _, _ => exact fok_2 g hG hΦ (Nat.le_add_right 64 n)
      | 3, _, _, _ => exact fok_3 g hG (Nat.le_add_right 64 n)
      | 4, _, _, _ => exact fok_4 g hG (Nat.le_add_right 64 n)
      | 5, _, _, _ => exact fok_5 g hG hΦ (Nat.le_add_right 64 n)
      | 8, _, _, _ => exact fok_8 g hG hΦ (Nat.le_add_right 64 n)
      | 9, _, _, _ => exact fok_9 g hG hΦ (Nat.le_add_right 64 n)
      | 10, _, _, _ => exact fok_10 g hG hΦ (Nat.le_add_right 64 n)
      | 11, _, _, _ => exact fok_11 g hG hΦ (Nat.le_add_right 64 n)
      | 12, _, _, _ => exact fok_12 g hG hΦ (Nat.le_add_right 64 n)
      | 13, _, _, _ => exact fok_13 g hG hΦ (Nat.le_add_right 64 n)
      | 14, _, _, _ => exact fok_14 g hG hΦ (Nat.le_add_right 64 n)
      | 15, _, _, _ => exact fok_15 g hG hΦ (Nat.le_add_right 64 n)
      | 16, _, _, _ => exact fok_16 g hG hΦ (Nat.le_add_right 64 n)
      | 17, _, _, _ => exact fok_17 g hG hΦ (Nat.le_add_right 64 n)
      | 18, _, _, _ => exact fok_18 g hG hΦ (Nat.le_add_right 64 n)
      | 19, _, _, _ => exact fok_19 g hG hΦ (Nat.le_add_right 64 n)
      | 20, _, _, _ => exact fok_20 g hG hΦ (Nat.le_add_right 64 n)
      | 6, _, h, _ => exact absurd rfl h
      | 7, _, _, h => exact absurd rfl h
      | i + 21, h, _, _ => exact absurd h (by simp [fnames])
    · rcases hi with rfl | rfl
      · exact fok_6 g hG hΦ (Nat.le_add_right 64 n)
      · exact fok_7 g hG hΦ (Nat.le_add_right 64 n)

end
end Mine

/-! GR -/
namespace Mine
open PySem PySem.W PyProof.Rows PySem.Calls PySem.Spec PySem.SeqAt

noncomputable abbrev tabsL : List (Addr × Addr) := [(175, 171), (144, 140), (69, 65), (62, 58)]

/-- the ground of a call -/
noncomputable def grOf (prog : Program) (w : World) (h : Heap) (mg mb : Str → Option Value) : Gr :=
  { prog := prog, w := w, g := ghostOf h tabsL, rows := rowsOf w.params, mg := mg, mb := mb, C := 38 }

section
variable {prog : Program} {w : World} {h : Heap} {mg mb : Str → Option Value} {p : Program} {loose : List Str} {mean : ExcName → Option Value}

theorem tabs_mem {b : Addr} : b ∈ (grOf prog w h mg mb).T ↔ b ∈ tabsL.map (·.2) := by
  show b ∈ (rowsOf w.params).map (·.P) ↔ _
  rfl

theorem grd_of (KX : (Mine.hd.heap_1 w.params).In h) (hT : TabsAt tabsL h) : Grd w.params (grOf prog w h mg mb) :=
  ⟨ghost_K hT KX (by kernel_rfl), rfl, rfl⟩

theorem gok_of (KX : (Mine.hd.heap_1 w.params).In h) (hT : TabsAt tabsL h) (T : Top p loose mean mg mb h) : GOk (grOf prog w h mg mb) fa0 := by
  have X := (grd_of (prog := prog) (mg := mg) (mb := mb) KX hT).X
  have ng : (grOf prog w h mg mb).g.Ns mainGlobals mg := ghost_ns hT T.g
  refine { ng := ng, nb := ghost_ns hT T.b, nolim := let ⟨mc, a, r⟩ := T.nolimit; ⟨mc, ghost_ns hT a, r⟩, bl := ?_, lim := ?_, fn := ?_, isf := ?_, cls := ?_, noT := ?_, one := ?_, place := ?_, hd := ?_, bm := ?_ }
  · intro x v hx
    simp only [bnames, List.mem_cons, List.not_mem_nil, or_false, Prod.mk.injEq] at hx
    rcases hx with ⟨rfl, rfl⟩ | ⟨rfl, rfl⟩ | ⟨rfl, rfl⟩ | ⟨rfl, rfl⟩ | ⟨rfl, rfl⟩ | ⟨rfl, rfl⟩
    all_goals exact ⟨mg_none_of X ng (by kernel_rfl), (T.builtins _ (by decide)).trans (by kernel_rfl)⟩
  · exact ⟨_, mg_of (v := match nsIn (Mine.hd.heap_1 w.params) mainGlobals (Str.ofString "_DIV_LIMIT") with | some (some (.int i t)) => .int 4000 t | _ => .none) X ng (by kernel_rfl)⟩
  · intro i x hx h0
    have hi : i < 21 := (List.getElem?_eq_some_iff.mp hx).1
    match i, hi, hx, h0 with
    | 0, _, _, h0 => exact absurd rfl h0
    | 1, _, hx, _ => cases hx; exact mg_of X ng (by kernel_rfl)
    | 2, _, hx, _ => cases hx; exact mg_of X ng (by kernel_rfl)
    | 3, _, hx, _ => cases hx; exact mg_of X ng (by kernel_rfl)
    | 4, _, hx, _ => cases hx; exact mg_of X ng (by kernel_rfl)
    | 5, _, hx, _ => cases hx; exact mg_of X ng (by kernel_rfl)
    | 6, _, hx, _ => cases hx; exact mg_of X ng (by kernel_rfl)
    | 7, _, hx, _ => cases hx; exact mg_of X ng (by kernel_rfl)
    | 8, _, hx, _ => cases hx; exact mg_of X ng (by kernel_rfl)
    | 9, _, hx, _ => cases hx; exact mg_of X ng (by kernel_rfl)
    | 10, _, hx, _ => cases hx; exact mg_of X ng (by kernel_rfl)
    | 11, _, hx, _ => cases hx; exact mg_of X ng (by kernel_rfl)
    | 12, _, hx, _ => cases hx; exact mg_of X ng (by kernel_rfl)
    | 13, _, hx, _ => cases hx; exact mg_of X ng (by kernel_rfl)
    | 14, _, hx, _ => cases hx; exact mg_of X ng (by kernel_rfl)
    | 15, _, hx, _ => cases hx; exact mg_of X ng (by kernel_rfl)
    | 16, _, hx, _ => cases hx; exact mg_of X ng (by kernel_rfl)
    | 17, _, hx, _ => cases hx; exact mg_of X ng (by kernel_rfl)
    | 18, _, hx, _ => cases hx; exact mg_of X ng (by kernel_rfl)
    | 19, _, hx, _ => cases hx; exact mg_of X ng (by kernel_rfl)
    | 20, _, hx, _ => cases hx; exact mg_of X ng (by kernel_rfl)
    | i + 21, hi, _, _ => exact absurd hi (by omega)
  · intro i hi
    have hi : i < 21 := hi
    match i, hi with
    | 0, _ => let ⟨o, ho, hd⟩ := (fat_0 (grd_of (prog := prog) (mg := mg) (mb := mb) KX hT)).at'; exact ⟨o, _, ho, hd⟩
    | 1, _ => let ⟨o, ho, hd⟩ := (fat_1 (grd_of (prog := prog) (mg := mg) (mb := mb) KX hT)).at'; exact ⟨o, _, ho, hd⟩
    | 2, _ => let ⟨o, ho, hd⟩ := (fat_2 (grd_of (prog := prog) (mg := mg) (mb := mb) KX hT)).at'; exact ⟨o, _, ho, hd⟩
    | 3, _ => let ⟨o, ho, hd⟩ := (fat_3 (grd_of (prog := prog) (mg := mg) (mb := mb) KX hT)).at'; exact ⟨o, _, ho, hd⟩
    | 4, _ => let ⟨o, ho, hd⟩ := (fat_4 (grd_of (prog := prog) (mg := mg) (mb := mb) KX hT)).at'; exact ⟨o, _, ho, hd⟩
    | 5, _ => let ⟨o, ho, hd⟩ := (fat_5 (grd_of (prog := prog) (mg := mg) (mb := mb) KX hT)).at'; exact ⟨o, _, ho, hd⟩
    | 6, _ => let ⟨o, ho, hd⟩ := (fat_6 (grd_of (prog := prog) (mg := mg) (mb := mb) KX hT)).at'; exact ⟨o, _, ho, hd⟩
    | 7, _ => let ⟨o, ho, hd⟩ := (fat_7 (grd_of (prog := prog) (mg := mg) (mb := mb) KX hT)).at'; exact ⟨o, _, ho, hd⟩
    | 8, _ => let ⟨o, ho, hd⟩ := (fat_8 (grd_of (prog := prog) (mg := mg) (mb := mb) KX hT)).at'; exact ⟨o, _, ho, hd⟩
    | 9, _ => let ⟨o, ho, hd⟩ := (fat_9 (grd_of (prog := prog) (mg := mg) (mb := mb) KX hT)).at'; exact ⟨o, _, ho, hd⟩
    | 10, _ => let ⟨o, ho, hd⟩ := (fat_10 (grd_of (prog := prog) (mg := mg) (mb := mb) KX hT)).at'; exact ⟨o, _, ho, hd⟩
    | 11, _ => let ⟨o, ho, hd⟩ := (fat_11 (grd_of (prog := prog) (mg := mg) (mb := mb) KX hT)).at'; exact ⟨o, _, ho, hd⟩
    | 12, _ => let ⟨o, ho, hd⟩ := (fat_12 (grd_of (prog := prog) (mg := mg) (mb := mb) KX hT)).at'; exact ⟨o, _, ho, hd⟩
    | 13, _ => let ⟨o, ho, hd⟩ := (fat_13 (grd_of (prog := prog) (mg := mg) (mb := mb) KX hT)).at'; exact ⟨o, _, ho, hd⟩
    | 14, _ => let ⟨o, ho, hd⟩ := (fat_14 (grd_of (prog := prog) (mg := mg) (mb := mb) KX hT)).at'; exact ⟨o, _, ho, hd⟩
    | 15, _ => let ⟨o, ho, hd⟩ := (fat_15 (grd_of (prog := prog) (mg := mg) (mb := mb) KX hT)).at'; exact ⟨o, _, ho, hd⟩
    | 16, _ => let ⟨o, ho, hd⟩ := (fat_16 (grd_of (prog := prog) (mg := mg) (mb := mb) KX hT)).at'; exact ⟨o, _, ho, hd⟩
    | 17, _ => let ⟨o, ho, hd⟩ := (fat_17 (grd_of (prog := prog) (mg := mg) (mb := mb) KX hT)).at'; exact ⟨o, _, ho, hd⟩
    | 18, _ => let ⟨o, ho, hd⟩ := (fat_18 (grd_of (prog := prog) (mg := mg) (mb := mb) KX hT)).at'; exact ⟨o, _, ho, hd⟩
    | 19, _ => let ⟨o, ho, hd⟩ := (fat_19 (grd_of (prog := prog) (mg := mg) (mb := mb) KX hT)).at'; exact ⟨o, _, ho, hd⟩
    | 20, _ => let ⟨o, ho, hd⟩ := (fat_20 (grd_of (prog := prog) (mg := mg) (mb := mb) KX hT)).at'; exact ⟨o, _, ho, hd⟩
    | i + 21, hi => exact absurd hi (by omega)
  · exact mg_of X ng (by kernel_rfl)
  · intro b hb
    exact hideAll_none _ (tabs_mem.mp hb)
  · intro r hr r' hr' e
    have hr : r ∈ [row19 w.params, row14 w.params, row4 w.params, row3 w.params] := hr
    have hr' : r' ∈ [row19 w.params, row14 w.params, row4 w.params, row3 w.params] := hr'
    simp only [List.mem_cons, List.not_mem_nil, or_false] at hr hr'
    rcases hr with rfl | rfl | rfl | rfl <;> rcases hr' with rfl | rfl | rfl | rfl <;> first | rfl | (exact absurd e (by simp only [row19, row14, row4, row3]; decide))
  · intro r hr q z q' z' h1 h2 h3 h4
    have hr : r ∈ [row19 w.params, row14 w.params, row4 w.params, row3 w.params] := hr
    simp only [List.mem_cons, List.not_mem_nil, or_false] at hr
    rcases hr with rfl | rfl | rfl | rfl
    · simp only [row19, List.mem_cons, List.not_mem_nil, or_false, Prod.mk.injEq] at h1 h2
      rcases h1 with ⟨rfl, rfl⟩ | ⟨rfl, rfl⟩ <;> rcases h2 with ⟨rfl, rfl⟩ | ⟨rfl, rfl⟩ <;> rfl
    · simp only [row14, List.mem_cons, List.not_mem_nil, or_false, Prod.mk.injEq] at h1 h2
      rw [h1.2, h2.2]
    · simp only [row4, List.mem_cons, List.not_mem_nil, or_false, Prod.mk.injEq] at h1 h2
      rw [h1.2, h2.2]
    · simp only [row3, List.mem_cons, List.not_mem_nil, or_false, Prod.mk.injEq] at h1 h2
      rw [h1.2, h2.2]
  · intro r hr
    have hr : r ∈ [row19 w.params, row14 w.params, row4 w.params, row3 w.params] := hr
    simp only [List.mem_cons, List.not_mem_nil, or_false] at hr
    rcases hr with rfl | rfl | rfl | rfl <;> exact codeHd_of_K X (by kernel_rfl)
  · exact let ⟨bm, ob, a1, a2, a3, a4, r⟩ := T.bmain; ⟨bm, ob, a1, a2, ghost_get hT a3 (fun q => by rw [q] at a4; cases a4), a4, r⟩

theorem tabNot {b : Addr} (hT : TabsAt tabsL h) (hb : b ∈ tabsL.map (·.2)) : h.get? b = some (tabObj #[]) := by
  obtain ⟨q, hq, rfl⟩ := List.mem_map.mp hb
  exact (hT q hq).2

theorem base_of (hT : TabsAt tabsL h) : Base (grOf prog w h mg mb) h := by
  refine ⟨fun b o e => of_hideAll _ e, fun r hr => ?_⟩
  have hb : r.P ∈ tabsL.map (·.2) := tabs_mem (prog := prog) (w := w) (h := h) (mg := mg) (mb := mb) |>.mp (List.mem_map_of_mem hr)
  exact ⟨#[], tabNot hT hb, trivial, fun pos q _ cv hc => by cases hc⟩

theorem law_call (KX : (Mine.hd.heap_1 w.params).In h) (hT : TabsAt tabsL h) (T : Top p loose mean mg mb h) {s : Shared} (hs : s.heap = h) {l : Addr} {vs : List Value} {xs : List Int} (hL : h.IsList l vs.toArray) (hI : IntsAre vs xs) {n : Nat} (hn : n ≤ 20)
    (hlaw : lev n 20 [.dat (.list (xs.map .int))] = some (.bool true)) {Q : Value → Shared → Prop} {E : Value → Shared → Prop}
    (hq : ∀ s', Gw (grOf prog w h mg mb) s s' → Q (.bool true) s') : wpAny (model prog w) callerA (call (.ref 181) [.ref l]) Q E s := by
  subst hs
  have hG := gok_of (prog := prog) KX hT T
  have g := grd_of (prog := prog) (mg := mg) (mb := mb) KX hT
  have bs := base_of (prog := prog) (w := w) (mg := mg) (mb := mb) hT
  have hno : ∀ b ∈ (grOf prog w s.heap mg mb).T, s.heap.get? b = some (tabObj #[]) := fun b hb => tabNot hT (tabs_mem.mp hb)
  have hA : AOk callerA (64 + n) := by
    refine ⟨rfl, ?_, ?_⟩
    · show 301 + (64 + n) < 1000
      omega
    · show 4 + 40 * (64 + n) + 200 < 9900
      omega
  refine wpAny_mono ((lev_ok g hG n).fn 20 (by decide) (by decide) (by decide) callerA s (grOf prog w s.heap mg mb).T [.dat (.list (xs.map .int))] [.ref l] (.bool true) hA bs (fun b hb => hb) (fun b hb => ⟨_, hno b hb, tab_notCode trivial⟩) ⟨?_, trivial⟩ hlaw) (fun v s' ⟨g', r⟩ => ?_) fun _ _ f => f.elim
  · obtain ⟨o, ho, hc, nn, hd⟩ := hL
    obtain ⟨as, r⟩ := ints_rd hI (grOf prog w s.heap mg mb).T s.heap
    refine ⟨_, .list (hideAll_get _ ho fun q => ?_) hc hd (by simpa using r)⟩
    rw [hno _ q] at ho; cases ho; cases hc
  · rw [Rd.bool r]
    exact hq s' g'

theorem old_of (hT : TabsAt tabsL h) {s s' : Shared} (hs : s.heap = h) (g : Gw (grOf prog w h mg mb) s s') : OldK s.heap s'.heap := by
  subst hs
  have grown : ∀ b o, b ∈ tabsL.map (·.2) → s.heap.get? b = some o → isCodeTable s.heap b ∧ o = tabObj #[] ∧ ∃ ps, s'.heap.get? b = some (tabObj ps) := fun b o hb e => by
    have hb' := tabs_mem (prog := prog) (w := w) (h := s.heap) (mg := mg) (mb := mb) |>.mpr hb
    obtain ⟨r, hr, rfl⟩ := List.mem_map.mp hb'
    obtain ⟨ps, h1, _⟩ := g.base.tabs r hr
    obtain ⟨q, hq, e3⟩ := List.mem_map.mp hb
    have e2 := (hT q hq).2
    have e4 := ((hT q hq).1.tab (hT q hq).2).isCodeTable
    rw [show q.2 = r.P from e3] at e2 e4
    rw [e] at e2
    exact ⟨e4, Option.some.inj e2, ps, h1⟩
  refine ⟨fun b o e => ?_, fun b o e => ?_⟩
  · by_cases hb : b ∈ tabsL.map (·.2)
    · obtain ⟨ht, rfl, ps, hP⟩ := grown b o hb e
      exact .inr (.inl ⟨ht, rfl, #[], ps, rfl, by rw [Array.empty_append]; exact hP⟩)
    · exact .inl (g.ext b o (fun q => hb (tabs_mem.mp q)) e)
  · by_cases hb : b ∈ tabsL.map (·.2)
    · obtain ⟨_, _, ps, hP⟩ := grown b o hb e
      exact ⟨_, hP⟩
    · exact ⟨o, g.ext b o (fun q => hb (tabs_mem.mp q)) e⟩
end
end Mine

/-! PA -/
namespace Mine
open PySem

/-! # the plain law -/
noncomputable abbrev iv (i : Int) : EV := .dat (.int i)
noncomputable abbrev lst (xs : List Int) : PyData := .list (xs.map .int)
noncomputable abbrev tup (xs : List Int) : PyData := .tuple (xs.map .int)
noncomputable abbrev pr (a b : Int) : PyData := .tuple [.int a, .int b]

theorem cmp_lt_int (i j : Int) : compare' .lt (.int i) (.int j) = some (decide (i < j)) := rfl
theorem cmp_le_int (i j : Int) : compare' .le (.int i) (.int j) = some (decide (i ≤ j)) := rfl
theorem cmp_gt_int (i j : Int) : compare' .gt (.int i) (.int j) = some (decide (i > j)) := rfl
theorem cmp_ge_int (i j : Int) : compare' .ge (.int i) (.int j) = some (decide (i ≥ j)) := rfl

theorem log2_lt {m k : Nat} (hm : m ≠ 0) (h : m < 2 ^ k) : m.log2 < k := (Nat.log2_lt hm).mpr h
theorem bitLen_le {a : Int} {k : Nat} (h : a.natAbs < 2 ^ k) : bitLen a ≤ k := by
  unfold bitLen
  split
  · omega
  · have := log2_lt (m := a.natAbs) (by omega) h
    omega
theorem lt_bitLen (a : Nat) : a < 2 ^ bitLen a := by
  unfold bitLen
  split
  · have : a = 0 := by omega
    subst this; decide
  · rw [Int.natAbs_natCast]; exact Nat.lt_log2_self

theorem l5 (n : Nat) {a b m : Int} (hb : 0 < b) (hb2 : b < 1073741824) (ha : a.natAbs < 9223372036854775808) (hm : 0 ≤ m) : lev (n+1) 5 [iv a, iv b, iv m] = some (pr (a.fdiv b) (a.fmod b)) := by
  show runA 3 f_div2n1n (lev n) _ = _
  have h1 : bitLen a ≤ 63 := bitLen_le (k := 63) (by simpa using ha)
  have h2 : (bitLen a : Int) - m ≤ 4000 := by omega
  simp [runA, Fn.run, f_div2n1n, se_dead, se_nop, se_seq, se_assign, se_unpack, se_swap, se_newl, se_app, se_ins, se_rvs, se_ite, se_whl, se_loop, se_ret, xe_var, xe_int, xe_nil, xe_bool, xe_lim, xe_ar, xe_cat, xe_rep, xe_neg, xe_inv, xe_not, xe_cmp, xe_isNone, xe_and2, xe_or2, xe_or3, xe_ite, xe_tup2, xe_tup3, xe_list0, xe_list1, xe_list3, xe_sub, xe_from1, xe_upto1, xe_sl3, xe_len, xe_sum, xe_tuple, xe_bits, xe_divmod, xe_call1, xe_call2, xe_call3, xe_call5, xe_callk, xe_keyc, xe_comp, xe_mk, xe_cmpr, xe_attr, arith, compare', ha, hb, hb2, h2]

/-! digits -/
theorem undigs_digs (n : Nat) : ∀ (m x : Nat), undigs n (digs n x m) = ((x % 2 ^ (n * m) : Nat) : Int) := by
  intro m
  induction m with
  | zero => intro x; simp [digs, undigs, Nat.mod_one]
  | succ m ih =>
    intro x
    simp only [digs, undigs, ih]
    have e : 2 ^ (n * (m + 1)) = 2 ^ n * 2 ^ (n * m) := by rw [← Nat.pow_add]; congr 1; rw [Nat.mul_succ]; omega
    rw [e, Nat.mod_mul]
    simp
theorem digs_mem (n : Nat) : ∀ (m x : Nat) (d : Int), d ∈ digs n x m → 0 ≤ d ∧ d < 2 ^ n := by
  intro m
  induction m with
  | zero => intro x d h; cases h
  | succ m ih =>
    intro x d h
    simp only [digs, List.mem_cons] at h
    rcases h with rfl | h
    · have := Nat.mod_lt x (Nat.two_pow_pos n)
      exact ⟨by omega, by rw [two_pow]; omega⟩
    · exact ih _ _ h

/-- the long division, the least digit first: rest, digits -/
noncomputable def ldiv (k : Nat) (b : Int) : List Int → Int × List Int
  | [] => (0, [])
  | d :: ds => let p := ldiv k b ds; ((p.1 * 2 ^ k + d).fmod b, (p.1 * 2 ^ k + d).fdiv b :: p.2)
theorem ldiv_ok (k : Nat) {b : Int} (hb : 0 < b) : ∀ (ds : List Int), (∀ d ∈ ds, 0 ≤ d ∧ d < 2 ^ k) →
    (0 ≤ (ldiv k b ds).1 ∧ (ldiv k b ds).1 < b) ∧ (ldiv k b ds).2.length = ds.length ∧ (∀ q ∈ (ldiv k b ds).2, 0 ≤ q ∧ q < 2 ^ k) ∧ undigs k ds = undigs k (ldiv k b ds).2 * b + (ldiv k b ds).1
  | [], _ => ⟨⟨Int.le_refl _, hb⟩, rfl, (fun q h => by cases h), by simp [undigs, ldiv]⟩
  | d :: ds, h => by
    obtain ⟨⟨h1, h2⟩, h3, h4, h5⟩ := ldiv_ok k hb ds fun x hx => h x (List.mem_cons_of_mem _ hx)
    obtain ⟨h6, h7⟩ := h d (List.mem_cons_self ..)
    simp only [ldiv]
    generalize hp : ldiv k b ds = p at *
    have hk : (0 : Int) < 2 ^ k := Int.pow_pos (by decide)
    have hv : 0 ≤ p.1 * 2 ^ k + d := Int.add_nonneg (Int.mul_nonneg h1 (Int.le_of_lt hk)) h6
    have e1 := Int.emod_add_mul_ediv (p.1 * 2 ^ k + d) b
    rw [Int.fdiv_eq_ediv_of_nonneg _ (Int.le_of_lt hb), Int.fmod_eq_emod_of_nonneg _ (Int.le_of_lt hb)]
    have hlt : p.1 * 2 ^ k + d < b * 2 ^ k := by
      have : (p.1 + 1) * 2 ^ k ≤ b * 2 ^ k := Int.mul_le_mul_of_nonneg_right (by omega) (Int.le_of_lt hk)
      rw [Int.add_mul, Int.one_mul] at this
      omega
    refine ⟨⟨Int.emod_nonneg _ (by omega), Int.emod_lt_of_pos _ hb⟩, by simp [h3], ?_, ?_⟩
    · intro q hq
      rcases List.mem_cons.mp hq with rfl | hq
      · exact ⟨Int.ediv_nonneg hv (Int.le_of_lt hb), Int.ediv_lt_of_lt_mul hb (by rw [Int.mul_comm (2 ^ k) b]; exact hlt)⟩
      · exact h4 q hq
    · simp only [undigs, h5]
      have : 2 ^ k * (undigs k p.2 * b + p.1) = 2 ^ k * undigs k p.2 * b + p.1 * 2 ^ k := by rw [Int.mul_add, Int.mul_assoc, Int.mul_comm (2 ^ k) p.1]
      rw [this, Int.add_mul, Int.mul_comm ((p.1 * 2 ^ k + d) / b) b]
      omega

theorem forGo_append (f : PyData → Env' → Option Out) : ∀ (xs ys : List PyData) (ρ : Env'), forGo f (xs ++ ys) ρ = match forGo f xs ρ with | some (.next ρ') => forGo f ys ρ' | r => r
  | [], ys, ρ => rfl
  | x :: xs, ys, ρ => by
    simp only [List.cons_append, forGo]
    cases h : f x ρ with
    | none => rfl
    | some o =>
      cases o with
      | ret v => rfl
      | next ρ' => exact forGo_append f xs ys ρ'

theorem map_reverse_int (is : List Int) : (is.map PyData.int).reverse = is.reverse.map .int := by simp

theorem l2_loop (n : Nat) {a b : Int} {k : Nat} (hb : 0 < b) (hb2 : b ≤ 64) (hk : 1 ≤ k) (hk2 : k ≤ 7) (q7 : EV) : ∀ (ds : List Int), (∀ d ∈ ds, 0 ≤ d ∧ d < 2 ^ k) → ds.length < 100 →
    ∃ u v, forGo (fun d ρ => (bindT (.one 7) d ρ).bind (evalS (lev (n+1)) [4] b_divmod_pos_1)) (ds.map .int).reverse [some (iv a), some (iv b), none, some (iv 0), some (.dat (.list [])), some (iv k), some q7, none, none] =
      some (.next [some (iv a), some (iv b), none, some (iv (ldiv k b ds).1), some (.dat (.list ((ldiv k b ds).2.map .int).reverse)), some (iv k), some q7, u, v])
  | [], _, _ => ⟨none, none, rfl⟩
  | d :: ds, h, hl => by
    obtain ⟨u, v, ih⟩ := l2_loop n (a := a) hb hb2 hk hk2 q7 ds (fun x hx => h x (List.mem_cons_of_mem _ hx)) (by simp at hl; omega)
    obtain ⟨⟨h1, h2⟩, h3, h4, h5⟩ := ldiv_ok k hb ds fun x hx => h x (List.mem_cons_of_mem _ hx)
    obtain ⟨h6, h7⟩ := h d (List.mem_cons_self ..)
    simp only [List.map_cons, List.reverse_cons, forGo_append, ih]
    have hkp : (2 : Int) ^ k ≤ 128 := by
      have : (2 : Nat) ^ k ≤ 2 ^ 7 := Nat.pow_le_pow_right (by decide) hk2
      rw [two_pow]; omega
    have hk0 : (0 : Int) < 2 ^ k := Int.pow_pos (by decide)
    generalize hp : ldiv k b ds = p at *
    have hm : p.1 * 2 ^ k ≤ 64 * 128 := Int.mul_le_mul (by omega) hkp (Int.le_of_lt hk0) (by decide)
    have hm0 : 0 ≤ p.1 * 2 ^ k := Int.mul_nonneg h1 (Int.le_of_lt hk0)
    have e5 := l5 n (a := p.1 * 2 ^ k + d) (b := b) (m := k) hb (by omega) (by omega) (by omega)
    have e6 : p.1.natAbs < 9223372036854775808 := by omega
    have e7 : (k : Int) < 64 := by omega
    have hlen : p.2.length < 1048576 := by simp at hl; omega
    simp only [ldiv, hp]
    exact ⟨some (iv d), some (iv ((p.1 * 2 ^ k + d).fdiv b)), by simp [forGo, bindT, b_divmod_pos_1, se_dead, se_nop, se_seq, se_assign, se_unpack, se_swap, se_newl, se_app, se_ins, se_rvs, se_ite, se_whl, se_loop, se_ret, xe_var, xe_int, xe_nil, xe_bool, xe_lim, xe_ar, xe_cat, xe_rep, xe_neg, xe_inv, xe_not, xe_cmp, xe_isNone, xe_and2, xe_or2, xe_or3, xe_ite, xe_tup2, xe_tup3, xe_list0, xe_list1, xe_list3, xe_sub, xe_from1, xe_upto1, xe_sl3, xe_len, xe_sum, xe_tuple, xe_bits, xe_divmod, xe_call1, xe_call2, xe_call3, xe_call5, xe_callk, xe_keyc, xe_comp, xe_mk, xe_cmpr, xe_attr, arith, xh_var, xh_int, xh_nil, xh_bool, xh_lim, xh_list0, xh_ar, xh_cat, xh_rep, xh_cmp, xh_and2, xh_or2, xh_tup2, xh_sub, xh_sl3, xh_divmod, xh_call2, xh_callk, xh_neg, xh_inv, xh_not, xh_isNone, xh_list1, xh_from1, xh_upto1, xh_len, xh_sum, xh_tuple, xh_bits, xh_call1, xh_mk, xh_or3, xh_ite, xh_tup3, xh_list3, xh_call3, xh_call5, xh_keyc, xh_comp, xh_cmpr, xh_attr, e5, e6, e7, hlen]⟩
end Mine

/-! PB -/
namespace Mine
open PySem

theorem l3 (n : Nat) {a k : Nat} (ha : a < 2 ^ 40) (hk : 1 ≤ k) (hk2 : k ≤ 7) : ∃ m, lev (n+1) 3 [iv a, iv k] = some (.list ((digs k a m).map .int)) ∧ k * m ≤ 60 ∧ a < 2 ^ (k * m) := by
  have h1 : bitLen a ≤ 40 := bitLen_le (k := 40) (by rw [Int.natAbs_natCast]; exact ha)
  have h2 := lt_bitLen a
  have e : ((bitLen a : Int) + k - 1).fdiv k = (((bitLen a + k - 1) / k : Nat) : Int) := by
    rw [show ((bitLen a : Int) + k - 1) = ((bitLen a + k - 1 : Nat) : Int) by omega, fdiv_nat]
  have hd := Nat.div_add_mod (bitLen (a : Int) + k - 1) k
  have hmod := Nat.mod_lt (bitLen (a : Int) + k - 1) (show k > 0 by omega)
  refine ⟨(bitLen (a : Int) + k - 1) / k, ?_, by omega, Nat.lt_of_lt_of_le h2 (Nat.pow_le_pow_right (by decide) (by omega))⟩
  show prim3 _ = _
  unfold prim3
  simp only [e, Int.toNat_natCast]
  rw [if_pos]
  refine ⟨by omega, by omega, by omega, by omega, Nat.lt_of_lt_of_le h2 (Nat.pow_le_pow_right (by decide) (by omega)), ?_⟩
  by_cases h : a = 0
  · subst h
    right
    have : bitLen ((0 : Nat) : Int) = 0 := rfl
    rw [this]
    exact Nat.div_eq_of_lt (by omega)
  · left; omega

theorem l4 (n : Nat) {k : Nat} {is : List Int} (hk : 1 ≤ k) (hl : k * is.length ≤ 60) (h : ∀ d ∈ is, 0 ≤ d ∧ d < 2 ^ k) : lev (n+1) 4 [.dat (.list (is.map .int)), iv k] = some (.int (undigs k is)) := by
  show prim4 _ = _
  unfold prim4
  simp only [ints_map, Int.toNat_natCast]
  rw [if_pos ⟨by omega, hl, h⟩]

theorem l2 (n : Nat) {a b : Int} (ha0 : 0 ≤ a) (ha : a < 1099511627776) (hb : 0 < b) (hb2 : b ≤ 64) : lev (n+2) 2 [iv a, iv b] = some (pr (a.fdiv b) (a.fmod b)) := by
  obtain ⟨a, rfl⟩ := Int.eq_ofNat_of_zero_le ha0
  obtain ⟨b, rfl⟩ := Int.eq_ofNat_of_zero_le (show 0 ≤ b by omega)
  have hk2 : bitLen b ≤ 7 := bitLen_le (k := 7) (by rw [Int.natAbs_natCast]; omega)
  have hk : 1 ≤ bitLen b := by
    have := lt_bitLen b
    rcases Nat.eq_zero_or_pos (bitLen b) with q | q
    · rw [q] at this; omega
    · exact q
  generalize hkk : bitLen (b : Int) = k at *
  obtain ⟨m, h3, h4, h5⟩ := l3 n (a := a) (k := k) (by omega) hk hk2
  have hdm := digs_mem k m a
  have hm60 : m ≤ 60 := Nat.le_trans (Nat.le_mul_of_pos_left m hk) h4
  have hlen : (digs k a m).length = m := digs_length k m a
  obtain ⟨⟨r1, r2⟩, r3, r4, r5⟩ := ldiv_ok k (b := (b : Int)) (by omega) (digs k a m) hdm
  obtain ⟨u, v, hloop⟩ := l2_loop n (a := (a : Int)) (b := (b : Int)) (k := k) hb hb2 hk hk2 (.dat (.list ((digs k a m).map .int))) (digs k a m) hdm (by omega)
  have hu : undigs k (digs k a m) = a := by rw [undigs_digs, Nat.mod_eq_of_lt h5]
  rw [hu] at r5
  have e4 := l4 n (k := k) (is := (ldiv k b (digs k a m)).2) hk (by rw [r3, hlen]; exact h4) r4
  have hq : (a : Int).fdiv b = undigs k (ldiv k b (digs k a m)).2 ∧ (a : Int).fmod b = (ldiv k b (digs k a m)).1 := by
    rw [Int.fdiv_eq_ediv_of_nonneg _ (by omega), Int.fmod_eq_emod_of_nonneg _ (by omega)]
    generalize ldiv k b (digs k a m) = p at *
    refine (Int.ediv_emod_unique (by omega)).mpr ⟨?_, r1, r2⟩
    rw [Int.mul_comm]; omega
  rw [hq.1, hq.2]
  generalize ldiv k b (digs k a m) = p at *
  show runA 2 f_divmod_pos (lev (n+1)) _ = _
  have hl1 : p.2.length < 1048576 := by omega
  have hl2 : m < 1048576 := by omega
  have hb63 : b < 9223372036854775808 := by omega
  simp [runA, Fn.run, f_divmod_pos, se_dead, se_nop, se_seq, se_assign, se_unpack, se_swap, se_newl, se_app, se_ins, se_rvs, se_ite, se_whl, se_loop, se_ret, xe_var, xe_int, xe_nil, xe_bool, xe_lim, xe_ar, xe_cat, xe_rep, xe_neg, xe_inv, xe_not, xe_cmp, xe_isNone, xe_and2, xe_or2, xe_or3, xe_ite, xe_tup2, xe_tup3, xe_list0, xe_list1, xe_list3, xe_sub, xe_from1, xe_upto1, xe_sl3, xe_len, xe_sum, xe_tuple, xe_bits, xe_divmod, xe_call1, xe_call2, xe_call3, xe_call5, xe_callk, xe_keyc, xe_comp, xe_mk, xe_cmpr, xe_attr, xh_var, xh_int, xh_nil, xh_bool, xh_lim, xh_list0, xh_ar, xh_cat, xh_rep, xh_cmp, xh_and2, xh_or2, xh_tup2, xh_sub, xh_sl3, xh_divmod, xh_call2, xh_callk, xh_neg, xh_inv, xh_not, xh_isNone, xh_list1, xh_from1, xh_upto1, xh_len, xh_sum, xh_tuple, xh_bits, xh_call1, xh_mk, xh_or3, xh_ite, xh_tup3, xh_list3, xh_call3, xh_call5, xh_keyc, xh_comp, xh_cmpr, xh_attr, hb63, hkk, h3, iterOf, hlen, hl2, hloop, scal, hl1, e4]

theorem l1_pos (n : Nat) {a b : Int} (ha0 : 0 ≤ a) (ha : a < 1099511627776) (hb : 0 < b) (hb2 : b ≤ 64) : lev (n+3) 1 [iv a, iv b] = some (pr (a.fdiv b) (a.fmod b)) := by
  show runA 2 f_int_divmod (lev (n+2)) _ = _
  have h1 : ¬ b = 0 := by omega
  have h2 : ¬ b < 0 := by omega
  have h3 : ¬ a < 0 := by omega
  simp [runA, Fn.run, f_int_divmod, se_dead, se_nop, se_seq, se_assign, se_unpack, se_swap, se_newl, se_app, se_ins, se_rvs, se_ite, se_whl, se_loop, se_ret, xe_var, xe_int, xe_nil, xe_bool, xe_lim, xe_ar, xe_cat, xe_rep, xe_neg, xe_inv, xe_not, xe_cmp, xe_isNone, xe_and2, xe_or2, xe_or3, xe_ite, xe_tup2, xe_tup3, xe_list0, xe_list1, xe_list3, xe_sub, xe_from1, xe_upto1, xe_sl3, xe_len, xe_sum, xe_tuple, xe_bits, xe_divmod, xe_call1, xe_call2, xe_call3, xe_call5, xe_callk, xe_keyc, xe_comp, xe_mk, xe_cmpr, xe_attr, xh_var, xh_int, xh_nil, xh_bool, xh_lim, xh_list0, xh_ar, xh_cat, xh_rep, xh_cmp, xh_and2, xh_or2, xh_tup2, xh_sub, xh_sl3, xh_divmod, xh_call2, xh_callk, xh_neg, xh_inv, xh_not, xh_isNone, xh_list1, xh_from1, xh_upto1, xh_len, xh_sum, xh_tuple, xh_bits, xh_call1, xh_mk, xh_or3, xh_ite, xh_tup3, xh_list3, xh_call3, xh_call5, xh_keyc, xh_comp, xh_cmpr, xh_attr, cmp_eq_int, cmp_lt_int, h1, h2, h3, l2 n ha0 ha hb hb2]

theorem l1 (n : Nat) {a b : Int} (ha0 : -1099511627776 ≤ a) (ha : a < 1099511627776) (hb : 0 < b) (hb2 : b ≤ 64) : lev (n+4) 1 [iv a, iv b] = some (pr (a.fdiv b) (a.fmod b)) := by
  by_cases h : 0 ≤ a
  · exact l1_pos (n + 1) h ha hb hb2
  · show runA 2 f_int_divmod (lev (n+3)) _ = _
    have h1 : ¬ b = 0 := by omega
    have h2 : ¬ b < 0 := by omega
    have h3 : a < 0 := by omega
    have e := l1_pos n (a := -a - 1) (b := b) (by omega) (by omega) hb hb2
    have hq : a.fdiv b = -(-a - 1).fdiv b - 1 ∧ a.fmod b = b + (-(-a - 1).fmod b - 1) := by
      simp only [Int.fdiv_eq_ediv_of_nonneg _ (show 0 ≤ b by omega), Int.fmod_eq_emod_of_nonneg _ (show 0 ≤ b by omega)]
      have e1 := Int.emod_add_mul_ediv (-a - 1) b
      have e2 := Int.emod_nonneg (-a - 1) (show b ≠ 0 by omega)
      have e3 := Int.emod_lt_of_pos (-a - 1) hb
      refine (Int.ediv_emod_unique (by omega)).mpr ⟨?_, by omega, by omega⟩
      generalize (-a - 1) / b = q at *
      have : b * (-q - 1) = -(b * q) - b := by rw [Int.mul_sub, Int.mul_neg]; omega
      rw [this]; omega
    rw [hq.1, hq.2]
    simp [runA, Fn.run, f_int_divmod, se_dead, se_nop, se_seq, se_assign, se_unpack, se_swap, se_newl, se_app, se_ins, se_rvs, se_ite, se_whl, se_loop, se_ret, xe_var, xe_int, xe_nil, xe_bool, xe_lim, xe_ar, xe_cat, xe_rep, xe_neg, xe_inv, xe_not, xe_cmp, xe_isNone, xe_and2, xe_or2, xe_or3, xe_ite, xe_tup2, xe_tup3, xe_list0, xe_list1, xe_list3, xe_sub, xe_from1, xe_upto1, xe_sl3, xe_len, xe_sum, xe_tuple, xe_bits, xe_divmod, xe_call1, xe_call2, xe_call3, xe_call5, xe_callk, xe_keyc, xe_comp, xe_mk, xe_cmpr, xe_attr, xh_var, xh_int, xh_nil, xh_bool, xh_lim, xh_list0, xh_ar, xh_cat, xh_rep, xh_cmp, xh_and2, xh_or2, xh_tup2, xh_sub, xh_sl3, xh_divmod, xh_call2, xh_callk, xh_neg, xh_inv, xh_not, xh_isNone, xh_list1, xh_from1, xh_upto1, xh_len, xh_sum, xh_tuple, xh_bits, xh_call1, xh_mk, xh_or3, xh_ite, xh_tup3, xh_list3, xh_call3, xh_call5, xh_keyc, xh_comp, xh_cmpr, xh_attr, cmp_eq_int, cmp_lt_int, h1, h2, h3, e, arith]
end Mine

/-! PC -/
namespace Mine
open PySem

/-! ## quotients -/
noncomputable def cf : Nat → Int → Int → List Int
  | 0, _, _ => []
  | f + 1, n, d => if d = 0 then [] else n.fdiv d :: cf f d (n.fmod d)
noncomputable def row : Nat → Int → Int → List Int
  | 0, _, _ => []
  | k + 1, n, d => if d = 0 then 1000000000 :: row k n 0 else n.fdiv d :: row k d (n.fmod d)
noncomputable def fits : Nat → Int → Int → Bool
  | 0, _, d => d == 0
  | k + 1, n, d => d == 0 || fits k d (n.fmod d)

theorem row_zero : ∀ (k : Nat) (n : Int), row k n 0 = List.replicate k 1000000000
  | 0, _ => rfl
  | k + 1, n => by simp only [row, if_true, row_zero k n, List.replicate_succ]
theorem cf_zero (f : Nat) (n : Int) : cf f n 0 = [] := by cases f <;> simp [cf]
theorem cf_row : ∀ (k f : Nat) (n d : Int), k ≤ f → fits k n d = true → (cf f n d).length ≤ k ∧ cf f n d ++ List.replicate (k - (cf f n d).length) 1000000000 = row k n d
  | 0, f, n, d, _, h => by
    have : d = 0 := by simpa [fits] using h
    subst this
    rw [cf_zero]; exact ⟨Nat.le_refl _, rfl⟩
  | k + 1, f, n, d, hf, h => by
    by_cases hd : d = 0
    · subst hd
      rw [cf_zero, row_zero]; exact ⟨Nat.zero_le _, rfl⟩
    · obtain ⟨f, rfl⟩ : ∃ f', f = f' + 1 := ⟨f - 1, by omega⟩
      have h' : fits k d (n.fmod d) = true := by simpa [fits, hd] using h
      obtain ⟨h1, h2⟩ := cf_row k f d (n.fmod d) (by omega) h'
      simp only [cf, row, hd, if_false, List.length_cons, List.cons_append]
      refine ⟨by omega, ?_⟩
      rw [show k + 1 - ((cf f d (n.fmod d)).length + 1) = k - (cf f d (n.fmod d)).length by omega, h2]

theorem fits_all : ∀ d : Fin 41, ∀ r : Fin 41, r.val < d.val → fits 11 (d.val : Int) (r.val : Int) = true := by decide +kernel
theorem fmod_bd {n d : Int} (hd : 0 < d) : 0 ≤ n.fmod d ∧ n.fmod d < d := by
  rw [Int.fmod_eq_emod_of_nonneg _ (by omega)]
  exact ⟨Int.emod_nonneg _ (by omega), Int.emod_lt_of_pos _ hd⟩
theorem fits_12 {n d : Int} (hd : 0 < d) (hd2 : d ≤ 40) : fits 12 n d = true := by
  obtain ⟨h1, h2⟩ := fmod_bd (n := n) hd
  have : fits 11 d (n.fmod d) = true := by
    have := fits_all ⟨d.toNat, by omega⟩ ⟨(n.fmod d).toNat, by omega⟩ (show (n.fmod d).toNat < d.toNat by omega)
    simp only [Int.toNat_of_nonneg (show 0 ≤ d by omega), Int.toNat_of_nonneg h1] at this
    exact this
  show (d == 0 || fits 11 d (n.fmod d)) = true
  rw [this, Bool.or_true]

theorem l9_loop (n : Nat) : ∀ (f : Nat) (a d : Int) (acc : List Int) (u v : Option EV), -1000000 ≤ a → a ≤ 1000000 → 0 ≤ d → d ≤ 64 → d < f → acc.length + f < 1000 →
    ∃ a' u' v', whileN (evalX (lev (n+4)) (.cmp .ne (.var 1) (.int 0))) (evalS (lev (n+4)) [2] b_law_quotients_1) f [some (iv a), some (iv d), some (.dat (lst acc)), u, v] = some (.next [some (iv a'), some (iv 0), some (.dat (lst (acc ++ cf f a d))), u', v'])
  | 0, a, d, acc, u, v, _, _, h, _, h', _ => by omega
  | f + 1, a, d, acc, u, v, ha, ha', h0, hd, hf, hl => by
    by_cases hz : d = 0
    · subst hz
      exact ⟨a, u, v, by simp [whileN, xe_var, xe_int, xe_nil, xe_bool, xe_lim, xe_ar, xe_cat, xe_rep, xe_neg, xe_inv, xe_not, xe_cmp, xe_isNone, xe_and2, xe_or2, xe_or3, xe_ite, xe_tup2, xe_tup3, xe_list0, xe_list1, xe_list3, xe_sub, xe_from1, xe_upto1, xe_sl3, xe_len, xe_sum, xe_tuple, xe_bits, xe_divmod, xe_call1, xe_call2, xe_call3, xe_call5, xe_callk, xe_keyc, xe_comp, xe_mk, xe_cmpr, xe_attr, cmp_ne_int, cf]⟩
    · obtain ⟨h1, h2⟩ := fmod_bd (n := a) (d := d) (by omega)
      obtain ⟨a', u', v', ih⟩ := l9_loop n f d (a.fmod d) (acc ++ [a.fdiv d]) (some (iv (a.fmod d))) (some (iv (a.fdiv d))) (by omega) (by omega) h1 (by omega) (by omega) (by simp; omega)
      refine ⟨a', u', v', ?_⟩
      have e1 := l1 n (a := a) (b := d) (by omega) (by omega) (by omega) (by omega)
      have hlen : acc.length < 1048576 := by omega
      simp only [whileN]
      rw [show evalX (lev (n+4)) (.cmp .ne (.var 1) (.int 0)) [some (iv a), some (iv d), some (.dat (lst acc)), u, v] = some (.dat (.bool true)) by simp [xe_var, xe_int, xe_nil, xe_bool, xe_lim, xe_ar, xe_cat, xe_rep, xe_neg, xe_inv, xe_not, xe_cmp, xe_isNone, xe_and2, xe_or2, xe_or3, xe_ite, xe_tup2, xe_tup3, xe_list0, xe_list1, xe_list3, xe_sub, xe_from1, xe_upto1, xe_sl3, xe_len, xe_sum, xe_tuple, xe_bits, xe_divmod, xe_call1, xe_call2, xe_call3, xe_call5, xe_callk, xe_keyc, xe_comp, xe_mk, xe_cmpr, xe_attr, cmp_ne_int, hz]]
      simp only []
      rw [show evalS (lev (n+4)) [2] b_law_quotients_1 [some (iv a), some (iv d), some (.dat (lst acc)), u, v] = some (.next [some (iv d), some (iv (a.fmod d)), some (.dat (lst (acc ++ [a.fdiv d]))), some (iv (a.fmod d)), some (iv (a.fdiv d))]) by simp [b_law_quotients_1, se_dead, se_nop, se_seq, se_assign, se_unpack, se_swap, se_newl, se_app, se_ins, se_rvs, se_ite, se_whl, se_loop, se_ret, xe_var, xe_int, xe_nil, xe_bool, xe_lim, xe_ar, xe_cat, xe_rep, xe_neg, xe_inv, xe_not, xe_cmp, xe_isNone, xe_and2, xe_or2, xe_or3, xe_ite, xe_tup2, xe_tup3, xe_list0, xe_list1, xe_list3, xe_sub, xe_from1, xe_upto1, xe_sl3, xe_len, xe_sum, xe_tuple, xe_bits, xe_divmod, xe_call1, xe_call2, xe_call3, xe_call5, xe_callk, xe_keyc, xe_comp, xe_mk, xe_cmpr, xe_attr, e1, xh_var, xh_int, xh_nil, xh_bool, xh_lim, xh_list0, xh_ar, xh_cat, xh_rep, xh_cmp, xh_and2, xh_or2, xh_tup2, xh_sub, xh_sl3, xh_divmod, xh_call2, xh_callk, xh_neg, xh_inv, xh_not, xh_isNone, xh_list1, xh_from1, xh_upto1, xh_len, xh_sum, xh_tuple, xh_bits, xh_call1, xh_mk, xh_or3, xh_ite, xh_tup3, xh_list3, xh_call3, xh_call5, xh_keyc, xh_comp, xh_cmpr, xh_attr, hlen]]
      simp only [ih, cf, hz, if_false, List.append_assoc, List.singleton_append]

noncomputable abbrev CF (n d : Int) : List Int := cf 100 n d
theorem l9 (n : Nat) {a d : Int} (ha : -1000000 ≤ a) (ha' : a ≤ 1000000) (h0 : 0 ≤ d) (hd : d ≤ 64) : lev (n+5) 9 [iv a, iv d] = some (lst (CF a d)) := by
  obtain ⟨a', u', v', e⟩ := l9_loop n 100 a d [] none none ha ha' h0 hd (by omega) (by simp)
  show runA 2 f_law_quotients (lev (n+4)) _ = _
  simp only [lst, List.map_nil, List.nil_append] at e
  simp [runA, Fn.run, f_law_quotients, se_dead, se_nop, se_seq, se_assign, se_unpack, se_swap, se_newl, se_app, se_ins, se_rvs, se_ite, se_whl, se_loop, se_ret, e]
  simp [xe_var, xe_int, xe_nil, xe_bool, xe_lim, xe_ar, xe_cat, xe_rep, xe_neg, xe_inv, xe_not, xe_cmp, xe_isNone, xe_and2, xe_or2, xe_or3, xe_ite, xe_tup2, xe_tup3, xe_list0, xe_list1, xe_list3, xe_sub, xe_from1, xe_upto1, xe_sl3, xe_len, xe_sum, xe_tuple, xe_bits, xe_divmod, xe_call1, xe_call2, xe_call3, xe_call5, xe_callk, xe_keyc, xe_comp, xe_mk, xe_cmpr, xe_attr]

theorem l10 (n : Nat) {qs : List Int} (h : qs.length ≤ 12) : lev (n+1) 10 [.dat (lst qs)] = some (tup (qs ++ List.replicate (12 - qs.length) 1000000000)) := by
  show runA 1 f_law_row (lev n) _ = _
  have h1 : qs.length < 1048576 := by omega
  have h2 : (12 - (qs.length : Int)) < 1048576 ∧ -1048576 < 12 - (qs.length : Int) := by omega
  have h3 : (12 - (qs.length : Int)).toNat = 12 - qs.length := by omega
  have h4 : qs.length + (12 - qs.length) < 1048576 := by omega
  simp [runA, Fn.run, f_law_row, se_dead, se_nop, se_seq, se_assign, se_unpack, se_swap, se_newl, se_app, se_ins, se_rvs, se_ite, se_whl, se_loop, se_ret, xe_var, xe_int, xe_nil, xe_bool, xe_lim, xe_ar, xe_cat, xe_rep, xe_neg, xe_inv, xe_not, xe_cmp, xe_isNone, xe_and2, xe_or2, xe_or3, xe_ite, xe_tup2, xe_tup3, xe_list0, xe_list1, xe_list3, xe_sub, xe_from1, xe_upto1, xe_sl3, xe_len, xe_sum, xe_tuple, xe_bits, xe_divmod, xe_call1, xe_call2, xe_call3, xe_call5, xe_callk, xe_keyc, xe_comp, xe_mk, xe_cmpr, xe_attr, h1, h2, h3, h4, arith, tup]

noncomputable abbrev rowD (n d : Int) : PyData := tup (row 12 n d)
theorem row_len : ∀ (k : Nat) (n d : Int), (row k n d).length = k
  | 0, _, _ => rfl
  | k + 1, n, d => by simp only [row]; split <;> simp [row_len k]
theorem l10_cf (n : Nat) {a d : Int} (hd : 0 < d) (hd2 : d ≤ 40) : lev (n+1) 10 [.dat (lst (CF a d))] = some (rowD a d) := by
  obtain ⟨h1, h2⟩ := cf_row 12 100 a d (by omega) (fits_12 hd hd2)
  rw [l10 n h1, h2]

/-- every second one with the other sign -/
noncomputable def alt : Bool → List Int → List Int
  | _, [] => []
  | false, x :: xs => x :: alt true xs
  | true, x :: xs => -x :: alt false xs
theorem l11 (n : Nat) : ∀ {xs : List Int}, xs.length = 12 → lev (n+1) 11 [.dat (tup xs)] = some (tup (alt false xs))
  | [x0, x1, x2, x3, x4, x5, x6, x7, x8, x9, x10, x11], _ => by kernel_rfl
end Mine

/-! PD -/
namespace Mine
open PySem

/-! ## the order -/
noncomputable def sgn (x : Int) : Int := if x = 0 then 0 else if x > 0 then 1 else -1
theorem sgn_neg (x : Int) : sgn (-x) = -sgn x := by
  unfold sgn
  by_cases h : x = 0
  · simp [h]
  · by_cases h2 : x > 0
    · rw [if_neg (by omega), if_neg (by omega), if_neg h, if_pos h2]
    · rw [if_neg (by omega), if_pos (by omega), if_neg h, if_neg h2]; rfl

noncomputable def cmpO : Int → List Int → List Int → Option Int
  | s, x :: xs, y :: ys => if x < y then some (-s) else if x > y then some s else cmpO (-s) xs ys
  | _, _, _ => none
noncomputable def cmpA (s : Int) (xs ys : List Int) : Int := (cmpO s xs ys).getD 0
theorem cmpO_self : ∀ (xs : List Int) (s : Int), cmpO s xs xs = none
  | [], _ => rfl
  | x :: xs, s => by simp [cmpO, cmpO_self xs]

theorem fdiv_fmod {n d : Int} (hd : 0 < d) : n = d * n.fdiv d + n.fmod d := by
  rw [Int.fdiv_eq_ediv_of_nonneg _ (by omega), Int.fmod_eq_emod_of_nonneg _ (by omega)]
  have := Int.emod_add_mul_ediv n d
  omega
theorem lt_cross {n1 d1 n2 d2 : Int} (h1 : 0 < d1) (h2 : 0 < d2) (h : n1.fdiv d1 < n2.fdiv d2) : n1 * d2 < n2 * d1 := by
  have e1 := fdiv_fmod (n := n1) h1
  have e2 := fdiv_fmod (n := n2) h2
  have b1 := fmod_bd (n := n1) h1
  have b2 := fmod_bd (n := n2) h2
  generalize n1.fdiv d1 = q1 at *
  generalize n2.fdiv d2 = q2 at *
  have a1 : n1 < d1 * q2 := by
    have : d1 * (q1 + 1) ≤ d1 * q2 := Int.mul_le_mul_of_nonneg_left (by omega) (by omega)
    rw [Int.mul_add, Int.mul_one] at this
    omega
  have a2 : d2 * q2 ≤ n2 := by omega
  calc n1 * d2 < d1 * q2 * d2 := Int.mul_lt_mul_of_pos_right a1 h2
    _ = d2 * q2 * d1 := by ac_rfl
    _ ≤ n2 * d1 := Int.mul_le_mul_of_nonneg_right a2 (by omega)
theorem eq_cross {n1 d1 n2 d2 : Int} (h1 : 0 < d1) (h2 : 0 < d2) (h : n1.fdiv d1 = n2.fdiv d2) : n1 * d2 - n2 * d1 = -(d1 * n2.fmod d2 - d2 * n1.fmod d1) := by
  have e1 := fdiv_fmod (n := n1) h1
  have e2 := fdiv_fmod (n := n2) h2
  rw [h] at e1
  generalize n2.fdiv d2 = q at *
  generalize n1.fmod d1 = r1 at *
  generalize n2.fmod d2 = r2 at *
  subst e1 e2
  rw [Int.add_mul, Int.add_mul, show d1 * q * d2 = d2 * q * d1 by ac_rfl, Int.mul_comm r1, Int.mul_comm r2]
  omega
theorem sgn_pos {x : Int} (h : 0 < x) : sgn x = 1 := by unfold sgn; rw [if_neg (by omega), if_pos h]
theorem sgn_lt {x : Int} (h : x < 0) : sgn x = -1 := by unfold sgn; rw [if_neg (by omega), if_neg (by omega)]
theorem fdiv_small {n d : Int} (hd : 0 < d) (h : n < 1000000000) : n.fdiv d < 1000000000 := by
  rw [Int.fdiv_eq_ediv_of_nonneg _ (by omega)]
  exact Int.ediv_lt_of_lt_mul hd (by
    have : (1000000000 : Int) * 1 ≤ d * 1000000000 := by omega
    omega)

theorem cmp_row : ∀ (k : Nat) (s n1 d1 n2 d2 : Int), 0 ≤ d1 → 0 ≤ d2 → d1 ≤ 40 → d2 ≤ 40 → (d1 = 0 → 0 < n1) → (d2 = 0 → 0 < n2) → (d1 = 0 ∨ d2 = 0 → n1 < 1000000000 ∧ n2 < 1000000000) → fits k n1 d1 = true → fits k n2 d2 = true →
    cmpA s (row k n1 d1) (row k n2 d2) = s * sgn (n1 * d2 - n2 * d1)
  | 0, s, n1, d1, n2, d2, _, _, _, _, _, _, _, f1, f2 => by
    have h1 : d1 = 0 := by simpa [fits] using f1
    have h2 : d2 = 0 := by simpa [fits] using f2
    subst h1 h2
    simp [cmpA, row, cmpO, sgn]
  | k + 1, s, n1, d1, n2, d2, a1, a2, b1, b2, c1, c2, hb, f1, f2 => by
    by_cases z1 : d1 = 0 <;> by_cases z2 : d2 = 0
    · subst z1 z2
      rw [row_zero, row_zero]
      simp [cmpA, cmpO_self, sgn]
    · subst z1
      have := fdiv_small (n := n2) (d := d2) (by omega) (hb (.inl rfl)).2
      simp only [cmpA, row, z2, if_true, if_false, cmpO]
      rw [if_neg (by omega), if_pos (by omega), sgn_pos (by rw [Int.mul_zero, Int.sub_zero]; exact Int.mul_pos (c1 rfl) (by omega))]
      simp
    · subst z2
      have := fdiv_small (n := n1) (d := d1) (by omega) (hb (.inr rfl)).1
      simp only [cmpA, row, z1, if_true, if_false, cmpO]
      rw [if_pos (by omega), sgn_lt (by rw [Int.mul_zero, Int.zero_sub]; exact Int.neg_neg_of_pos (Int.mul_pos (c2 rfl) (by omega)))]
      simp
    · have p1 : 0 < d1 := by omega
      have p2 : 0 < d2 := by omega
      simp only [cmpA, row, z1, z2, if_false, cmpO]
      rcases Int.lt_trichotomy (n1.fdiv d1) (n2.fdiv d2) with h | h | h
      · have := lt_cross p1 p2 h
        rw [if_pos h, sgn_lt (by omega)]
        simp
      · rw [if_neg (by omega), if_neg (by omega), eq_cross p1 p2 h, sgn_neg]
        have g1 := fmod_bd (n := n1) p1
        have g2 := fmod_bd (n := n2) p2
        have := cmp_row k (-s) d1 (n1.fmod d1) d2 (n2.fmod d2) g1.1 g2.1 (by omega) (by omega) (fun _ => p1) (fun _ => p2) (fun _ => ⟨by omega, by omega⟩) (by simpa [fits, z1] using f1) (by simpa [fits, z2] using f2)
        unfold cmpA at this
        rw [this, Int.neg_mul, Int.mul_neg]
      · have := lt_cross p2 p1 h
        rw [if_neg (by omega), if_pos h, sgn_pos (by omega)]
        simp

/-- a fraction of the law's -/
structure Good (f : Int × Int) : Prop where
  d0 : 0 < f.2
  d40 : f.2 ≤ 40
  lo : -1000 ≤ f.1
  hi : f.1 ≤ 1000
theorem cmp_good {f g : Int × Int} (hf : Good f) (hg : Good g) (s : Int) : cmpA s (row 12 f.1 f.2) (row 12 g.1 g.2) = s * sgn (f.1 * g.2 - g.1 * f.2) := by
  have := hf.d0; have := hg.d0
  exact cmp_row 12 s f.1 f.2 g.1 g.2 (by omega) (by omega) hf.d40 hg.d40 (fun _ => by omega) (fun _ => by omega) (fun _ => by omega) (fits_12 hf.d0 hf.d40) (fits_12 hg.d0 hg.d40)

/-! ## compare -/
noncomputable def dirs : Nat → Int → Nat → List PyData
  | _, _, 0 => []
  | i, s, m + 1 => pr i s :: dirs (i + 1) (-s) m
theorem itemAt_mid {px xs : List Int} {x : Int} : itemAt ((px ++ x :: xs).map .int) (px.length : Int) = some (.int x) := itemAt_ints (by simp)

theorem l0_loop (Φ : Phi) (D : EV) : ∀ (xs ys px py : List Int) (s : Int) (u3 u4 u5 u6 : Option EV), xs.length = ys.length → px.length = py.length → px.length + xs.length < 1000 →
    ∃ v3 v4 v5 v6, forGo (fun d ρ => (bindT (.two 3 4) d ρ).bind (evalS Φ [] b_compare_1)) (dirs px.length s xs.length) [some D, some (.dat (tup (px ++ xs))), some (.dat (tup (py ++ ys))), u3, u4, u5, u6] =
      some (match cmpO s xs ys with | some v => .ret (iv v) | none => .next [some D, some (.dat (tup (px ++ xs))), some (.dat (tup (py ++ ys))), v3, v4, v5, v6])
  | [], ys, px, py, s, u3, u4, u5, u6, h1, _, _ => by
    cases ys with
    | nil => exact ⟨u3, u4, u5, u6, rfl⟩
    | cons _ _ => cases h1
  | x :: xs, ys, px, py, s, u3, u4, u5, u6, h1, h2, h3 => by
    cases ys with
    | nil => cases h1
    | cons y ys =>
      have e1 : itemAt ((px ++ x :: xs).map .int) (px.length : Int) = some (.int x) := itemAt_mid
      have e2 : itemAt ((py ++ y :: ys).map .int) (px.length : Int) = some (.int y) := by rw [h2]; exact itemAt_mid
      simp only [List.length_cons] at h1 h3
      have k1 : px.length + (xs.length + 1) < 1048576 := by omega
      have k2 : py.length + (ys.length + 1) < 1048576 := by omega
      obtain ⟨v3, v4, v5, v6, ih⟩ := l0_loop Φ D xs ys (px ++ [x]) (py ++ [y]) (-s) (some (iv px.length)) (some (iv s)) (some (iv x)) (some (iv y)) (by omega) (by simp [h2]) (by simp; omega)
      simp only [List.append_assoc, List.singleton_append, List.length_append, List.length_cons, List.length_nil, Nat.zero_add] at ih
      have step : (bindT (.two 3 4) (pr px.length s) [some D, some (.dat (tup (px ++ x :: xs))), some (.dat (tup (py ++ y :: ys))), u3, u4, u5, u6]).bind (evalS Φ [] b_compare_1) =
          some (if x < y then .ret (iv (-s)) else if x > y then .ret (iv s) else .next [some D, some (.dat (tup (px ++ x :: xs))), some (.dat (tup (py ++ y :: ys))), some (iv px.length), some (iv s), some (iv x), some (iv y)]) := by
        simp only [bindT, Option.bind_some, List.set_cons_succ, List.set_cons_zero, b_compare_1]
        simp only [se_dead, se_nop, se_seq, se_assign, se_unpack, se_swap, se_newl, se_app, se_ins, se_rvs, se_ite, se_whl, se_loop, se_ret, xe_var, xe_int, xe_nil, xe_bool, xe_lim, xe_ar, xe_cat, xe_rep, xe_neg, xe_inv, xe_not, xe_cmp, xe_isNone, xe_and2, xe_or2, xe_or3, xe_ite, xe_tup2, xe_tup3, xe_list0, xe_list1, xe_list3, xe_sub, xe_from1, xe_upto1, xe_sl3, xe_len, xe_sum, xe_tuple, xe_bits, xe_divmod, xe_call1, xe_call2, xe_call3, xe_call5, xe_callk, xe_keyc, xe_comp, xe_mk, xe_cmpr, xe_attr, List.getElem?_cons_succ, List.getElem?_cons_zero, Option.join_some, List.length_map, List.length_append, List.length_cons, e1, e2, k1, k2, if_true, Option.map_some, scal, Bool.true_or, Bool.and_true, List.contains_nil, Bool.not_false, List.set_cons_succ, List.set_cons_zero, cmp_lt_int, cmp_gt_int]
        by_cases l1 : x < y
        · simp [l1]
        · by_cases l2 : x > y
          · simp [l1, l2, cmp_gt_int]
          · simp [l1, l2, cmp_gt_int]
      simp only [List.length_cons, dirs, forGo, step, cmpO]
      by_cases l1 : x < y
      · exact ⟨u3, u4, u5, u6, by simp [l1]⟩
      · by_cases l2 : x > y
        · exact ⟨u3, u4, u5, u6, by simp [l1, l2]⟩
        · exact ⟨v3, v4, v5, v6, by simp only [l1, l2, if_false, ih]⟩

theorem l0 (n : Nat) {xs ys : List Int} (s : Int) (h1 : xs.length = 12) (h2 : ys.length = 12) : lev (n+1) 0 [.inst (.list (dirs 0 s 12)), .dat (tup xs), .dat (tup ys)] = some (.int (cmpA s xs ys)) := by
  obtain ⟨v3, v4, v5, v6, e⟩ := l0_loop (lev n) (.inst (.list (dirs 0 s 12))) xs ys [] [] s none none none none (by omega) rfl (by simp; omega)
  simp only [List.nil_append, List.length_nil, h1] at e
  show runA 3 f_compare (lev n) _ = _
  have hl : (dirs 0 s 12).length = 12 := rfl
  simp only [runA, Fn.run, f_compare, List.length_cons, List.length_nil, if_true, se_dead, se_nop, se_seq, se_assign, se_unpack, se_swap, se_newl, se_app, se_ins, se_rvs, se_ite, se_whl, se_loop, se_ret, xh_var, xh_int, xh_nil, xh_bool, xh_lim, xh_list0, xh_ar, xh_cat, xh_rep, xh_cmp, xh_and2, xh_or2, xh_tup2, xh_sub, xh_sl3, xh_divmod, xh_call2, xh_callk, xh_neg, xh_inv, xh_not, xh_isNone, xh_list1, xh_from1, xh_upto1, xh_len, xh_sum, xh_tuple, xh_bits, xh_call1, xh_mk, xh_or3, xh_ite, xh_tup3, xh_list3, xh_call3, xh_call5, xh_keyc, xh_comp, xh_cmpr, xh_attr, List.contains_nil, Bool.or_false, Bool.false_or, Bool.or_self, Bool.false_eq_true, if_false, List.map_cons, List.map_nil, List.replicate, List.cons_append, List.nil_append, xe_var, xe_int, xe_nil, xe_bool, xe_lim, xe_ar, xe_cat, xe_rep, xe_neg, xe_inv, xe_not, xe_cmp, xe_isNone, xe_and2, xe_or2, xe_or3, xe_ite, xe_tup2, xe_tup3, xe_list0, xe_list1, xe_list3, xe_sub, xe_from1, xe_upto1, xe_sl3, xe_len, xe_sum, xe_tuple, xe_bits, xe_divmod, xe_call1, xe_call2, xe_call3, xe_call5, xe_callk, xe_keyc, xe_comp, xe_mk, xe_cmpr, xe_attr, List.getElem?_cons_zero, Option.join_some, iterOf, hl, e, cmpA]
  cases cmpO s xs ys <;> simp
end Mine

/-! PF -/
namespace Mine
open PySem

theorem l16 (n : Nat) {a b c d : Int} (ha : a.natAbs < 9223372036854775808) (hc : c.natAbs < 9223372036854775808) : lev (n+1) 16 [.dat (pr a b), .dat (pr c d)] = some (.int (sgn (a * d - c * b))) := by
  show runA 2 f_law_sign (lev n) _ = _
  have i0 : ∀ (x y : Int), itemAt [PyData.int x, .int y] 0 = some (.int x) := fun x y => rfl
  have i1 : ∀ (x y : Int), itemAt [PyData.int x, .int y] 1 = some (.int y) := fun x y => rfl
  have m1 : arith .mul a d = some (a * d) := if_pos ha
  have m2 : arith .mul c b = some (c * b) := if_pos hc
  have m3 : ∀ x y : Int, arith .sub x y = some (x - y) := fun _ _ => rfl
  simp only [runA, Fn.run, f_law_sign, List.length_cons, List.length_nil, if_true, se_dead, se_nop, se_seq, se_assign, se_unpack, se_swap, se_newl, se_app, se_ins, se_rvs, se_ite, se_whl, se_loop, se_ret, xe_var, xe_int, xe_nil, xe_bool, xe_lim, xe_ar, xe_cat, xe_rep, xe_neg, xe_inv, xe_not, xe_cmp, xe_isNone, xe_and2, xe_or2, xe_or3, xe_ite, xe_tup2, xe_tup3, xe_list0, xe_list1, xe_list3, xe_sub, xe_from1, xe_upto1, xe_sl3, xe_len, xe_sum, xe_tuple, xe_bits, xe_divmod, xe_call1, xe_call2, xe_call3, xe_call5, xe_callk, xe_keyc, xe_comp, xe_mk, xe_cmpr, xe_attr, List.map_cons, List.map_nil, List.replicate, List.cons_append, List.nil_append, List.getElem?_cons_succ, List.getElem?_cons_zero, Option.join_some, i0, i1, Option.map_some, Nat.reduceAdd, Nat.reduceLT, m1, m2, m3, scal, Bool.true_or, Bool.and_true, List.contains_nil, Bool.not_false, List.set_cons_succ, List.set_cons_zero, cmp_eq_int, cmp_gt_int]
  generalize a * d - c * b = x
  unfold sgn
  by_cases h : x = 0
  · simp [h]
  · by_cases h2 : x > 0
    · simp [h, h2, cmp_gt_int]
    · have h3 : ¬ 0 < x := h2
      simp [h, h3, cmp_gt_int]

noncomputable abbrev ent (f : Int × Int) : PyData := .tuple [rowD f.1 f.2, pr f.1 f.2]
theorem Good.abs {f : Int × Int} (h : Good f) : f.1.natAbs < 9223372036854775808 := by have := h.lo; have := h.hi; omega

theorem in_step (n : Nat) {f g : Int × Int} (hf : Good f) (hg : Good g) (o p u4 u5 u7 u9 : Option EV) :
    (bindT (.two 4 5) (ent g) [o, p, some (.dat (rowD f.1 f.2)), some (.dat (pr f.1 f.2)), u4, u5, some (.inst (.list (dirs 0 1 12))), u7, some (.inst (.list (dirs 0 (-1) 12))), u9]).bind (evalS (lev (n+1)) [] b_law_in_order_1) =
      some (.next [o, p, some (.dat (rowD f.1 f.2)), some (.dat (pr f.1 f.2)), some (.dat (rowD g.1 g.2)), some (.dat (pr g.1 g.2)), some (.inst (.list (dirs 0 1 12))), some (iv (sgn (f.1 * g.2 - g.1 * f.2))), some (.inst (.list (dirs 0 (-1) 12))), u9]) := by
  have e16 := l16 n (a := f.1) (b := f.2) (c := g.1) (d := g.2) hf.abs hg.abs
  have e0 := l0 n (xs := row 12 f.1 f.2) (ys := row 12 g.1 g.2) 1 (row_len _ _ _) (row_len _ _ _)
  have e0' := l0 n (xs := row 12 f.1 f.2) (ys := row 12 g.1 g.2) (-1) (row_len _ _ _) (row_len _ _ _)
  rw [cmp_good hf hg, Int.one_mul] at e0
  rw [cmp_good hf hg, Int.neg_mul, Int.one_mul] at e0'
  simp only [bindT, Option.bind_some, List.set_cons_succ, List.set_cons_zero, b_law_in_order_1]
  simp only [se_dead, se_nop, se_seq, se_assign, se_unpack, se_swap, se_newl, se_app, se_ins, se_rvs, se_ite, se_whl, se_loop, se_ret, xe_var, xe_int, xe_nil, xe_bool, xe_lim, xe_ar, xe_cat, xe_rep, xe_neg, xe_inv, xe_not, xe_cmp, xe_isNone, xe_and2, xe_or2, xe_or3, xe_ite, xe_tup2, xe_tup3, xe_list0, xe_list1, xe_list3, xe_sub, xe_from1, xe_upto1, xe_sl3, xe_len, xe_sum, xe_tuple, xe_bits, xe_divmod, xe_call1, xe_call2, xe_call3, xe_call5, xe_callk, xe_keyc, xe_comp, xe_mk, xe_cmpr, xe_attr, List.getElem?_cons_succ, List.getElem?_cons_zero, Option.join_some, e16, Option.map_some, scal, Bool.true_or, Bool.and_true, List.contains_nil, Bool.not_false, if_true, List.set_cons_succ, List.set_cons_zero, e0, e0', cmp_ne_int, decide_true, Bool.not_true]

theorem in_inner (n : Nat) {f : Int × Int} (hf : Good f) (o p u9 : Option EV) : ∀ (gs : List (Int × Int)) (u4 u5 u7 : Option EV), (∀ g ∈ gs, Good g) →
    ∃ v4 v5 v7, forGo (fun d ρ => (bindT (.two 4 5) d ρ).bind (evalS (lev (n+1)) [] b_law_in_order_1)) (gs.map ent) [o, p, some (.dat (rowD f.1 f.2)), some (.dat (pr f.1 f.2)), u4, u5, some (.inst (.list (dirs 0 1 12))), u7, some (.inst (.list (dirs 0 (-1) 12))), u9] =
      some (.next [o, p, some (.dat (rowD f.1 f.2)), some (.dat (pr f.1 f.2)), v4, v5, some (.inst (.list (dirs 0 1 12))), v7, some (.inst (.list (dirs 0 (-1) 12))), u9])
  | [], u4, u5, u7, _ => ⟨u4, u5, u7, rfl⟩
  | g :: gs, u4, u5, u7, h => by
    have e := in_step n hf (h g (List.mem_cons_self ..)) o p u4 u5 u7 u9
    obtain ⟨v4, v5, v7, ih⟩ := in_inner n hf o p u9 gs (some (.dat (rowD g.1 g.2))) (some (.dat (pr g.1 g.2))) (some (iv (sgn (f.1 * g.2 - g.1 * f.2)))) fun x hx => h x (List.mem_cons_of_mem _ hx)
    refine ⟨v4, v5, v7, ?_⟩
    simp only [List.map_cons, forGo, e, ih]

theorem in_outer (n : Nat) (o u9 : Option EV) {gs : List (Int × Int)} (hg : ∀ g ∈ gs, Good g) (hl : gs.length < 1048576) : ∀ (fs : List (Int × Int)) (u2 u3 u4 u5 u7 : Option EV), (∀ f ∈ fs, Good f) →
    ∃ v2 v3 v4 v5 v7, forGo (fun d ρ => (bindT (.two 2 3) d ρ).bind (evalS (lev (n+1)) [] b_law_in_order_2)) (fs.map ent) [o, some (.dat (.list (gs.map ent))), u2, u3, u4, u5, some (.inst (.list (dirs 0 1 12))), u7, some (.inst (.list (dirs 0 (-1) 12))), u9] =
      some (.next [o, some (.dat (.list (gs.map ent))), v2, v3, v4, v5, some (.inst (.list (dirs 0 1 12))), v7, some (.inst (.list (dirs 0 (-1) 12))), u9])
  | [], u2, u3, u4, u5, u7, _ => ⟨u2, u3, u4, u5, u7, rfl⟩
  | f :: fs, u2, u3, u4, u5, u7, h => by
    obtain ⟨v4, v5, v7, e⟩ := in_inner n (h f (List.mem_cons_self ..)) o (some (.dat (.list (gs.map ent)))) u9 gs u4 u5 u7 hg
    obtain ⟨w2, w3, w4, w5, w7, ih⟩ := in_outer n o u9 hg hl fs (some (.dat (rowD f.1 f.2))) (some (.dat (pr f.1 f.2))) v4 v5 v7 fun x hx => h x (List.mem_cons_of_mem _ hx)
    refine ⟨w2, w3, w4, w5, w7, ?_⟩
    have step : (bindT (.two 2 3) (ent f) [o, some (.dat (.list (gs.map ent))), u2, u3, u4, u5, some (.inst (.list (dirs 0 1 12))), u7, some (.inst (.list (dirs 0 (-1) 12))), u9]).bind (evalS (lev (n+1)) [] b_law_in_order_2) =
        some (.next [o, some (.dat (.list (gs.map ent))), some (.dat (rowD f.1 f.2)), some (.dat (pr f.1 f.2)), v4, v5, some (.inst (.list (dirs 0 1 12))), v7, some (.inst (.list (dirs 0 (-1) 12))), u9]) := by
      simp only [bindT, Option.bind_some, List.set_cons_succ, List.set_cons_zero, b_law_in_order_2]
      simp only [se_dead, se_nop, se_seq, se_assign, se_unpack, se_swap, se_newl, se_app, se_ins, se_rvs, se_ite, se_whl, se_loop, se_ret, xh_var, xh_int, xh_nil, xh_bool, xh_lim, xh_list0, xh_ar, xh_cat, xh_rep, xh_cmp, xh_and2, xh_or2, xh_tup2, xh_sub, xh_sl3, xh_divmod, xh_call2, xh_callk, xh_neg, xh_inv, xh_not, xh_isNone, xh_list1, xh_from1, xh_upto1, xh_len, xh_sum, xh_tuple, xh_bits, xh_call1, xh_mk, xh_or3, xh_ite, xh_tup3, xh_list3, xh_call3, xh_call5, xh_keyc, xh_comp, xh_cmpr, xh_attr, List.contains_nil, Bool.or_self, Bool.false_eq_true, if_false, xe_var, xe_int, xe_nil, xe_bool, xe_lim, xe_ar, xe_cat, xe_rep, xe_neg, xe_inv, xe_not, xe_cmp, xe_isNone, xe_and2, xe_or2, xe_or3, xe_ite, xe_tup2, xe_tup3, xe_list0, xe_list1, xe_list3, xe_sub, xe_from1, xe_upto1, xe_sl3, xe_len, xe_sum, xe_tuple, xe_bits, xe_divmod, xe_call1, xe_call2, xe_call3, xe_call5, xe_callk, xe_keyc, xe_comp, xe_mk, xe_cmpr, xe_attr, List.getElem?_cons_succ, List.getElem?_cons_zero, Option.join_some, iterOf, List.length_map, hl, if_true, e]
    simp only [List.map_cons, forGo, step, ih]

theorem l17 (n : Nat) {fs gs : List (Int × Int)} (hf : ∀ f ∈ fs, Good f) (hg : ∀ g ∈ gs, Good g) (hlf : fs.length < 1048576) (hl : gs.length < 1048576) :
    lev (n+2) 17 [.dat (.list (fs.map ent)), .dat (.list (gs.map ent))] = some (.bool true) := by
  obtain ⟨v2, v3, v4, v5, v7, e⟩ := in_outer n (some (.dat (.list (fs.map ent)))) none hg hl fs none none none none none hf
  show runA 2 f_law_in_order (lev (n+1)) _ = _
  have c1 : ∀ o p, evalX (lev (n+1)) (.mk (.comp (.one 9) .r1 (.int 12) .nil (.bool true) (.tup2 (.var 9) (.ar .sub (.int 1) (.ar .mul (.ar .fmod (.var 9) (.int 2)) (.int 2)))))) [o, p, none, none, none, none, none, none, none, none] = some (.inst (.list (dirs 0 1 12))) := fun o p => by kernel_rfl
  have c2 : ∀ o p q, evalX (lev (n+1)) (.mk (.comp (.one 9) .r1 (.int 12) .nil (.bool true) (.tup2 (.var 9) (.ar .sub (.ar .mul (.ar .fmod (.var 9) (.int 2)) (.int 2)) (.int 1))))) [o, p, none, none, none, none, q, none, none, none] = some (.inst (.list (dirs 0 (-1) 12))) := fun o p q => by kernel_rfl
  simp only [runA, Fn.run, f_law_in_order, List.length_cons, List.length_nil, if_true, List.map_cons, List.map_nil, List.replicate, List.cons_append, List.nil_append]
  simp only [se_dead, se_nop, se_seq, se_assign, se_unpack, se_swap, se_newl, se_app, se_ins, se_rvs, se_ite, se_whl, se_loop, se_ret, c1, c2, xh_var, xh_int, xh_nil, xh_bool, xh_lim, xh_list0, xh_ar, xh_cat, xh_rep, xh_cmp, xh_and2, xh_or2, xh_tup2, xh_sub, xh_sl3, xh_divmod, xh_call2, xh_callk, xh_neg, xh_inv, xh_not, xh_isNone, xh_list1, xh_from1, xh_upto1, xh_len, xh_sum, xh_tuple, xh_bits, xh_call1, xh_mk, xh_or3, xh_ite, xh_tup3, xh_list3, xh_call3, xh_call5, xh_keyc, xh_comp, xh_cmpr, xh_attr, List.contains_nil, Bool.not_false, Bool.or_true, Bool.or_self, Bool.and_self, if_true, List.set_cons_succ, List.set_cons_zero, Bool.false_eq_true, if_false]
  simp only [xe_var, xe_int, xe_nil, xe_bool, xe_lim, xe_ar, xe_cat, xe_rep, xe_neg, xe_inv, xe_not, xe_cmp, xe_isNone, xe_and2, xe_or2, xe_or3, xe_ite, xe_tup2, xe_tup3, xe_list0, xe_list1, xe_list3, xe_sub, xe_from1, xe_upto1, xe_sl3, xe_len, xe_sum, xe_tuple, xe_bits, xe_divmod, xe_call1, xe_call2, xe_call3, xe_call5, xe_callk, xe_keyc, xe_comp, xe_mk, xe_cmpr, xe_attr, List.getElem?_cons_succ, List.getElem?_cons_zero, Option.join_some, iterOf, List.length_map, hlf, if_true, e, Option.map_some]
end Mine

/-! PG -/
namespace Mine
open PySem

/-! ## folded -/
noncomputable def foldFrom (b : Int × Int) : List Int → Int × Int
  | [] => b
  | q :: t => let p := foldFrom b t; (q * p.1 + p.2, p.1)
noncomputable abbrev fold2 : List Int → Int × Int := foldFrom (1, 0)
theorem foldFrom_snoc (l : Int) : ∀ (t : List Int), fold2 (t ++ [l]) = foldFrom (l, 1) t
  | [] => by simp [foldFrom]
  | q :: t => by have := foldFrom_snoc l t; simp only [fold2] at this; simp only [List.cons_append, foldFrom, this]

noncomputable def Small (qs : List Int) : Prop := ∀ q ∈ qs, q.natAbs ≤ 1000
theorem cf_small : ∀ (f : Nat) (n d : Int), n.natAbs ≤ 1000 → 0 ≤ d → d ≤ 1000 → Small (cf f n d)
  | 0, _, _, _, _, _ => fun q h => by cases h
  | f + 1, n, d, hn, h0, hd => by
    by_cases hz : d = 0
    · intro q h; simp [cf, hz] at h
    · obtain ⟨h1, h2⟩ := fmod_bd (n := n) (d := d) (by omega)
      have ih := cf_small f d (n.fmod d) (by omega) h1 (by omega)
      intro q h
      simp only [cf, hz, if_false, List.mem_cons] at h
      rcases h with rfl | h
      · rw [Int.fdiv_eq_ediv_of_nonneg _ h0]
        have e1 := Int.emod_add_mul_ediv n d
        have e2 := Int.emod_nonneg n hz
        have e3 := Int.emod_lt_of_pos n (show 0 < d by omega)
        have p1 : n / d ≤ 1000 := Int.le_trans (Int.ediv_le_of_le_mul (by omega) (show n ≤ 1000 * d by omega)) (Int.le_refl _)
        have p2 : -1000 ≤ n / d := Int.le_ediv_of_mul_le (by omega) (by omega)
        omega
      · exact ih q h

theorem l12_loop (Φ : Phi) (v0 : Option EV) (P Q : Int) : ∀ (t : List Int), Small t → ∀ (u3 : Option EV), ∃ v3, forGo (fun d ρ => (bindT (.one 3) d ρ).bind (evalS Φ [] b_law_folded_1)) (t.map .int).reverse [v0, some (iv P), some (iv Q), u3] =
    some (.next [v0, some (iv (foldFrom (P, Q) t).1), some (iv (foldFrom (P, Q) t).2), v3])
  | [], _, u3 => ⟨u3, rfl⟩
  | q :: t, h, u3 => by
    obtain ⟨v3, ih⟩ := l12_loop Φ v0 P Q t (fun x hx => h x (List.mem_cons_of_mem _ hx)) u3
    have hq : q.natAbs < 9223372036854775808 := by have := h q (List.mem_cons_self ..); omega
    refine ⟨some (iv q), ?_⟩
    simp only [List.map_cons, List.reverse_cons, forGo_append, ih, foldFrom]
    generalize foldFrom (P, Q) t = p
    simp [forGo, bindT, b_law_folded_1, se_dead, se_nop, se_seq, se_assign, se_unpack, se_swap, se_newl, se_app, se_ins, se_rvs, se_ite, se_whl, se_loop, se_ret, xe_var, xe_int, xe_nil, xe_bool, xe_lim, xe_ar, xe_cat, xe_rep, xe_neg, xe_inv, xe_not, xe_cmp, xe_isNone, xe_and2, xe_or2, xe_or3, xe_ite, xe_tup2, xe_tup3, xe_list0, xe_list1, xe_list3, xe_sub, xe_from1, xe_upto1, xe_sl3, xe_len, xe_sum, xe_tuple, xe_bits, xe_divmod, xe_call1, xe_call2, xe_call3, xe_call5, xe_callk, xe_keyc, xe_comp, xe_mk, xe_cmpr, xe_attr, arith, xh_var, xh_int, xh_nil, xh_bool, xh_lim, xh_list0, xh_ar, xh_cat, xh_rep, xh_cmp, xh_and2, xh_or2, xh_tup2, xh_sub, xh_sl3, xh_divmod, xh_call2, xh_callk, xh_neg, xh_inv, xh_not, xh_isNone, xh_list1, xh_from1, xh_upto1, xh_len, xh_sum, xh_tuple, xh_bits, xh_call1, xh_mk, xh_or3, xh_ite, xh_tup3, xh_list3, xh_call3, xh_call5, xh_keyc, xh_comp, xh_cmpr, xh_attr, hq]

theorem itemAt_last {xs : List Int} {l : Int} : itemAt ((xs ++ [l]).map .int) (-1) = some (.int l) := by
  unfold itemAt
  rw [if_neg (by omega), if_pos (by simp; omega)]
  have : (-1 + (((xs ++ [l]).map PyData.int).length : Int)).toNat = xs.length := by simp; omega
  rw [this]
  simp

theorem l12 (n : Nat) {xs : List Int} {l : Int} (h : Small xs) (hl : xs.length < 1000) : lev (n+1) 12 [.dat (lst (xs ++ [l]))] = some (pr (fold2 (xs ++ [l])).1 (fold2 (xs ++ [l])).2) := by
  obtain ⟨v3, e⟩ := l12_loop (lev n) (some (.dat (lst (xs ++ [l])))) l 1 xs h none
  rw [foldFrom_snoc]
  show runA 1 f_law_folded (lev n) _ = _
  have h1 : (xs ++ [l]).length < 1048576 := by simp; omega
  have h2 : ((xs ++ [l]).map PyData.int).dropLast = xs.map .int := by simp
  have h3 : xs.length < 1048576 := by omega
  have e1 : evalX (lev n) (.sub (.var 0) (.neg (.int 1))) [some (.dat (lst (xs ++ [l]))), none, none, none] = some (iv l) := by
    simp only [xe_var, xe_int, xe_nil, xe_bool, xe_lim, xe_ar, xe_cat, xe_rep, xe_neg, xe_inv, xe_not, xe_cmp, xe_isNone, xe_and2, xe_or2, xe_or3, xe_ite, xe_tup2, xe_tup3, xe_list0, xe_list1, xe_list3, xe_sub, xe_from1, xe_upto1, xe_sl3, xe_len, xe_sum, xe_tuple, xe_bits, xe_divmod, xe_call1, xe_call2, xe_call3, xe_call5, xe_callk, xe_keyc, xe_comp, xe_mk, xe_cmpr, xe_attr, List.getElem?_cons_zero, Option.join_some, List.length_map, h1, if_true, itemAt_last, Option.map_some]
  have e2 : ∀ ρ, evalX (lev n) (.int 1) ρ = some (iv 1) := fun ρ => rfl
  have e3 : ∀ u v w, evalX (lev n) (.upto1 (.var 0)) [some (.dat (lst (xs ++ [l]))), u, v, w] = some (.dat (.list (xs.map .int))) := fun u v w => by
    simp only [xe_var, xe_int, xe_nil, xe_bool, xe_lim, xe_ar, xe_cat, xe_rep, xe_neg, xe_inv, xe_not, xe_cmp, xe_isNone, xe_and2, xe_or2, xe_or3, xe_ite, xe_tup2, xe_tup3, xe_list0, xe_list1, xe_list3, xe_sub, xe_from1, xe_upto1, xe_sl3, xe_len, xe_sum, xe_tuple, xe_bits, xe_divmod, xe_call1, xe_call2, xe_call3, xe_call5, xe_callk, xe_keyc, xe_comp, xe_mk, xe_cmpr, xe_attr, List.getElem?_cons_zero, Option.join_some, List.length_map, h1, if_true, h2]
  have e4 : ∀ u (x y : Int) v, evalX (lev n) (.tup2 (.var 1) (.var 2)) [u, some (iv x), some (iv y), v] = some (.dat (pr x y)) := fun u x y v => rfl
  simp only [runA, Fn.run, f_law_folded, List.length_cons, List.length_nil, if_true, List.map_cons, List.map_nil, List.replicate, List.cons_append, List.nil_append, se_dead, se_nop, se_seq, se_assign, se_unpack, se_swap, se_newl, se_app, se_ins, se_rvs, se_ite, se_whl, se_loop, se_ret, e1, e2, xh_var, xh_int, xh_nil, xh_bool, xh_lim, xh_list0, xh_ar, xh_cat, xh_rep, xh_cmp, xh_and2, xh_or2, xh_tup2, xh_sub, xh_sl3, xh_divmod, xh_call2, xh_callk, xh_neg, xh_inv, xh_not, xh_isNone, xh_list1, xh_from1, xh_upto1, xh_len, xh_sum, xh_tuple, xh_bits, xh_call1, xh_mk, xh_or3, xh_ite, xh_tup3, xh_list3, xh_call3, xh_call5, xh_keyc, xh_comp, xh_cmpr, xh_attr, List.contains_nil, Bool.or_self, Bool.not_false, Bool.and_self, bne, Nat.reduceBEq, List.set_cons_succ, List.set_cons_zero, Bool.false_eq_true, if_false, Nat.reduceSub, Nat.reduceAdd, e3, iterOf, List.length_reverse, List.length_map, h3, e, e4, Option.map_some]

/-! ## what a run is -/
noncomputable abbrev tcf (d r : Int) : List Int := cf 99 d r
theorem CF_cons {n d : Int} (hd : 0 < d) : CF n d = n.fdiv d :: tcf d (n.fmod d) := by
  show cf (99 + 1) n d = _
  simp [cf, show d ≠ 0 by omega]
noncomputable def chk (d r : Int) : Bool :=
  let t := tcf d r
  let p := fold2 t
  decide (1 ≤ p.1) && decide (p.1 ≤ 40) && decide (p.1 * r = p.2 * d) && t.all (fun x => decide (1 ≤ x)) && decide (1 < t.getLastD 2)
theorem bez : ∀ t : List Int, ∃ u v : Int, u * (fold2 t).1 + v * (fold2 t).2 = 1
  | [] => ⟨1, 0, rfl⟩
  | q :: t => by
    obtain ⟨u, v, h⟩ := bez t
    refine ⟨v, u - v * q, ?_⟩
    show v * (q * (fold2 t).1 + (fold2 t).2) + (u - v * q) * (fold2 t).1 = 1
    rw [Int.mul_add, Int.sub_mul, Int.mul_assoc v q]
    omega
theorem chk_all : ∀ d : Fin 41, ∀ r : Fin 41, r.val < d.val → chk (d.val : Int) (r.val : Int) = true := by decide +kernel
theorem chk_good {n d : Int} (hd : 0 < d) (hd2 : d ≤ 40) : chk d (n.fmod d) = true := by
  obtain ⟨h1, h2⟩ := fmod_bd (n := n) hd
  have := chk_all ⟨d.toNat, by omega⟩ ⟨(n.fmod d).toNat, by omega⟩ (show (n.fmod d).toNat < d.toNat by omega)
  simp only [Int.toNat_of_nonneg (show 0 ≤ d by omega), Int.toNat_of_nonneg h1] at this
  exact this

structure Run (n d : Int) : Prop where
  q1 : 1 ≤ (fold2 (CF n d)).2
  q40 : (fold2 (CF n d)).2 ≤ 40
  eq : (fold2 (CF n d)).1 * d = n * (fold2 (CF n d)).2
  co : ∀ e : Int, 1 ≤ e → e < (fold2 (CF n d)).2 → ((fold2 (CF n d)).1 * e).emod (fold2 (CF n d)).2 ≠ 0
  pos : ∀ x ∈ (CF n d).tail, 1 ≤ x
  last : (CF n d).length = 1 ∨ 1 < (CF n d).getLastD 2
theorem run_good {n d : Int} (hd : 0 < d) (hd2 : d ≤ 40) : Run n d := by
  have h := chk_good (n := n) hd hd2
  have e := CF_cons (n := n) hd
  have e0 := fdiv_fmod (n := n) hd
  simp only [chk, Bool.and_eq_true, decide_eq_true_eq, List.all_eq_true, Bool.or_eq_true, beq_iff_eq, List.mem_range] at h
  obtain ⟨⟨⟨⟨h1, h2⟩, h3⟩, h5⟩, h6⟩ := h
  obtain ⟨u, v, hb⟩ := bez (CF n d)
  have hco : ∀ z : Int, 1 ≤ z → z < (fold2 (CF n d)).2 → ((fold2 (CF n d)).1 * z).emod (fold2 (CF n d)).2 ≠ 0 := by
    intro z hz1 hz2 h0
    generalize fold2 (CF n d) = w at *
    obtain ⟨c, hc⟩ := Int.dvd_of_emod_eq_zero (show w.1 * z % w.2 = 0 from h0)
    have e1 : z = w.2 * (u * c + v * z) := by
      have : (u * w.1 + v * w.2) * z = z := by rw [hb, Int.one_mul]
      rw [Int.add_mul, Int.mul_assoc, hc] at this
      rw [Int.mul_add, show w.2 * (u * c) = u * (w.2 * c) by ac_rfl, show w.2 * (v * z) = v * w.2 * z by ac_rfl]
      exact this.symm
    have := Int.le_of_dvd (by omega) (⟨_, e1⟩ : w.2 ∣ z)
    omega
  generalize tcf d (n.fmod d) = t at *
  have ef : fold2 (CF n d) = (n.fdiv d * (fold2 t).1 + (fold2 t).2, (fold2 t).1) := by rw [e]; rfl
  generalize fold2 t = p at *
  generalize n.fdiv d = q at *
  generalize n.fmod d = r at *
  refine ⟨by rw [ef]; exact h1, by rw [ef]; exact h2, ?_, ?_, ?_, ?_⟩
  · rw [ef]
    show (q * p.1 + p.2) * d = n * p.1
    rw [Int.add_mul, ← h3, e0, Int.add_mul, Int.mul_comm r, show q * p.1 * d = d * q * p.1 by ac_rfl]
  · exact hco
  · rw [e]; exact h5
  · rw [e]
    cases t with
    | nil => left; rfl
    | cons x t => right; simpa using h6
end Mine

/-! PH -/
namespace Mine
open PySem

theorem compGo_none {f : PyData → Option (Option PyData)} : ∀ {ds : List PyData}, (∀ x ∈ ds, f x = some none) → compGo f ds = some []
  | [], _ => rfl
  | d :: ds, h => by
    simp only [compGo, h d (List.mem_cons_self ..), Option.bind_eq_bind, Option.bind_some, compGo_none fun x hx => h x (List.mem_cons_of_mem _ hx)]
theorem compGo_map {f : PyData → Option (Option PyData)} {g : PyData → PyData} : ∀ {ds : List PyData}, (∀ x ∈ ds, f x = some (some (g x))) → compGo f ds = some (ds.map g)
  | [], _ => rfl
  | d :: ds, h => by
    simp only [compGo, h d (List.mem_cons_self ..), Option.bind_eq_bind, Option.bind_some, compGo_map fun x hx => h x (List.mem_cons_of_mem _ hx), List.map_cons]
theorem upFrom_mem {a : Int} {n : Nat} {d : PyData} (h : d ∈ upFrom a n) : ∃ i : Int, d = .int i ∧ a ≤ i ∧ i < a + n := by
  obtain ⟨i, hi⟩ := List.getElem?_of_mem h
  have h1 := upFrom_get n a i d hi
  have h2 := (List.getElem?_eq_some_iff.mp hi).1
  rw [upFrom_length] at h2
  exact ⟨a + i, h1, by omega, by omega⟩
theorem CF_len {n d : Int} (hd : 0 < d) (hd2 : d ≤ 40) : (CF n d).length ≤ 12 := (cf_row 12 100 n d (by omega) (fits_12 hd hd2)).1
theorem nil_ne : compare' .ne (.list []) (.list []) = some false := by decide +kernel
theorem nil_eq : compare' .eq (.list []) (.list []) = some true := by decide +kernel
theorem mul_int {a b : Int} (h : a.natAbs < 9223372036854775808) : arith .mul a b = some (a * b) := if_pos h
theorem fmod_int {a b : Int} (h : b ≠ 0) : arith .fmod a b = some (a.fmod b) := if_pos h

section
variable {Φ : Phi} {ρ : Env'} {a b c : X}
noncomputable abbrev tt : Option EV := some (.dat (.bool true))
noncomputable abbrev ff : Option EV := some (.dat (.bool false))
theorem x_or3_f (h1 : evalX Φ a ρ = ff) (h2 : evalX Φ b ρ = ff) (h3 : evalX Φ c ρ = ff) : evalX Φ (.or3 a b c) ρ = ff := by simp only [xe_var, xe_int, xe_nil, xe_bool, xe_lim, xe_ar, xe_cat, xe_rep, xe_neg, xe_inv, xe_not, xe_cmp, xe_isNone, xe_and2, xe_or2, xe_or3, xe_ite, xe_tup2, xe_tup3, xe_list0, xe_list1, xe_list3, xe_sub, xe_from1, xe_upto1, xe_sl3, xe_len, xe_sum, xe_tuple, xe_bits, xe_divmod, xe_call1, xe_call2, xe_call3, xe_call5, xe_callk, xe_keyc, xe_comp, xe_mk, xe_cmpr, xe_attr, h1, h2, h3]
theorem x_or2_f (h1 : evalX Φ a ρ = ff) (h2 : evalX Φ b ρ = ff) : evalX Φ (.or2 a b) ρ = ff := by simp only [xe_var, xe_int, xe_nil, xe_bool, xe_lim, xe_ar, xe_cat, xe_rep, xe_neg, xe_inv, xe_not, xe_cmp, xe_isNone, xe_and2, xe_or2, xe_or3, xe_ite, xe_tup2, xe_tup3, xe_list0, xe_list1, xe_list3, xe_sub, xe_from1, xe_upto1, xe_sl3, xe_len, xe_sum, xe_tuple, xe_bits, xe_divmod, xe_call1, xe_call2, xe_call3, xe_call5, xe_callk, xe_keyc, xe_comp, xe_mk, xe_cmpr, xe_attr, h1, h2]
theorem x_or2_t (h1 : evalX Φ a ρ = tt) : evalX Φ (.or2 a b) ρ = tt := by simp only [xe_var, xe_int, xe_nil, xe_bool, xe_lim, xe_ar, xe_cat, xe_rep, xe_neg, xe_inv, xe_not, xe_cmp, xe_isNone, xe_and2, xe_or2, xe_or3, xe_ite, xe_tup2, xe_tup3, xe_list0, xe_list1, xe_list3, xe_sub, xe_from1, xe_upto1, xe_sl3, xe_len, xe_sum, xe_tuple, xe_bits, xe_divmod, xe_call1, xe_call2, xe_call3, xe_call5, xe_callk, xe_keyc, xe_comp, xe_mk, xe_cmpr, xe_attr, h1]
theorem x_and2_t (h1 : evalX Φ a ρ = tt) (h2 : evalX Φ b ρ = tt) : evalX Φ (.and2 a b) ρ = tt := by simp only [xe_var, xe_int, xe_nil, xe_bool, xe_lim, xe_ar, xe_cat, xe_rep, xe_neg, xe_inv, xe_not, xe_cmp, xe_isNone, xe_and2, xe_or2, xe_or3, xe_ite, xe_tup2, xe_tup3, xe_list0, xe_list1, xe_list3, xe_sub, xe_from1, xe_upto1, xe_sl3, xe_len, xe_sum, xe_tuple, xe_bits, xe_divmod, xe_call1, xe_call2, xe_call3, xe_call5, xe_callk, xe_keyc, xe_comp, xe_mk, xe_cmpr, xe_attr, h1, h2]
end
theorem l13 (n : Nat) {a d : Int} (hg : Good (a, d)) : lev (n+2) 13 [.dat (lst (CF a d)), iv a, iv d] = some (.bool true) := by
  have hd : 0 < d := hg.d0
  have hd2 : d ≤ 40 := hg.d40
  have ha1 : -1000 ≤ a := hg.lo
  have ha2 : a ≤ 1000 := hg.hi
  have R := run_good (n := a) hd hd2
  have hlen := CF_len (n := a) hd hd2
  have hsm : Small (CF a d) := cf_small 100 a d (by omega) (by omega) (by omega)
  have hne : CF a d ≠ [] := by rw [CF_cons hd]; simp
  obtain ⟨xs, l, hx⟩ : ∃ xs l, CF a d = xs ++ [l] := ⟨(CF a d).dropLast, (CF a d).getLast hne, (List.dropLast_concat_getLast hne).symm⟩
  obtain ⟨q1, q40, eq, co, pos, last⟩ := R
  have e12 := l12 n (xs := xs) (l := l) (fun q hq => hsm q (by rw [hx]; simp [hq])) (by rw [hx] at hlen; simp at hlen; omega)
  rw [← hx] at e12
  generalize hf : fold2 (CF a d) = w at *
  obtain ⟨p, q⟩ := w
  simp only at q1 q40 eq co e12
  have hp : p.natAbs < 9223372036854775808 := by
    have h1 : p.natAbs * d.natAbs = a.natAbs * q.natAbs := by rw [← Int.natAbs_mul, ← Int.natAbs_mul, eq]
    have h2 : a.natAbs * q.natAbs ≤ 1000 * 40 := Nat.mul_le_mul (by omega) (by omega)
    have h3 : p.natAbs * 1 ≤ p.natAbs * d.natAbs := Nat.mul_le_mul_left _ (by omega)
    omega
  have hc1 : evalX (lev (n+1)) (.cmp .lt (.var 4) (.int 1)) [some (.dat (lst (CF a d))), some (iv a), some (iv d), none, some (iv q), some (iv p), none] = some (.dat (.bool false)) := by
    simp only [xe_var, xe_int, xe_nil, xe_bool, xe_lim, xe_ar, xe_cat, xe_rep, xe_neg, xe_inv, xe_not, xe_cmp, xe_isNone, xe_and2, xe_or2, xe_or3, xe_ite, xe_tup2, xe_tup3, xe_list0, xe_list1, xe_list3, xe_sub, xe_from1, xe_upto1, xe_sl3, xe_len, xe_sum, xe_tuple, xe_bits, xe_divmod, xe_call1, xe_call2, xe_call3, xe_call5, xe_callk, xe_keyc, xe_comp, xe_mk, xe_cmpr, xe_attr, List.getElem?_cons_succ, List.getElem?_cons_zero, Option.join_some, cmp_lt_int, Option.map_some]
    rw [decide_eq_false (by omega)]
  have hc2 : evalX (lev (n+1)) (.cmp .ne (.ar .mul (.var 5) (.var 2)) (.ar .mul (.var 1) (.var 4))) [some (.dat (lst (CF a d))), some (iv a), some (iv d), none, some (iv q), some (iv p), none] = some (.dat (.bool false)) := by
    simp only [xe_var, xe_int, xe_nil, xe_bool, xe_lim, xe_ar, xe_cat, xe_rep, xe_neg, xe_inv, xe_not, xe_cmp, xe_isNone, xe_and2, xe_or2, xe_or3, xe_ite, xe_tup2, xe_tup3, xe_list0, xe_list1, xe_list3, xe_sub, xe_from1, xe_upto1, xe_sl3, xe_len, xe_sum, xe_tuple, xe_bits, xe_divmod, xe_call1, xe_call2, xe_call3, xe_call5, xe_callk, xe_keyc, xe_comp, xe_mk, xe_cmpr, xe_attr, List.getElem?_cons_succ, List.getElem?_cons_zero, Option.join_some, mul_int hp, mul_int (show a.natAbs < 9223372036854775808 by omega), cmp_ne_int, Option.map_some, eq]
    simp
  have hc3 : evalX (lev (n+1)) (.cmp .ne (.comp (.one 6) .r2 (.int 1) (.var 4) (.cmp .eq (.ar .fmod (.ar .mul (.var 5) (.var 6)) (.var 4)) (.int 0)) (.var 6)) .list0) [some (.dat (lst (CF a d))), some (iv a), some (iv d), none, some (iv q), some (iv p), none] = some (.dat (.bool false)) := by
    have hc : evalX (lev (n+1)) (.comp (.one 6) .r2 (.int 1) (.var 4) (.cmp .eq (.ar .fmod (.ar .mul (.var 5) (.var 6)) (.var 4)) (.int 0)) (.var 6)) [some (.dat (lst (CF a d))), some (iv a), some (iv d), none, some (iv q), some (iv p), none] = some (.dat (.list [])) := by
      rw [xe_comp]
      have hi : iterOf .r2 (evalX (lev (n+1)) (.int 1) [some (.dat (lst (CF a d))), some (iv a), some (iv d), none, some (iv q), some (iv p), none]) (evalX (lev (n+1)) (.var 4) [some (.dat (lst (CF a d))), some (iv a), some (iv d), none, some (iv q), some (iv p), none]) = some (upFrom 1 (q - 1).toNat) := by
        simp only [xe_var, xe_int, xe_nil, xe_bool, xe_lim, xe_ar, xe_cat, xe_rep, xe_neg, xe_inv, xe_not, xe_cmp, xe_isNone, xe_and2, xe_or2, xe_or3, xe_ite, xe_tup2, xe_tup3, xe_list0, xe_list1, xe_list3, xe_sub, xe_from1, xe_upto1, xe_sl3, xe_len, xe_sum, xe_tuple, xe_bits, xe_divmod, xe_call1, xe_call2, xe_call3, xe_call5, xe_callk, xe_keyc, xe_comp, xe_mk, xe_cmpr, xe_attr, List.getElem?_cons_succ, List.getElem?_cons_zero, Option.join_some, iterOf]
        rw [if_pos (by omega)]
      rw [hi]
      simp only [upFrom_length]
      rw [if_pos (by omega), compGo_none]
      · rfl
      · intro x hx
        obtain ⟨i, rfl, h1, h2⟩ := upFrom_mem hx
        have hc := co i h1 (by omega)
        have hc' : (p * i).fmod q ≠ 0 := by rw [Int.fmod_eq_emod_of_nonneg _ (by omega)]; exact hc
        simp only [bindT, Option.bind_some, List.set_cons_succ, List.set_cons_zero, xe_var, xe_int, xe_nil, xe_bool, xe_lim, xe_ar, xe_cat, xe_rep, xe_neg, xe_inv, xe_not, xe_cmp, xe_isNone, xe_and2, xe_or2, xe_or3, xe_ite, xe_tup2, xe_tup3, xe_list0, xe_list1, xe_list3, xe_sub, xe_from1, xe_upto1, xe_sl3, xe_len, xe_sum, xe_tuple, xe_bits, xe_divmod, xe_call1, xe_call2, xe_call3, xe_call5, xe_callk, xe_keyc, xe_comp, xe_mk, xe_cmpr, xe_attr, List.getElem?_cons_succ, List.getElem?_cons_zero, Option.join_some, mul_int hp, Option.map_some, fmod_int (show q ≠ 0 by omega), cmp_eq_int]
        rw [decide_eq_false hc']
    rw [xe_cmp, hc]
    show (compare' .ne (.list []) (.list [])).map _ = _
    rw [nil_ne]; rfl
  have hy1 : evalX (lev (n+1)) (.cmp .eq (.comp (.one 3) .seq (.from1 (.var 0)) .nil (.cmp .lt (.var 3) (.int 1)) (.var 3)) .list0) [some (.dat (lst (CF a d))), some (iv a), some (iv d), none, some (iv q), some (iv p), none] = some (.dat (.bool true)) := by
    have hc : evalX (lev (n+1)) (.comp (.one 3) .seq (.from1 (.var 0)) .nil (.cmp .lt (.var 3) (.int 1)) (.var 3)) [some (.dat (lst (CF a d))), some (iv a), some (iv d), none, some (iv q), some (iv p), none] = some (.dat (.list [])) := by
      rw [xe_comp]
      have hi : iterOf .seq (evalX (lev (n+1)) (.from1 (.var 0)) [some (.dat (lst (CF a d))), some (iv a), some (iv d), none, some (iv q), some (iv p), none]) (evalX (lev (n+1)) .nil [some (.dat (lst (CF a d))), some (iv a), some (iv d), none, some (iv q), some (iv p), none]) = some ((CF a d).tail.map .int) := by
        simp only [xe_var, xe_int, xe_nil, xe_bool, xe_lim, xe_ar, xe_cat, xe_rep, xe_neg, xe_inv, xe_not, xe_cmp, xe_isNone, xe_and2, xe_or2, xe_or3, xe_ite, xe_tup2, xe_tup3, xe_list0, xe_list1, xe_list3, xe_sub, xe_from1, xe_upto1, xe_sl3, xe_len, xe_sum, xe_tuple, xe_bits, xe_divmod, xe_call1, xe_call2, xe_call3, xe_call5, xe_callk, xe_keyc, xe_comp, xe_mk, xe_cmpr, xe_attr, List.getElem?_cons_zero, Option.join_some, List.length_map]
        rw [if_pos (by omega)]
        simp [iterOf]
      rw [hi]
      simp only [List.length_map, List.length_tail]
      rw [if_pos (by omega), compGo_none]
      · rfl
      · intro x hx
        obtain ⟨i, hi, rfl⟩ := List.mem_map.mp hx
        have := pos i hi
        simp only [bindT, Option.bind_some, List.set_cons_succ, List.set_cons_zero, xe_var, xe_int, xe_nil, xe_bool, xe_lim, xe_ar, xe_cat, xe_rep, xe_neg, xe_inv, xe_not, xe_cmp, xe_isNone, xe_and2, xe_or2, xe_or3, xe_ite, xe_tup2, xe_tup3, xe_list0, xe_list1, xe_list3, xe_sub, xe_from1, xe_upto1, xe_sl3, xe_len, xe_sum, xe_tuple, xe_bits, xe_divmod, xe_call1, xe_call2, xe_call3, xe_call5, xe_callk, xe_keyc, xe_comp, xe_mk, xe_cmpr, xe_attr, List.getElem?_cons_succ, List.getElem?_cons_zero, Option.join_some, cmp_lt_int, Option.map_some]
        rw [decide_eq_false (by omega)]
    rw [xe_cmp, hc]
    show (compare' .eq (.list []) (.list [])).map _ = _
    rw [nil_eq]; rfl
  have hy2 : evalX (lev (n+1)) (.or2 (.cmp .eq (.len (.var 0)) (.int 1)) (.cmp .gt (.sub (.var 0) (.neg (.int 1))) (.int 1))) [some (.dat (lst (CF a d))), some (iv a), some (iv d), none, some (iv q), some (iv p), none] = some (.dat (.bool true)) := by
    have hl : (CF a d).length < 1048576 := by omega
    have hi : itemAt ((CF a d).map .int) (-1) = some (.int l) := by rw [hx]; exact itemAt_last
    simp only [xe_var, xe_int, xe_nil, xe_bool, xe_lim, xe_ar, xe_cat, xe_rep, xe_neg, xe_inv, xe_not, xe_cmp, xe_isNone, xe_and2, xe_or2, xe_or3, xe_ite, xe_tup2, xe_tup3, xe_list0, xe_list1, xe_list3, xe_sub, xe_from1, xe_upto1, xe_sl3, xe_len, xe_sum, xe_tuple, xe_bits, xe_divmod, xe_call1, xe_call2, xe_call3, xe_call5, xe_callk, xe_keyc, xe_comp, xe_mk, xe_cmpr, xe_attr, List.getElem?_cons_zero, Option.join_some, List.length_map, hl, if_true, cmp_eq_int, Option.map_some, hi, cmp_gt_int]
    by_cases h1 : (CF a d).length = 1
    · rw [decide_eq_true (by omega)]
    · have h2 : 1 < l := by
        rcases last with q | q
        · exact absurd q h1
        · rw [hx] at q; simpa using q
      rw [decide_eq_false (by omega)]
      simp only []
      rw [decide_eq_true (by omega)]
  show runA 3 f_law_is_run (lev (n+1)) _ = _
  have h0 : evalX (lev (n+1)) (.call1 12 (.var 0)) [some (.dat (lst (CF a d))), some (iv a), some (iv d), none, none, none, none] = some (.dat (pr p q)) := by
    simp only [xe_var, xe_int, xe_nil, xe_bool, xe_lim, xe_ar, xe_cat, xe_rep, xe_neg, xe_inv, xe_not, xe_cmp, xe_isNone, xe_and2, xe_or2, xe_or3, xe_ite, xe_tup2, xe_tup3, xe_list0, xe_list1, xe_list3, xe_sub, xe_from1, xe_upto1, xe_sl3, xe_len, xe_sum, xe_tuple, xe_bits, xe_divmod, xe_call1, xe_call2, xe_call3, xe_call5, xe_callk, xe_keyc, xe_comp, xe_mk, xe_cmpr, xe_attr, List.getElem?_cons_zero, Option.join_some, e12, Option.map_some]
  simp only [runA, Fn.run, f_law_is_run, List.length_cons, List.length_nil, if_true, List.map_cons, List.map_nil, List.replicate, List.cons_append, List.nil_append, se_dead, se_nop, se_seq, se_assign, se_unpack, se_swap, se_newl, se_app, se_ins, se_rvs, se_ite, se_whl, se_loop, se_ret, h0, xh_var, xh_int, xh_nil, xh_bool, xh_lim, xh_list0, xh_ar, xh_cat, xh_rep, xh_cmp, xh_and2, xh_or2, xh_tup2, xh_sub, xh_sl3, xh_divmod, xh_call2, xh_callk, xh_neg, xh_inv, xh_not, xh_isNone, xh_list1, xh_from1, xh_upto1, xh_len, xh_sum, xh_tuple, xh_bits, xh_call1, xh_mk, xh_or3, xh_ite, xh_tup3, xh_list3, xh_call3, xh_call5, xh_keyc, xh_comp, xh_cmpr, xh_attr, List.contains_nil, Bool.or_self, Bool.not_false, Bool.and_self, List.set_cons_succ, List.set_cons_zero, Bool.false_eq_true, if_false, Nat.reduceSub, Nat.reduceAdd]
  rw [x_or3_f hc1 hc2 hc3]
  simp only [x_and2_t hy1 hy2, Option.map_some]
end Mine

/-! PI -/
namespace Mine
open PySem

/-! ## the listing -/
noncomputable def far3 : List (Int × Int) := [(0, 1), (1, 3), (1, 2), (2, 3), (1, 1)]
noncomputable def far4 : List (Int × Int) := [(0, 1), (1, 4), (1, 3), (1, 2), (2, 3), (3, 4), (1, 1)]
noncomputable def far5 : List (Int × Int) := [(0, 1), (1, 5), (1, 4), (1, 3), (2, 5), (1, 2), (3, 5), (2, 3), (3, 4), (4, 5), (1, 1)]
noncomputable abbrev keyD (f : Int × Int) : PyData := tup (alt false (row 12 f.1 f.2))
noncomputable abbrev entry (f : Int × Int) : PyData := .tuple [keyD f, rowD f.1 f.2, pr f.1 f.2]

theorem l14_3 : lev 11 14 [iv 3] = some (.list (far3.map entry)) := by kernel_rfl
theorem l14_4 : lev 11 14 [iv 4] = some (.list (far4.map entry)) := by kernel_rfl
theorem l14_5 : lev 11 14 [iv 5] = some (.list (far5.map entry)) := by kernel_rfl
noncomputable abbrev prD (f : Int × Int) : PyData := pr f.1 f.2
theorem l15_3 : lev 11 15 [iv 3] = some (.list (far3.map prD)) := by kernel_rfl
theorem l15_4 : lev 11 15 [iv 4] = some (.list (far4.map prD)) := by kernel_rfl
theorem l15_5 : lev 11 15 [iv 5] = some (.list (far5.map prD)) := by kernel_rfl
end Mine

/-! PJ -/
namespace Mine
open PySem

/-! ## bisect -/
theorem fdiv_two (lo hi : Nat) : arith .fdiv ((lo : Int) + hi) 2 = some (((lo + hi) / 2 : Nat) : Int) := by
  simp only [arith]
  rw [if_pos ⟨by decide, by decide⟩, show ((lo : Int) + hi) = ((lo + hi : Nat) : Int) by omega, show (2 : Int) = ((2 : Nat) : Int) by rfl, fdiv_nat]
theorem itemAt_nat (ds : List PyData) (i : Nat) : itemAt ds (i : Int) = ds[i]? := by
  unfold itemAt
  rw [if_pos (by omega), Int.toNat_natCast]

noncomputable abbrev BL (es : List PyData) (x : PyData) (lo hi : Nat) (m : Option EV) : Env' := [some (.dat (.list es)), some (.dat x), some (iv lo), some (iv hi), some .lam, m]
section
variable {Φ : Phi} {es : List PyData} {x : PyData} {lo hi : Nat} {m : Option EV}
theorem b_cond : evalX Φ (.cmp .lt (.var 2) (.var 3)) (BL es x lo hi m) = some (.dat (.bool (decide (lo < hi)))) := by
  simp only [xe_var, xe_int, xe_nil, xe_bool, xe_lim, xe_ar, xe_cat, xe_rep, xe_neg, xe_inv, xe_not, xe_cmp, xe_isNone, xe_and2, xe_or2, xe_or3, xe_ite, xe_tup2, xe_tup3, xe_list0, xe_list1, xe_list3, xe_sub, xe_from1, xe_upto1, xe_sl3, xe_len, xe_sum, xe_tuple, xe_bits, xe_divmod, xe_call1, xe_call2, xe_call3, xe_call5, xe_callk, xe_keyc, xe_comp, xe_mk, xe_cmpr, xe_attr, List.getElem?_cons_succ, List.getElem?_cons_zero, Option.join_some, cmp_lt_int, Option.map_some]
  congr 4
  simp
theorem b_mid : evalX Φ (.ar .fdiv (.ar .add (.var 2) (.var 3)) (.int 2)) (BL es x lo hi m) = some (iv ((lo + hi) / 2 : Nat)) := by
  have e : arith .add (lo : Int) hi = some ((lo : Int) + hi) := rfl
  simp only [xe_var, xe_int, xe_nil, xe_bool, xe_lim, xe_ar, xe_cat, xe_rep, xe_neg, xe_inv, xe_not, xe_cmp, xe_isNone, xe_and2, xe_or2, xe_or3, xe_ite, xe_tup2, xe_tup3, xe_list0, xe_list1, xe_list3, xe_sub, xe_from1, xe_upto1, xe_sl3, xe_len, xe_sum, xe_tuple, xe_bits, xe_divmod, xe_call1, xe_call2, xe_call3, xe_call5, xe_callk, xe_keyc, xe_comp, xe_mk, xe_cmpr, xe_attr, List.getElem?_cons_succ, List.getElem?_cons_zero, Option.join_some, e, Option.map_some, fdiv_two]
theorem b_key {mid : Nat} {k : PyData} {rest : List PyData} (hl : es.length < 1000) (he : es[mid]? = some (.tuple (k :: rest))) (hr : rest.length < 1000) : evalX Φ (.keyc 4 (.sub (.var 0) (.var 5))) (BL es x lo hi (some (iv mid))) = some (.dat k) := by
  have h1 : es.length < 1048576 := by omega
  have h2 : (k :: rest).length < 1048576 := by simp; omega
  have h3 : itemAt (k :: rest) 0 = some k := rfl
  simp only [xe_var, xe_int, xe_nil, xe_bool, xe_lim, xe_ar, xe_cat, xe_rep, xe_neg, xe_inv, xe_not, xe_cmp, xe_isNone, xe_and2, xe_or2, xe_or3, xe_ite, xe_tup2, xe_tup3, xe_list0, xe_list1, xe_list3, xe_sub, xe_from1, xe_upto1, xe_sl3, xe_len, xe_sum, xe_tuple, xe_bits, xe_divmod, xe_call1, xe_call2, xe_call3, xe_call5, xe_callk, xe_keyc, xe_comp, xe_mk, xe_cmpr, xe_attr, List.getElem?_cons_succ, List.getElem?_cons_zero, Option.join_some, h1, if_true, itemAt_nat, he, Option.map_some, h2, h3]
theorem b_x : evalX Φ (.var 1) (BL es x lo hi m) = some (.dat x) := rfl
theorem b_up {mid : Nat} : evalX Φ (.ar .add (.var 5) (.int 1)) (BL es x lo hi (some (iv mid))) = some (iv (mid + 1 : Nat)) := rfl
theorem b_md {mid : Nat} : evalX Φ (.var 5) (BL es x lo hi (some (iv mid))) = some (iv mid) := rfl
theorem x_cmp {op : COp} {a b : X} {ρ : Env'} {u v : PyData} {r : Bool} (h1 : evalX Φ a ρ = some (.dat u)) (h2 : evalX Φ b ρ = some (.dat v)) (h3 : compare' op u v = some r) : evalX Φ (.cmp op a b) ρ = some (.dat (.bool r)) := by simp only [xe_var, xe_int, xe_nil, xe_bool, xe_lim, xe_ar, xe_cat, xe_rep, xe_neg, xe_inv, xe_not, xe_cmp, xe_isNone, xe_and2, xe_or2, xe_or3, xe_ite, xe_tup2, xe_tup3, xe_list0, xe_list1, xe_list3, xe_sub, xe_from1, xe_upto1, xe_sl3, xe_len, xe_sum, xe_tuple, xe_bits, xe_divmod, xe_call1, xe_call2, xe_call3, xe_call5, xe_callk, xe_keyc, xe_comp, xe_mk, xe_cmpr, xe_attr, h1, h2, h3, Option.map_some]

theorem bl_step {mid : Nat} (hm : mid = (lo + hi) / 2) {k : PyData} {rest : List PyData} (hl : es.length < 1000) (he : es[mid]? = some (.tuple (k :: rest))) (hr : rest.length < 1000) {r : Bool} (hc : compare' .lt k x = some r) :
    evalS Φ [] b_bisect_left_2 (BL es x lo hi m) = some (.next (if r then BL es x (mid + 1) hi (some (iv mid)) else BL es x lo mid (some (iv mid)))) := by
  subst hm
  have e1 := x_cmp (Φ := Φ) (b_key (x := x) (lo := lo) (hi := hi) hl he hr) b_x hc
  have e0 := b_mid (Φ := Φ) (es := es) (x := x) (lo := lo) (hi := hi) (m := m)
  simp only [b_bisect_left_2, se_dead, se_nop, se_seq, se_assign, se_unpack, se_swap, se_newl, se_app, se_ins, se_rvs, se_ite, se_whl, se_loop, se_ret, e0, List.contains_nil, Bool.not_false, scal, Bool.true_or, Bool.and_self, if_true, List.set_cons_succ, List.set_cons_zero]
  rw [show [some (EV.dat (.list es)), some (.dat x), some (iv lo), some (iv hi), some .lam, some (iv ((lo + hi) / 2 : Nat))] = BL es x lo hi (some (iv ((lo + hi) / 2 : Nat))) from rfl, e1]
  cases r
  · simp only [b_md, Bool.false_eq_true, if_false]; rfl
  · simp only [b_up, if_true]; rfl
theorem br_step {mid : Nat} (hm : mid = (lo + hi) / 2) {k : PyData} {rest : List PyData} (hl : es.length < 1000) (he : es[mid]? = some (.tuple (k :: rest))) (hr : rest.length < 1000) {r : Bool} (hc : compare' .lt x k = some r) :
    evalS Φ [] b_bisect_right_2 (BL es x lo hi m) = some (.next (if r then BL es x lo mid (some (iv mid)) else BL es x (mid + 1) hi (some (iv mid)))) := by
  subst hm
  have e1 := x_cmp (Φ := Φ) b_x (b_key (x := x) (lo := lo) (hi := hi) hl he hr) hc
  have e0 := b_mid (Φ := Φ) (es := es) (x := x) (lo := lo) (hi := hi) (m := m)
  simp only [b_bisect_right_2, se_dead, se_nop, se_seq, se_assign, se_unpack, se_swap, se_newl, se_app, se_ins, se_rvs, se_ite, se_whl, se_loop, se_ret, e0, List.contains_nil, Bool.not_false, scal, Bool.true_or, Bool.and_self, if_true, List.set_cons_succ, List.set_cons_zero]
  rw [show [some (EV.dat (.list es)), some (.dat x), some (iv lo), some (iv hi), some .lam, some (iv ((lo + hi) / 2 : Nat))] = BL es x lo hi (some (iv ((lo + hi) / 2 : Nat))) from rfl, e1]
  cases r
  · simp only [b_up, Bool.false_eq_true, if_false]; rfl
  · simp only [b_md, if_true]; rfl

/-- the entries' keys, in order beside x -/
noncomputable def Keys (es : List PyData) (P : Nat → PyData → Prop) : Prop := ∀ i, i < es.length → ∃ k rest, es[i]? = some (.tuple (k :: rest)) ∧ rest.length < 1000 ∧ P i k

theorem bl_loop (hl : es.length < 1000) {c : Nat} (hK : Keys es fun i k => compare' .lt k x = some (decide (i < c))) : ∀ (fuel lo hi : Nat) (m : Option EV), lo ≤ c → c ≤ hi → hi ≤ es.length → hi - lo < fuel →
    ∃ m', whileN (evalX Φ (.cmp .lt (.var 2) (.var 3))) (evalS Φ [] b_bisect_left_2) fuel (BL es x lo hi m) = some (.next (BL es x c c m'))
  | 0, _, _, _, _, _, _, h => by omega
  | fuel + 1, lo, hi, m, h1, h2, h3, h4 => by
    by_cases h : lo < hi
    · obtain ⟨k, rest, e1, e2, e3⟩ := hK ((lo + hi) / 2) (by omega)
      have hs := bl_step (Φ := Φ) (lo := lo) (hi := hi) (m := m) rfl hl e1 e2 e3
      by_cases hc : (lo + hi) / 2 < c
      · obtain ⟨m', ih⟩ := bl_loop hl hK fuel ((lo + hi) / 2 + 1) hi (some (iv ((lo + hi) / 2 : Nat))) (by omega) h2 h3 (by omega)
        refine ⟨m', ?_⟩
        simp only [whileN, b_cond, decide_eq_true h, hs, decide_eq_true hc, if_true, ih]
      · obtain ⟨m', ih⟩ := bl_loop hl hK fuel lo ((lo + hi) / 2) (some (iv ((lo + hi) / 2 : Nat))) h1 (by omega) (by omega) (by omega)
        refine ⟨m', ?_⟩
        simp only [whileN, b_cond, decide_eq_true h, hs, decide_eq_false hc, Bool.false_eq_true, if_false, ih]
    · refine ⟨m, ?_⟩
      have e1 : lo = c := by omega
      have e2 : hi = c := by omega
      subst e1 e2
      simp only [whileN, b_cond, decide_eq_false h]
theorem br_loop (hl : es.length < 1000) {c : Nat} (hK : Keys es fun i k => compare' .lt x k = some (decide (c ≤ i))) : ∀ (fuel lo hi : Nat) (m : Option EV), lo ≤ c → c ≤ hi → hi ≤ es.length → hi - lo < fuel →
    ∃ m', whileN (evalX Φ (.cmp .lt (.var 2) (.var 3))) (evalS Φ [] b_bisect_right_2) fuel (BL es x lo hi m) = some (.next (BL es x c c m'))
  | 0, _, _, _, _, _, _, h => by omega
  | fuel + 1, lo, hi, m, h1, h2, h3, h4 => by
    by_cases h : lo < hi
    · obtain ⟨k, rest, e1, e2, e3⟩ := hK ((lo + hi) / 2) (by omega)
      have hs := br_step (Φ := Φ) (lo := lo) (hi := hi) (m := m) rfl hl e1 e2 e3
      by_cases hc : c ≤ (lo + hi) / 2
      · obtain ⟨m', ih⟩ := br_loop hl hK fuel lo ((lo + hi) / 2) (some (iv ((lo + hi) / 2 : Nat))) h1 (by omega) (by omega) (by omega)
        refine ⟨m', ?_⟩
        simp only [whileN, b_cond, decide_eq_true h, hs, decide_eq_true hc, if_true, ih]
      · obtain ⟨m', ih⟩ := br_loop hl hK fuel ((lo + hi) / 2 + 1) hi (some (iv ((lo + hi) / 2 : Nat))) (by omega) h2 h3 (by omega)
        refine ⟨m', ?_⟩
        simp only [whileN, b_cond, decide_eq_true h, hs, decide_eq_false hc, Bool.false_eq_true, if_false, ih]
    · refine ⟨m, ?_⟩
      have e1 : lo = c := by omega
      have e2 : hi = c := by omega
      subst e1 e2
      simp only [whileN, b_cond, decide_eq_false h]
end

theorem l6 (n : Nat) {es : List PyData} {x : PyData} (hl : es.length < 99) {c : Nat} (hc : c ≤ es.length) (hK : Keys es fun i k => compare' .lt k x = some (decide (i < c))) :
    lev (n+1) 6 [.dat (.list es), .dat x, iv 0, .dat .none, .lam] = some (.int c) := by
  obtain ⟨m', e⟩ := bl_loop (Φ := lev n) (by omega) hK 100 0 es.length none (by omega) hc (Nat.le_refl _) (by omega)
  show runA 5 f_bisect_left (lev n) _ = _
  have h1 : es.length < 1048576 := by omega
  have c1 : ∀ a b c d e, evalX (lev n) (.cmp .lt (.var 2) (.int 0)) [a, b, some (iv 0), c, d, e] = ff := fun _ _ _ _ _ => rfl
  have c2 : ∀ a b c d e, evalX (lev n) (.isNone (.var 3)) [a, b, c, some (.dat .none), d, e] = tt := fun _ _ _ _ _ => rfl
  have c3 : ∀ a b c d e, evalX (lev n) (.len (.var 0)) [some (.dat (.list es)), a, b, c, d, e] = some (iv es.length) := fun _ _ _ _ _ => by
    simp only [xe_var, xe_int, xe_nil, xe_bool, xe_lim, xe_ar, xe_cat, xe_rep, xe_neg, xe_inv, xe_not, xe_cmp, xe_isNone, xe_and2, xe_or2, xe_or3, xe_ite, xe_tup2, xe_tup3, xe_list0, xe_list1, xe_list3, xe_sub, xe_from1, xe_upto1, xe_sl3, xe_len, xe_sum, xe_tuple, xe_bits, xe_divmod, xe_call1, xe_call2, xe_call3, xe_call5, xe_callk, xe_keyc, xe_comp, xe_mk, xe_cmpr, xe_attr, List.getElem?_cons_zero, Option.join_some, h1, if_true]
  have c4 : ∀ a b c d e, evalX (lev n) (.isNone (.var 4)) [a, b, c, d, some .lam, e] = ff := fun _ _ _ _ _ => rfl
  have c5 : ∀ a b c d e (z : Int), evalX (lev n) (.var 2) [a, b, some (iv z), c, d, e] = some (iv z) := fun _ _ _ _ _ _ => rfl
  simp only [runA, Fn.run, f_bisect_left, List.length_cons, List.length_nil, if_true, List.map_cons, List.map_nil, List.replicate, List.cons_append, List.nil_append, Nat.reduceAdd, Nat.reduceSub, se_dead, se_nop, se_seq, se_assign, se_unpack, se_swap, se_newl, se_app, se_ins, se_rvs, se_ite, se_whl, se_loop, se_ret, c1, c2, c3, List.contains_nil, Bool.not_false, scal, Bool.true_or, Bool.and_self, List.set_cons_succ, List.set_cons_zero, c4]
  rw [show [some (EV.dat (.list es)), some (.dat x), some (iv 0), some (EV.dat (PyData.int es.length)), some .lam, none] = BL es x 0 es.length none from rfl, e]
  simp only [c5, Option.map_some]
theorem l7 (n : Nat) {es : List PyData} {x : PyData} (hl : es.length < 99) {c : Nat} (hc : c ≤ es.length) (hK : Keys es fun i k => compare' .lt x k = some (decide (c ≤ i))) :
    lev (n+1) 7 [.dat (.list es), .dat x, iv 0, .dat .none, .lam] = some (.int c) := by
  obtain ⟨m', e⟩ := br_loop (Φ := lev n) (by omega) hK 100 0 es.length none (by omega) hc (Nat.le_refl _) (by omega)
  show runA 5 f_bisect_right (lev n) _ = _
  have h1 : es.length < 1048576 := by omega
  have c1 : ∀ a b c d e, evalX (lev n) (.cmp .lt (.var 2) (.int 0)) [a, b, some (iv 0), c, d, e] = ff := fun _ _ _ _ _ => rfl
  have c2 : ∀ a b c d e, evalX (lev n) (.isNone (.var 3)) [a, b, c, some (.dat .none), d, e] = tt := fun _ _ _ _ _ => rfl
  have c3 : ∀ a b c d e, evalX (lev n) (.len (.var 0)) [some (.dat (.list es)), a, b, c, d, e] = some (iv es.length) := fun _ _ _ _ _ => by
    simp only [xe_var, xe_int, xe_nil, xe_bool, xe_lim, xe_ar, xe_cat, xe_rep, xe_neg, xe_inv, xe_not, xe_cmp, xe_isNone, xe_and2, xe_or2, xe_or3, xe_ite, xe_tup2, xe_tup3, xe_list0, xe_list1, xe_list3, xe_sub, xe_from1, xe_upto1, xe_sl3, xe_len, xe_sum, xe_tuple, xe_bits, xe_divmod, xe_call1, xe_call2, xe_call3, xe_call5, xe_callk, xe_keyc, xe_comp, xe_mk, xe_cmpr, xe_attr, List.getElem?_cons_zero, Option.join_some, h1, if_true]
  have c4 : ∀ a b c d e, evalX (lev n) (.isNone (.var 4)) [a, b, c, d, some .lam, e] = ff := fun _ _ _ _ _ => rfl
  have c5 : ∀ a b c d e (z : Int), evalX (lev n) (.var 2) [a, b, some (iv z), c, d, e] = some (iv z) := fun _ _ _ _ _ _ => rfl
  simp only [runA, Fn.run, f_bisect_right, List.length_cons, List.length_nil, if_true, List.map_cons, List.map_nil, List.replicate, List.cons_append, List.nil_append, Nat.reduceAdd, Nat.reduceSub, se_dead, se_nop, se_seq, se_assign, se_unpack, se_swap, se_newl, se_app, se_ins, se_rvs, se_ite, se_whl, se_loop, se_ret, c1, c2, c3, List.contains_nil, Bool.not_false, scal, Bool.true_or, Bool.and_self, List.set_cons_succ, List.set_cons_zero, c4]
  rw [show [some (EV.dat (.list es)), some (.dat x), some (iv 0), some (EV.dat (PyData.int es.length)), some .lam, none] = BL es x 0 es.length none from rfl, e]
  simp only [c5, Option.map_some]
end Mine

/-! PS -/
namespace Mine
open PySem

/-! ## statements, step by step -/
theorem hits_nil : ∀ x : X, x.hits [] = false
  | .var k => rfl
  | .int _ | .nil | .bool _ | .lim | .list0 => rfl
  | .ar _ a b | .cat a b | .rep a b | .cmp _ a b | .and2 a b | .or2 a b | .tup2 a b | .sub a b | .sl3 a b | .divmod a b | .call2 _ a b | .callk _ a b => by simp only [xh_var, xh_int, xh_nil, xh_bool, xh_lim, xh_list0, xh_ar, xh_cat, xh_rep, xh_cmp, xh_and2, xh_or2, xh_tup2, xh_sub, xh_sl3, xh_divmod, xh_call2, xh_callk, xh_neg, xh_inv, xh_not, xh_isNone, xh_list1, xh_from1, xh_upto1, xh_len, xh_sum, xh_tuple, xh_bits, xh_call1, xh_mk, xh_or3, xh_ite, xh_tup3, xh_list3, xh_call3, xh_call5, xh_keyc, xh_comp, xh_cmpr, xh_attr, hits_nil a, hits_nil b, Bool.or_self]
  | .neg a | .inv a | .not a | .isNone a | .list1 a | .from1 a | .upto1 a | .len a | .sum a | .tuple a | .bits a | .call1 _ a | .mk a => by simp only [xh_var, xh_int, xh_nil, xh_bool, xh_lim, xh_list0, xh_ar, xh_cat, xh_rep, xh_cmp, xh_and2, xh_or2, xh_tup2, xh_sub, xh_sl3, xh_divmod, xh_call2, xh_callk, xh_neg, xh_inv, xh_not, xh_isNone, xh_list1, xh_from1, xh_upto1, xh_len, xh_sum, xh_tuple, xh_bits, xh_call1, xh_mk, xh_or3, xh_ite, xh_tup3, xh_list3, xh_call3, xh_call5, xh_keyc, xh_comp, xh_cmpr, xh_attr, hits_nil a]
  | .or3 a b c | .ite a b c | .tup3 a b c | .list3 a b c | .call3 _ a b c => by simp only [xh_var, xh_int, xh_nil, xh_bool, xh_lim, xh_list0, xh_ar, xh_cat, xh_rep, xh_cmp, xh_and2, xh_or2, xh_tup2, xh_sub, xh_sl3, xh_divmod, xh_call2, xh_callk, xh_neg, xh_inv, xh_not, xh_isNone, xh_list1, xh_from1, xh_upto1, xh_len, xh_sum, xh_tuple, xh_bits, xh_call1, xh_mk, xh_or3, xh_ite, xh_tup3, xh_list3, xh_call3, xh_call5, xh_keyc, xh_comp, xh_cmpr, xh_attr, hits_nil a, hits_nil b, hits_nil c, Bool.or_self]
  | .call5 _ a b c d e => by simp only [xh_var, xh_int, xh_nil, xh_bool, xh_lim, xh_list0, xh_ar, xh_cat, xh_rep, xh_cmp, xh_and2, xh_or2, xh_tup2, xh_sub, xh_sl3, xh_divmod, xh_call2, xh_callk, xh_neg, xh_inv, xh_not, xh_isNone, xh_list1, xh_from1, xh_upto1, xh_len, xh_sum, xh_tuple, xh_bits, xh_call1, xh_mk, xh_or3, xh_ite, xh_tup3, xh_list3, xh_call3, xh_call5, xh_keyc, xh_comp, xh_cmpr, xh_attr, hits_nil a, hits_nil b, hits_nil c, hits_nil d, hits_nil e, Bool.or_self]
  | .keyc k a => by simp only [xh_var, xh_int, xh_nil, xh_bool, xh_lim, xh_list0, xh_ar, xh_cat, xh_rep, xh_cmp, xh_and2, xh_or2, xh_tup2, xh_sub, xh_sl3, xh_divmod, xh_call2, xh_callk, xh_neg, xh_inv, xh_not, xh_isNone, xh_list1, xh_from1, xh_upto1, xh_len, xh_sum, xh_tuple, xh_bits, xh_call1, xh_mk, xh_or3, xh_ite, xh_tup3, xh_list3, xh_call3, xh_call5, xh_keyc, xh_comp, xh_cmpr, xh_attr, hits_nil a, List.contains_nil, Bool.or_self]
  | .comp _ _ a b c d => by simp only [xh_var, xh_int, xh_nil, xh_bool, xh_lim, xh_list0, xh_ar, xh_cat, xh_rep, xh_cmp, xh_and2, xh_or2, xh_tup2, xh_sub, xh_sl3, xh_divmod, xh_call2, xh_callk, xh_neg, xh_inv, xh_not, xh_isNone, xh_list1, xh_from1, xh_upto1, xh_len, xh_sum, xh_tuple, xh_bits, xh_call1, xh_mk, xh_or3, xh_ite, xh_tup3, xh_list3, xh_call3, xh_call5, xh_keyc, xh_comp, xh_cmpr, xh_attr, hits_nil a, hits_nil b, hits_nil c, hits_nil d, Bool.or_self]
  | .cmpr k a b => by simp only [xh_var, xh_int, xh_nil, xh_bool, xh_lim, xh_list0, xh_ar, xh_cat, xh_rep, xh_cmp, xh_and2, xh_or2, xh_tup2, xh_sub, xh_sl3, xh_divmod, xh_call2, xh_callk, xh_neg, xh_inv, xh_not, xh_isNone, xh_list1, xh_from1, xh_upto1, xh_len, xh_sum, xh_tuple, xh_bits, xh_call1, xh_mk, xh_or3, xh_ite, xh_tup3, xh_list3, xh_call3, xh_call5, xh_keyc, xh_comp, xh_cmpr, xh_attr, hits_nil a, hits_nil b, List.contains_nil, Bool.or_self]
  | .attr k => rfl
section
variable {Φ : Phi} {own : List Nat} {ρ ρ' : Env'} {A B : S} {k : Nat} {x c i1 i2 : X} {v : EV} {o : Out}
theorem s_seq (h : evalS Φ own A ρ = some (.next ρ')) : evalS Φ own (.seq A B) ρ = evalS Φ own B ρ' := by rw [se_seq, h]
theorem s_seq_ret (h : evalS Φ own A ρ = some (.ret v)) : evalS Φ own (.seq A B) ρ = some (.ret v) := by rw [se_seq, h]
theorem s_assign (h : evalX Φ x ρ = some v) : evalS Φ [] (.assign k x) ρ = some (.next (ρ.set k (some v))) := by
  rw [se_assign, h, hits_nil]
  show (if (true && (scal v || true)) = true then _ else _) = _
  rw [Bool.or_true, Bool.and_self, if_pos rfl]
theorem s_ret (h : evalX Φ x ρ = some v) : evalS Φ own (.seq (.ret x) B) ρ = some (.ret v) := s_seq_ret (by rw [se_ret, h]; rfl)
theorem s_ite_t (h : evalX Φ c ρ = tt) (ha : evalS Φ own A ρ = some o) : evalS Φ own (.ite c A B) ρ = some o := by rw [se_ite, h]; exact ha
theorem s_ite_f (h : evalX Φ c ρ = ff) (hb : evalS Φ own B ρ = some o) : evalS Φ own (.ite c A B) ρ = some o := by rw [se_ite, h]; exact hb
theorem s_nop : evalS Φ own .nop ρ = some (.next ρ) := rfl
theorem s_skip (h : evalX Φ c ρ = ff) : evalS Φ own (.ite c A .nop) ρ = some (.next ρ) := s_ite_f h rfl
theorem s_loop {it : It} {j : Nat} {ds : List PyData} (hi : iterOf it (evalX Φ i1 ρ) (evalX Φ i2 ρ) = some ds) (hl : ds.length < 1048576) (hf : forGo (fun d ρ => (bindT (.one j) d ρ).bind (evalS Φ [] A)) ds ρ = some o) : evalS Φ [] (.loop (.one j) it i1 i2 A) ρ = some o := by
  rw [se_loop, hi, hits_nil, hits_nil]
  simp only [List.contains_nil, Bool.or_self, Bool.false_eq_true, if_false, hl, if_true, hf]
theorem run_of {ar : Nat} {f : Fn} {args : List EV} {d : PyData} (h : args.length = ar) (he : evalS Φ f.own f.body (args.map some ++ List.replicate (f.slots - args.length) none) = some (.ret (.dat d))) : runA ar f Φ args = some d := by
  unfold runA Fn.run
  rw [if_pos h, he]
theorem iter_r2 {m n : Int} (h1 : evalX Φ i1 ρ = some (iv m)) (h2 : evalX Φ i2 ρ = some (iv n)) (a1 : n < 1048576) (a2 : -1048576 < n) (a3 : m < 1048576) (a4 : -1048576 < m) : iterOf .r2 (evalX Φ i1 ρ) (evalX Φ i2 ρ) = some (upFrom m (n - m).toNat) := by
  rw [h1, h2]
  exact if_pos ⟨a1, a2, a3, a4⟩
end
end Mine

/-! PK -/
namespace Mine
open PySem

/-! ## keys -/
theorem lt_alt : ∀ (xs ys : List Int) (b : Bool), xs.length = ys.length → ltInts (alt b xs) (alt b ys) = decide (cmpA (if b then -1 else 1) xs ys < 0)
  | [], [], b, _ => by cases b <;> rfl
  | [], _ :: _, _, h => by cases h
  | _ :: _, [], _, h => by cases h
  | x :: xs, y :: ys, b, h => by
    have ih := fun b => lt_alt xs ys b (by simpa using h)
    cases b
    · have i1 := ih true
      simp only [alt, ltInts, cmpA, cmpO, Bool.false_eq_true, if_false, if_true] at i1 ⊢
      rcases Int.lt_trichotomy x y with q | q | q
      · rw [if_neg (by omega), if_pos q, decide_eq_true q]; rfl
      · rw [if_pos q, if_neg (by omega), if_neg (by omega), i1]
      · rw [if_neg (by omega), if_neg (by omega), if_pos q, decide_eq_false (by omega)]; rfl
    · have i1 := ih false
      simp only [alt, ltInts, cmpA, cmpO, Bool.false_eq_true, if_false, if_true] at i1 ⊢
      rcases Int.lt_trichotomy x y with q | q | q
      · rw [if_neg (by omega), if_pos q, decide_eq_false (by omega)]; rfl
      · rw [if_pos (by omega), if_neg (by omega), if_neg (by omega), i1]; rfl
      · rw [if_neg (by omega), if_neg (by omega), if_pos q, decide_eq_true (by omega)]; rfl

theorem key_lt {f g : Int × Int} (hf : Good f) (hg : Good g) : compare' .lt (keyD f) (keyD g) = some (decide (f.1 * g.2 < g.1 * f.2)) := by
  show (do let is ← ints? ((alt false (row 12 f.1 f.2)).map .int); let js ← ints? ((alt false (row 12 g.1 g.2)).map .int); some (ltInts is js)) = _
  rw [ints_map, ints_map]
  show some (ltInts _ _) = _
  rw [lt_alt _ _ _ (by rw [row_len, row_len])]
  simp only [Bool.false_eq_true, if_false]
  rw [cmp_good hf hg, Int.one_mul]
  congr 1
  unfold sgn
  by_cases h1 : f.1 * g.2 - g.1 * f.2 = 0
  · rw [if_pos h1, decide_eq_false (by omega), decide_eq_false (by omega)]
  · rw [if_neg h1]
    by_cases h2 : f.1 * g.2 - g.1 * f.2 > 0
    · rw [if_pos h2, decide_eq_false (by omega), decide_eq_false (by omega)]
    · rw [if_neg h2, decide_eq_true (by omega), decide_eq_true (by omega)]

theorem keys_of {fs : List (Int × Int)} {P : Nat → PyData → Prop} (h : ∀ i f, fs[i]? = some f → P i (keyD f)) : Keys (fs.map entry) P := by
  intro i hi
  simp only [List.length_map] at hi
  refine ⟨keyD fs[i], [rowD fs[i].1 fs[i].2, pr fs[i].1 fs[i].2], ?_, by simp, h i _ (List.getElem?_eq_getElem hi)⟩
  rw [List.getElem?_map, List.getElem?_eq_getElem hi]
  rfl

/-! ## the nearest -/
noncomputable abbrev Op2 := Option (Nat × Nat)
noncomputable def nlo (r d e : Nat) : Op2 → Op2
  | none => if r * e = 0 then none else some ((r * e - 1) / d, e)
  | some b => if r * e = 0 then some b else if b.1 * e < (r * e - 1) / d * b.2 then some ((r * e - 1) / d, e) else some b
noncomputable def nhi (r d e : Nat) : Op2 → Op2
  | none => some (r * e / d + 1, e)
  | some a => if (r * e / d + 1) * a.2 < a.1 * e then some (r * e / d + 1, e) else some a
noncomputable def near (r d : Nat) : Nat → Nat → Op2 → Op2 → Op2 × Op2
  | 0, _, b, a => (b, a)
  | k + 1, e, b, a => near r d k (e + 1) (nlo r d e b) (nhi r d e a)
noncomputable def optD : Op2 → PyData
  | none => .none
  | some p => pr p.1 p.2
noncomputable def Sm : Op2 → Prop
  | none => True
  | some p => p.1 ≤ 1000

noncomputable abbrev NE (r d top : Nat) (b a : Op2) (e m : Option EV) : Env' := [some (iv r), some (iv d), some (iv top), some (.dat (optD b)), some (.dat (optD a)), e, m]
section
variable {Φ : Phi} {r d top e : Nat} {b a : Op2} {u v : Option EV}
theorem fdiv_nat' {x d : Nat} (hd : 0 < d) (h : d < 1073741824) : arith .fdiv (x : Int) d = some ((x / d : Nat) : Int) := by
  simp only [arith]
  rw [if_pos ⟨by omega, by omega⟩, fdiv_nat]
theorem fdiv_m1 {d : Nat} (hd : 0 < d) (h : d < 1073741824) : arith .fdiv (-1) (d : Int) = some (-1) := by
  simp only [arith]
  rw [if_pos ⟨by omega, by omega⟩]
  congr 1
  rw [Int.fdiv_eq_ediv_of_nonneg _ (by omega)]
  refine ((Int.ediv_emod_unique (r := (d : Int) - 1) (by omega)).mpr ⟨?_, by omega, by omega⟩).1
  rw [Int.mul_neg, Int.mul_one]; omega
theorem m_lo (hr : r ≤ 1000) (hd : 0 < d) (hd2 : d ≤ 40) : evalX Φ (.ar .fdiv (.ar .sub (.ar .mul (.var 0) (.var 5)) (.int 1)) (.var 1)) (NE r d top b a (some (iv e)) v) = some (iv (if r * e = 0 then -1 else (((r * e - 1) / d : Nat) : Int))) := by
  have e1 : arith .mul (r : Int) e = some ((r * e : Nat) : Int) := by rw [mul_int (by omega)]; simp
  have e2 : arith .sub ((r * e : Nat) : Int) 1 = some (((r * e : Nat) : Int) - 1) := rfl
  simp only [xe_var, xe_int, xe_nil, xe_bool, xe_lim, xe_ar, xe_cat, xe_rep, xe_neg, xe_inv, xe_not, xe_cmp, xe_isNone, xe_and2, xe_or2, xe_or3, xe_ite, xe_tup2, xe_tup3, xe_list0, xe_list1, xe_list3, xe_sub, xe_from1, xe_upto1, xe_sl3, xe_len, xe_sum, xe_tuple, xe_bits, xe_divmod, xe_call1, xe_call2, xe_call3, xe_call5, xe_callk, xe_keyc, xe_comp, xe_mk, xe_cmpr, xe_attr, List.getElem?_cons_succ, List.getElem?_cons_zero, Option.join_some, e1, Option.map_some, e2]
  by_cases h : r * e = 0
  · rw [if_pos h, h]
    show Option.map _ (arith .fdiv (-1) (d : Int)) = _
    rw [fdiv_m1 hd (by omega)]; rfl
  · rw [if_neg h, show ((r * e : Nat) : Int) - 1 = ((r * e - 1 : Nat) : Int) by omega, fdiv_nat' hd (by omega)]; rfl
theorem m_hi (hr : r ≤ 1000) (hd : 0 < d) (hd2 : d ≤ 40) : evalX Φ (.ar .add (.ar .fdiv (.ar .mul (.var 0) (.var 5)) (.var 1)) (.int 1)) (NE r d top b a (some (iv e)) v) = some (iv ((r * e / d + 1 : Nat) : Int)) := by
  have e1 : arith .mul (r : Int) e = some ((r * e : Nat) : Int) := by rw [mul_int (by omega)]; simp
  simp only [xe_var, xe_int, xe_nil, xe_bool, xe_lim, xe_ar, xe_cat, xe_rep, xe_neg, xe_inv, xe_not, xe_cmp, xe_isNone, xe_and2, xe_or2, xe_or3, xe_ite, xe_tup2, xe_tup3, xe_list0, xe_list1, xe_list3, xe_sub, xe_from1, xe_upto1, xe_sl3, xe_len, xe_sum, xe_tuple, xe_bits, xe_divmod, xe_call1, xe_call2, xe_call3, xe_call5, xe_callk, xe_keyc, xe_comp, xe_mk, xe_cmpr, xe_attr, List.getElem?_cons_succ, List.getElem?_cons_zero, Option.join_some, e1, Option.map_some, fdiv_nat' hd (show d < 1073741824 by omega)]
  rfl
theorem pr0 {x y : Int} : itemAt [PyData.int x, .int y] 0 = some (.int x) := rfl
theorem pr1 {x y : Int} : itemAt [PyData.int x, .int y] 1 = some (.int y) := rfl

theorem c_lo (hb : Sm b) {m : Nat} (hm : m ≤ 100000) : evalX Φ (.and2 (.cmp .ge (.var 6) (.int 0)) (.or2 (.isNone (.var 3)) (.cmp .gt (.ar .mul (.var 6) (.sub (.var 3) (.int 1))) (.ar .mul (.sub (.var 3) (.int 0)) (.var 5))))) (NE r d top b a (some (iv e)) (some (iv m))) =
    some (.dat (.bool (match b with | none => true | some p => decide (p.1 * e < m * p.2)))) := by
  have h0 : evalX Φ (.cmp .ge (.var 6) (.int 0)) (NE r d top b a (some (iv e)) (some (iv m))) = tt := by
    refine x_cmp (u := .int m) (v := .int 0) rfl rfl ?_
    rw [cmp_ge_int, decide_eq_true (by omega)]
  cases b with
  | none => exact x_and2_t h0 (x_or2_t rfl)
  | some p =>
    have hp : p.1 ≤ 1000 := hb
    have h1 : evalX Φ (.cmp .gt (.ar .mul (.var 6) (.sub (.var 3) (.int 1))) (.ar .mul (.sub (.var 3) (.int 0)) (.var 5))) (NE r d top (some p) a (some (iv e)) (some (iv m))) = some (.dat (.bool (decide (p.1 * e < m * p.2)))) := by
      refine x_cmp (u := .int ((m : Int) * p.2)) (v := .int ((p.1 : Int) * e)) ?_ ?_ ?_
      · simp only [xe_var, xe_int, xe_nil, xe_bool, xe_lim, xe_ar, xe_cat, xe_rep, xe_neg, xe_inv, xe_not, xe_cmp, xe_isNone, xe_and2, xe_or2, xe_or3, xe_ite, xe_tup2, xe_tup3, xe_list0, xe_list1, xe_list3, xe_sub, xe_from1, xe_upto1, xe_sl3, xe_len, xe_sum, xe_tuple, xe_bits, xe_divmod, xe_call1, xe_call2, xe_call3, xe_call5, xe_callk, xe_keyc, xe_comp, xe_mk, xe_cmpr, xe_attr, List.getElem?_cons_succ, List.getElem?_cons_zero, Option.join_some, optD, List.length_cons, List.length_nil, Nat.reduceAdd, Nat.reduceLT, if_true, pr1, Option.map_some, mul_int (a := (m : Int)) (by omega)]
      · simp only [xe_var, xe_int, xe_nil, xe_bool, xe_lim, xe_ar, xe_cat, xe_rep, xe_neg, xe_inv, xe_not, xe_cmp, xe_isNone, xe_and2, xe_or2, xe_or3, xe_ite, xe_tup2, xe_tup3, xe_list0, xe_list1, xe_list3, xe_sub, xe_from1, xe_upto1, xe_sl3, xe_len, xe_sum, xe_tuple, xe_bits, xe_divmod, xe_call1, xe_call2, xe_call3, xe_call5, xe_callk, xe_keyc, xe_comp, xe_mk, xe_cmpr, xe_attr, List.getElem?_cons_succ, List.getElem?_cons_zero, Option.join_some, optD, List.length_cons, List.length_nil, Nat.reduceAdd, Nat.reduceLT, if_true, pr0, Option.map_some, mul_int (a := (p.1 : Int)) (by omega)]
      · rw [cmp_gt_int]
        congr 1
        have : ((m : Int) * p.2 > (p.1 : Int) * e) ↔ (p.1 * e < m * p.2) := by
          rw [show (m : Int) * p.2 = ((m * p.2 : Nat) : Int) by simp, show (p.1 : Int) * e = ((p.1 * e : Nat) : Int) by simp]
          omega
        exact decide_eq_decide.mpr this
    have h2 : evalX Φ (.isNone (.var 3)) (NE r d top (some p) a (some (iv e)) (some (iv m))) = ff := rfl
    have h3 : evalX Φ (.or2 (.isNone (.var 3)) (.cmp .gt (.ar .mul (.var 6) (.sub (.var 3) (.int 1))) (.ar .mul (.sub (.var 3) (.int 0)) (.var 5)))) (NE r d top (some p) a (some (iv e)) (some (iv m))) = some (.dat (.bool (decide (p.1 * e < m * p.2)))) := by
      rw [xe_or2, h2]; simp only [h1]
    rw [xe_and2, h0]; simp only [h3]
theorem c_lo_m1 : evalX Φ (.and2 (.cmp .ge (.var 6) (.int 0)) (.or2 (.isNone (.var 3)) (.cmp .gt (.ar .mul (.var 6) (.sub (.var 3) (.int 1))) (.ar .mul (.sub (.var 3) (.int 0)) (.var 5))))) (NE r d top b a (some (iv e)) (some (iv (-1)))) = ff := by
  have h0 : evalX Φ (.cmp .ge (.var 6) (.int 0)) (NE r d top b a (some (iv e)) (some (iv (-1)))) = ff := rfl
  rw [xe_and2, h0]
theorem c_hi (ha : Sm a) {m : Nat} (hm : m ≤ 100000) : evalX Φ (.or2 (.isNone (.var 4)) (.cmp .lt (.ar .mul (.var 6) (.sub (.var 4) (.int 1))) (.ar .mul (.sub (.var 4) (.int 0)) (.var 5)))) (NE r d top b a (some (iv e)) (some (iv m))) =
    some (.dat (.bool (match a with | none => true | some p => decide (m * p.2 < p.1 * e)))) := by
  cases a with
  | none => exact x_or2_t rfl
  | some p =>
    have hp : p.1 ≤ 1000 := ha
    have h1 : evalX Φ (.cmp .lt (.ar .mul (.var 6) (.sub (.var 4) (.int 1))) (.ar .mul (.sub (.var 4) (.int 0)) (.var 5))) (NE r d top b (some p) (some (iv e)) (some (iv m))) = some (.dat (.bool (decide (m * p.2 < p.1 * e)))) := by
      refine x_cmp (u := .int ((m : Int) * p.2)) (v := .int ((p.1 : Int) * e)) ?_ ?_ ?_
      · simp only [xe_var, xe_int, xe_nil, xe_bool, xe_lim, xe_ar, xe_cat, xe_rep, xe_neg, xe_inv, xe_not, xe_cmp, xe_isNone, xe_and2, xe_or2, xe_or3, xe_ite, xe_tup2, xe_tup3, xe_list0, xe_list1, xe_list3, xe_sub, xe_from1, xe_upto1, xe_sl3, xe_len, xe_sum, xe_tuple, xe_bits, xe_divmod, xe_call1, xe_call2, xe_call3, xe_call5, xe_callk, xe_keyc, xe_comp, xe_mk, xe_cmpr, xe_attr, List.getElem?_cons_succ, List.getElem?_cons_zero, Option.join_some, optD, List.length_cons, List.length_nil, Nat.reduceAdd, Nat.reduceLT, if_true, pr1, Option.map_some, mul_int (a := (m : Int)) (by omega)]
      · simp only [xe_var, xe_int, xe_nil, xe_bool, xe_lim, xe_ar, xe_cat, xe_rep, xe_neg, xe_inv, xe_not, xe_cmp, xe_isNone, xe_and2, xe_or2, xe_or3, xe_ite, xe_tup2, xe_tup3, xe_list0, xe_list1, xe_list3, xe_sub, xe_from1, xe_upto1, xe_sl3, xe_len, xe_sum, xe_tuple, xe_bits, xe_divmod, xe_call1, xe_call2, xe_call3, xe_call5, xe_callk, xe_keyc, xe_comp, xe_mk, xe_cmpr, xe_attr, List.getElem?_cons_succ, List.getElem?_cons_zero, Option.join_some, optD, List.length_cons, List.length_nil, Nat.reduceAdd, Nat.reduceLT, if_true, pr0, Option.map_some, mul_int (a := (p.1 : Int)) (by omega)]
      · rw [cmp_lt_int]
        congr 1
        have : ((m : Int) * p.2 < (p.1 : Int) * e) ↔ (m * p.2 < p.1 * e) := by
          rw [show (m : Int) * p.2 = ((m * p.2 : Nat) : Int) by simp, show (p.1 : Int) * e = ((p.1 * e : Nat) : Int) by simp]
          omega
        exact decide_eq_decide.mpr this
    have h2 : evalX Φ (.isNone (.var 4)) (NE r d top b (some p) (some (iv e)) (some (iv m))) = ff := rfl
    rw [xe_or2, h2]; simp only [h1]

theorem near_step (hr : r ≤ 40) (hd : 0 < d) (hd2 : d ≤ 40) (he : e ≤ 5) (hb : Sm b) (ha : Sm a) : ∃ m, evalS Φ [] b_law_nearest_1 (NE r d top b a (some (iv e)) v) = some (.next (NE r d top (nlo r d e b) (nhi r d e a) (some (iv e)) m)) ∧ Sm (nlo r d e b) ∧ Sm (nhi r d e a) := by
  have hre : r * e ≤ 200 := Nat.le_trans (Nat.mul_le_mul hr he) (by decide)
  have q1 : (r * e - 1) / d ≤ 200 := Nat.le_trans (Nat.div_le_self _ _) (by omega)
  have q2 : r * e / d ≤ 200 := Nat.le_trans (Nat.div_le_self _ _) (by omega)
  have t36 : ∀ (x : Int) (b a : Op2), evalX Φ (.tup2 (.var 6) (.var 5)) (NE r d top b a (some (iv e)) (some (iv x))) = some (.dat (pr x e)) := fun _ _ _ => rfl
  have s1 : Sm (nlo r d e b) := by
    cases b <;> simp only [nlo] <;> (repeat' split) <;> simp only [Sm] <;> first | trivial | omega | exact hb
  have s2 : Sm (nhi r d e a) := by
    cases a <;> simp only [nhi] <;> (repeat' split) <;> simp only [Sm] <;> first | trivial | omega | exact ha
  refine ⟨some (iv ((r * e / d + 1 : Nat) : Int)), ?_, s1, s2⟩
  have lo := m_lo (Φ := Φ) (top := top) (e := e) (b := b) (a := a) (v := v) (r := r) (by omega) hd hd2
  have first : ∃ m, evalS Φ [] (.seq (.assign 6 (.ar .fdiv (.ar .sub (.ar .mul (.var 0) (.var 5)) (.int 1)) (.var 1))) (.ite (.and2 (.cmp .ge (.var 6) (.int 0)) (.or2 (.isNone (.var 3)) (.cmp .gt (.ar .mul (.var 6) (.sub (.var 3) (.int 1))) (.ar .mul (.sub (.var 3) (.int 0)) (.var 5))))) (.seq (.assign 3 (.tup2 (.var 6) (.var 5))) .nop) .nop)) (NE r d top b a (some (iv e)) v) =
      some (.next (NE r d top (nlo r d e b) a (some (iv e)) m)) := by
    simp only [se_dead, se_nop, se_seq, se_assign, se_unpack, se_swap, se_newl, se_app, se_ins, se_rvs, se_ite, se_whl, se_loop, se_ret, lo, List.contains_nil, Bool.not_false, scal, Bool.true_or, Bool.and_self, if_true, List.set_cons_succ, List.set_cons_zero]
    by_cases h : r * e = 0
    · rw [if_pos h]
      refine ⟨some (iv (-1)), ?_⟩
      rw [c_lo_m1]
      have : nlo r d e b = b := by cases b <;> simp only [nlo, h, if_true]
      rw [this]
    · rw [if_neg h]
      refine ⟨some (iv ((r * e - 1) / d : Nat)), ?_⟩
      rw [c_lo hb (by omega)]
      generalize hM : (r * e - 1) / d = M at *
      cases b with
      | none =>
        rw [show nlo r d e none = some ((r * e - 1) / d, e) from if_neg h, hM]
        simp only [t36, xh_var, xh_int, xh_nil, xh_bool, xh_lim, xh_list0, xh_ar, xh_cat, xh_rep, xh_cmp, xh_and2, xh_or2, xh_tup2, xh_sub, xh_sl3, xh_divmod, xh_call2, xh_callk, xh_neg, xh_inv, xh_not, xh_isNone, xh_list1, xh_from1, xh_upto1, xh_len, xh_sum, xh_tuple, xh_bits, xh_call1, xh_mk, xh_or3, xh_ite, xh_tup3, xh_list3, xh_call3, xh_call5, xh_keyc, xh_comp, xh_cmpr, xh_attr, List.contains_nil, Bool.or_false, Bool.not_false, Bool.or_true, Bool.and_self, if_true, List.set_cons_succ, List.set_cons_zero]
        rfl
      | some p =>
        have e3 : nlo r d e (some p) = if p.1 * e < M * p.2 then some (M, e) else some p := by rw [← hM]; exact if_neg h
        rw [e3]
        by_cases h2 : p.1 * e < M * p.2
        · rw [if_pos h2]
          simp only [decide_eq_true h2, t36, xh_var, xh_int, xh_nil, xh_bool, xh_lim, xh_list0, xh_ar, xh_cat, xh_rep, xh_cmp, xh_and2, xh_or2, xh_tup2, xh_sub, xh_sl3, xh_divmod, xh_call2, xh_callk, xh_neg, xh_inv, xh_not, xh_isNone, xh_list1, xh_from1, xh_upto1, xh_len, xh_sum, xh_tuple, xh_bits, xh_call1, xh_mk, xh_or3, xh_ite, xh_tup3, xh_list3, xh_call3, xh_call5, xh_keyc, xh_comp, xh_cmpr, xh_attr, List.contains_nil, Bool.or_false, Bool.not_false, Bool.or_true, Bool.and_self, if_true, List.set_cons_succ, List.set_cons_zero]
          rfl
        · rw [if_neg h2]
          simp only [decide_eq_false h2]
  obtain ⟨m, first⟩ := first
  have hi := m_hi (Φ := Φ) (top := top) (e := e) (b := nlo r d e b) (a := a) (v := m) (r := r) (by omega) hd hd2
  have second : evalS Φ [] (.seq (.assign 6 (.ar .add (.ar .fdiv (.ar .mul (.var 0) (.var 5)) (.var 1)) (.int 1))) (.seq (.ite (.or2 (.isNone (.var 4)) (.cmp .lt (.ar .mul (.var 6) (.sub (.var 4) (.int 1))) (.ar .mul (.sub (.var 4) (.int 0)) (.var 5)))) (.seq (.assign 4 (.tup2 (.var 6) (.var 5))) .nop) .nop) .nop)) (NE r d top (nlo r d e b) a (some (iv e)) m) =
      some (.next (NE r d top (nlo r d e b) (nhi r d e a) (some (iv e)) (some (iv ((r * e / d + 1 : Nat) : Int))))) := by
    simp only [se_dead, se_nop, se_seq, se_assign, se_unpack, se_swap, se_newl, se_app, se_ins, se_rvs, se_ite, se_whl, se_loop, se_ret, hi, List.contains_nil, Bool.not_false, scal, Bool.true_or, Bool.and_self, if_true, List.set_cons_succ, List.set_cons_zero]
    rw [c_hi ha (by omega)]
    generalize hM : r * e / d + 1 = M at *
    cases a with
    | none =>
      rw [show nhi r d e none = some (r * e / d + 1, e) from rfl, hM]
      simp only [t36, xh_var, xh_int, xh_nil, xh_bool, xh_lim, xh_list0, xh_ar, xh_cat, xh_rep, xh_cmp, xh_and2, xh_or2, xh_tup2, xh_sub, xh_sl3, xh_divmod, xh_call2, xh_callk, xh_neg, xh_inv, xh_not, xh_isNone, xh_list1, xh_from1, xh_upto1, xh_len, xh_sum, xh_tuple, xh_bits, xh_call1, xh_mk, xh_or3, xh_ite, xh_tup3, xh_list3, xh_call3, xh_call5, xh_keyc, xh_comp, xh_cmpr, xh_attr, List.contains_nil, Bool.or_false, Bool.not_false, Bool.or_true, Bool.and_self, if_true, List.set_cons_succ, List.set_cons_zero]
      rfl
    | some p =>
      have e3 : nhi r d e (some p) = if M * p.2 < p.1 * e then some (M, e) else some p := by rw [← hM]; rfl
      rw [e3]
      by_cases h2 : M * p.2 < p.1 * e
      · rw [if_pos h2]
        simp only [decide_eq_true h2, t36, xh_var, xh_int, xh_nil, xh_bool, xh_lim, xh_list0, xh_ar, xh_cat, xh_rep, xh_cmp, xh_and2, xh_or2, xh_tup2, xh_sub, xh_sl3, xh_divmod, xh_call2, xh_callk, xh_neg, xh_inv, xh_not, xh_isNone, xh_list1, xh_from1, xh_upto1, xh_len, xh_sum, xh_tuple, xh_bits, xh_call1, xh_mk, xh_or3, xh_ite, xh_tup3, xh_list3, xh_call3, xh_call5, xh_keyc, xh_comp, xh_cmpr, xh_attr, List.contains_nil, Bool.or_false, Bool.not_false, Bool.or_true, Bool.and_self, if_true, List.set_cons_succ, List.set_cons_zero]
        rfl
      · rw [if_neg h2]
        simp only [decide_eq_false h2]
  have split : ∀ (A B C : S) (ρ ρ' : Env'), evalS Φ [] (.seq A B) ρ = some (.next ρ') → evalS Φ [] (.seq A (.seq B C)) ρ = evalS Φ [] C ρ' := by
    intro A B C ρ ρ' h
    simp only [se_dead, se_nop, se_seq, se_assign, se_unpack, se_swap, se_newl, se_app, se_ins, se_rvs, se_ite, se_whl, se_loop, se_ret] at h ⊢
    split at h
    · rename_i ρ₁ h1; simp only [h]
    · rename_i hn
      rw [h] at hn
      exact absurd rfl (hn ρ')
  show evalS Φ [] (.seq _ (.seq _ _)) _ = _
  rw [split _ _ _ _ _ first]
  exact second

theorem near_loop (hr : r ≤ 40) (hd : 0 < d) (hd2 : d ≤ 40) : ∀ (k e : Nat) (b a : Op2) (u v : Option EV), e + k ≤ 6 → Sm b → Sm a →
    ∃ u' v', forGo (fun x ρ => (bindT (.one 5) x ρ).bind (evalS Φ [] b_law_nearest_1)) (upFrom e k) (NE r d top b a u v) = some (.next (NE r d top (near r d k e b a).1 (near r d k e b a).2 u' v'))
  | 0, e, b, a, u, v, _, _, _ => ⟨u, v, rfl⟩
  | k + 1, e, b, a, u, v, h, hb, ha => by
    obtain ⟨m, h1, h2, h3⟩ := near_step (Φ := Φ) (top := top) (v := v) hr hd hd2 (show e ≤ 5 by omega) hb ha
    obtain ⟨u', v', ih⟩ := near_loop hr hd hd2 k (e + 1) (nlo r d e b) (nhi r d e a) (some (iv e)) m (by omega) h2 h3
    refine ⟨u', v', ?_⟩
    simp only [upFrom, forGo, bindT, Option.bind_some, List.set_cons_succ, List.set_cons_zero, h1]
    exact ih
end

theorem lev18 (n : Nat) : lev (n+1) 18 = runA 3 f_law_nearest (lev n) := rfl
theorem lev19 (n : Nat) : lev (n+1) 19 = runA 5 f_law_stands (lev n) := rfl
theorem lev20 (n : Nat) : lev (n+1) 20 = runA 1 f_law (lev n) := rfl
theorem lev8 (n : Nat) : lev (n+1) 8 = runA 1 f_law_fractions (lev n) := rfl
theorem l18 (n : Nat) {r d top : Nat} (hr : r ≤ 40) (hd : 0 < d) (hd2 : d ≤ 40) (ht : top ≤ 5) : lev (n+1) 18 [iv r, iv d, iv top] = some (.tuple [optD (near r d top 1 none none).1, optD (near r d top 1 none none).2]) := by
  obtain ⟨u', v', e⟩ := near_loop (Φ := lev n) (top := top) hr hd hd2 top 1 none none none none (by omega) trivial trivial
  rw [lev18]
  refine run_of rfl ?_
  have ei : ((top : Int) + 1 - ((1 : Nat) : Int)).toNat = top := by omega
  have hi := iter_r2 (Φ := lev n) (i1 := .int 1) (i2 := .ar .add (.var 2) (.int 1)) (ρ := NE r d top none none none none) (m := ((1 : Nat) : Int)) (n := (top : Int) + 1) rfl rfl (by omega) (by omega) (by omega) (by omega)
  rw [ei] at hi
  have h3 := s_loop (j := 5) (A := b_law_nearest_1) hi (by rw [upFrom_length]; omega) e
  refine (s_seq (ρ' := [some (iv r), some (iv d), some (iv top), some (.dat .none), none, none, none]) (s_assign rfl)).trans ?_
  refine (s_seq (ρ' := [some (iv r), some (iv d), some (iv top), some (.dat .none), some (.dat .none), none, none]) (s_assign rfl)).trans ?_
  refine (s_seq h3).trans ?_
  exact s_ret rfl
end Mine

/-! PM -/
namespace Mine
open PySem

noncomputable def stB (fs : List (Nat × Nat)) (top r d : Nat) : Bool :=
  let c1 := fs.countP fun g => Nat.blt (g.1 * d) (r * g.2)
  let c2 := fs.countP fun g => Nat.ble (g.1 * d) (r * g.2)
  ((List.range fs.length).all fun i => match fs[i]? with | some g => (Nat.blt (g.1 * d) (r * g.2) == Nat.blt i c1) && (Nat.blt (r * g.2) (g.1 * d) == Nat.ble c2 i) | none => true) &&
  match near r d top 1 none none, fs[c2]? with
  | (none, some a'), some a => a'.1 == a.1 && a'.2 == a.2 && c1 == 0 && r == 0 && c2 == 1
  | (some b', some a'), some a => a'.1 == a.1 && a'.2 == a.2 && c1 != 0 && (match fs[c1 - 1]? with | some b => b.1 == b'.1 && b.2 == b'.2 | none => false) &&
      (if c1 == c2 then a.1 * b'.2 == b'.1 * a.2 + 1 && Nat.blt top (b'.2 + a.2) else c2 == c1 + 1 && (b'.1 + a.1) * d == (b'.2 + a.2) * r)
  | _, _ => false
noncomputable def fn3 : List (Nat × Nat) := [(0, 1), (1, 3), (1, 2), (2, 3), (1, 1)]
noncomputable def fn4 : List (Nat × Nat) := [(0, 1), (1, 4), (1, 3), (1, 2), (2, 3), (3, 4), (1, 1)]
noncomputable def fn5 : List (Nat × Nat) := [(0, 1), (1, 5), (1, 4), (1, 3), (2, 5), (1, 2), (3, 5), (2, 3), (3, 4), (4, 5), (1, 1)]
theorem st3 : ∀ d : Fin 41, ∀ r : Fin 41, r.val < d.val → stB fn3 3 r.val d.val = true := by decide +kernel
theorem st4 : ∀ d : Fin 41, ∀ r : Fin 41, r.val < d.val → stB fn4 4 r.val d.val = true := by decide +kernel
theorem st5 : ∀ d : Fin 41, ∀ r : Fin 41, r.val < d.val → stB fn5 5 r.val d.val = true := by decide +kernel
end Mine

/-! PN -/
namespace Mine
open PySem

noncomputable abbrev toZ (g : Nat × Nat) : Int × Int := ((g.1 : Int), (g.2 : Int))
noncomputable abbrev esOf (fs : List (Nat × Nat)) : List PyData := (fs.map toZ).map entry

theorem mul_cast (a b c d : Nat) : ((a : Int) * b < (c : Int) * d) ↔ a * b < c * d := by
  rw [show (a : Int) * b = ((a * b : Nat) : Int) by simp, show (c : Int) * d = ((c * d : Nat) : Int) by simp]; omega

theorem ne_pair (b : Op2) (x y : Int) : compare' .ne (.tuple [optD b, pr x y]) (.tuple [optD b, pr x y]) = some false := by
  cases b <;> simp [compare', okD, okDs, optD, PyData.eqv, PyData.eqvAll]

section
variable {n : Nat} {fs : List (Nat × Nat)} {top r d : Nat}
noncomputable abbrev SE (fs : List (Nat × Nat)) (r d top : Nat) (l f b a : Option EV) : Env' := [some (.dat (.list (esOf fs))), some (.dat (rowD r d)), some (iv r), some (iv d), some (iv top), l, f, b, a]

theorem se_item {Φ : Phi} {l f b a : Option EV} (hl : fs.length < 99) {x : X} {i : Nat} {g : Nat × Nat} (hx : evalX Φ x (SE fs r d top l f b a) = some (iv i)) (hg : fs[i]? = some g) :
    evalX Φ (.sub (.sub (.var 0) x) (.int 2)) (SE fs r d top l f b a) = some (.dat (pr g.1 g.2)) := by
  have h1 : evalX Φ (.sub (.var 0) x) (SE fs r d top l f b a) = some (.dat (entry (toZ g))) := by
    rw [xe_sub, hx]
    show (if (esOf fs).length < 1048576 then (itemAt (esOf fs) (i : Int)).map EV.dat else none) = _
    rw [if_pos (by simp; omega), itemAt_nat, List.getElem?_map, List.getElem?_map, hg]; rfl
  rw [xe_sub, h1]; rfl

noncomputable def NB (fs : List (Nat × Nat)) (top r d c1 c2 : Nat) (a : Nat × Nat) : Op2 → Prop
  | none => c1 = 0 ∧ r = 0 ∧ c2 = 1
  | some b => c1 ≠ 0 ∧ fs[c1 - 1]? = some b ∧ ((c1 = c2 ∧ a.1 * b.2 = b.1 * a.2 + 1 ∧ top < b.2 + a.2) ∨ (c1 ≠ c2 ∧ c2 = c1 + 1 ∧ (b.1 + a.1) * d = (b.2 + a.2) * r))
theorem l19 (hst : stB fs top r d = true) (hfs : ∀ g ∈ fs, Good (toZ g)) (hl : fs.length < 99) (hd : 0 < d) (hd2 : d ≤ 40) (hrd : r < d) (ht : top ≤ 5) :
    lev (n+2) 19 [.dat (.list (esOf fs)), .dat (rowD r d), iv r, iv d, iv top] = some (.bool true) := by
  have hgood : Good (toZ (r, d)) := ⟨by show (0 : Int) < d; omega, by show (d : Int) ≤ 40; omega, by show (-1000 : Int) ≤ r; omega, by show (r : Int) ≤ 1000; omega⟩
  unfold stB at hst
  simp only [Bool.and_eq_true, List.all_eq_true, List.mem_range] at hst
  generalize hc1 : (fs.countP fun g => Nat.blt (g.1 * d) (r * g.2)) = c1 at *
  generalize hc2 : (fs.countP fun g => Nat.ble (g.1 * d) (r * g.2)) = c2 at *
  obtain ⟨hall, hm⟩ := hst
  have hle1 : c1 ≤ fs.length := by rw [← hc1]; exact List.countP_le_length
  have hle2 : c2 ≤ fs.length := by rw [← hc2]; exact List.countP_le_length
  have hP : ∀ i g, fs[i]? = some g → (decide (g.1 * d < r * g.2) = decide (i < c1)) ∧ (decide (r * g.2 < g.1 * d) = decide (c2 ≤ i)) := by
    intro i g hg
    have := hall i (List.getElem?_eq_some_iff.mp hg).1
    rw [hg] at this
    simp only [Bool.and_eq_true, beq_iff_eq] at this
    exact ⟨by rw [← Bool.coe_iff_coe]; have := this.1; rw [← Bool.coe_iff_coe] at this; simpa using this, by rw [← Bool.coe_iff_coe]; have := this.2; rw [← Bool.coe_iff_coe] at this; simpa using this⟩
  have elen : (esOf fs).length = fs.length := by simp
  have e6 := l6 n (es := esOf fs) (x := keyD (toZ (r, d))) (by rw [elen]; exact hl) (c := c1) (by rw [elen]; exact hle1) (keys_of fun i f hf => by
    rw [List.getElem?_map] at hf
    obtain ⟨g, hg, rfl⟩ := Option.map_eq_some_iff.mp hf
    rw [key_lt (hfs g (List.mem_of_getElem? hg)) hgood]
    congr 1
    rw [← (hP i g hg).1]
    exact decide_eq_decide.mpr (mul_cast _ _ _ _))
  have e7 := l7 n (es := esOf fs) (x := keyD (toZ (r, d))) (by rw [elen]; exact hl) (c := c2) (by rw [elen]; exact hle2) (keys_of fun i f hf => by
    rw [List.getElem?_map] at hf
    obtain ⟨g, hg, rfl⟩ := Option.map_eq_some_iff.mp hf
    rw [key_lt hgood (hfs g (List.mem_of_getElem? hg))]
    congr 1
    rw [← (hP i g hg).2]
    exact decide_eq_decide.mpr (mul_cast _ _ _ _))
  have e11 : lev (n+1) 11 [.dat (rowD r d)] = some (keyD (toZ (r, d))) := l11 n (row_len _ _ _)
  have e18 := l18 n (r := r) (d := d) (top := top) (by omega) hd hd2 ht
  have x1 : evalX (lev (n+1)) (.callk 6 (.var 0) (.call1 11 (.var 1))) (SE fs r d top none none none none) = some (iv c1) := by
    have a1 : evalX (lev (n+1)) (.call1 11 (.var 1)) (SE fs r d top none none none none) = some (.dat (keyD (toZ (r, d)))) := by
      rw [xe_call1]
      show (lev (n+1) 11 [.dat (rowD r d)]).map _ = _
      rw [e11]; rfl
    rw [xe_callk, a1]
    show (lev (n+1) 6 [.dat (.list (esOf fs)), .dat (keyD (toZ (r, d))), iv 0, .dat .none, .lam]).map _ = _
    rw [e6]; rfl
  have x2 : evalX (lev (n+1)) (.callk 7 (.var 0) (.call1 11 (.var 1))) (SE fs r d top none (some (iv c1)) none none) = some (iv c2) := by
    have a1 : evalX (lev (n+1)) (.call1 11 (.var 1)) (SE fs r d top none (some (iv c1)) none none) = some (.dat (keyD (toZ (r, d)))) := by
      rw [xe_call1]
      show (lev (n+1) 11 [.dat (rowD r d)]).map _ = _
      rw [e11]; rfl
    rw [xe_callk, a1]
    show (lev (n+1) 7 [.dat (.list (esOf fs)), .dat (keyD (toZ (r, d))), iv 0, .dat .none, .lam]).map _ = _
    rw [e7]; rfl
  rw [lev19]
  refine run_of rfl ?_
  refine (s_seq (ρ' := SE fs r d top none (some (iv c1)) none none) (s_assign x1)).trans ?_
  refine (s_seq (ρ' := SE fs r d top (some (iv c2)) (some (iv c1)) none none) (s_assign x2)).trans ?_
  -- what is told of the neighbours
  have hnb : ∃ (b : Op2) (a : Nat × Nat), near r d top 1 none none = (b, some a) ∧ fs[c2]? = some a ∧ NB fs top r d c1 c2 a b := by
    generalize near r d top 1 none none = w at *
    obtain ⟨b, a'⟩ := w
    cases a' with
    | none => cases b <;> simp at hm
    | some a' =>
      cases hf2 : fs[c2]? with
      | none => rw [hf2] at hm; cases b <;> simp at hm
      | some a =>
        rw [hf2] at hm
        cases b with
        | none =>
          simp only [Bool.and_eq_true, beq_iff_eq] at hm
          obtain ⟨⟨⟨⟨h1, h2⟩, h3⟩, h4⟩, h5⟩ := hm
          exact ⟨none, a, by rw [show a' = a from Prod.ext h1 h2], rfl, h3, h4, h5⟩
        | some b' =>
          simp only [Bool.and_eq_true, beq_iff_eq, bne_iff_ne] at hm
          obtain ⟨⟨⟨⟨h1, h2⟩, h3⟩, h4⟩, h5⟩ := hm
          refine ⟨some b', a, by rw [show a' = a from Prod.ext h1 h2], rfl, h3, ?_, ?_⟩
          · cases hf1 : fs[c1 - 1]? with
            | none => rw [hf1] at h4; cases h4
            | some b =>
              rw [hf1] at h4
              simp only [Bool.and_eq_true, beq_iff_eq] at h4
              rw [show b = b' from Prod.ext h4.1 h4.2]
          · by_cases hcc : c1 = c2
            · rw [if_pos (by simpa using hcc)] at h5
              simp only [Bool.and_eq_true, beq_iff_eq] at h5
              exact .inl ⟨hcc, h5.1, by simpa using h5.2⟩
            · rw [if_neg (by simpa using hcc)] at h5
              simp only [Bool.and_eq_true, beq_iff_eq] at h5
              exact .inr ⟨hcc, h5.1, h5.2⟩
  obtain ⟨b, a, hnear, hfa, hrest⟩ := hnb
  rw [hnear] at e18
  -- below
  have x3 : evalX (lev (n+1)) (.ite (.cmp .gt (.var 6) (.int 0)) (.sub (.sub (.var 0) (.ar .sub (.var 6) (.int 1))) (.int 2)) .nil) (SE fs r d top (some (iv c2)) (some (iv c1)) none none) = some (.dat (optD b)) := by
    have g1 : evalX (lev (n+1)) (.cmp .gt (.var 6) (.int 0)) (SE fs r d top (some (iv c2)) (some (iv c1)) none none) = some (.dat (.bool (decide (0 < c1)))) := by
      refine x_cmp (u := .int c1) (v := .int 0) rfl rfl ?_
      rw [cmp_gt_int]
      exact congrArg some (decide_eq_decide.mpr (by omega))
    cases b with
    | none =>
      have : c1 = 0 := hrest.1
      rw [xe_ite, g1, decide_eq_false (by omega)]
      rfl
    | some b =>
      have h0 : c1 ≠ 0 := hrest.1
      rw [xe_ite, g1, decide_eq_true (by omega)]
      refine se_item hl (i := c1 - 1) ?_ hrest.2.1
      show some (iv ((c1 : Int) - 1)) = _
      rw [show (c1 : Int) - 1 = ((c1 - 1 : Nat) : Int) by omega]
  refine (s_seq (ρ' := SE fs r d top (some (iv c2)) (some (iv c1)) (some (.dat (optD b))) none) (s_assign x3)).trans ?_
  have x4 : evalX (lev (n+1)) (.sub (.sub (.var 0) (.var 5)) (.int 2)) (SE fs r d top (some (iv c2)) (some (iv c1)) (some (.dat (optD b))) none) = some (.dat (pr a.1 a.2)) := se_item hl (i := c2) rfl hfa
  refine (s_seq (ρ' := SE fs r d top (some (iv c2)) (some (iv c1)) (some (.dat (optD b))) (some (.dat (pr a.1 a.2)))) (s_assign x4)).trans ?_
  -- the nearest
  have x5 : evalX (lev (n+1)) (.cmp .ne (.tup2 (.var 7) (.var 8)) (.call3 18 (.var 2) (.var 3) (.var 4))) (SE fs r d top (some (iv c2)) (some (iv c1)) (some (.dat (optD b))) (some (.dat (pr a.1 a.2)))) = ff := by
    refine x_cmp (u := .tuple [optD b, pr a.1 a.2]) (v := .tuple [optD b, pr a.1 a.2]) rfl ?_ (ne_pair _ _ _)
    simp only [xe_var, xe_int, xe_nil, xe_bool, xe_lim, xe_ar, xe_cat, xe_rep, xe_neg, xe_inv, xe_not, xe_cmp, xe_isNone, xe_and2, xe_or2, xe_or3, xe_ite, xe_tup2, xe_tup3, xe_list0, xe_list1, xe_list3, xe_sub, xe_from1, xe_upto1, xe_sl3, xe_len, xe_sum, xe_tuple, xe_bits, xe_divmod, xe_call1, xe_call2, xe_call3, xe_call5, xe_callk, xe_keyc, xe_comp, xe_mk, xe_cmpr, xe_attr, List.getElem?_cons_succ, List.getElem?_cons_zero, Option.join_some, e18, Option.map_some, optD]
  refine (s_seq (s_skip x5)).trans ?_
  cases b with
  | none =>
    obtain ⟨rfl, rfl, rfl⟩ := hrest
    refine s_seq_ret (s_ite_t rfl (s_ret (x_and2_t ?_ ?_)))
    · exact x_cmp (u := .int 0) (v := .int 0) rfl rfl rfl
    · exact x_cmp (u := .tuple [.int 0, .int 1]) (v := .tuple [.int 0, .int 1]) rfl rfl (by decide +kernel)
  | some b =>
    obtain ⟨h0, hfb, hrest⟩ := hrest
    refine (s_seq (s_skip rfl)).trans ?_
    have hgb := hfs b (List.mem_of_getElem? hfb)
    have hga := hfs a (List.mem_of_getElem? hfa)
    have b40 : (b.2 : Int) ≤ 40 := hgb.d40
    have a40 : (a.2 : Int) ≤ 40 := hga.d40
    have b1000 : (b.1 : Int) ≤ 1000 := hgb.hi
    have a1000 : (a.1 : Int) ≤ 1000 := hga.hi
    have x6 : evalX (lev (n+1)) (.cmp .eq (.var 6) (.var 5)) (SE fs r d top (some (iv c2)) (some (iv c1)) (some (.dat (optD (some b)))) (some (.dat (pr a.1 a.2)))) = some (.dat (.bool (decide (c1 = c2)))) := by
      refine x_cmp (u := .int c1) (v := .int c2) rfl rfl ?_
      rw [cmp_eq_int]
      exact congrArg some (decide_eq_decide.mpr (by omega))
    rcases hrest with ⟨hcc, hdet, htop⟩ | ⟨hcc, hc, hmed⟩
    · rw [decide_eq_true hcc] at x6
      refine s_seq_ret (s_ite_t x6 (s_ret (x_and2_t ?_ ?_)))
      · refine x_cmp (u := .int ((a.1 : Int) * b.2 - (b.1 : Int) * a.2)) (v := .int 1) ?_ rfl ?_
        · have m1 : arith .mul (a.1 : Int) b.2 = some ((a.1 : Int) * b.2) := mul_int (by omega)
          have m2 : arith .mul (b.1 : Int) a.2 = some ((b.1 : Int) * a.2) := mul_int (by omega)
          have m3 : arith .sub ((a.1 : Int) * b.2) ((b.1 : Int) * a.2) = some ((a.1 : Int) * b.2 - (b.1 : Int) * a.2) := rfl
          simp only [xe_var, xe_int, xe_nil, xe_bool, xe_lim, xe_ar, xe_cat, xe_rep, xe_neg, xe_inv, xe_not, xe_cmp, xe_isNone, xe_and2, xe_or2, xe_or3, xe_ite, xe_tup2, xe_tup3, xe_list0, xe_list1, xe_list3, xe_sub, xe_from1, xe_upto1, xe_sl3, xe_len, xe_sum, xe_tuple, xe_bits, xe_divmod, xe_call1, xe_call2, xe_call3, xe_call5, xe_callk, xe_keyc, xe_comp, xe_mk, xe_cmpr, xe_attr, List.getElem?_cons_succ, List.getElem?_cons_zero, Option.join_some, optD, List.length_cons, List.length_nil, Nat.reduceAdd, Nat.reduceLT, if_true, pr0, pr1, Option.map_some, m1, m2, m3]
        · rw [cmp_eq_int]
          have : (a.1 : Int) * b.2 - (b.1 : Int) * a.2 = 1 := by
            rw [show (a.1 : Int) * b.2 = ((a.1 * b.2 : Nat) : Int) by simp, show (b.1 : Int) * a.2 = ((b.1 * a.2 : Nat) : Int) by simp]
            omega
          exact congrArg some (decide_eq_true this)
      · refine x_cmp (u := .int ((b.2 : Int) + a.2)) (v := .int top) rfl rfl ?_
        rw [cmp_gt_int]
        exact congrArg some (decide_eq_true (by omega))
    · rw [decide_eq_false hcc] at x6
      refine (s_seq (s_skip x6)).trans (s_ret (x_and2_t ?_ ?_))
      · refine x_cmp (u := .int c2) (v := .int ((c1 : Int) + 1)) rfl rfl ?_
        rw [cmp_eq_int]
        exact congrArg some (decide_eq_true (by omega))
      · refine x_cmp (u := .int (((b.1 : Int) + a.1) * d)) (v := .int (((b.2 : Int) + a.2) * r)) ?_ ?_ ?_
        · have m1 : arith .add (b.1 : Int) a.1 = some ((b.1 : Int) + a.1) := rfl
          have m2 : arith .mul ((b.1 : Int) + a.1) d = some (((b.1 : Int) + a.1) * d) := mul_int (by omega)
          simp only [xe_var, xe_int, xe_nil, xe_bool, xe_lim, xe_ar, xe_cat, xe_rep, xe_neg, xe_inv, xe_not, xe_cmp, xe_isNone, xe_and2, xe_or2, xe_or3, xe_ite, xe_tup2, xe_tup3, xe_list0, xe_list1, xe_list3, xe_sub, xe_from1, xe_upto1, xe_sl3, xe_len, xe_sum, xe_tuple, xe_bits, xe_divmod, xe_call1, xe_call2, xe_call3, xe_call5, xe_callk, xe_keyc, xe_comp, xe_mk, xe_cmpr, xe_attr, List.getElem?_cons_succ, List.getElem?_cons_zero, Option.join_some, optD, List.length_cons, List.length_nil, Nat.reduceAdd, Nat.reduceLT, if_true, pr0, pr1, Option.map_some, m1, m2]
        · have m1 : arith .add (b.2 : Int) a.2 = some ((b.2 : Int) + a.2) := rfl
          have m2 : arith .mul ((b.2 : Int) + a.2) r = some (((b.2 : Int) + a.2) * r) := mul_int (by omega)
          simp only [xe_var, xe_int, xe_nil, xe_bool, xe_lim, xe_ar, xe_cat, xe_rep, xe_neg, xe_inv, xe_not, xe_cmp, xe_isNone, xe_and2, xe_or2, xe_or3, xe_ite, xe_tup2, xe_tup3, xe_list0, xe_list1, xe_list3, xe_sub, xe_from1, xe_upto1, xe_sl3, xe_len, xe_sum, xe_tuple, xe_bits, xe_divmod, xe_call1, xe_call2, xe_call3, xe_call5, xe_callk, xe_keyc, xe_comp, xe_mk, xe_cmpr, xe_attr, List.getElem?_cons_succ, List.getElem?_cons_zero, Option.join_some, optD, List.length_cons, List.length_nil, Nat.reduceAdd, Nat.reduceLT, if_true, pr0, pr1, Option.map_some, m1, m2]
        · rw [cmp_eq_int]
          have : ((b.1 : Int) + a.1) * d = ((b.2 : Int) + a.2) * r := by
            rw [show ((b.1 : Int) + a.1) * d = (((b.1 + a.1) * d : Nat) : Int) by simp, show ((b.2 : Int) + a.2) * r = (((b.2 + a.2) * r : Nat) : Int) by simp, hmed]
          exact congrArg some (decide_eq_true this)
end
end Mine

/-! PO -/
namespace Mine
open PySem

section
variable {Φ : Phi} {ρ ρ' : Env'} {tg : Tg} {it : It} {i1 i2 c e a b : X} {d v : PyData} {ds rs : List PyData}
theorem x_comp (hi : iterOf it (evalX Φ i1 ρ) (evalX Φ i2 ρ) = some ds) (hl : ds.length < 1048576) (h : compGo (turnOf Φ ρ tg c e) ds = some rs) : evalX Φ (.comp tg it i1 i2 c e) ρ = some (.dat (.list rs)) := by
  rw [xe_comp, hi]
  show (if ds.length < 1048576 then (compGo (turnOf Φ ρ tg c e) ds).map (fun rs => EV.dat (.list rs)) else none) = _
  rw [if_pos hl, h]; rfl
theorem turn_yes (hb : bindT tg d ρ = some ρ') (hc : evalX Φ c ρ' = tt) (he : evalX Φ e ρ' = some (.dat v)) : turnOf Φ ρ tg c e d = some (some v) := by
  unfold turnOf; rw [hb]
  simp only [Option.bind_some, hc, he]
theorem turn_no (hb : bindT tg d ρ = some ρ') (hc : evalX Φ c ρ' = ff) : turnOf Φ ρ tg c e d = some none := by
  unfold turnOf; rw [hb]
  simp only [Option.bind_some, hc]
theorem x_not_t (h : evalX Φ a ρ = tt) : evalX Φ (.not a) ρ = ff := by rw [xe_not, h]; rfl
theorem x_ar {op : AOp} {i j z : Int} (h1 : evalX Φ a ρ = some (iv i)) (h2 : evalX Φ b ρ = some (iv j)) (h3 : arith op i j = some z) : evalX Φ (.ar op a b) ρ = some (iv z) := by rw [xe_ar, h1, h2]; show (arith op i j).map _ = _; rw [h3]; rfl
theorem x_call1 {f : Nat} {x : EV} (h1 : evalX Φ a ρ = some x) (h : Φ f [x] = some d) : evalX Φ (.call1 f a) ρ = some (.dat d) := by rw [xe_call1, h1]; show (Φ f [x]).map _ = _; rw [h]; rfl
theorem x_call2 {f : Nat} {x y : EV} (h1 : evalX Φ a ρ = some x) (h2 : evalX Φ b ρ = some y) (h : Φ f [x, y] = some d) : evalX Φ (.call2 f a b) ρ = some (.dat d) := by rw [xe_call2, h1, h2]; show (Φ f [x, y]).map _ = _; rw [h]; rfl
theorem x_call3 {f : Nat} {x y z : EV} {g : X} (h1 : evalX Φ a ρ = some x) (h2 : evalX Φ b ρ = some y) (h3 : evalX Φ g ρ = some z) (h : Φ f [x, y, z] = some d) : evalX Φ (.call3 f a b g) ρ = some (.dat d) := by rw [xe_call3, h1, h2, h3]; show (Φ f [x, y, z]).map _ = _; rw [h]; rfl
theorem x_call5 {f : Nat} {x y z u w : EV} {g g' g'' : X} (h1 : evalX Φ a ρ = some x) (h2 : evalX Φ b ρ = some y) (h3 : evalX Φ g ρ = some z) (h4 : evalX Φ g' ρ = some u) (h5 : evalX Φ g'' ρ = some w) (h : Φ f [x, y, z, u, w] = some d) : evalX Φ (.call5 f a b g g' g'') ρ = some (.dat d) := by
  rw [xe_call5, h1, h2, h3, h4, h5]; show (Φ f [x, y, z, u, w]).map _ = _; rw [h]; rfl
theorem x_tup2 {u w : PyData} (h1 : evalX Φ a ρ = some (.dat u)) (h2 : evalX Φ b ρ = some (.dat w)) : evalX Φ (.tup2 a b) ρ = some (.dat (.tuple [u, w])) := by rw [xe_tup2, h1, h2]
theorem x_subL {i : Nat} (h1 : evalX Φ a ρ = some (.dat (.list ds))) (h2 : evalX Φ b ρ = some (iv i)) (hl : ds.length < 1048576) (h : ds[i]? = some d) : evalX Φ (.sub a b) ρ = some (.dat d) := by
  rw [xe_sub, h1, h2]
  show (if ds.length < 1048576 then (itemAt ds (i : Int)).map EV.dat else none) = _
  rw [if_pos hl, itemAt_nat, h]; rfl
theorem x_subT {i : Nat} (h1 : evalX Φ a ρ = some (.dat (.tuple ds))) (h2 : evalX Φ b ρ = some (iv i)) (hl : ds.length < 1048576) (h : ds[i]? = some d) : evalX Φ (.sub a b) ρ = some (.dat d) := by
  rw [xe_sub, h1, h2]
  show (if ds.length < 1048576 then (itemAt ds (i : Int)).map EV.dat else none) = _
  rw [if_pos hl, itemAt_nat, h]; rfl
theorem compGo3 {f : PyData → Option (Option PyData)} {x y z : PyData} (h0 : f (.int 0) = some (some x)) (h1 : f (.int 1) = some (some y)) (h2 : f (.int 2) = some (some z)) : compGo f (upFrom 0 3) = some [x, y, z] := by
  show compGo f [.int 0, .int 1, .int 2] = _
  simp only [compGo, h0, h1, h2, Option.bind_eq_bind, Option.bind_some]
theorem compGo3_none {f : PyData → Option (Option PyData)} (h0 : f (.int 0) = some none) (h1 : f (.int 1) = some none) (h2 : f (.int 2) = some none) : compGo f (upFrom 0 3) = some [] := by
  show compGo f [.int 0, .int 1, .int 2] = _
  simp only [compGo, h0, h1, h2, Option.bind_eq_bind, Option.bind_some]
theorem iter3 : iterOf .r1 (evalX Φ (.int 3) ρ) (evalX Φ i2 ρ) = some (upFrom 0 3) := rfl
theorem iterS (h : evalX Φ i1 ρ = some (.dat (.list ds))) : iterOf .seq (evalX Φ i1 ρ) (evalX Φ i2 ρ) = some ds := by rw [h]; rfl
end

/-! ## fractions -/
theorem third_len {α : Type} : ∀ (i : Nat) (xs : List α), (everyThird i xs).length ≤ xs.length
  | _, [] => Nat.le_refl _
  | 0, x :: xs => by have := third_len 2 xs; simp only [everyThird, List.length_cons]; omega
  | i + 1, x :: xs => by have := third_len i xs; simp only [everyThird, List.length_cons]; omega
noncomputable def begun : Nat → Int | 0 => 137 | 1 => 4052 | _ => 282
noncomputable def num (xs : List Int) (i : Nat) : Int := begun i + ((everyThird i xs).map (·.fmod 1000000)).sum
noncomputable def frac (x : Int) : Int × Int := ((x.fdiv 40).fmod 400 - 150, 1 + x.fmod 40)
theorem frac_good (x : Int) : Good (frac x) := by
  have h1 := fmod_bd (n := x.fdiv 40) (d := 400) (by decide)
  have h2 := fmod_bd (n := x) (d := 40) (by decide)
  exact ⟨by show 0 < 1 + x.fmod 40; omega, by show 1 + x.fmod 40 ≤ 40; omega, by show -1000 ≤ (x.fdiv 40).fmod 400 - 150; omega, by show (x.fdiv 40).fmod 400 - 150 ≤ 1000; omega⟩
noncomputable def frs (xs : List Int) : List (Int × Int) := [frac (num xs 0), frac (num xs 1), frac (num xs 2)]

theorem fdiv_int {a b : Int} (h : b ≠ 0 ∧ b.natAbs < 1073741824) : arith .fdiv a b = some (a.fdiv b) := if_pos h
theorem l8 (n : Nat) {xs : List Int} (hl : xs.length ≤ 63) : lev (n+1) 8 [.dat (lst xs)] = some (.list ((frs xs).map prD)) := by
  rw [lev8]
  refine run_of rfl ?_
  have a1 : ∀ x : Int, arith .fdiv x 40 = some (x.fdiv 40) := fun x => fdiv_int ⟨by decide, by decide⟩
  have a2 : ∀ x : Int, arith .fmod x 400 = some (x.fmod 400) := fun x => fmod_int (by decide)
  have a3 : ∀ x : Int, arith .fmod x 40 = some (x.fmod 40) := fun x => fmod_int (by decide)
  have a4 : ∀ x : Int, arith .fmod x 1000000 = some (x.fmod 1000000) := fun x => fmod_int (by decide)
  -- one number
  have inner : ∀ (i : Nat), i < 3 → ∀ u w, evalX (lev n) (.ar .add (.sub (.var 4) (.var 3)) (.sum (.comp (.one 2) .seq (.sl3 (.var 0) (.var 3)) .nil (.bool true) (.ar .fmod (.var 2) (.int 1000000))))) [some (.dat (lst xs)), u, w, some (iv i), some (.dat (lst [137, 4052, 282]))] = some (iv (num xs i)) := by
    intro i hi u w
    have s1 : evalX (lev n) (.sl3 (.var 0) (.var 3)) [some (.dat (lst xs)), u, w, some (iv i), some (.dat (lst [137, 4052, 282]))] = some (.dat (.list ((everyThird i xs).map .int))) := by
      show (if (xs.map PyData.int).length ≤ 63 ∧ 0 ≤ (i : Int) ∧ (i : Int) < 3 then some (EV.dat (.list (everyThird (i : Int).toNat (xs.map .int)))) else none) = _
      rw [if_pos ⟨by simpa using hl, by omega, by omega⟩, Int.toNat_natCast, third_map]
    have s2 : evalX (lev n) (.comp (.one 2) .seq (.sl3 (.var 0) (.var 3)) .nil (.bool true) (.ar .fmod (.var 2) (.int 1000000))) [some (.dat (lst xs)), u, w, some (iv i), some (.dat (lst [137, 4052, 282]))] = some (.dat (.list (((everyThird i xs).map (·.fmod 1000000)).map .int))) := by
      refine x_comp (iterS s1) (by have := third_len i xs; simp; omega) ?_
      refine (compGo_map (g := fun d => match d with | .int x => .int (x.fmod 1000000) | _ => .none) fun x hx => ?_).trans ?_
      · obtain ⟨y, _, rfl⟩ := List.mem_map.mp hx
        exact turn_yes rfl rfl (x_ar rfl rfl (a4 y))
      · rw [List.map_map, List.map_map]; rfl
    refine x_ar (i := begun i) (j := ((everyThird i xs).map (·.fmod 1000000)).sum) ?_ ?_ rfl
    · refine x_subL (i := i) rfl rfl (by decide) ?_
      match i, hi with
      | 0, _ => rfl
      | 1, _ => rfl
      | 2, _ => rfl
    · rw [xe_sum, s2]
      show (ints? _).map _ = _
      rw [ints_map]; rfl
  have c1 : evalX (lev n) (.comp (.one 3) .r1 (.int 3) .nil (.bool true) (.ar .add (.sub (.var 4) (.var 3)) (.sum (.comp (.one 2) .seq (.sl3 (.var 0) (.var 3)) .nil (.bool true) (.ar .fmod (.var 2) (.int 1000000)))))) [some (.dat (lst xs)), none, none, none, some (.dat (lst [137, 4052, 282]))] = some (.dat (lst [num xs 0, num xs 1, num xs 2])) :=
    x_comp iter3 (by rw [upFrom_length]; decide) (compGo3 (turn_yes rfl rfl (inner 0 (by decide) _ _)) (turn_yes rfl rfl (inner 1 (by decide) _ _)) (turn_yes rfl rfl (inner 2 (by decide) _ _)))
  have c2 : evalX (lev n) (.comp (.one 2) .seq (.var 1) .nil (.bool true) (.tup2 (.ar .sub (.ar .fmod (.ar .fdiv (.var 2) (.int 40)) (.int 400)) (.int 150)) (.ar .add (.int 1) (.ar .fmod (.var 2) (.int 40))))) [some (.dat (lst xs)), some (.dat (lst [num xs 0, num xs 1, num xs 2])), none, none, some (.dat (lst [137, 4052, 282]))] = some (.dat (.list ((frs xs).map prD))) := by
    refine x_comp (iterS rfl) (by simp) ?_
    refine (compGo_map (g := fun d => match d with | .int x => prD (frac x) | _ => .none) fun x hx => ?_).trans rfl
    obtain ⟨y, _, rfl⟩ := List.mem_map.mp hx
    refine turn_yes rfl rfl (x_tup2 (x_ar (x_ar (x_ar rfl rfl (a1 y)) rfl (a2 _)) rfl rfl) (x_ar rfl (x_ar rfl rfl (a3 y)) rfl))
  refine (s_seq (ρ' := [some (.dat (lst xs)), none, none, none, some (.dat (lst [137, 4052, 282]))]) (s_assign rfl)).trans ?_
  refine (s_seq (s_assign c1)).trans ?_
  exact s_ret c2
end Mine

/-! PP -/
namespace Mine
open PySem

noncomputable abbrev runD (f : Int × Int) : PyData := lst (CF f.1 f.2)
noncomputable def restF (f : Int × Int) : Int × Int := (f.1.fmod f.2, f.2)
theorem rest_good {f : Int × Int} (h : Good f) : Good (restF f) := by
  have h1 := fmod_bd (n := f.1) h.d0
  have := h.d40
  exact ⟨h.d0, h.d40, by show -1000 ≤ f.1.fmod f.2; omega, by show f.1.fmod f.2 ≤ 1000; omega⟩
theorem CF_rest {f : Int × Int} (h : Good f) : CF (restF f).1 (restF f).2 = 0 :: (CF f.1 f.2).tail := by
  have h1 := fmod_bd (n := f.1) h.d0
  rw [CF_cons (show 0 < (restF f).2 from h.d0), CF_cons h.d0]
  show (f.1.fmod f.2).fdiv f.2 :: tcf f.2 ((f.1.fmod f.2).fmod f.2) = 0 :: tcf f.2 (f.1.fmod f.2)
  have e1 : (f.1.fmod f.2).fdiv f.2 = 0 := by
    rw [Int.fdiv_eq_ediv_of_nonneg _ (by omega)]
    exact Int.ediv_eq_zero_of_lt h1.1 h1.2
  have e2 : (f.1.fmod f.2).fmod f.2 = f.1.fmod f.2 := by
    rw [Int.fmod_eq_emod_of_nonneg (f.1.fmod f.2) (show 0 ≤ f.2 by have := h.d0; omega)]
    exact Int.emod_eq_of_lt h1.1 h1.2
  rw [e1, e2]

/-- what the listing must be for one top -/
structure TopOk (top : Nat) (fs : List (Nat × Nat)) : Prop where
  t5 : top ≤ 5
  len : fs.length < 99
  good : ∀ g ∈ fs, Good (toZ g)
  li : lev 11 14 [iv top] = some (.list (esOf fs))
  fa : lev 11 15 [iv top] = some (.list ((fs.map toZ).map prD))
  ne : compare' .ne (.list ((fs.map toZ).map prD)) (.list ((fs.map toZ).map prD)) = some false
  det : ∀ a b c d e f g h i j k l, evalX (lev 11) (.comp (.one 8) .r2 (.int 1) (.len (.var 11)) (.cmp .ne (.ar .sub (.ar .mul (.sub (.sub (.var 11) (.var 8)) (.int 0)) (.sub (.sub (.var 11) (.ar .sub (.var 8) (.int 1))) (.int 1))) (.ar .mul (.sub (.sub (.var 11) (.ar .sub (.var 8) (.int 1))) (.int 0)) (.sub (.sub (.var 11) (.var 8)) (.int 1)))) (.int 1)) (.var 8)) [a, b, c, d, e, f, g, h, i, j, k, some (.dat (.list ((fs.map toZ).map prD))), l, none] = some (.dat (.list []))
  st : ∀ d : Fin 41, ∀ r : Fin 41, r.val < d.val → stB fs top r.val d.val = true
theorem top3 : TopOk 3 fn3 := ⟨by decide, by decide, (fun g hg => by simp [fn3] at hg; rcases hg with rfl | rfl | rfl | rfl | rfl <;> exact ⟨by decide, by decide, by decide, by decide⟩), by kernel_rfl, by kernel_rfl, by kernel_rfl, fun a b c d e f g h i j k l => by kernel_rfl, st3⟩
theorem top4 : TopOk 4 fn4 := ⟨by decide, by decide, (fun g hg => by simp [fn4] at hg; rcases hg with rfl | rfl | rfl | rfl | rfl | rfl | rfl <;> exact ⟨by decide, by decide, by decide, by decide⟩), by kernel_rfl, by kernel_rfl, by kernel_rfl, fun a b c d e f g h i j k l => by kernel_rfl, st4⟩
theorem top5 : TopOk 5 fn5 := ⟨by decide, by decide, (fun g hg => by simp [fn5] at hg; rcases hg with rfl | rfl | rfl | rfl | rfl | rfl | rfl | rfl | rfl | rfl | rfl <;> exact ⟨by decide, by decide, by decide, by decide⟩), by kernel_rfl, by kernel_rfl, by kernel_rfl, fun a b c d e f g h i j k l => by kernel_rfl, st5⟩
end Mine

/-! PQ -/
namespace Mine
open PySem

/-- the frame of the law: script, rests, row, pair, listing, top, entry, whole, k, runs, fractions, pairs, n, d -/
noncomputable abbrev LE (s re ro pa li tp en wh k ru fr ps n d : Option EV) : Env' := [s, re, ro, pa, li, tp, en, wh, k, ru, fr, ps, n, d]
noncomputable abbrev dL (ds : List PyData) : Option EV := some (.dat (.list ds))

section
variable {f0 f1 f2 : Int × Int} {s re ro pa li tp en wh ps : Option EV}
theorem three {P : Nat → Int × Int → Prop} (h : ∀ k f, [f0, f1, f2][k]? = some f → P k f) : P 0 f0 ∧ P 1 f1 ∧ P 2 f2 := ⟨h 0 f0 rfl, h 1 f1 rfl, h 2 f2 rfl⟩
theorem lt3 {k : Nat} {f : Int × Int} (h : [f0, f1, f2][k]? = some f) : f ∈ [f0, f1, f2] := List.mem_of_getElem? h

noncomputable abbrev LK (s re ro pa li tp en wh : Option EV) (k : Nat) (f0 f1 f2 : Int × Int) (ps : Option EV) : Env' :=
  LE s re ro pa li tp en wh (some (iv k)) (dL ([f0, f1, f2].map runD)) (dL ([f0, f1, f2].map prD)) ps none none
theorem k_run {k : Nat} {f : Int × Int} (h : [f0, f1, f2][k]? = some f) : evalX (lev 11) (.sub (.var 9) (.var 8)) (LK s re ro pa li tp en wh k f0 f1 f2 ps) = some (.dat (runD f)) :=
  x_subL (i := k) rfl rfl (by simp) (by rw [List.getElem?_map, h]; rfl)
theorem k_fr {k : Nat} {f : Int × Int} (h : [f0, f1, f2][k]? = some f) : evalX (lev 11) (.sub (.var 10) (.var 8)) (LK s re ro pa li tp en wh k f0 f1 f2 ps) = some (.dat (prD f)) :=
  x_subL (i := k) rfl rfl (by simp) (by rw [List.getElem?_map, h]; rfl)
theorem k_n {k : Nat} {f : Int × Int} (h : [f0, f1, f2][k]? = some f) : evalX (lev 11) (.sub (.sub (.var 10) (.var 8)) (.int 0)) (LK s re ro pa li tp en wh k f0 f1 f2 ps) = some (iv f.1) :=
  x_subT (i := 0) (k_fr h) rfl (by simp) rfl
theorem k_d {k : Nat} {f : Int × Int} (h : [f0, f1, f2][k]? = some f) : evalX (lev 11) (.sub (.sub (.var 10) (.var 8)) (.int 1)) (LK s re ro pa li tp en wh k f0 f1 f2 ps) = some (iv f.2) :=
  x_subT (i := 1) (k_fr h) rfl (by simp) rfl

theorem k_isrun {k : Nat} {f : Int × Int} (h : [f0, f1, f2][k]? = some f) (g : Good f) : evalX (lev 11) (.not (.call3 13 (.sub (.var 9) (.var 8)) (.sub (.sub (.var 10) (.var 8)) (.int 0)) (.sub (.sub (.var 10) (.var 8)) (.int 1)))) (LK s re ro pa li tp en wh k f0 f1 f2 ps) = ff :=
  x_not_t (x_call3 (k_run h) (k_n h) (k_d h) (l13 9 (a := f.1) (d := f.2) g))
theorem k_whole {k : Nat} {f : Int × Int} (h : [f0, f1, f2][k]? = some f) (g : Good f) : evalX (lev 11) (.tup2 (.call1 10 (.sub (.var 9) (.var 8))) (.sub (.var 10) (.var 8))) (LK s re ro pa li tp en wh k f0 f1 f2 ps) = some (.dat (ent f)) :=
  x_tup2 (x_call1 (k_run h) (l10_cf 10 (a := f.1) g.d0 g.d40)) (k_fr h)
theorem k_rest {k : Nat} {f : Int × Int} (h : [f0, f1, f2][k]? = some f) (g : Good f) :
    evalX (lev 11) (.tup2 (.call1 10 (.cat (.list1 (.int 0)) (.from1 (.sub (.var 9) (.var 8))))) (.tup2 (.ar .fmod (.sub (.sub (.var 10) (.var 8)) (.int 0)) (.sub (.sub (.var 10) (.var 8)) (.int 1))) (.sub (.sub (.var 10) (.var 8)) (.int 1)))) (LK s re ro pa li tp en wh k f0 f1 f2 ps) = some (.dat (ent (restF f))) := by
  have hl := CF_len (n := f.1) g.d0 g.d40
  have h1 : evalX (lev 11) (.from1 (.sub (.var 9) (.var 8))) (LK s re ro pa li tp en wh k f0 f1 f2 ps) = some (.dat (lst (CF f.1 f.2).tail)) := by
    rw [xe_from1, k_run h]
    show (if ((CF f.1 f.2).map PyData.int).length < 1048576 then some (EV.dat (.list (((CF f.1 f.2).map PyData.int).drop 1))) else none) = _
    rw [if_pos (by rw [List.length_map]; omega), List.drop_one, ← List.map_tail]
  have h2 : evalX (lev 11) (.cat (.list1 (.int 0)) (.from1 (.sub (.var 9) (.var 8)))) (LK s re ro pa li tp en wh k f0 f1 f2 ps) = some (.dat (runD (restF f))) := by
    rw [xe_cat, h1, show evalX (lev 11) (.list1 (.int 0)) (LK s re ro pa li tp en wh k f0 f1 f2 ps) = some (.dat (.list [.int 0])) from rfl]
    show (if [PyData.int 0].length + ((CF f.1 f.2).tail.map PyData.int).length < 1048576 then some (EV.dat (.list ([PyData.int 0] ++ (CF f.1 f.2).tail.map PyData.int))) else none) = _
    rw [if_pos (by rw [List.length_map, List.length_tail, List.length_singleton]; omega)]
    show _ = some (EV.dat (lst (CF (restF f).1 (restF f).2)))
    rw [CF_rest g]; rfl
  exact x_tup2 (x_call1 h2 (l10_cf 10 (a := (restF f).1) (d := (restF f).2) g.d0 g.d40)) (x_tup2 (x_ar (k_n (f := f) h) (k_d (f := f) h) (fmod_int (by have := g.d0; omega))) (k_d (f := f) h))
end

theorem law_top {xs : List Int} {top : Nat} {fs : List (Nat × Nat)} (hT : TopOk top fs) (hl : xs.length ≤ 63) (ht : (3 : Int) + (xs.length : Int).fmod 3 = top) : lev 12 20 [.dat (lst xs)] = some (.bool true) := by
  have e8 := l8 10 hl
  have hgf : ∀ f ∈ frs xs, Good f := by
    intro f hf
    simp only [frs, List.mem_cons, List.not_mem_nil, or_false] at hf
    rcases hf with rfl | rfl | rfl <;> exact frac_good _
  unfold frs at e8 hgf
  generalize frac (num xs 0) = f0 at *
  generalize frac (num xs 1) = f1 at *
  generalize frac (num xs 2) = f2 at *
  have hG : ∀ k f, [f0, f1, f2][k]? = some f → Good f := fun k f h => hgf f (lt3 h)
  rw [lev20]
  refine run_of rfl ?_
  -- top
  have x5 : evalX (lev 11) (.ar .add (.int 3) (.ar .fmod (.len (.var 0)) (.int 3))) (LE (dL (xs.map .int)) none none none none none none none none none none none none none) = some (iv top) := by
    have a1 : evalX (lev 11) (.len (.var 0)) (LE (dL (xs.map .int)) none none none none none none none none none none none none none) = some (iv xs.length) := by
      show (if (xs.map PyData.int).length < 1048576 then some (EV.dat (.int ((xs.map PyData.int).length : Nat))) else none) = _
      rw [if_pos (by rw [List.length_map]; omega), List.length_map]
    exact x_ar rfl (x_ar a1 rfl (fmod_int (by decide))) (congrArg some ht)
  refine (s_seq (ρ' := LE (dL (xs.map .int)) none none none none (some (iv top)) none none none none none none none none) (s_assign x5)).trans ?_
  -- fractions
  refine (s_seq (ρ' := LE (dL (xs.map .int)) none none none none (some (iv top)) none none none none (dL ([f0, f1, f2].map prD)) none none none) (s_assign (x_call1 rfl e8))).trans ?_
  -- runs
  have x9 : evalX (lev 11) (.comp (.two 12 13) .seq (.var 10) .nil (.bool true) (.call2 9 (.var 12) (.var 13))) (LE (dL (xs.map .int)) none none none none (some (iv top)) none none none none (dL ([f0, f1, f2].map prD)) none none none) = some (.dat (.list ([f0, f1, f2].map runD))) := by
    refine x_comp (iterS rfl) (by simp) ?_
    have turn : ∀ f, Good f → turnOf (lev 11) (LE (dL (xs.map .int)) none none none none (some (iv top)) none none none none (dL ([f0, f1, f2].map prD)) none none none) (.two 12 13) (.bool true) (.call2 9 (.var 12) (.var 13)) (prD f) = some (some (runD f)) := fun f g =>
      turn_yes rfl rfl (x_call2 rfl rfl (l9 6 (a := f.1) (d := f.2) (by have := g.lo; omega) (by have := g.hi; omega) (by have := g.d0; omega) (by have := g.d40; omega)))
    have t0 := turn f0 (hgf f0 (by simp))
    have t1 := turn f1 (hgf f1 (by simp))
    have t2 := turn f2 (hgf f2 (by simp))
    simp only [List.map_cons, List.map_nil] at t0 t1 t2 ⊢
    simp only [compGo, t0, t1, t2, Option.bind_eq_bind, Option.bind_some]
  refine (s_seq (ρ' := LE (dL (xs.map .int)) none none none none (some (iv top)) none none none (dL ([f0, f1, f2].map runD)) (dL ([f0, f1, f2].map prD)) none none none) (s_assign x9)).trans ?_
  -- all are runs
  have c1 : evalX (lev 11) (.comp (.one 8) .r1 (.int 3) .nil (.not (.call3 13 (.sub (.var 9) (.var 8)) (.sub (.sub (.var 10) (.var 8)) (.int 0)) (.sub (.sub (.var 10) (.var 8)) (.int 1)))) (.var 8)) (LE (dL (xs.map .int)) none none none none (some (iv top)) none none none (dL ([f0, f1, f2].map runD)) (dL ([f0, f1, f2].map prD)) none none none) = some (.dat (.list [])) := by
    have t := three (f0 := f0) (f1 := f1) (f2 := f2) fun k f h => k_isrun (s := dL (xs.map .int)) (re := none) (ro := none) (pa := none) (li := none) (tp := some (iv top)) (en := none) (wh := none) (ps := none) h (hG k f h)
    exact x_comp iter3 (by rw [upFrom_length]; decide) (compGo3_none (turn_no rfl t.1) (turn_no rfl t.2.1) (turn_no rfl t.2.2))
  refine (s_seq (s_skip (x_cmp c1 rfl nil_ne))).trans ?_
  -- the listing
  refine (s_seq (ρ' := LE (dL (xs.map .int)) none none none (dL (esOf fs)) (some (iv top)) none none none (dL ([f0, f1, f2].map runD)) (dL ([f0, f1, f2].map prD)) none none none) (s_assign (x_call1 rfl hT.li))).trans ?_
  have hlen := hT.len
  have hel : (esOf fs).length < 1048576 := by simp; omega
  have x11 : evalX (lev 11) (.comp (.one 6) .seq (.var 4) .nil (.bool true) (.sub (.var 6) (.int 2))) (LE (dL (xs.map .int)) none none none (dL (esOf fs)) (some (iv top)) none none none (dL ([f0, f1, f2].map runD)) (dL ([f0, f1, f2].map prD)) none none none) = some (.dat (.list ((fs.map toZ).map prD))) := by
    refine x_comp (iterS rfl) hel ((compGo_map (g := fun d => match d with | .tuple [_, _, p] => p | _ => .none) fun x hx => ?_).trans ?_)
    · obtain ⟨y, _, rfl⟩ := List.mem_map.mp hx
      exact turn_yes rfl rfl (x_subT (i := 2) rfl rfl (by simp) rfl)
    · rw [esOf, List.map_map]; rfl
  refine (s_seq (ρ' := LE (dL (xs.map .int)) none none none (dL (esOf fs)) (some (iv top)) none none none (dL ([f0, f1, f2].map runD)) (dL ([f0, f1, f2].map prD)) (dL ((fs.map toZ).map prD)) none none) (s_assign x11)).trans ?_
  refine (s_seq (s_skip (x_cmp (u := .list ((fs.map toZ).map prD)) rfl (x_call1 rfl hT.fa) hT.ne))).trans ?_
  refine (s_seq (s_skip (x_cmp (hT.det _ _ _ _ _ _ _ _ _ _ _ _) rfl nil_ne))).trans ?_
  -- whole, rests
  have x7 : evalX (lev 11) (.comp (.one 8) .r1 (.int 3) .nil (.bool true) (.tup2 (.call1 10 (.sub (.var 9) (.var 8))) (.sub (.var 10) (.var 8)))) (LE (dL (xs.map .int)) none none none (dL (esOf fs)) (some (iv top)) none none none (dL ([f0, f1, f2].map runD)) (dL ([f0, f1, f2].map prD)) (dL ((fs.map toZ).map prD)) none none) = some (.dat (.list ([f0, f1, f2].map ent))) := by
    have t := three (f0 := f0) (f1 := f1) (f2 := f2) fun k f h => k_whole (s := dL (xs.map .int)) (re := none) (ro := none) (pa := none) (li := dL (esOf fs)) (tp := some (iv top)) (en := none) (wh := none) (ps := dL ((fs.map toZ).map prD)) h (hG k f h)
    exact x_comp iter3 (by rw [upFrom_length]; decide) (compGo3 (turn_yes rfl rfl t.1) (turn_yes rfl rfl t.2.1) (turn_yes rfl rfl t.2.2))
  refine (s_seq (ρ' := LE (dL (xs.map .int)) none none none (dL (esOf fs)) (some (iv top)) none (dL ([f0, f1, f2].map ent)) none (dL ([f0, f1, f2].map runD)) (dL ([f0, f1, f2].map prD)) (dL ((fs.map toZ).map prD)) none none) (s_assign x7)).trans ?_
  have x1 : evalX (lev 11) (.comp (.one 8) .r1 (.int 3) .nil (.bool true) (.tup2 (.call1 10 (.cat (.list1 (.int 0)) (.from1 (.sub (.var 9) (.var 8))))) (.tup2 (.ar .fmod (.sub (.sub (.var 10) (.var 8)) (.int 0)) (.sub (.sub (.var 10) (.var 8)) (.int 1))) (.sub (.sub (.var 10) (.var 8)) (.int 1))))) (LE (dL (xs.map .int)) none none none (dL (esOf fs)) (some (iv top)) none (dL ([f0, f1, f2].map ent)) none (dL ([f0, f1, f2].map runD)) (dL ([f0, f1, f2].map prD)) (dL ((fs.map toZ).map prD)) none none) = some (.dat (.list (([f0, f1, f2].map restF).map ent))) := by
    have t := three (f0 := f0) (f1 := f1) (f2 := f2) fun k f h => k_rest (s := dL (xs.map .int)) (re := none) (ro := none) (pa := none) (li := dL (esOf fs)) (tp := some (iv top)) (en := none) (wh := dL ([f0, f1, f2].map ent)) (ps := dL ((fs.map toZ).map prD)) h (hG k f h)
    exact x_comp iter3 (by rw [upFrom_length]; decide) (compGo3 (turn_yes rfl rfl t.1) (turn_yes rfl rfl t.2.1) (turn_yes rfl rfl t.2.2))
  refine (s_seq (ρ' := LE (dL (xs.map .int)) (dL (([f0, f1, f2].map restF).map ent)) none none (dL (esOf fs)) (some (iv top)) none (dL ([f0, f1, f2].map ent)) none (dL ([f0, f1, f2].map runD)) (dL ([f0, f1, f2].map prD)) (dL ((fs.map toZ).map prD)) none none) (s_assign x1)).trans ?_
  have hgr : ∀ f ∈ [f0, f1, f2].map restF, Good f := by
    intro f hf
    obtain ⟨g, hg, rfl⟩ := List.mem_map.mp hf
    exact rest_good (hgf g hg)
  -- in order
  refine (s_seq (s_skip (x_not_t (x_call2 rfl rfl (l17 9 hgf hgf (by simp) (by simp)))))).trans ?_
  have c2 : evalX (lev 11) (.cat (.comp (.one 6) .seq (.var 4) .nil (.bool true) (.tup2 (.sub (.var 6) (.int 1)) (.sub (.var 6) (.int 2)))) (.var 1)) (LE (dL (xs.map .int)) (dL (([f0, f1, f2].map restF).map ent)) none none (dL (esOf fs)) (some (iv top)) none (dL ([f0, f1, f2].map ent)) none (dL ([f0, f1, f2].map runD)) (dL ([f0, f1, f2].map prD)) (dL ((fs.map toZ).map prD)) none none) = some (.dat (.list ((fs.map toZ ++ [f0, f1, f2].map restF).map ent))) := by
    have c3 : evalX (lev 11) (.comp (.one 6) .seq (.var 4) .nil (.bool true) (.tup2 (.sub (.var 6) (.int 1)) (.sub (.var 6) (.int 2)))) (LE (dL (xs.map .int)) (dL (([f0, f1, f2].map restF).map ent)) none none (dL (esOf fs)) (some (iv top)) none (dL ([f0, f1, f2].map ent)) none (dL ([f0, f1, f2].map runD)) (dL ([f0, f1, f2].map prD)) (dL ((fs.map toZ).map prD)) none none) = some (.dat (.list ((fs.map toZ).map ent))) := by
      refine x_comp (iterS rfl) hel ((compGo_map (g := fun d => match d with | .tuple [_, q, p] => .tuple [q, p] | _ => .none) fun x hx => ?_).trans ?_)
      · obtain ⟨y, _, rfl⟩ := List.mem_map.mp hx
        exact turn_yes rfl rfl (x_tup2 (x_subT (i := 1) rfl rfl (by simp) rfl) (x_subT (i := 2) rfl rfl (by simp) rfl))
      · rw [esOf, List.map_map]; rfl
    rw [xe_cat, c3]
    show (if ((fs.map toZ).map ent).length + (([f0, f1, f2].map restF).map ent).length < 1048576 then some (EV.dat (.list ((fs.map toZ).map ent ++ ([f0, f1, f2].map restF).map ent))) else none) = _
    rw [if_pos (by simp; omega), List.map_append]
  refine (s_seq (s_skip (x_not_t (x_call2 rfl c2 (l17 9 hgr (fun g hg => ?_) (by simp) (by simp; omega)))))).trans ?_
  · rcases List.mem_append.mp hg with q | q
    · obtain ⟨y, hy, rfl⟩ := List.mem_map.mp q
      exact hT.good y hy
    · exact hgr g q
  -- stands
  refine s_ret (x_cmp (u := .list []) ?_ rfl nil_eq)
  refine x_comp (iterS rfl) (by simp) (compGo_none fun x hx => ?_)
  obtain ⟨g, hg, rfl⟩ := List.mem_map.mp hx
  obtain ⟨f, hf, rfl⟩ := List.mem_map.mp hg
  have gf := hgf f hf
  have hb := fmod_bd (n := f.1) gf.d0
  have h40 := gf.d40
  obtain ⟨r, hr⟩ := Int.eq_ofNat_of_zero_le hb.1
  obtain ⟨d, hd⟩ := Int.eq_ofNat_of_zero_le (show 0 ≤ f.2 by omega)
  have hrf : restF f = toZ (r, d) := Prod.ext hr hd
  rw [hr, hd] at hb
  rw [hd] at h40
  rw [hrf]
  have hst := hT.st ⟨d, by omega⟩ ⟨r, by omega⟩ (by show r < d; omega)
  have e19 := l19 (n := 9) hst hT.good hT.len (by show 0 < d; omega) (by show d ≤ 40; omega) (by show r < d; omega) hT.t5
  exact turn_no rfl (x_not_t (x_call5 rfl rfl (x_subT (i := 0) rfl rfl (by simp) rfl) (x_subT (i := 1) rfl rfl (by simp) rfl) rfl e19))

theorem plain_law (xs : List Int) (h : xs.length ≤ 63) : lev 12 20 [.dat (.list (xs.map .int))] = some (.bool true) := by
  have h3 := fmod_bd (n := (xs.length : Int)) (d := 3) (by decide)
  have hc : (xs.length : Int).fmod 3 = 0 ∨ (xs.length : Int).fmod 3 = 1 ∨ (xs.length : Int).fmod 3 = 2 := by omega
  rcases hc with e | e | e
  · exact law_top top3 h (by rw [e]; rfl)
  · exact law_top top4 h (by rw [e]; rfl)
  · exact law_top top5 h (by rw [e]; rfl)
end Mine

/-! AS -/
open PySem PySem.W PyProof.Rows PySem.Calls PySem.Spec PySem.SeqAt
namespace Mine
section
variable {prog : Program} {w : World} {h : Heap} {mg mb : Str → Option Value} {p : Program} {loose : List Str} {mean : ExcName → Option Value}
theorem fin_law {fa : Addr} (KX : (Mine.hd.heap_1 w.params).In h) (hT : TabsAt tabsL h) (T : Top p loose mean mg mb h) (hmg : mg (Str.ofString "law") = some (.ref fa)) {s : Shared} (hs : s.heap = h) {l : Addr} {vs : List Value} {xs : List Int} (hL : h.IsList l vs.toArray) (hI : IntsAre vs xs) (hn : xs.length ≤ 63)
    (hgen : s.gens = #[]) {cl : Str → Option Addr} {args : List WData} :
    wpAny (model prog w) callerA (call (.ref fa) [.ref l]) (fun v s' => GoodWG PySem.Challenge.rw_pe0194_01.row.claim cl mean args s (Except.ok (Flow.ret v)) s') (fun e s' => GoodWG PySem.Challenge.rw_pe0194_01.row.claim cl mean args s (Except.error e) s') s := by
  have e1 := mg_of (v := .ref 181) KX T.g (show nsIn (Mine.hd.heap_1 w.params) mainGlobals (Str.ofString "law") = some (some (.ref 181)) by kernel_rfl)
  rw [hmg] at e1
  cases e1
  refine law_call (n := 12) KX hT T hs hL hI (by omega) (plain_law xs hn) fun s' g => ?_
  have hold := old_of hT hs g
  obtain ⟨h', tk, rfl, _, _⟩ := g
  refine ⟨.inl ⟨.bool true, .bool true, [], rfl, fun cls => rfl, .bool true, by kernel_rfl, fun _ => ⟨List.nodup_nil, fun a ha => by cases ha⟩⟩, hold, rfl, .of_eq hgen⟩
end
set_option maxHeartbeats 8000000 in
theorem holds' : PySem.Challenge.rw_pe0194_01.Holds := Mine.hd (by
  k_fill
  intro w s₀ s₁ mg mb G Y fa o pm cd doc dV kV ho hd hcd hD hmg hg args vals as hpre hlay hrd hwl hlo
  have KX := km_in_of Y
  km_tabs Y
  have X := (Ground.X G).1
  have V := (Ground.X G).2
  refine Ground.open G ?_
  intro T B D TE TW
  try (refine guard_noD D (by decide +kernel) ?_; clear D)
  km_lay T hmg ho hd cd
  wrow_args hpre hlay hrd hwl hlo
  refine fin_law KX hT9 T hmg rfl (by assumption) (by assumption) (by omega) hg)
end Mine

theorem PySem.Challenge.cw_pe0194_01_holds : PySem.Challenge.rw_pe0194_01.Holds := by
  exact Mine.holds'
