import PyProof.Rows.All
import Wide.All
import OpenK.AllK
import Wide.FinOn
import PySem.Challenge.RW_ph0102_01
set_option Elab.async false
set_option maxRecDepth 100000
set_option genSizeOf false
set_option genSizeOfSpec false
namespace Mine
open PySem

/-! ## plain values -/
inductive PV where
  | none
  | bool (b : Bool)
  | int (i : Int)
  | flt (x : UInt64)
  | str (s : List Nat)
  | list (l : List PV)
  | tup (l : List PV)
  | dict (l : List (List Nat × PV))
  | rng (n : Int)

noncomputable def szOk (n : Nat) : Bool := Nat.ble n 1000000

-- == on plain values, where it is told
noncomputable def pyEqs (f : PV → PV → Option Bool) : List PV → List PV → Option Bool
  | [], [] => some true
  | a :: r, b :: q => match f a b with
    | some x => match pyEqs f r q with
      | some y => some (x && y)
      | Option.none => Option.none
    | Option.none => Option.none
  | _, _ => Option.none
noncomputable def pyEqN : Nat → PV → PV → Option Bool
  | 0, _, _ => Option.none
  | n + 1, x, y => match x, y with
    | .int a, .int b => some (a == b)
    | .flt a, .flt b => if Float64.isNaN a || Float64.isNaN b then Option.none else some (Float64.cmp a b == some .eq)
    | .int a, .flt b => some (Float64.cmpInt b a == some .eq)
    | .flt a, .int b => some (Float64.cmpInt a b == some .eq)
    | .str a, .str b => some (a == b)
    | .bool a, .bool b => some (a == b)
    | .list a, .list b => if a.length == b.length then pyEqs (pyEqN n) a b else some false
    | .tup a, .tup b => if a.length == b.length then pyEqs (pyEqN n) a b else Option.none
    | .list _, .tup _ => some false
    | .tup _, .list _ => some false
    | _, _ => Option.none
noncomputable def pyEq (x y : PV) : Option Bool := pyEqN 8 x y

noncomputable def truth : PV → Option Bool
  | .bool b => some b
  | .int i => some (i != 0)
  | .str s => if szOk s.length then some (!s.isEmpty) else Option.none
  | .list l => if szOk l.length then some (!l.isEmpty) else Option.none
  | _ => Option.none

noncomputable def smallInt (i : Int) : Bool := Nat.ble i.natAbs 4294967296

/-- numbers as floats, where one of them is one -/
noncomputable def fltOf : PV → Option UInt64
  | .flt x => some x
  | .int n => if smallInt n then (if Float64.isInf (Float64.ofInt n) then Option.none else some (Float64.ofInt n)) else Option.none
  | _ => Option.none

noncomputable def rep {α : Type} (l : List α) : Nat → List α
  | 0 => []
  | n + 1 => l ++ rep l n

noncomputable def binF (op : Operator) (a b : UInt64) : Option PV :=
  match op with
  | .Add => some (.flt (Float64.add a b))
  | .Sub => some (.flt (Float64.sub a b))
  | .Mult => some (.flt (Float64.mul a b))
  | .Div => if Float64.isZero b then Option.none else some (.flt (Float64.div a b))
  | .Mod => if Float64.isZero b then Option.none else some (.flt (Float64.divmod a b).2)
  | _ => Option.none

noncomputable def binI (op : Operator) (a b : Int) : Option PV :=
  match op with
  | .Add => some (.int (a + b))
  | .Sub => some (.int (a - b))
  | .Mult => if smallInt a && smallInt b then some (.int (a * b)) else Option.none
  | .FloorDiv => if b != 0 && smallInt b then some (.int (a.fdiv b)) else Option.none
  | .Mod => if b != 0 then some (.int (a.fmod b)) else Option.none
  | .Pow => if Nat.ble a.natAbs 100 && (Nat.ble b.natAbs 100 && decide (0 ≤ b)) && decide (2 ≤ a) then some (.int (a ^ b.toNat)) else Option.none
  | .Div => if b != 0 && smallInt a && smallInt b then
      (if Float64.isInf (Float64.ofFrac (decide (a < 0) != decide (b < 0)) a.natAbs b.natAbs) then Option.none else some (.flt (Float64.ofFrac (decide (a < 0) != decide (b < 0)) a.natAbs b.natAbs)))
      else Option.none
  | _ => Option.none

noncomputable def binop (op : Operator) : PV → PV → Option PV
  | .int a, .int b => binI op a b
  | .flt a, .flt b => binF op a b
  | .flt a, .int b => match fltOf (.int b) with | some b' => binF op a b' | Option.none => Option.none
  | .int a, .flt b => match fltOf (.int a) with | some a' => binF op a' b | Option.none => Option.none
  | .str a, .str b => match op with | .Add => if szOk (a.length + b.length) then some (.str (a ++ b)) else Option.none | _ => Option.none
  | .str a, .int n => match op with | .Mult => if Nat.ble n.natAbs 1000 && szOk (a.length * n.toNat) then some (.str (rep a n.toNat)) else Option.none | _ => Option.none
  | .list a, .list b => match op with | .Add => if szOk (a.length + b.length) then some (.list (a ++ b)) else Option.none | _ => Option.none
  | .list a, .int n => match op with | .Mult => if Nat.ble n.natAbs 1000 && szOk (a.length * n.toNat) then some (.list (rep a n.toNat)) else Option.none | _ => Option.none
  | _, _ => Option.none

noncomputable def anyEq (x : PV) : List PV → Option Bool
  | [] => some false
  | y :: r => match pyEq y x, anyEq x r with
    | some a, some b => some (a || b)
    | _, _ => Option.none

noncomputable def look (k : List Nat) : List (List Nat × PV) → Option PV
  | [] => Option.none
  | (k', v) :: r => if k' == k then some v else look k r

noncomputable def pyIn : PV → PV → Option Bool
  | .str a, .str b => match a with | [c] => some (b.contains c) | _ => Option.none
  | .str k, .dict l => some (look k l).isSome
  | x, .list l => anyEq x l
  | x, .tup l => anyEq x l
  | _, _ => Option.none

noncomputable def cmpop (op : CmpOp) (a b : PV) : Option Bool :=
  match op with
  | .Eq => pyEq a b
  | .NotEq => (pyEq a b).map (!·)
  | .In => pyIn a b
  | .NotIn => (pyIn a b).map (!·)
  | .Lt => match a, b with | .int a, .int b => some (decide (a < b)) | _, _ => Option.none
  | .Gt => match a, b with | .int a, .int b => some (decide (b < a)) | _, _ => Option.none
  | _ => Option.none

/-! ## subscripts -/
noncomputable def idx (i : Int) (n : Nat) : Option Nat :=
  if szOk n then (if i < 0 then (if -(n : Int) ≤ i then some (i + n).toNat else Option.none) else (if i < n then some i.toNat else Option.none)) else Option.none

noncomputable def getI : PV → PV → Option PV
  | .list l, .int i => match idx i l.length with | some j => l[j]? | Option.none => Option.none
  | .tup l, .int i => match idx i l.length with | some j => l[j]? | Option.none => Option.none
  | .str s, .int i => match idx i s.length with | some j => (s[j]?).map fun c => .str [c] | Option.none => Option.none
  | .dict l, .str k => look k l
  | _, _ => Option.none

/-- a bound of a slice with step 1 -/
noncomputable def clip (d : Nat) (n : Nat) : PV → Option Nat
  | .none => some d
  | .int i => some (if i < 0 then (i + n).toNat else if i < n then i.toNat else n)
  | _ => Option.none

noncomputable def sliceL {α : Type} (l : List α) (lo hi st : PV) : Option (List α) :=
  match st with
  | .none => match clip 0 l.length lo, clip l.length l.length hi with
    | some a, some b => some ((l.drop a).take (b - a))
    | _, _ => Option.none
  | .int i => match lo, hi with
    | .none, .none => if i == -1 then some l.reverse else Option.none
    | _, _ => Option.none
  | _ => Option.none

noncomputable def slice (v lo hi st : PV) : Option PV :=
  match v with
  | .list l => if szOk l.length then (sliceL l lo hi st).map .list else Option.none
  | _ => Option.none

/-! ## built-ins -/
inductive Blt where
  | len | sum | int | min | max | range | list | tuple | sorted
inductive Mth where
  | join | index

noncomputable def intsOf : List PV → Option (List Int)
  | [] => some []
  | .int i :: r => (intsOf r).map (i :: ·)
  | _ => Option.none
noncomputable def strsOf : List PV → Option (List (List Nat))
  | [] => some []
  | .str i :: r => (strsOf r).map (i :: ·)
  | _ => Option.none

noncomputable def fmax (a b : UInt64) : UInt64 := if Float64.cmp b a == some .gt then b else a
noncomputable def fmin (a b : UInt64) : UInt64 := if Float64.cmp b a == some .lt then b else a

noncomputable def insort (x : Int) : List Int → List Int
  | [] => [x]
  | y :: r => if x ≤ y then x :: y :: r else y :: insort x r
noncomputable def isort : List Int → List Int
  | [] => []
  | x :: r => insort x (isort r)

noncomputable def upto (n : Nat) : List PV := (List.range n).map fun (k : Nat) => PV.int (k : Int)

noncomputable def itemsOf : PV → Option (List PV)
  | .list l => if szOk l.length then some l else Option.none
  | .tup l => if szOk l.length then some l else Option.none
  | .str s => if szOk s.length then some (s.map fun c => .str [c]) else Option.none
  | .rng n => if Nat.ble n.natAbs 100000 then some (upto n.toNat) else Option.none
  | .dict l => if szOk l.length then some (l.map fun p => .str p.1) else Option.none
  | _ => Option.none

noncomputable def ifz {α : Type} (c : Bool) (o : Option α) : Option α := match c with
  | true => o
  | false => Option.none
noncomputable def asI : PV → Option Int
  | .int i => some i
  | _ => Option.none
noncomputable def asF : PV → Option UInt64
  | .flt i => some i
  | _ => Option.none
noncomputable def asL : PV → Option (List PV)
  | .list i => some i
  | _ => Option.none
noncomputable def asS : PV → Option (List Nat)
  | .str i => some i
  | _ => Option.none
noncomputable def obind {α β : Type} (o : Option α) (f : α → Option β) : Option β := match o with
  | some a => f a
  | Option.none => Option.none
noncomputable def bLen : PV → Option PV
  | .str s => ifz (szOk s.length) (some (.int s.length))
  | .list s => ifz (szOk s.length) (some (.int s.length))
  | _ => Option.none
noncomputable def bSum (x : PV) : Option PV := obind (asL x) fun l => ifz (szOk l.length) (obind (intsOf l) fun is => some (.int is.sum))
noncomputable def bDec : Float64.Num → Option PV
  | .fin sg m e => some (.int (Float64.truncOf sg m e))
  | _ => Option.none
noncomputable def bInt (x : PV) : Option PV := obind (asF x) fun x => bDec (Float64.decode x)
noncomputable def bRange (x : PV) : Option PV := obind (asI x) fun n => ifz (smallInt n) (some (.rng n))
noncomputable def bList : PV → Option PV
  | .rng n => ifz (Nat.ble n.natAbs 100000) (some (.list (upto n.toNat)))
  | .dict l => ifz (szOk l.length) (some (.list (l.map fun p => .str p.1)))
  | _ => Option.none
noncomputable def bTup (x : PV) : Option PV := obind (asL x) fun l => ifz (szOk l.length) (some (.tup l))
noncomputable def bSort (x : PV) : Option PV := obind (asL x) fun l => ifz (Nat.blt l.length 64) (obind (intsOf l) fun is => some (.list ((isort is).map .int)))
noncomputable def bMinI (x y : PV) : Option PV := obind (asI x) fun a => obind (asI y) fun b => some (.int (if b < a then b else a))
noncomputable def bMinF (x y : PV) : Option PV := obind (asF x) fun a => obind (asF y) fun b => some (.flt (fmin a b))
noncomputable def bFl3 (f : UInt64 → UInt64 → UInt64) (x y z : PV) : Option PV := obind (asF x) fun a => obind (asF y) fun b => obind (asF z) fun c => some (.flt (f (f a b) c))
noncomputable def blt1 (b : Blt) (x : PV) : Option PV := match b with
  | .len => bLen x
  | .sum => bSum x
  | .int => bInt x
  | .min => Option.none
  | .max => Option.none
  | .range => bRange x
  | .list => bList x
  | .tuple => bTup x
  | .sorted => bSort x
noncomputable def isMin : Blt → Bool
  | .min => true
  | _ => false
noncomputable def isMax : Blt → Bool
  | .max => true
  | _ => false
noncomputable def blt2 (b : Blt) (x y : PV) : Option PV := ifz (isMin b) (match (asI x).isSome with | true => bMinI x y | false => bMinF x y)
noncomputable def blt3 (b : Blt) (x y z : PV) : Option PV := match isMin b with
  | true => bFl3 fmin x y z
  | false => ifz (isMax b) (bFl3 fmax x y z)
noncomputable def blt (b : Blt) (args : List PV) : Option PV := match args with
  | [x] => blt1 b x
  | [x, y] => blt2 b x y
  | [x, y, z] => blt3 b x y z
  | _ => Option.none

inductive BltIs : Blt → List PV → PV → Prop where
  | lenS (l : List Nat) (hz : szOk l.length = true) : BltIs .len [.str l] (.int l.length)
  | lenL (l : List PV) (hz : szOk l.length = true) : BltIs .len [.list l] (.int l.length)
  | sum (l : List PV) (is : List Int) (hz : szOk l.length = true) (hi : intsOf l = some is) : BltIs .sum [.list l] (.int is.sum)
  | int (x : UInt64) (sg : Bool) (m : Nat) (e : Int) (hd : Float64.decode x = .fin sg m e) : BltIs .int [.flt x] (.int (Float64.truncOf sg m e))
  | minI (a b : Int) : BltIs .min [.int a, .int b] (.int (if b < a then b else a))
  | minF (a b : UInt64) : BltIs .min [.flt a, .flt b] (.flt (fmin a b))
  | min3 (a b c : UInt64) : BltIs .min [.flt a, .flt b, .flt c] (.flt (fmin (fmin a b) c))
  | max3 (a b c : UInt64) : BltIs .max [.flt a, .flt b, .flt c] (.flt (fmax (fmax a b) c))
  | range (n : Int) (h : smallInt n = true) : BltIs .range [.int n] (.rng n)
  | listR (n : Int) (hz : Nat.ble n.natAbs 100000 = true) : BltIs .list [.rng n] (.list (upto n.toNat))
  | listD (l : List (List Nat × PV)) (hz : szOk l.length = true) : BltIs .list [.dict l] (.list (l.map fun p => .str p.1))
  | tuple (l : List PV) (hz : szOk l.length = true) : BltIs .tuple [.list l] (.tup l)
  | sorted (l : List PV) (is : List Int) (h64 : Nat.blt l.length 64 = true) (hi : intsOf l = some is) : BltIs .sorted [.list l] (.list ((isort is).map .int))
theorem ifz_inv {α : Type} {c : Bool} {o : Option α} {x : α} (h : ifz c o = some x) : c = true ∧ o = some x := by
  cases c with
  | true => exact ⟨rfl, h⟩
  | false => cases h
theorem obind_inv {α β : Type} {o : Option α} {f : α → Option β} {x : β} (h : obind o f = some x) : ∃ a, o = some a ∧ f a = some x := by
  cases o with
  | none => cases h
  | some a => exact ⟨a, rfl, h⟩
theorem asI_inv {x : PV} {i : Int} (h : asI x = some i) : x = .int i := by cases x <;> first | (cases h; rfl) | (cases h; done)
theorem asF_inv {x : PV} {i : UInt64} (h : asF x = some i) : x = .flt i := by cases x <;> first | (cases h; rfl) | (cases h; done)
theorem asL_inv {x : PV} {i : List PV} (h : asL x = some i) : x = .list i := by cases x <;> first | (cases h; rfl) | (cases h; done)
theorem asS_inv {x : PV} {i : List Nat} (h : asS x = some i) : x = .str i := by cases x <;> first | (cases h; rfl) | (cases h; done)
theorem bLen_is {x r : PV} (e : bLen x = some r) : BltIs .len [x] r := by
  cases x <;> first | (cases e; done) | skip
  · obtain ⟨hz, e⟩ := ifz_inv e
    cases e; exact .lenS _ hz
  · obtain ⟨hz, e⟩ := ifz_inv e
    cases e; exact .lenL _ hz
theorem bSum_is {x r : PV} (e : bSum x = some r) : BltIs .sum [x] r := by
  obtain ⟨l, h, e1⟩ := obind_inv e
  obtain ⟨hz, e2⟩ := ifz_inv e1
  obtain ⟨is, hi, e3⟩ := obind_inv e2
  cases asL_inv h; cases e3; exact .sum _ _ hz hi
theorem bInt_is {x r : PV} (e : bInt x = some r) : BltIs .int [x] r := by
  obtain ⟨l, h, e1⟩ := obind_inv e
  cases asF_inv h
  cases hd : Float64.decode l with
  | nan => rw [hd] at e1; cases e1
  | inf g => rw [hd] at e1; cases e1
  | fin sg m ex => rw [hd] at e1; cases e1; exact .int _ _ _ _ hd
theorem bRange_is {x r : PV} (e : bRange x = some r) : BltIs .range [x] r := by
  obtain ⟨l, h, e1⟩ := obind_inv e
  obtain ⟨hz, e2⟩ := ifz_inv e1
  cases asI_inv h; cases e2; exact .range _ hz
theorem bList_is {x r : PV} (e : bList x = some r) : BltIs .list [x] r := by
  cases x <;> first | (cases e; done) | skip
  · obtain ⟨hz, e⟩ := ifz_inv e
    cases e; exact .listD _ hz
  · obtain ⟨hz, e⟩ := ifz_inv e
    cases e; exact .listR _ hz
theorem bTup_is {x r : PV} (e : bTup x = some r) : BltIs .tuple [x] r := by
  obtain ⟨l, h, e1⟩ := obind_inv e
  obtain ⟨hz, e2⟩ := ifz_inv e1
  cases asL_inv h; cases e2; exact .tuple _ hz
theorem bSort_is {x r : PV} (e : bSort x = some r) : BltIs .sorted [x] r := by
  obtain ⟨l, h, e1⟩ := obind_inv e
  obtain ⟨hz, e2⟩ := ifz_inv e1
  obtain ⟨is, hi, e3⟩ := obind_inv e2
  cases asL_inv h; cases e3; exact .sorted _ _ hz hi
theorem blt2_is {b : Blt} {x y r : PV} (e : blt2 b x y = some r) : BltIs b [x, y] r := by
  obtain ⟨hb, e1⟩ := ifz_inv e
  have hb : b = .min := by cases b <;> first | rfl | (cases hb; done)
  subst hb
  cases hi : (asI x).isSome with
  | true =>
    rw [hi] at e1
    obtain ⟨a, h1, e2⟩ := obind_inv e1
    obtain ⟨c, h2, e3⟩ := obind_inv e2
    cases asI_inv h1; cases asI_inv h2; cases e3; exact .minI _ _
  | false =>
    rw [hi] at e1
    obtain ⟨a, h1, e4⟩ := obind_inv e1
    obtain ⟨c, h2, e5⟩ := obind_inv e4
    cases asF_inv h1; cases asF_inv h2; cases e5; exact .minF _ _
theorem bFl3_is {f : UInt64 → UInt64 → UInt64} {x y z r : PV} (e : bFl3 f x y z = some r) : ∃ a b c, x = .flt a ∧ y = .flt b ∧ z = .flt c ∧ r = .flt (f (f a b) c) := by
  obtain ⟨a, h1, e1⟩ := obind_inv e
  obtain ⟨b, h2, e2⟩ := obind_inv e1
  obtain ⟨c, h3, e3⟩ := obind_inv e2
  cases e3
  exact ⟨a, b, c, asF_inv h1, asF_inv h2, asF_inv h3, rfl⟩
theorem blt3_is {b : Blt} {x y z r : PV} (e : blt3 b x y z = some r) : BltIs b [x, y, z] r := by
  unfold blt3 at e
  cases hm : isMin b with
  | true =>
    have hb : b = .min := by cases b <;> first | rfl | (cases hm; done)
    subst hb
    rw [hm] at e
    obtain ⟨a, b, c, rfl, rfl, rfl, rfl⟩ := bFl3_is e
    exact .min3 _ _ _
  | false =>
    rw [hm] at e
    obtain ⟨hb, e1⟩ := ifz_inv e
    have hb : b = .max := by cases b <;> first | rfl | (cases hb; done)
    subst hb
    obtain ⟨a, b, c, rfl, rfl, rfl, rfl⟩ := bFl3_is e1
    exact .max3 _ _ _
theorem blt_is {b : Blt} {args : List PV} {r : PV} (e : blt b args = some r) : BltIs b args r := by
  rcases args with _ | ⟨x, _ | ⟨y, _ | ⟨z, _ | ⟨u, q⟩⟩⟩⟩
  · cases e
  · cases b <;> first | exact bLen_is e | exact bSum_is e | exact bInt_is e | exact bRange_is e | exact bList_is e | exact bTup_is e | exact bSort_is e | (cases e; done)
  · exact blt2_is e
  · exact blt3_is e
  · cases e

noncomputable def mthId : Mth → String
  | .join => "str.join"
  | .index => "str.index"

noncomputable def replaceC (s : List Nat) (c : Nat) (t : List Nat) : List Nat := s.flatMap fun x => if x == c then t else [x]
noncomputable def idxOf? (c : Nat) : List Nat → Option Nat
  | [] => Option.none
  | x :: r => if x == c then some 0 else (idxOf? c r).map (· + 1)
noncomputable def mJoin (s : List Nat) (a : PV) : Option PV := match s with
  | [] => obind (asL a) fun l => obind (strsOf l) fun ss => ifz (szOk ss.flatten.length) (some (.str ss.flatten))
  | _ => Option.none
noncomputable def one1 : List Nat → Option Nat
  | [c] => some c
  | _ => Option.none
noncomputable def mIndex (s : List Nat) (a : PV) : Option PV := obind (asS a) fun t => obind (one1 t) fun c => obind (idxOf? c s) fun k => some (.int ((k : Nat) : Int))
noncomputable def mth1 (m : Mth) (s : List Nat) (a : PV) : Option PV := match m with
  | .join => mJoin s a
  | .index => mIndex s a
noncomputable def mth (m : Mth) (o : PV) (args : List PV) : Option PV := match args with
  | [a] => obind (asS o) fun s => mth1 m s a
  | _ => Option.none
inductive MthIs : Mth → PV → List PV → PV → Prop where
  | join (l : List PV) (ss : List (List Nat)) (hs : strsOf l = some ss) (hz : szOk ss.flatten.length = true) : MthIs .join (.str []) [.list l] (.str ss.flatten)
  | index (l : List Nat) (c k : Nat) (hk : idxOf? c l = some k) : MthIs .index (.str l) [.str [c]] (.int ((k : Nat) : Int))
theorem one1_inv {t : List Nat} {c : Nat} (h : one1 t = some c) : t = [c] := by
  rcases t with _ | ⟨d, _ | _⟩ <;> first | (cases h; rfl) | (cases h; done)
theorem mth_is {m : Mth} {o r : PV} {args : List PV} (e : mth m o args = some r) : MthIs m o args r := by
  rcases args with _ | ⟨a, _ | ⟨b, q⟩⟩
  · cases e
  · obtain ⟨s, h1, e1⟩ := obind_inv e
    cases asS_inv h1
    cases m with
    | join =>
      cases s with
      | cons _ _ => cases e1
      | nil =>
        obtain ⟨l, h2, e2⟩ := obind_inv e1
        obtain ⟨ss, h3, e3⟩ := obind_inv e2
        obtain ⟨hz, e4⟩ := ifz_inv e3
        cases asL_inv h2; cases e4; exact .join _ _ h3 hz
    | index =>
      obtain ⟨t, h2, e2⟩ := obind_inv e1
      obtain ⟨c, h3, e3⟩ := obind_inv e2
      obtain ⟨k, h4, e4⟩ := obind_inv e3
      cases asS_inv h2; cases one1_inv h3; cases e4; exact .index _ _ _ h4
  · cases e

/-! ## the terms -/
set_option genInjectivity false
mutual
inductive X where
  | cst (v : PV)
  | var (i : Nat)
  | neg (a : X)
  | bin (op : Operator) (a b : X)
  | cmp (op : CmpOp) (a b : X)
  | bop (isAnd : Bool) (l : XL)
  | not (a : X)
  | ite (c a b : X)
  | lst (l : XL)
  | tup (l : XL)
  | dic (l : XL)
  | sub (a i : X)
  | slc (a lo hi st : X)
  | call (f : Nat) (l : XL)
  | blt (b : Blt) (l : XL)
  | mth (m : Mth) (o : X) (l : XL)
  | rpl (o : X) (c : Nat) (t : List Nat)
  | comp (elt iter cond : X)
inductive XL where
  | nil
  | cons (a : X) (l : XL)
end

set_option genInjectivity true
inductive Sl where
  | no
  | v (p : PV)
  | o (p : PV)
noncomputable def Sl.val : Sl → Option PV
  | .no => Option.none
  | .v p => some p
  | .o p => some p
noncomputable def Sl.drop : Sl → Sl
  | .o p => .v p
  | x => x

abbrev Ρ := List Sl

set_option genInjectivity false
mutual
inductive S where
  | asg (i : Nat) (own : Bool) (e : X)
  | unp (is : List Nat) (own : Bool) (e : X)
  | aug (i : Nat) (op : Operator) (e : X)
  | setI (i : Nat) (k e : X)
  | augI (i : Nat) (k : X) (op : Operator) (e : X)
  | app (i : Nat) (e : X)
  | ret (e : X)
  | ite (c : X) (a b : SL)
  | fr (is : List Nat) (iter : X) (b : SL)
  | frz (i j : Nat) (a b : X) (body : SL)
  | whl (c : X) (b : SL)
  | tr (b : SL)
inductive SL where
  | nil
  | cons (a : S) (l : SL)
end

set_option genInjectivity true
abbrev Orc := Nat → List PV → Option PV

noncomputable def mapC (f : PV → Option Bool) (g : PV → Option PV) : List PV → Option (List PV)
  | [] => some []
  | x :: r => match f x with
    | some true => match g x with
      | some y => match mapC f g r with
        | some ys => some (y :: ys)
        | Option.none => Option.none
      | Option.none => Option.none
    | some false => mapC f g r
    | Option.none => Option.none

noncomputable def pairsOf : List PV → Option (List (List Nat × PV))
  | [] => some []
  | [.str k, v] => some [(k, v)]
  | _ => Option.none

mutual
noncomputable def ev (C : Orc) : X → Ρ → Option PV
  | .cst v, _ => some v
  | .var i, ρ => match ρ[i]? with | some s => s.val | Option.none => Option.none
  | .neg a, ρ => match ev C a ρ with | some (.int i) => some (.int (-i)) | _ => Option.none
  | .bin op a b, ρ => match ev C a ρ with
    | some x => match ev C b ρ with | some y => binop op x y | Option.none => Option.none
    | Option.none => Option.none
  | .cmp op a b, ρ => match ev C a ρ with
    | some x => match ev C b ρ with | some y => (cmpop op x y).map .bool | Option.none => Option.none
    | Option.none => Option.none
  | .bop isAnd l, ρ => evB C isAnd l ρ
  | .not a, ρ => match ev C a ρ with | some x => (truth x).map fun b => .bool (!b) | Option.none => Option.none
  | .ite c a b, ρ => match ev C c ρ with
    | some x => match truth x with
      | some true => ev C a ρ
      | some false => ev C b ρ
      | Option.none => Option.none
    | Option.none => Option.none
  | .lst l, ρ => match evL C l ρ with | some vs => if szOk vs.length then some (.list vs) else Option.none | Option.none => Option.none
  | .tup l, ρ => match evL C l ρ with | some vs => if szOk vs.length then some (.tup vs) else Option.none | Option.none => Option.none
  | .dic l, ρ => match evL C l ρ with | some vs => (pairsOf vs).map .dict | Option.none => Option.none
  | .sub a i, ρ => match ev C a ρ with
    | some x => match ev C i ρ with | some y => getI x y | Option.none => Option.none
    | Option.none => Option.none
  | .slc a lo hi st, ρ => match ev C a ρ with
    | some x => match ev C lo ρ with
      | some l => match ev C hi ρ with
        | some h => match ev C st ρ with
          | some t => slice x l h t
          | Option.none => Option.none
        | Option.none => Option.none
      | Option.none => Option.none
    | Option.none => Option.none
  | .call f l, ρ => match evL C l ρ with | some vs => C f vs | Option.none => Option.none
  | .blt b l, ρ => match evL C l ρ with | some vs => blt b vs | Option.none => Option.none
  | .mth m o l, ρ => match ev C o ρ with
    | some x => match evL C l ρ with | some vs => mth m x vs | Option.none => Option.none
    | Option.none => Option.none
  | .rpl o c t, ρ => match ev C o ρ with
    | some (.str s) => if szOk ((s.length + 1) * (t.length + 1)) then some (.str (replaceC s c t)) else Option.none
    | _ => Option.none
  | .comp elt iter cond, ρ => match ev C iter ρ with
    | some x => match itemsOf x with
      | some items => (mapC (fun v => match ev C cond (.v v :: ρ) with | some c => truth c | Option.none => Option.none) (fun v => ev C elt (.v v :: ρ)) items).map .list
      | Option.none => Option.none
    | Option.none => Option.none
noncomputable def evL (C : Orc) : XL → Ρ → Option (List PV)
  | .nil, _ => some []
  | .cons a l, ρ => match ev C a ρ with
    | some x => match evL C l ρ with | some r => some (x :: r) | Option.none => Option.none
    | Option.none => Option.none
noncomputable def evB (C : Orc) (isAnd : Bool) : XL → Ρ → Option PV
  | .nil, _ => Option.none
  | .cons a l, ρ => match ev C a ρ with
    | some x => match l with
      | .nil => some x
      | .cons _ _ => match truth x with
        | some b => if b == isAnd then evB C isAnd l ρ else some x
        | Option.none => Option.none
    | Option.none => Option.none
end

/-! ## which names may an answer share -/
noncomputable def scalar : PV → Bool
  | .none => true
  | .bool _ => true
  | .int _ => true
  | .flt _ => true
  | .str _ => true
  | _ => false
noncomputable def mixes : Operator → Bool
  | .Add => true
  | .Mult => true
  | _ => false
noncomputable def hands : Blt → Bool
  | .list => true
  | .tuple => true
  | .sorted => true
  | _ => false
mutual
noncomputable def al : X → List Nat
  | .var i => [i]
  | .bop _ l => alL l
  | .ite _ a b => al a ++ al b
  | .lst l => alL l
  | .tup l => alL l
  | .dic l => alL l
  | .sub a _ => al a
  | .slc a _ _ _ => al a
  | .bin op a b => if mixes op then al a ++ al b else []
  | .call _ l => alL l
  | .blt b l => if hands b then alL l else []
  | .comp elt iter _ => al iter ++ ((al elt).filterMap fun i => match i with | 0 => Option.none | k + 1 => some k)
  | .cst _ => []
  | .neg _ => []
  | .cmp _ _ _ => []
  | .not _ => []
  | .mth _ _ _ => []
  | .rpl _ _ _ => []
noncomputable def alL : XL → List Nat
  | .nil => []
  | .cons a l => al a ++ alL l
end

noncomputable def dropAt (ρ : Ρ) : List Nat → Ρ
  | [] => ρ
  | i :: r => dropAt (ρ.modify i Sl.drop) r

noncomputable def dropFor (ρ : Ρ) (e : X) (v : PV) : Ρ := if scalar v then ρ else dropAt ρ (al e)

noncomputable def setAt (ρ : Ρ) (i : Nat) (x : Sl) : Option Ρ := if Nat.blt i ρ.length then some (ρ.set i x) else Option.none

inductive Res where
  | nxt (ρ : Ρ)
  | ret (v : PV)

noncomputable def setEach (ρ : Ρ) (own : Bool) : List Nat → List PV → Option Ρ
  | [], [] => some ρ
  | i :: is, v :: vs => match setAt ρ i (if own then .o v else .v v) with
    | some ρ' => setEach ρ' own is vs
    | Option.none => Option.none
  | _, _ => Option.none

noncomputable def put (k : List Nat) (v : PV) : List (List Nat × PV) → List (List Nat × PV)
  | [] => [(k, v)]
  | (k', v') :: r => if k' == k then (k', v) :: r else (k', v') :: put k v r

noncomputable def storeI (c k v : PV) : Option PV :=
  match c, k with
  | .list l, .int i => if szOk l.length && (decide (0 ≤ i) && decide (i < l.length)) then some (.list (l.set i.toNat v)) else Option.none
  | .dict l, .str k => if szOk l.length then some (.dict (put k v l)) else Option.none
  | _, _ => Option.none

/-- x += y, of numbers and of texts -/
noncomputable def augop : Operator → PV → PV → Option PV
  | .Add, .int a, .int b => some (.int (a + b))
  | .Add, .str a, .str b => if szOk (a.length + b.length) then some (.str (a ++ b)) else Option.none
  | _, _, _ => Option.none

noncomputable def isTupOfNil : X → Bool
  | .tup (.cons (.lst .nil) (.cons (.lst .nil) .nil)) => true
  | _ => false

noncomputable def isFresh : X → Bool
  | .lst _ => true
  | .comp _ _ _ => true
  | .dic _ => true
  | .bin .Mult (.lst _) _ => true
  | _ => false

noncomputable def forEach (step : Ρ → PV → Option Res) : List PV → Ρ → Option Res
  | [], ρ => some (.nxt ρ)
  | x :: r, ρ => match step ρ x with
    | some (.nxt ρ') => forEach step r ρ'
    | o => o

noncomputable def whileN (test : Ρ → Option Bool) (step : Ρ → Option Res) : Nat → Ρ → Option Res
  | 0, _ => Option.none
  | n + 1, ρ => match test ρ with
    | some true => match step ρ with
      | some (.nxt ρ') => whileN test step n ρ'
      | o => o
    | some false => some (.nxt ρ)
    | Option.none => Option.none

noncomputable def seqOf : PV → Option (List PV)
  | .list l => some l
  | .tup l => some l
  | _ => Option.none

noncomputable def bindEach (ρ : Ρ) : List Nat → PV → Option Ρ
  | [i], v => setAt ρ i (.v v)
  | is, v => match seqOf v with | some vs => setEach ρ false is vs | Option.none => Option.none

noncomputable def zipV : List PV → List PV → List PV
  | a :: r, b :: q => .tup [a, b] :: zipV r q
  | _, _ => []

/-- a text of plain signs beside a list -/
noncomputable def zipItems (x y : PV) : Option (List PV) := obind (asS x) fun s => obind (asL y) fun l => ifz (s.all fun c => Nat.blt c 128) (ifz (szOk s.length) (ifz (szOk l.length) (some (zipV (s.map fun c => PV.str [c]) l))))
noncomputable def whileMost : Nat := 1000

mutual
noncomputable def ex (C : Orc) : S → Ρ → Option Res
  | .asg i own e, ρ => match ev C e ρ with
    | some v => (setAt (dropFor ρ e v) i (if own && isFresh e then .o v else .v v)).map .nxt
    | Option.none => Option.none
  | .unp is own e, ρ => match ev C e ρ with
    | some (.tup vs) => (setEach (dropAt ρ (al e)) (own && isTupOfNil e) is vs).map .nxt
    | _ => Option.none
  | .aug i op e, ρ => match ρ[i]? with
    | some s => match s.val with
      | some old => match ev C e ρ with
        | some v => match augop op old v with
          | some x => (setAt ρ i (.v x)).map .nxt
          | Option.none => Option.none
        | Option.none => Option.none
      | Option.none => Option.none
    | Option.none => Option.none
  | .setI i k e, ρ => match ev C e ρ with
    | some v => match ev C k ρ with
      | some kv => match (dropFor ρ e v)[i]? with
        | some (.o c) => match storeI c kv v with
          | some c' => (setAt (dropFor ρ e v) i (.o c')).map .nxt
          | Option.none => Option.none
        | _ => Option.none
      | Option.none => Option.none
    | Option.none => Option.none
  | .augI i k op e, ρ => match ρ[i]? with
    | some (.o c) => match ev C k ρ with
      | some kv => match getI c kv with
        | some old => match ev C e ρ with
          | some v => match augop op old v with
            | some x => match storeI c kv x with
              | some c' => (setAt ρ i (.o c')).map .nxt
              | Option.none => Option.none
            | Option.none => Option.none
          | Option.none => Option.none
        | Option.none => Option.none
      | Option.none => Option.none
    | _ => Option.none
  | .app i e, ρ => match ev C e ρ with
    | some v => match (dropFor ρ e v)[i]? with
      | some (.o (.list l)) => if szOk l.length then (setAt (dropFor ρ e v) i (.o (.list (l ++ [v])))).map .nxt else Option.none
      | _ => Option.none
    | Option.none => Option.none
  | .ret e, ρ => (ev C e ρ).map .ret
  | .ite c a b, ρ => match ev C c ρ with
    | some x => match truth x with
      | some true => exs C a ρ
      | some false => exs C b ρ
      | Option.none => Option.none
    | Option.none => Option.none
  | .fr is iter b, ρ => match ev C iter ρ with
    | some x => match itemsOf x with
      | some items => forEach (fun ρ v => match bindEach ρ is v with | some ρ' => exs C b ρ' | Option.none => Option.none) items (dropAt ρ (al iter))
      | Option.none => Option.none
    | Option.none => Option.none
  | .frz i j a b body, ρ => match ev C a ρ with
    | some x => match ev C b ρ with
      | some y => match zipItems x y with
        | some items => forEach (fun ρ v => match bindEach ρ [i, j] v with | some ρ' => exs C body ρ' | Option.none => Option.none) items (dropAt ρ (alL (.cons a (.cons b .nil))))
        | Option.none => Option.none
      | Option.none => Option.none
    | Option.none => Option.none
  | .whl c b, ρ => whileN (fun ρ => match ev C c ρ with | some x => truth x | Option.none => Option.none) (fun ρ => exs C b ρ) whileMost ρ
  | .tr b, ρ => exs C b ρ
noncomputable def exs (C : Orc) : SL → Ρ → Option Res
  | .nil, ρ => some (.nxt ρ)
  | .cons a l, ρ => match ex C a ρ with
    | some (.nxt ρ') => exs C l ρ'
    | o => o
end
end Mine
set_option genSizeOf false
set_option genSizeOfSpec false
namespace Mine
open PySem

/-! ## from the text to the terms -/
noncomputable def isVarK : Option NameKind → Bool
  | some .local => true
  | some .cell => true
  | _ => false
noncomputable def isGlobK : Option NameKind → Bool
  | some .globalImplicit => true
  | _ => false

noncomputable def varAt (sc : Scope) (vars : List Str) (x : Str) : Option Nat :=
  if isVarK (sc.names.lookup x) && !(x == ("__debug__" : Str)) && !(x == (".0" : Str)) then vars.findIdx? (· == x) else Option.none

noncomputable def cstOf : Const → Option PV
  | .none => some .none
  | .bool b => some (.bool b)
  | .int i => some (.int i)
  | .float x => some (.flt x)
  | .str s => some (.str s.cps.toList)
  | _ => Option.none

noncomputable def bltOf (f : Str) : Option Blt :=
  if f == ("len" : Str) then some .len
  else if f == ("sum" : Str) then some .sum
  else if f == ("int" : Str) then some .int
  else if f == ("min" : Str) then some .min
  else if f == ("max" : Str) then some .max
  else if f == ("range" : Str) then some .range
  else if f == ("list" : Str) then some .list
  else if f == ("tuple" : Str) then some .tuple
  else if f == ("sorted" : Str) then some .sorted
  else Option.none
noncomputable def mthOf (f : Str) : Option Mth :=
  if f == ("join" : Str) then some .join
  else if f == ("index" : Str) then some .index
  else Option.none

/-! ### views: what is behind a text, one step deep -/
set_option genInjectivity false
inductive EV where
  | cst (c : Const)
  | name (x : Str)
  | not (a : Expr)
  | neg (a : Expr)
  | bin (op : Operator) (a b : Expr)
  | cmp (op : CmpOp) (a b : Expr)
  | bop (op : BoolOp) (es : List Expr)
  | ite (c a b : Expr)
  | lst (es : List Expr)
  | tup (es : List Expr)
  | dic0
  | dic1 (k v : Expr)
  | slc (a : Expr) (lo hi st : Option Expr)
  | sub (a i : Expr)
  | meth (o : Expr) (m : Str) (as : List Expr)
  | call (f : Str) (as : List Expr)
  | comp (elt iter : Expr) (x : Str) (ifs : List Expr) (scope : Scope)
  | other

noncomputable def plainBase : Expr → Bool
  | .Name .. => true
  | .Constant .. => true
  | _ => false
inductive IsV : Expr → EV → Prop where
  | cst (c : Const) (k : Nat) (p : Pos) : IsV (.Constant c k p) (.cst c)
  | name (x : Str) (p : Pos) : IsV (.Name x p) (.name x)
  | not (a : Expr) (p : Pos) : IsV (.UnaryOp .Not a p) (.not a)
  | neg (a : Expr) (p : Pos) : IsV (.UnaryOp .USub a p) (.neg a)
  | bin (op : Operator) (a b : Expr) (p : Pos) : IsV (.BinOp a op b p) (.bin op a b)
  | cmp (op : CmpOp) (a b : Expr) (p : Pos) : IsV (.Compare a [op] [b] p) (.cmp op a b)
  | bop (op : BoolOp) (es : List Expr) (p : Pos) : IsV (.BoolOp op es p) (.bop op es)
  | ite (c a b : Expr) (p : Pos) : IsV (.IfExp c a b p) (.ite c a b)
  | lst (es : List Expr) (p : Pos) : IsV (.List es p) (.lst es)
  | tup (es : List Expr) (k : Nat) (p : Pos) : IsV (.Tuple es k p) (.tup es)
  | dic0 (p : Pos) : IsV (.Dict [] [] p) .dic0
  | dic1 (k v : Expr) (p : Pos) : IsV (.Dict [some k] [v] p) (.dic1 k v)
  | slc (a : Expr) (lo hi st : Option Expr) (q p : Pos) : IsV (.Subscript a (.Slice lo hi st q) p) (.slc a lo hi st)
  | sub (a i : Expr) (p : Pos) : IsV (.Subscript a i p) (.sub a i)
  | meth (o : Expr) (m : Str) (apos : Pos) (as : List Expr) (p : Pos) (h : plainBase o = true) (hl : (apos.endLine == p.line) = true) : IsV (.Call (.Attribute o m apos) as [] p) (.meth o m as)
  | call (f : Str) (q : Pos) (as : List Expr) (p : Pos) : IsV (.Call (.Name f q) as [] p) (.call f as)
  | comp (elt iter : Expr) (x : Str) (q : Pos) (ifs : List Expr) (scope : Scope) (p : Pos) : IsV (.ListComp elt [⟨.Name x q, iter, ifs, 0⟩] scope p) (.comp elt iter x ifs scope)
  | other (e : Expr) : IsV e .other

noncomputable def unV (op : UnaryOp) (a : Expr) : EV := match op with
  | .Not => .not a
  | .USub => .neg a
  | _ => .other
theorem unV_ok {op : UnaryOp} {a : Expr} {p : Pos} : IsV (.UnaryOp op a p) (unV op a) := by
  cases op <;> first | exact .not .. | exact .neg .. | exact .other _
noncomputable def cmpV (a : Expr) (ops : List CmpOp) (bs : List Expr) : EV := match ops with
  | [op] => match bs with
    | [b] => .cmp op a b
    | _ => .other
  | _ => .other
theorem cmpV_ok {a : Expr} {ops : List CmpOp} {bs : List Expr} {p : Pos} : IsV (.Compare a ops bs p) (cmpV a ops bs) := by
  rcases ops with _ | ⟨op, _ | _⟩ <;> first | exact .other _ | skip
  rcases bs with _ | ⟨b, _ | _⟩ <;> first | exact .other _ | exact .cmp ..
noncomputable def dicV (ks : List (Option Expr)) (vs : List Expr) : EV := match ks with
  | [] => match vs with
    | [] => .dic0
    | _ => .other
  | [some k] => match vs with
    | [v] => .dic1 k v
    | _ => .other
  | _ => .other
theorem dicV_ok {ks : List (Option Expr)} {vs : List Expr} {p : Pos} : IsV (.Dict ks vs p) (dicV ks vs) := by
  rcases ks with _ | ⟨_ | k, _ | _⟩ <;> rcases vs with _ | ⟨v, _ | _⟩ <;> first | exact .other _ | exact .dic0 .. | exact .dic1 ..
noncomputable def subV (a i : Expr) : EV := match i with
  | .Slice lo hi st _ => .slc a lo hi st
  | _ => .sub a i
theorem subV_ok {a i : Expr} {p : Pos} : IsV (.Subscript a i p) (subV a i) := by
  cases i <;> first | exact .slc .. | exact .sub ..
noncomputable def methV (b l : Bool) (o : Expr) (m : Str) (as : List Expr) : EV := match b with
  | true => match l with
    | true => .meth o m as
    | false => .other
  | false => .other
noncomputable def callV (f : Expr) (as : List Expr) (p : Pos) : EV := match f with
  | .Attribute o m apos => methV (plainBase o) (apos.endLine == p.line) o m as
  | .Name f _ => .call f as
  | _ => .other
theorem callV_ok {f : Expr} {as : List Expr} {p : Pos} : IsV (.Call f as [] p) (callV f as p) := by
  cases f <;> first | exact .call .. | exact .other _ | skip
  rename_i o m apos
  show IsV _ (methV (plainBase o) (apos.endLine == p.line) o m as)
  cases h : plainBase o <;> cases hl : (apos.endLine == p.line) <;> first | exact .other _ | exact .meth _ _ _ _ _ h hl
noncomputable def compV (elt : Expr) (gs : List Comprehension) (scope : Scope) : EV := match gs with
  | [⟨t, iter, ifs, n⟩] => match n with
    | .ofNat n => match n with
      | 0 => match t with
        | .Name x _ => .comp elt iter x ifs scope
        | _ => .other
      | _ => .other
    | _ => .other
  | _ => .other
theorem compV_ok {elt : Expr} {gs : List Comprehension} {scope : Scope} {p : Pos} : IsV (.ListComp elt gs scope p) (compV elt gs scope) := by
  rcases gs with _ | ⟨⟨t, iter, ifs, n⟩, _ | _⟩ <;> first | exact .other _ | skip
  rcases n with (_ | n) | n
  · cases t <;> first | exact .comp .. | exact .other _
  · exact .other _
  · exact .other _
noncomputable def viewE : Expr → EV
  | .Constant c _ _ => .cst c
  | .Name x _ => .name x
  | .UnaryOp op a _ => unV op a
  | .BinOp a op b _ => .bin op a b
  | .Compare a ops bs _ => cmpV a ops bs
  | .BoolOp op es _ => .bop op es
  | .IfExp c a b _ => .ite c a b
  | .List es _ => .lst es
  | .Tuple es _ _ => .tup es
  | .Dict ks vs _ => dicV ks vs
  | .Subscript a i _ => subV a i
  | .Call f as ks p => match ks with
    | [] => callV f as p
    | _ => .other
  | .ListComp elt gs scope _ => compV elt gs scope
  | _ => .other
theorem viewE_ok (e : Expr) : IsV e (viewE e) := by
  cases e <;> first | exact .other _ | exact .cst .. | exact .name .. | exact unV_ok | exact .bin .. | exact cmpV_ok | exact .bop .. | exact .ite .. | exact .lst .. | exact .tup .. | exact dicV_ok | exact subV_ok | exact compV_ok | skip
  rename_i f as ks p
  cases ks with
  | nil => exact callV_ok
  | cons _ _ => exact .other _

noncomputable def nameV : EV → Option Str
  | .name x => some x
  | _ => none
noncomputable def nameE (e : Expr) : Option Str := nameV (viewE e)
theorem nameE_inv {e : Expr} {x : Str} (h : nameE e = some x) : ∃ p, e = .Name x p := by
  have hv := viewE_ok e
  unfold nameE at h
  generalize viewE e = v at hv h
  cases hv <;> first | (cases h; exact ⟨_, rfl⟩) | (cases h; done)
noncomputable def strC : Const → Option Str
  | .str s => some s
  | _ => none
noncomputable def strV : EV → Option Str
  | .cst c => strC c
  | _ => none
noncomputable def strE (e : Expr) : Option Str := strV (viewE e)
theorem strE_inv {e : Expr} {x : Str} (h : strE e = some x) : ∃ k p, e = .Constant (.str x) k p := by
  have hv := viewE_ok e
  unfold strE at h
  generalize viewE e = v at hv h
  cases hv <;> first | (cases h; done) | skip
  rename_i c k p
  cases c <;> first | (cases h; exact ⟨_, _, rfl⟩) | (cases h; done)

noncomputable def rpl3 (a t : List Nat) : Option (Nat × List Nat) := match a with
  | [c] => match [c] == t with
    | true => none
    | false => some (c, t)
  | _ => none
noncomputable def rplOf (as : List Expr) : Option (Nat × List Nat) := match as with
  | [a, b] => match strE a with
    | some a => match strE b with
      | some b => rpl3 a.cps.toList b.cps.toList
      | none => none
    | none => none
  | _ => none

noncomputable def relab (scope sc : Scope) : Scope :=
  { scope with names := scope.names.map fun (n, k) => if (k == .free && sc.kind == .function && sc.names.lookup n == some .cell) then (n, .cell) else (n, k) }

noncomputable def compOk (scope sc : Scope) (x : Str) : Bool :=
  scope.kind == .function && sc.kind == .function &&
  scope.names.all (fun p => p.2 != .free || sc.names.lookup p.1 == some .cell) &&
  scope.names.all (fun p => scope.names.lookup p.1 == some p.2) &&
  isVarK (scope.names.lookup x) && !(x == (".0" : Str)) && !(x == ("__debug__" : Str)) &&
  scope.names.all (fun p => !(isVarK (some p.2)) || p.1 == x || p.1 == (".0" : Str)) &&
  (scope.names.lookup (".0" : Str) == some .local)

noncomputable def cxL (f : Expr → Option X) : List Expr → Option XL
  | [] => some .nil
  | e :: r => match f e, cxL f r with
    | some a, some l => some (.cons a l)
    | _, _ => Option.none

noncomputable def cxO (f : Expr → Option X) : Option Expr → Option X
  | Option.none => some (.cst .none)
  | some e => f e

noncomputable def cxSome (f : X → X) : Option X → Option X
  | some a => some (f a)
  | none => none
noncomputable def cxLs (f : XL → X) : Option XL → Option X
  | some a => some (f a)
  | none => none
noncomputable def cx2 (f : X → X → X) : Option X → Option X → Option X
  | some a, o => match o with
    | some b => some (f a b)
    | none => none
  | none, _ => none
noncomputable def cx3 (f : X → X → X → X) : Option X → Option X → Option X → Option X
  | some a, o, q => cx2 (f a) o q
  | none, _, _ => none
noncomputable def cx4 (f : X → X → X → X → X) : Option X → Option X → Option X → Option X → Option X
  | some a, o, q, r => cx3 (f a) o q r
  | none, _, _, _ => none
noncomputable def cxMeth (rec : Expr → Option X) (o : Expr) (m : Str) (as : List Expr) : Option X := match m == ("replace" : Str) with
  | true => match rec o with
    | some x => match rplOf as with
      | some (c, t) => some (.rpl x c t)
      | none => none
    | none => none
  | false => match mthOf m with
    | some m' => match rec o with
      | some x => match as with
        | [a] => match rec a with
          | some y => some (.mth m' x (.cons y .nil))
          | none => none
        | _ => none
      | none => none
    | none => none
noncomputable def cxCall (rec : Expr → Option X) (ft : List Str) (sc : Scope) (f : Str) (as : List Expr) : Option X := match isGlobK (sc.names.lookup f) with
  | true => match cxL rec as with
    | some l => match ft.findIdx? (· == f) with
      | some k => some (.call k l)
      | none => match bltOf f with
        | some b => some (.blt b l)
        | none => none
    | none => none
  | false => none
noncomputable def cxIfs (rec' : Expr → Option X) (i y : X) (ifs : List Expr) : Option X := match ifs with
  | [] => some (.comp y i (.cst (.bool true)))
  | [c] => obind (rec' c) fun z => some (.comp y i z)
  | _ => none
noncomputable def cxComp (rec : Expr → Option X) (rec' : Expr → Option X) (elt iter : Expr) (ifs : List Expr) : Option X := obind (rec iter) fun i => obind (rec' elt) fun y => cxIfs rec' i y ifs
noncomputable def cxCst : Option PV → Option X
  | some v => some (.cst v)
  | none => none
noncomputable def cxVar : Option Nat → Option X
  | some i => some (.var i)
  | none => none
noncomputable def cxV (rec : Scope → List Str → Expr → Option X) (ft : List Str) (sc : Scope) (vars : List Str) : EV → Option X
  | .cst c => cxCst (cstOf c)
  | .name x => cxVar (varAt sc vars x)
  | .not _ => none
  | .neg a => cxSome .neg (rec sc vars a)
  | .bin op a b => cx2 (.bin op) (rec sc vars a) (rec sc vars b)
  | .cmp op a b => cx2 (.cmp op) (rec sc vars a) (rec sc vars b)
  | .bop op es => cxLs (.bop (op == .And)) (cxL (rec sc vars) es)
  | .ite c a b => cx3 .ite (rec sc vars c) (rec sc vars a) (rec sc vars b)
  | .lst es => cxLs .lst (cxL (rec sc vars) es)
  | .tup es => cxLs .tup (cxL (rec sc vars) es)
  | .dic0 => some (.dic .nil)
  | .dic1 _ _ => none
  | .slc a lo hi st => cx4 .slc (rec sc vars a) (cxO (rec sc vars) lo) (cxO (rec sc vars) hi) (cxO (rec sc vars) st)
  | .sub a i => cx2 .sub (rec sc vars a) (rec sc vars i)
  | .meth o m as => cxMeth (rec sc vars) o m as
  | .call f as => cxCall (rec sc vars) ft sc f as
  | .comp elt iter x ifs scope => ifz (compOk scope sc x) (cxComp (rec sc vars) (rec (relab scope sc) (x :: vars)) elt iter ifs)
  | .other => none
noncomputable def cx : Nat → List Str → Scope → List Str → Expr → Option X
  | 0, _, _, _, _ => none
  | n + 1, ft, sc, vars, e => cxV (cx n ft) ft sc vars (viewE e)

noncomputable def namesOf (sc : Scope) (vars : List Str) : List Expr → Option (List Nat)
  | [] => some []
  | e :: r => match nameE e with
    | some x => match varAt sc vars x with
      | some i => match namesOf sc vars r with
        | some l => some (i :: l)
        | none => none
      | none => none
    | none => none

noncomputable def csL (f : Stmt → Option S) : List Stmt → Option SL
  | [] => some .nil
  | e :: r => match f e, csL f r with
    | some a, some l => some (.cons a l)
    | _, _ => Option.none

noncomputable def isZip (e : Expr) : Option (Expr × Expr) := match viewE e with
  | .call f as => match f == ("zip" : Str) with
    | true => match as with
      | [a, b] => some (a, b)
      | _ => none
    | false => none
  | _ => none

noncomputable def isNilL (e : Expr) : Bool := match viewE e with
  | .lst es => match es with
    | [] => true
    | _ => false
  | _ => false
noncomputable def nilTwo : List Expr → Bool
  | [a, b] => isNilL a && isNilL b
  | _ => false
noncomputable def nilPair (v : Expr) : Bool := match viewE v with
  | .tup es => nilTwo es
  | _ => false
/-- a tuple whose stores the model can order -/
noncomputable def plainSwap : Expr → Bool
  | .Tuple vs _ _ => vs.all (foldedForSure 8) || !vs.all (constantsAlone 8)
  | .ListComp .. => false
  | _ => true

inductive SV where
  | asgN (y : Str) (v : Expr)
  | asgT (ts : List Expr) (v : Expr)
  | asgI (o : Str) (k v : Expr)
  | augN (y : Str) (op : Operator) (v : Expr)
  | augI (o : Str) (k : Expr) (op : Operator) (v : Expr)
  | app (o : Str) (a : Expr)
  | ret (v : Expr)
  | ite (c : Expr) (a b : List Stmt)
  | forN (y : Str) (it : Expr) (b : List Stmt)
  | forT (ts : List Expr) (it : Expr) (b : List Stmt)
  | whl (c : Expr) (b : List Stmt)
  | tr (b : List Stmt)
  | other
inductive IsS : Stmt → SV → Prop where
  | asgN (y : Str) (q : Pos) (v : Expr) (p : Pos) : IsS (.Assign [.Name y q] v p) (.asgN y v)
  | asgT (ts : List Expr) (k : Nat) (q : Pos) (v : Expr) (p : Pos) : IsS (.Assign [.Tuple ts k q] v p) (.asgT ts v)
  | asgI (o : Str) (q : Pos) (k : Expr) (r : Pos) (v : Expr) (p : Pos) : IsS (.Assign [.Subscript (.Name o q) k r] v p) (.asgI o k v)
  | augN (y : Str) (q : Pos) (op : Operator) (v : Expr) (p : Pos) : IsS (.AugAssign (.Name y q) op v p) (.augN y op v)
  | augI (o : Str) (q : Pos) (k : Expr) (r : Pos) (op : Operator) (v : Expr) (p : Pos) : IsS (.AugAssign (.Subscript (.Name o q) k r) op v p) (.augI o k op v)
  | app (o : Str) (q apos : Pos) (a : Expr) (cpos p : Pos) (hl : (apos.endLine == cpos.line) = true) : IsS (.Expr (.Call (.Attribute (.Name o q) "append" apos) [a] [] cpos) p) (.app o a)
  | ret (v : Expr) (p : Pos) : IsS (.Return (some v) p) (.ret v)
  | ite (c : Expr) (a b : List Stmt) (p : Pos) : IsS (.If c a b p) (.ite c a b)
  | forN (y : Str) (q : Pos) (it : Expr) (b : List Stmt) (p : Pos) : IsS (.For (.Name y q) it b [] p) (.forN y it b)
  | forT (ts : List Expr) (k : Nat) (q : Pos) (it : Expr) (b : List Stmt) (p : Pos) : IsS (.For (.Tuple ts k q) it b [] p) (.forT ts it b)
  | whl (c : Expr) (b : List Stmt) (p : Pos) : IsS (.While c b [] p) (.whl c b)
  | tr (b : List Stmt) (h : ExceptHandler) (hs : List ExceptHandler) (p : Pos) : IsS (.Try b (h :: hs) [] [] p) (.tr b)
  | other (s : Stmt) : IsS s .other

/-- a target -/
inductive TV where
  | name (y : Str)
  | tup (ts : List Expr)
  | item (o : Str) (k : Expr)
  | other
inductive IsT : Expr → TV → Prop where
  | name (y : Str) (q : Pos) : IsT (.Name y q) (.name y)
  | tup (ts : List Expr) (k : Nat) (q : Pos) : IsT (.Tuple ts k q) (.tup ts)
  | item (o : Str) (q : Pos) (k : Expr) (r : Pos) : IsT (.Subscript (.Name o q) k r) (.item o k)
  | other (e : Expr) : IsT e .other
noncomputable def itemT (o : Option Str) (k : Expr) : TV := match o with
  | some o => .item o k
  | none => .other
noncomputable def viewT : Expr → TV
  | .Name y _ => .name y
  | .Tuple ts _ _ => .tup ts
  | .Subscript o k _ => itemT (nameE o) k
  | _ => .other
theorem viewT_ok (e : Expr) : IsT e (viewT e) := by
  cases e <;> first | exact .other _ | exact .name .. | exact .tup .. | skip
  rename_i o k r
  show IsT _ (itemT (nameE o) k)
  cases h : nameE o with
  | none => exact .other _
  | some x => obtain ⟨q, rfl⟩ := nameE_inv h; exact .item ..
noncomputable def asg1 (v : Expr) : TV → SV
  | .name y => .asgN y v
  | .tup ts => .asgT ts v
  | .item o k => .asgI o k v
  | .other => .other
noncomputable def asgV (ts : List Expr) (v : Expr) : SV := match ts with
  | [t] => asg1 v (viewT t)
  | _ => .other
theorem asgV_ok {ts : List Expr} {v : Expr} {p : Pos} : IsS (.Assign ts v p) (asgV ts v) := by
  rcases ts with _ | ⟨t, _ | _⟩ <;> first | exact .other _ | skip
  have h := viewT_ok t
  show IsS _ (asg1 v (viewT t))
  generalize viewT t = w at h ⊢
  cases h <;> first | exact .asgN .. | exact .asgT .. | exact .asgI .. | exact .other _
noncomputable def aug1 (op : Operator) (v : Expr) : TV → SV
  | .name y => .augN y op v
  | .item o k => .augI o k op v
  | _ => .other
noncomputable def augV (t : Expr) (op : Operator) (v : Expr) : SV := aug1 op v (viewT t)
theorem augV_ok {t : Expr} {op : Operator} {v : Expr} {p : Pos} : IsS (.AugAssign t op v p) (augV t op v) := by
  have h := viewT_ok t
  unfold augV
  generalize viewT t = w at h ⊢
  cases h <;> first | exact .augN .. | exact .augI .. | exact .other _
noncomputable def for1 (it : Expr) (b : List Stmt) : TV → SV
  | .name y => .forN y it b
  | .tup ts => .forT ts it b
  | _ => .other
noncomputable def forV (t it : Expr) (b els : List Stmt) : SV := match els with
  | [] => for1 it b (viewT t)
  | _ => .other
theorem forV_ok {t it : Expr} {b els : List Stmt} {p : Pos} : IsS (.For t it b els p) (forV t it b els) := by
  cases els with
  | cons _ _ => exact .other _
  | nil =>
    have h := viewT_ok t
    show IsS _ (for1 it b (viewT t))
    generalize viewT t = w at h ⊢
    cases h <;> first | exact .forN .. | exact .forT .. | exact .other _
noncomputable def appV (o : Option Str) (m : Str) (l : Bool) (as : List Expr) : SV := match o with
  | some o => match m == ("append" : Str) with
    | true => match l with
      | true => match as with
        | [a] => .app o a
        | _ => .other
      | false => .other
    | false => .other
  | none => .other
noncomputable def appF (f : Expr) (as : List Expr) (cpos : Pos) : SV := match f with
  | .Attribute o m apos => appV (nameE o) m (apos.endLine == cpos.line) as
  | _ => .other
noncomputable def exprV (e : Expr) : SV := match e with
  | .Call f as ks cpos => match ks with
    | [] => appF f as cpos
    | _ => .other
  | _ => .other
theorem exprV_ok {e : Expr} {p : Pos} : IsS (.Expr e p) (exprV e) := by
  cases e <;> first | exact .other _ | skip
  rename_i f as ks cpos
  cases ks with
  | cons _ _ => exact .other _
  | nil =>
    cases f <;> first | exact .other _ | skip
    rename_i o m apos
    show IsS _ (appV (nameE o) m (apos.endLine == cpos.line) as)
    cases h : nameE o with
    | none => exact .other _
    | some x =>
      obtain ⟨q, rfl⟩ := nameE_inv h
      unfold appV
      dsimp only
      cases hm : m == ("append" : Str) with
      | false => exact .other _
      | true =>
        have hm := eq_of_beq hm
        subst hm
        cases hl : apos.endLine == cpos.line with
        | false => exact .other _
        | true => rcases as with _ | ⟨a, _ | _⟩ <;> first | exact .other _ | exact .app _ _ _ _ _ _ hl
noncomputable def retV : Option Expr → SV
  | some v => .ret v
  | none => .other
noncomputable def whlV (c : Expr) (b els : List Stmt) : SV := match els with
  | [] => .whl c b
  | _ => .other
noncomputable def trV (b : List Stmt) (hs : List ExceptHandler) (els fin : List Stmt) : SV := match hs with
  | _ :: _ => match els with
    | [] => match fin with
      | [] => .tr b
      | _ => .other
    | _ => .other
  | [] => .other
noncomputable def viewS : Stmt → SV
  | .Assign ts v _ => asgV ts v
  | .AugAssign t op v _ => augV t op v
  | .Expr e _ => exprV e
  | .Return v _ => retV v
  | .If c a b _ => .ite c a b
  | .For t it b els _ => forV t it b els
  | .While c b els _ => whlV c b els
  | .Try b hs els fin _ => trV b hs els fin
  | _ => .other
theorem viewS_ok (s : Stmt) : IsS s (viewS s) := by
  cases s <;> first | exact .other _ | exact asgV_ok | exact augV_ok | exact exprV_ok | exact .ite .. | exact forV_ok | skip
  · rename_i v p
    cases v with
    | none => exact .other _
    | some v => exact .ret ..
  · rename_i c b els p
    cases els with
    | nil => exact .whl ..
    | cons _ _ => exact .other _
  · rename_i b hs els fin p
    rcases hs with _ | ⟨h, hs⟩ <;> rcases els with _ | ⟨_, _⟩ <;> rcases fin with _ | ⟨_, _⟩ <;> first | exact .other _ | exact .tr ..

noncomputable def s1 (f : X → S) : Option X → Option S
  | some a => some (f a)
  | none => none
noncomputable def s2 (f : X → X → S) : Option X → Option X → Option S
  | some a, o => s1 (f a) o
  | none, _ => none
noncomputable def sAt (o : Option Nat) (f : Nat → Option S) : Option S := match o with
  | some i => f i
  | none => none
noncomputable def sIs (o : Option (List Nat)) (f : List Nat → Option S) : Option S := match o with
  | some i => f i
  | none => none
noncomputable def sL (f : SL → S) : Option SL → Option S
  | some a => some (f a)
  | none => none
noncomputable def sX (o : Option X) (f : X → Option S) : Option S := match o with
  | some i => f i
  | none => none
noncomputable def sLL (o : Option SL) (f : SL → Option S) : Option S := match o with
  | some i => f i
  | none => none
noncomputable def sIf (b : Bool) (o : Option S) : Option S := match b with
  | true => o
  | false => none
noncomputable def zipS (ce : Expr → Option X) (is : List Nat) (p : Option (Expr × Expr)) (body : SL) : Option S := match is with
  | [i, j] => match p with
    | some (e1, e2) => s2 (fun x y => .frz i j x y body) (ce e1) (ce e2)
    | none => none
  | _ => none
noncomputable def csV (zp : Bool) (rec : Stmt → Option S) (ce : Expr → Option X) (sc : Scope) (vars : List Str) : SV → Option S
  | .asgN y v => sAt (varAt sc vars y) fun i => s1 (.asg i true) (ce v)
  | .asgT ts v => sIf (!(nilPair v) && (plainSwap v && (Nat.ble 2 ts.length && Nat.ble ts.length 3))) (sIs (namesOf sc vars ts) fun is => s1 (.unp is false) (ce v))
  | .asgI o k v => sAt (varAt sc vars o) fun i => s2 (.setI i) (ce k) (ce v)
  | .augN _ _ _ => none
  | .augI o k op v => sAt (varAt sc vars o) fun i => s2 (fun a e => .augI i a op e) (ce k) (ce v)
  | .app o a => sAt (varAt sc vars o) fun i => s1 (.app i) (ce a)
  | .ret v => s1 .ret (ce v)
  | .ite c a b => sX (ce c) fun x => sLL (csL rec a) fun y => sL (.ite x y) (csL rec b)
  | .forN y it b => sAt (varAt sc vars y) fun i => sX (ce it) fun e => sL (.fr [i] e) (csL rec b)
  | .forT ts it b => sIf (zp && isGlobK (sc.names.lookup ("zip" : Str))) (sIs (namesOf sc vars ts) fun is => sLL (csL rec b) fun body => zipS ce is (isZip it) body)
  | .whl _ _ => none
  | .tr b => sL .tr (csL rec b)
  | .other => none
noncomputable def cs (zp : Bool) : Nat → List Str → Scope → List Str → Stmt → Option S
  | 0, _, _, _, _ => none
  | n + 1, ft, sc, vars, st => csV zp (cs zp n ft sc vars) (cx n ft sc vars) sc vars (viewS st)

structure Fn where
  np : Nat
  nv : Nat
  body : SL

noncomputable def varsOf (ps : List Str) (sc : Scope) : List Str := ps ++ ((sc.names.filter fun p => isVarK (some p.2) && !(ps.contains p.1)).map (·.1))

noncomputable def paramsOf : Arguments → Option (List Str)
  | ⟨[], as, Option.none, [], [], Option.none, []⟩ => some (as.map (·.arg))
  | _ => Option.none

noncomputable def run (C : Orc) (f : Fn) (args : List PV) : Option PV :=
  if args.length == f.np then
    match exs C f.body (args.map .v ++ List.replicate (f.nv - f.np) .no) with
    | some (.ret v) => some v
    | _ => Option.none
  else Option.none

end Mine
namespace Mine
open PySem PyProof.Rows

/-- the fixed part: the program, the world, the top's names -/
structure Cx where
  prog : Program
  w : World
  p : Program
  loose : List Str
  mean : ExcName → Option Value
  mg : Str → Option Value
  mb : Str → Option Value

abbrev Cx.M (K : Cx) : Model := model K.prog K.w
structure Cx.T (K : Cx) (h : Heap) : Prop where
  top : Top K.p K.loose K.mean K.mg K.mb h
  nb : PySem.NoneBooked h
theorem Cx.T.keep {K : Cx} {h h' : Heap} (e : K.T h) (hk : ∀ b o, h.get? b = some o → h'.get? b = some o) : K.T h' :=
  ⟨e.top.keeps hk, let ⟨mc, a, b⟩ := e.nb; ⟨mc, a.keeps hk, b⟩⟩

/-- which float a token stands for -/
abbrev Tk := Tok → UInt64 → Prop
structure TokOk (s : Shared) (τ : Tk) : Prop where
  pos : 0 < s.toks
  bound : ∀ t x, τ t x → 0 < t ∧ t < s.toks
  inj : ∀ t x y, τ t x → τ t y → x = y
/-- heap and tokens -/
structure Hp where
  h : Heap
  τ : Tk

/-- wpAny, shut: so that no elaborator looks into it -/
structure Wp {α : Type} (M : Model) (A : Around) (t : Sem α) (Q : α → Shared → Prop) (E : Value → Shared → Prop) (s : Shared) : Prop where
  out : wpAny M A t Q E s
structure Cp (M : Model) (A : Around) (c : Code) (R : Result → Shared → Prop) (s : Shared) : Prop where
  out : codeAny M A c R s

noncomputable def PL (h : Heap) (a : Addr) (vs : List Value) : Prop := ∃ n, h.get? a = some { cls := .type "list", data := .seq vs.toArray n }
noncomputable def PT (h : Heap) (a : Addr) (vs : List Value) : Prop := ∃ n, h.get? a = some { cls := .type "tuple", data := .seq vs.toArray n }

abbrev sOf (l : List Nat) : Str := ⟨l.toArray⟩

noncomputable def PD (K : Cx) (h : Heap) (a : Addr) (kvs : List (Str × Value)) : Prop := h.DictOf (PySem.strKind K.prog K.w) a kvs ∧ (a == sysModules) = false

mutual
noncomputable def Rd (K : Cx) (g : Hp) (X : Addr → Prop) : Value → PV → Prop
  | v, .none => v = .none
  | v, .bool b => v = .bool b
  | v, .int i => ∃ t, v = .int i t
  | v, .flt x => ∃ t, v = .float x t ∧ g.τ t x
  | v, .str l => ∃ t, v = .str (sOf l) t
  | v, .list l => ∃ a vs, v = .ref a ∧ ¬ X a ∧ PL g.h a vs ∧ RdL K g X vs l
  | v, .tup l => ∃ a vs, v = .ref a ∧ ¬ X a ∧ PT g.h a vs ∧ RdL K g X vs l
  | v, .dict l => ∃ a kvs, v = .ref a ∧ ¬ X a ∧ PD K g.h a kvs ∧ RdD K g X kvs l
  | v, .rng n => ∃ a t u r, v = .ref a ∧ ¬ X a ∧ PySem.IsRange g.h a 0 n 1 t u r
noncomputable def RdL (K : Cx) (g : Hp) (X : Addr → Prop) : List Value → List PV → Prop
  | vs, [] => vs = []
  | vs, p :: l => ∃ v r, vs = v :: r ∧ Rd K g X v p ∧ RdL K g X r l
noncomputable def RdD (K : Cx) (g : Hp) (X : Addr → Prop) : List (Str × Value) → List (List Nat × PV) → Prop
  | vs, [] => vs = []
  | vs, (k, p) :: l => ∃ v r, vs = (sOf k, v) :: r ∧ Rd K g X v p ∧ RdD K g X r l
end

/-- the same of a name's own object: its items keep off X, it itself may be in it -/
noncomputable def RdTop (K : Cx) (g : Hp) (X : Addr → Prop) (a : Addr) : PV → Prop
  | .list l => ∃ vs, PL g.h a vs ∧ RdL K g X vs l
  | .dict l => ∃ kvs, PD K g.h a kvs ∧ RdD K g X kvs l
  | _ => False

/-- the state grows -/
structure Ext (s : Shared) (τ : Tk) (s' : Shared) (τ' : Tk) : Prop where
  gens : s'.gens = s.gens
  os : s'.os = s.os
  keep : ∀ b o, s.heap.get? b = some o → s'.heap.get? b = some o
  sub : ∀ t x, τ t x → τ' t x
  ok : TokOk s' τ'

theorem TokOk.le {s s' : Shared} {τ : Tk} (e : TokOk s τ) (h : s.toks ≤ s'.toks) : TokOk s' τ := ⟨Nat.lt_of_lt_of_le e.pos h, fun t x q => ⟨(e.bound t x q).1, Nat.lt_of_lt_of_le (e.bound t x q).2 h⟩, e.inj⟩
theorem Ext.refl {s : Shared} {τ : Tk} (h : TokOk s τ) : Ext s τ s τ := ⟨rfl, rfl, fun _ _ e => e, fun _ _ e => e, h⟩
theorem Ext.trans {s s' s'' : Shared} {τ τ' τ'' : Tk} (a : Ext s τ s' τ') (b : Ext s' τ' s'' τ'') : Ext s τ s'' τ'' :=
  ⟨b.gens.trans a.gens, b.os.trans a.os, fun x o e => b.keep x o (a.keep x o e), fun t x e => b.sub t x (a.sub t x e), b.ok⟩
theorem Ext.of {s : Shared} {τ : Tk} {h : Heap} {t : Nat} (k : ∀ b o, s.heap.get? b = some o → h.get? b = some o) (T : TokOk s τ) (hle : s.toks ≤ t) : Ext s τ { s with heap := h, toks := t } τ :=
  ⟨rfl, rfl, k, fun _ _ e => e, T.le hle⟩
theorem Ext.tok {s : Shared} {τ : Tk} (T : TokOk s τ) {t : Nat} (hle : s.toks ≤ t) : Ext s τ { s with toks := t } τ := ⟨rfl, rfl, fun _ _ e => e, fun _ _ e => e, T.le hle⟩
theorem Ext.tok1 {s : Shared} {τ : Tk} (T : TokOk s τ) : Ext s τ { s with toks := s.toks + 1 } τ := .tok T (Nat.le_succ _)
theorem Ext.push {s : Shared} {τ : Tk} {o : Obj} (T : TokOk s τ) : Ext s τ { s with heap := s.heap.push o } τ := ⟨rfl, rfl, fun _ _ e => Heap.get?_push_of_some _ e, fun _ _ e => e, T.le (Nat.le_refl _)⟩
theorem Ext.heap {s : Shared} {τ : Tk} {h : Heap} (T : TokOk s τ) (k : ∀ b o, s.heap.get? b = some o → h.get? b = some o) : Ext s τ { s with heap := h } τ := ⟨rfl, rfl, k, fun _ _ e => e, T.le (Nat.le_refl _)⟩
/-- a new float -/
noncomputable def addTk (τ : Tk) (t : Tok) (x : UInt64) : Tk := fun u y => τ u y ∨ (u = t ∧ y = x)
theorem Ext.flt {s : Shared} {τ : Tk} (T : TokOk s τ) (x : UInt64) : Ext s τ { s with toks := s.toks + 1 } (addTk τ s.toks x) :=
  ⟨rfl, rfl, fun _ _ e => e, fun _ _ e => .inl e, ⟨Nat.succ_pos _, fun t y q => q.elim (fun q => ⟨(T.bound t y q).1, Nat.lt_succ_of_lt (T.bound t y q).2⟩) (fun q => by rw [q.1]; exact ⟨T.pos, Nat.lt_succ_self _⟩),
    fun t y z q r => by
      rcases q with q | ⟨e1, e2⟩
      · rcases r with r | ⟨e3, e4⟩
        · exact T.inj t y z q r
        · exact absurd (e3 ▸ (T.bound t y q).2) (Nat.lt_irrefl _)
      · rcases r with r | ⟨e3, e4⟩
        · exact absurd (e1 ▸ (T.bound t z r).2) (Nat.lt_irrefl _)
        · rw [e2, e4]⟩⟩

section
variable {α β : Type} {M : Model} {A : Around} {E : Value → Shared → Prop} {s : Shared}
theorem Wp.mono {t : Sem α} {Q Q' : α → Shared → Prop} (h : Wp M A t Q E s) (hQ : ∀ a s, Q a s → Q' a s) : Wp M A t Q' E s := ⟨wpAny_mono h.out hQ fun _ _ x => x⟩
theorem Wp.bind {m : Sem α} {f : α → Sem β} {Q : β → Shared → Prop} (h : Wp M A m (fun a s' => Wp M A (f a) Q E s') E s) : Wp M A (m >>= f) Q E s :=
  ⟨wpAny_bind (wpAny_mono h.out (fun _ _ x => x.out) fun _ _ x => x)⟩
theorem Wp.pure {a : α} {Q : α → Shared → Prop} (h : Q a s) : Wp M A (Pure.pure a) Q E s := ⟨wpAny_pure h⟩
theorem Wp.stand {pos : Pos} {Q : Unit → Shared → Prop} (h : Q () s) : Wp M A (standAt pos) Q E s := ⟨wpAny_standAt h⟩
theorem Wp.holding {vs : List Value} {m : Sem α} {Q : α → Shared → Prop} (h : Wp M A m Q E s) : Wp M A (PySem.holding vs m) Q E s := ⟨wpAny_holding h.out⟩
theorem Wp.of_eq {t : Sem α} {a : α} {Q : α → Shared → Prop} (e : t = Pure.pure a) (h : Q a s) : Wp M A t Q E s := by rw [e]; exact .pure h
theorem Wp.untok {t : Sem α} {Q : α → Shared → Prop} (h : Wp M A t (fun a s' => s.toks ≤ s'.toks → Q a s') E s) : Wp M A t Q E s :=
  ⟨wpAny_mono (wpAny_toks_of (Nat.le_refl _) h.out) (fun _ _ x => x.2 x.1) fun _ _ x => x.2⟩
theorem Wp.operate {vs : List Value} {m : Sem Value} {Q : Value → Shared → Prop} (h : Wp M A m Q E s) : Wp M A (PySem.operate vs m) Q E s := ⟨wpAny_operating h.out⟩
end

section
variable {K : Cx} {g g' : Hp} {X Y : Addr → Prop}

-- keeping, and keeping off less
mutual
theorem Rd.mono (hk : ∀ b o, ¬ Y b → g.h.get? b = some o → g'.h.get? b = some o) (ht : ∀ t x, g.τ t x → g'.τ t x) (hY : ∀ a, Y a → X a) : ∀ {p : PV} {v : Value}, Rd K g X v p → Rd K g' Y v p
  | .none, _, e => e
  | .bool _, _, e => e
  | .int _, _, e => e
  | .flt _, _, e => let ⟨t, a, b⟩ := e; ⟨t, a, ht _ _ b⟩
  | .str _, _, e => e
  | .list l, _, e => by
    obtain ⟨a, vs, rfl, hx, ⟨n, hp⟩, hl⟩ := e
    exact ⟨a, vs, rfl, fun y => hx (hY a y), ⟨n, hk _ _ (fun y => hx (hY a y)) hp⟩, RdL.mono hk ht hY hl⟩
  | .tup l, _, e => by
    obtain ⟨a, vs, rfl, hx, ⟨n, hp⟩, hl⟩ := e
    exact ⟨a, vs, rfl, fun y => hx (hY a y), ⟨n, hk _ _ (fun y => hx (hY a y)) hp⟩, RdL.mono hk ht hY hl⟩
  | .dict l, _, e => by
    obtain ⟨a, kvs, rfl, hx, ⟨⟨o, es, ep, ho, r⟩, hs⟩, hl⟩ := e
    exact ⟨a, kvs, rfl, fun y => hx (hY a y), ⟨⟨o, es, ep, hk _ _ (fun y => hx (hY a y)) ho, r⟩, hs⟩, RdD.mono hk ht hY hl⟩
  | .rng n, _, e => by
    obtain ⟨a, t, u, r, rfl, hx, ho⟩ := e
    exact ⟨a, t, u, r, rfl, fun y => hx (hY a y), hk _ _ (fun y => hx (hY a y)) ho⟩
theorem RdL.mono (hk : ∀ b o, ¬ Y b → g.h.get? b = some o → g'.h.get? b = some o) (ht : ∀ t x, g.τ t x → g'.τ t x) (hY : ∀ a, Y a → X a) : ∀ {l : List PV} {vs : List Value}, RdL K g X vs l → RdL K g' Y vs l
  | [], _, e => e
  | p :: l, _, e => by
    obtain ⟨v, r, rfl, h1, h2⟩ := e
    exact ⟨v, r, rfl, Rd.mono hk ht hY h1, RdL.mono hk ht hY h2⟩
theorem RdD.mono (hk : ∀ b o, ¬ Y b → g.h.get? b = some o → g'.h.get? b = some o) (ht : ∀ t x, g.τ t x → g'.τ t x) (hY : ∀ a, Y a → X a) : ∀ {l : List (List Nat × PV)} {vs : List (Str × Value)}, RdD K g X vs l → RdD K g' Y vs l
  | [], _, e => e
  | (k, p) :: l, _, e => by
    obtain ⟨v, r, rfl, h1, h2⟩ := e
    exact ⟨v, r, rfl, Rd.mono hk ht hY h1, RdD.mono hk ht hY h2⟩
end

-- keeping off one more that is not there
mutual
theorem Rd.more {N : Addr → Prop} (ha : ∀ a, N a → g.h.get? a = none) : ∀ {p : PV} {v : Value}, Rd K g X v p → Rd K g (fun b => X b ∨ N b) v p
  | .none, _, e => e
  | .bool _, _, e => e
  | .int _, _, e => e
  | .flt _, _, e => e
  | .str _, _, e => e
  | .list l, _, e => by
    obtain ⟨b, vs, rfl, hx, ⟨n, hp⟩, hl⟩ := e
    exact ⟨b, vs, rfl, fun y => Or.elim y hx (fun y => by rw [ha b y] at hp; cases hp), ⟨n, hp⟩, RdL.more ha hl⟩
  | .tup l, _, e => by
    obtain ⟨b, vs, rfl, hx, ⟨n, hp⟩, hl⟩ := e
    exact ⟨b, vs, rfl, fun y => Or.elim y hx (fun y => by rw [ha b y] at hp; cases hp), ⟨n, hp⟩, RdL.more ha hl⟩
  | .dict l, _, e => by
    obtain ⟨b, kvs, rfl, hx, ⟨⟨o, es, ep, ho, r⟩, hs⟩, hl⟩ := e
    exact ⟨b, kvs, rfl, fun y => Or.elim y hx (fun y => by rw [ha b y] at ho; cases ho), ⟨⟨o, es, ep, ho, r⟩, hs⟩, RdD.more ha hl⟩
  | .rng n, _, e => by
    obtain ⟨b, t, u, r, rfl, hx, ho⟩ := e
    exact ⟨b, t, u, r, rfl, fun y => Or.elim y hx (fun y => by unfold PySem.IsRange at ho; rw [ha b y] at ho; cases ho), ho⟩
theorem RdL.more {N : Addr → Prop} (ha : ∀ a, N a → g.h.get? a = none) : ∀ {l : List PV} {vs : List Value}, RdL K g X vs l → RdL K g (fun b => X b ∨ N b) vs l
  | [], _, e => e
  | p :: l, _, e => by
    obtain ⟨v, r, rfl, h1, h2⟩ := e
    exact ⟨v, r, rfl, Rd.more ha h1, RdL.more ha h2⟩
theorem RdD.more {N : Addr → Prop} (ha : ∀ a, N a → g.h.get? a = none) : ∀ {l : List (List Nat × PV)} {vs : List (Str × Value)}, RdD K g X vs l → RdD K g (fun b => X b ∨ N b) vs l
  | [], _, e => e
  | (k, p) :: l, _, e => by
    obtain ⟨v, r, rfl, h1, h2⟩ := e
    exact ⟨v, r, rfl, Rd.more ha h1, RdD.more ha h2⟩
end

theorem Rd.keep (hk : ∀ b o, g.h.get? b = some o → g'.h.get? b = some o) (ht : ∀ t x, g.τ t x → g'.τ t x) {p : PV} {v : Value} (e : Rd K g X v p) : Rd K g' X v p := Rd.mono (fun b o _ => hk b o) ht (fun _ y => y) e
theorem RdL.keep (hk : ∀ b o, g.h.get? b = some o → g'.h.get? b = some o) (ht : ∀ t x, g.τ t x → g'.τ t x) {p : List PV} {v : List Value} (e : RdL K g X v p) : RdL K g' X v p := RdL.mono (fun b o _ => hk b o) ht (fun _ y => y) e
theorem RdD.keep (hk : ∀ b o, g.h.get? b = some o → g'.h.get? b = some o) (ht : ∀ t x, g.τ t x → g'.τ t x) {p : List (List Nat × PV)} {v : List (Str × Value)} (e : RdD K g X v p) : RdD K g' X v p := RdD.mono (fun b o _ => hk b o) ht (fun _ y => y) e
theorem Rd.less (hY : ∀ a, Y a → X a) {p : PV} {v : Value} (e : Rd K g X v p) : Rd K g Y v p := Rd.mono (fun _ _ _ x => x) (fun _ _ x => x) hY e
theorem RdL.less (hY : ∀ a, Y a → X a) {p : List PV} {v : List Value} (e : RdL K g X v p) : RdL K g Y v p := RdL.mono (fun _ _ _ x => x) (fun _ _ x => x) hY e
theorem RdD.less (hY : ∀ a, Y a → X a) {p : List (List Nat × PV)} {v : List (Str × Value)} (e : RdD K g X v p) : RdD K g Y v p := RdD.mono (fun _ _ _ x => x) (fun _ _ x => x) hY e

theorem RdL.length : ∀ {l : List PV} {vs : List Value}, RdL K g X vs l → vs.length = l.length
  | [], _, e => by cases e; rfl
  | p :: l, _, e => by
    obtain ⟨v, r, rfl, _, h2⟩ := e
    simp [RdL.length h2]
theorem RdL.get : ∀ {l : List PV} {vs : List Value} {i : Nat} {p : PV}, RdL K g X vs l → l[i]? = some p → ∃ v, vs[i]? = some v ∧ Rd K g X v p
  | [], _, _, _, _, e => by simp at e
  | q :: l, _, 0, p, e, g => by
    obtain ⟨v, r, rfl, h1, _⟩ := e
    simp at g; subst g
    exact ⟨v, by simp, h1⟩
  | q :: l, _, i + 1, p, e, g => by
    obtain ⟨v, r, rfl, _, h2⟩ := e
    simp at g
    obtain ⟨v', e1, e2⟩ := RdL.get h2 g
    exact ⟨v', by simpa using e1, e2⟩
theorem RdL.get' : ∀ {l : List PV} {vs : List Value} {i : Nat} {v : Value}, RdL K g X vs l → vs[i]? = some v → ∃ p, l[i]? = some p ∧ Rd K g X v p
  | [], _, _, _, e, g => by cases e; simp at g
  | q :: l, _, 0, p, e, g => by
    obtain ⟨v, r, rfl, h1, _⟩ := e
    simp at g; subst g
    exact ⟨q, by simp, h1⟩
  | q :: l, _, i + 1, p, e, g => by
    obtain ⟨v, r, rfl, _, h2⟩ := e
    simp at g
    obtain ⟨v', e1, e2⟩ := RdL.get' h2 g
    exact ⟨v', by simpa using e1, e2⟩
theorem RdL.append : ∀ {l m : List PV} {vs ws : List Value}, RdL K g X vs l → RdL K g X ws m → RdL K g X (vs ++ ws) (l ++ m)
  | [], _, _, _, e, f => by cases e; exact f
  | p :: l, m, _, ws, e, f => by
    obtain ⟨v, r, rfl, h1, h2⟩ := e
    exact ⟨v, r ++ ws, rfl, h1, RdL.append h2 f⟩
theorem RdL.take : ∀ {l : List PV} {vs : List Value} (k : Nat), RdL K g X vs l → RdL K g X (vs.take k) (l.take k)
  | _, _, 0, _ => by simp [RdL]
  | [], _, _ + 1, e => by cases e; simp [RdL]
  | p :: l, _, k + 1, e => by
    obtain ⟨v, r, rfl, h1, h2⟩ := e
    exact ⟨v, r.take k, rfl, h1, RdL.take k h2⟩
theorem RdL.drop : ∀ {l : List PV} {vs : List Value} (k : Nat), RdL K g X vs l → RdL K g X (vs.drop k) (l.drop k)
  | _, _, 0, e => by simpa using e
  | [], _, _ + 1, e => by cases e; simp [RdL]
  | p :: l, _, k + 1, e => by
    obtain ⟨v, r, rfl, h1, h2⟩ := e
    simpa using RdL.drop k h2
theorem RdL.single {v : Value} {p : PV} (e : Rd K g X v p) : RdL K g X [v] [p] := ⟨v, [], rfl, e, rfl⟩
theorem RdL.reverse : ∀ {l : List PV} {vs : List Value}, RdL K g X vs l → RdL K g X vs.reverse l.reverse
  | [], _, e => by cases e; simp [RdL]
  | p :: l, _, e => by
    obtain ⟨v, r, rfl, h1, h2⟩ := e
    rw [List.reverse_cons, List.reverse_cons]
    exact RdL.append (RdL.reverse h2) (RdL.single h1)
theorem RdL.set : ∀ {l : List PV} {vs : List Value} (i : Nat) {v : Value} {p : PV}, RdL K g X vs l → Rd K g X v p → RdL K g X (vs.set i v) (l.set i p)
  | [], _, _, _, _, e, _ => by cases e; simp [RdL]
  | q :: l, _, 0, w, p, e, f => by
    obtain ⟨v, r, rfl, h1, h2⟩ := e
    exact ⟨w, r, rfl, f, h2⟩
  | q :: l, _, i + 1, w, p, e, f => by
    obtain ⟨v, r, rfl, h1, h2⟩ := e
    exact ⟨v, r.set i w, rfl, h1, RdL.set i h2 f⟩
theorem RdL.rep : ∀ {l : List PV} {vs : List Value} (k : Nat), RdL K g X vs l → RdL K g X (Mine.rep vs k) (Mine.rep l k)
  | _, _, 0, _ => rfl
  | _, _, k + 1, e => RdL.append e (RdL.rep k e)

theorem RdL.of_get : ∀ {l : List PV} {vs : List Value}, vs.length = l.length → (∀ (i : Nat) v p, vs[i]? = some v → l[i]? = some p → Rd K g X v p) → RdL K g X vs l
  | [], [], _, _ => rfl
  | p :: l, v :: vs, hn, h => ⟨v, vs, rfl, h 0 v p rfl rfl, RdL.of_get (by simpa using hn) fun i v' p' h1 h2 => h (i + 1) v' p' (by simpa using h1) (by simpa using h2)⟩

theorem PL.isList {h : Heap} {a : Addr} {vs : List Value} (e : PL h a vs) : h.IsList a vs.toArray := let ⟨n, x⟩ := e; ⟨_, x, rfl, n, rfl⟩
theorem PT.isTuple {h : Heap} {a : Addr} {vs : List Value} (e : PT h a vs) : h.IsTuple a vs.toArray := let ⟨n, x⟩ := e; ⟨_, x, rfl, n, rfl⟩
theorem PL.keep {h h' : Heap} {a : Addr} {vs : List Value} (e : PL h a vs) (hk : ∀ b o, h.get? b = some o → h'.get? b = some o) : PL h' a vs := let ⟨n, x⟩ := e; ⟨n, hk _ _ x⟩
theorem PT.keep {h h' : Heap} {a : Addr} {vs : List Value} (e : PT h a vs) (hk : ∀ b o, h.get? b = some o → h'.get? b = some o) : PT h' a vs := let ⟨n, x⟩ := e; ⟨n, hk _ _ x⟩
theorem PD.keep {h h' : Heap} {a : Addr} {vs : List (Str × Value)} (e : PD K h a vs) (hk : ∀ b o, h.get? b = some o → h'.get? b = some o) : PD K h' a vs :=
  let ⟨⟨o, es, ep, ho, r⟩, hs⟩ := e; ⟨⟨o, es, ep, hk _ _ ho, r⟩, hs⟩

theorem RdTop.mono {a : Addr} (hk : ∀ b o, ¬ Y b ∨ b = a → g.h.get? b = some o → g'.h.get? b = some o) (ht : ∀ t x, g.τ t x → g'.τ t x) (hY : ∀ a, Y a → X a) : ∀ {p : PV}, RdTop K g X a p → RdTop K g' Y a p
  | .list l, e => by
    obtain ⟨vs, ⟨n, hp⟩, hl⟩ := e
    exact ⟨vs, ⟨n, hk _ _ (.inr rfl) hp⟩, RdL.mono (fun b o hb => hk b o (.inl hb)) ht hY hl⟩
  | .dict l, e => by
    obtain ⟨kvs, ⟨⟨o, es, ep, ho, r⟩, hs⟩, hl⟩ := e
    exact ⟨kvs, ⟨⟨o, es, ep, hk _ _ (.inr rfl) ho, r⟩, hs⟩, RdD.mono (fun b o hb => hk b o (.inl hb)) ht hY hl⟩
theorem RdTop.keep {a : Addr} (hk : ∀ b o, g.h.get? b = some o → g'.h.get? b = some o) (ht : ∀ t x, g.τ t x → g'.τ t x) {p : PV} (e : RdTop K g X a p) : RdTop K g' X a p := RdTop.mono (fun b o _ => hk b o) ht (fun _ y => y) e
theorem RdTop.more {a : Addr} {N : Addr → Prop} (hc : ∀ a, N a → g.h.get? a = none) : ∀ {p : PV}, RdTop K g X a p → RdTop K g (fun b => X b ∨ N b) a p
  | .list l, e => by
    obtain ⟨vs, hp, hl⟩ := e
    exact ⟨vs, hp, RdL.more hc hl⟩
  | .dict l, e => by
    obtain ⟨kvs, hp, hl⟩ := e
    exact ⟨kvs, hp, RdD.more hc hl⟩
theorem RdTop.rd {a : Addr} (hY : ∀ a, Y a → X a) (ha : ¬ Y a) : ∀ {p : PV}, RdTop K g X a p → Rd K g Y (.ref a) p
  | .list l, e => by
    obtain ⟨vs, hp, hl⟩ := e
    exact ⟨a, vs, rfl, ha, hp, RdL.less hY hl⟩
  | .dict l, e => by
    obtain ⟨kvs, hp, hl⟩ := e
    exact ⟨a, kvs, rfl, ha, hp, RdD.less hY hl⟩
theorem RdTop.live {a : Addr} : ∀ {p : PV}, RdTop K g X a p → ∃ o, g.h.get? a = some o
  | .list l, e => by obtain ⟨vs, ⟨n, hp⟩, hl⟩ := e; exact ⟨_, hp⟩
  | .dict l, e => by obtain ⟨kvs, ⟨⟨o, es, ep, ho, r⟩, hs⟩, hl⟩ := e; exact ⟨_, ho⟩
end

section
variable {K : Cx} {X : Addr → Prop} {s s' : Shared} {τ τ' : Tk} {h h' : Heap}
theorem Rd.ext (x : Ext s τ s' τ') {p : PV} {v : Value} (e : Rd K ⟨s.heap, τ⟩ X v p) : Rd K ⟨s'.heap, τ'⟩ X v p := Rd.keep (g := ⟨s.heap, τ⟩) (g' := ⟨s'.heap, τ'⟩) x.keep x.sub e
theorem RdL.ext (x : Ext s τ s' τ') {p : List PV} {v : List Value} (e : RdL K ⟨s.heap, τ⟩ X v p) : RdL K ⟨s'.heap, τ'⟩ X v p := RdL.keep (g := ⟨s.heap, τ⟩) (g' := ⟨s'.heap, τ'⟩) x.keep x.sub e
theorem RdD.ext (x : Ext s τ s' τ') {p : List (List Nat × PV)} {v : List (Str × Value)} (e : RdD K ⟨s.heap, τ⟩ X v p) : RdD K ⟨s'.heap, τ'⟩ X v p := RdD.keep (g := ⟨s.heap, τ⟩) (g' := ⟨s'.heap, τ'⟩) x.keep x.sub e
theorem RdTop.ext (x : Ext s τ s' τ') {a : Addr} {p : PV} (e : RdTop K ⟨s.heap, τ⟩ X a p) : RdTop K ⟨s'.heap, τ'⟩ X a p := RdTop.keep (g := ⟨s.heap, τ⟩) (g' := ⟨s'.heap, τ'⟩) x.keep x.sub e
theorem Rd.heap (hk : ∀ b o, h.get? b = some o → h'.get? b = some o) {p : PV} {v : Value} (e : Rd K ⟨h, τ⟩ X v p) : Rd K ⟨h', τ⟩ X v p := Rd.keep (g := ⟨h, τ⟩) (g' := ⟨h', τ⟩) hk (fun _ _ x => x) e
theorem RdL.heap (hk : ∀ b o, h.get? b = some o → h'.get? b = some o) {p : List PV} {v : List Value} (e : RdL K ⟨h, τ⟩ X v p) : RdL K ⟨h', τ⟩ X v p := RdL.keep (g := ⟨h, τ⟩) (g' := ⟨h', τ⟩) hk (fun _ _ x => x) e
end

/-- a name's place in the frame -/
noncomputable def At (env : Env) (h : Heap) (x : Str) (v : Value) : Prop :=
  (env.kindOf x = some .local ∧ ∃ m, h.Ns env.locals m ∧ m x = some v) ∨ (env.kindOf x = some .cell ∧ ∃ c, env.cells.lookup x = some c ∧ h.IsCell c (some v))

theorem At.keep {env : Env} {h h' : Heap} {x : Str} {v : Value} (e : At env h x v) (hk : ∀ b o, h.get? b = some o → h'.get? b = some o) : At env h' x v :=
  e.imp (fun ⟨a, m, b, c⟩ => ⟨a, m, b.keeps hk, c⟩) (fun ⟨a, c, b, d⟩ => ⟨a, c, b, d.keeps hk⟩)

noncomputable def Held (K : Cx) (g : Hp) (X : Addr → Prop) (o : Option Addr) (v : Value) (p : PV) : Prop :=
  match o with
  | Option.none => Rd K g X v p
  | some a => v = .ref a ∧ RdTop K g X a p

theorem Held.mono {K : Cx} {g g' : Hp} {X Y : Addr → Prop} {o : Option Addr} {v : Value} {p : PV} (hk : ∀ b ob, ¬ Y b ∨ o = some b → g.h.get? b = some ob → g'.h.get? b = some ob) (ht : ∀ t x, g.τ t x → g'.τ t x) (hY : ∀ a, Y a → X a)
    (e : Held K g X o v p) : Held K g' Y o v p := by
  cases o with
  | none => exact Rd.mono (fun b ob hb => hk b ob (.inl hb)) ht hY e
  | some a => exact ⟨e.1, RdTop.mono (fun b ob hb => hk b ob (hb.imp id fun q => by rw [q])) ht hY e.2⟩
theorem Held.keep {K : Cx} {g g' : Hp} {X : Addr → Prop} {o : Option Addr} {v : Value} {p : PV} (hk : ∀ b ob, g.h.get? b = some ob → g'.h.get? b = some ob) (ht : ∀ t x, g.τ t x → g'.τ t x)
    (e : Held K g X o v p) : Held K g' X o v p := Held.mono (fun b ob _ => hk b ob) ht (fun _ y => y) e
theorem Held.more {K : Cx} {g : Hp} {X : Addr → Prop} {o : Option Addr} {v : Value} {p : PV} {N : Addr → Prop} (hc : ∀ a, N a → g.h.get? a = none)
    (e : Held K g X o v p) : Held K g (fun b => X b ∨ N b) o v p := by
  cases o with
  | none => exact Rd.more hc e
  | some a => exact ⟨e.1, RdTop.more hc e.2⟩

/-- less what the names of l own -/
noncomputable def Off (X : Addr → Prop) (own : Nat → Option Addr) (l : List Nat) : Addr → Prop := fun b => X b ∧ ∀ j ∈ l, own j ≠ some b

theorem Off.sub {X : Addr → Prop} {own : Nat → Option Addr} {l : List Nat} {b : Addr} (e : Off X own l b) : X b := e.1
theorem Off.anti {X : Addr → Prop} {own : Nat → Option Addr} {l l' : List Nat} (hl : ∀ j ∈ l, j ∈ l') {b : Addr} (e : Off X own l' b) : Off X own l b := ⟨e.1, fun j hj => e.2 j (hl j hj)⟩

structure EnvOk (K : Cx) (sc : Scope) (vars : List Str) (env : Env) (g : Hp) (X : Addr → Prop) (own : Nat → Option Addr) (ρ : Ρ) : Prop where
  scope : env.scope = sc
  kind : sc.kind = .function
  globals : env.globals = mainGlobals
  builtins : env.builtins = builtinsNs
  var : ∀ x i p, (x == (".0" : Str)) = false → isVarK (sc.names.lookup x) = true → vars.findIdx? (· == x) = some i → (ρ[i]?).bind Sl.val = some p → ∃ v, At env g.h x v ∧ Held K g X (own i) v p
  cell : ∀ x, sc.names.lookup x = some .cell → ∃ c, env.cells.lookup x = some c

theorem EnvOk.keep {K : Cx} {sc : Scope} {vars : List Str} {env : Env} {g g' : Hp} {X : Addr → Prop} {own : Nat → Option Addr} {ρ : Ρ} (e : EnvOk K sc vars env g X own ρ)
    (hk : ∀ b o, g.h.get? b = some o → g'.h.get? b = some o) (ht : ∀ t x, g.τ t x → g'.τ t x) : EnvOk K sc vars env g' X own ρ :=
  ⟨e.scope, e.kind, e.globals, e.builtins, fun x i p h0 h1 h2 h3 => let ⟨v, a, b⟩ := e.var x i p h0 h1 h2 h3; ⟨v, a.keep hk, b.keep hk ht⟩, e.cell⟩

theorem EnvOk.ext {K : Cx} {sc : Scope} {vars : List Str} {env : Env} {s s' : Shared} {τ τ' : Tk} {X : Addr → Prop} {own : Nat → Option Addr} {ρ : Ρ} (e : EnvOk K sc vars env ⟨s.heap, τ⟩ X own ρ)
    (x : Ext s τ s' τ') : EnvOk K sc vars env ⟨s'.heap, τ'⟩ X own ρ := EnvOk.keep (g := ⟨s.heap, τ⟩) (g' := ⟨s'.heap, τ'⟩) e x.keep x.sub

theorem EnvOk.more {K : Cx} {sc : Scope} {vars : List Str} {env : Env} {g : Hp} {X N : Addr → Prop} {own : Nat → Option Addr} {ρ : Ρ} (e : EnvOk K sc vars env g X own ρ) (hc : ∀ a, N a → g.h.get? a = none) :
    EnvOk K sc vars env g (fun b => X b ∨ N b) own ρ :=
  ⟨e.scope, e.kind, e.globals, e.builtins, fun x i p h0 h1 h2 h3 => let ⟨v, a, b⟩ := e.var x i p h0 h1 h2 h3; ⟨v, a, b.more hc⟩, e.cell⟩
theorem Held.less {K : Cx} {g : Hp} {X Y : Addr → Prop} {o : Option Addr} {v : Value} {p : PV} (hY : ∀ a, Y a → X a) (e : Held K g X o v p) : Held K g Y o v p := Held.mono (fun _ _ _ x => x) (fun _ _ x => x) hY e
theorem EnvOk.less {K : Cx} {sc : Scope} {vars : List Str} {env : Env} {g : Hp} {X Y : Addr → Prop} {own : Nat → Option Addr} {ρ : Ρ} (e : EnvOk K sc vars env g X own ρ) (hY : ∀ a, Y a → X a) :
    EnvOk K sc vars env g Y own ρ :=
  ⟨e.scope, e.kind, e.globals, e.builtins, fun x i p h0 h1 h2 h3 => let ⟨v, a, b⟩ := e.var x i p h0 h1 h2 h3; ⟨v, a, b.less hY⟩, e.cell⟩
theorem Rd.scalar {K : Cx} {g : Hp} {X Y : Addr → Prop} {v : Value} {p : PV} (hp : Mine.scalar p = true) (e : Rd K g X v p) : Rd K g Y v p := by
  cases p <;> first | exact e | cases hp

noncomputable def XD (h : Heap) (X : Addr → Prop) : Prop := ∀ a, X a → ∃ o, h.get? a = some o
theorem XD.keep {h h' : Heap} {X : Addr → Prop} (e : XD h X) (hk : ∀ b o, h.get? b = some o → h'.get? b = some o) : XD h' X := fun a x => let ⟨o, ho⟩ := e a x; ⟨o, hk a o ho⟩
theorem XD.fresh {h : Heap} {X : Addr → Prop} (e : XD h X) {a : Addr} (ha : h.get? a = none) : ¬ X a := fun x => by obtain ⟨o, ho⟩ := e a x; rw [ha] at ho; cases ho
theorem get_size (h : Heap) : h.get? h.objs.size = none := by
  cases e : h.get? h.objs.size with
  | none => rfl
  | some o => exact absurd (Heap.lt_size e) (Nat.lt_irrefl _)

structure Room (n : Nat) (A : Around) : Prop where
  handled : A.handled = none
  depth : A.depth + n < recursionLimit
  units : A.units + 100 * n + 100 < cLine

theorem Room.less {n m : Nat} {A : Around} (r : Room n A) (h : m ≤ n) : Room m A := ⟨r.handled, by have := r.depth; omega, by have := r.units; omega⟩

/-- what a call of the f-th def is to do -/
noncomputable def Runs (K : Cx) (ft : List Str) (n : Nat) (f : Nat) (args : List PV) (r : PV) : Prop :=
  ∀ (name : Str) (A : Around) (s : Shared) (τ : Tk) (X : Addr → Prop) (vs : List Value) (fa : Addr), ft[f]? = some name → K.mg name = some (.ref fa) → Room n A → K.T s.heap → TokOk s τ → RdL K ⟨s.heap, τ⟩ X vs args → XD s.heap X →
    ∀ R : Result → Shared → Prop, (∀ v s' τ', Ext s τ s' τ' → Rd K ⟨s'.heap, τ'⟩ X v r → R (.ok (.ret v)) s') → Cp K.M A (.call (.ref fa) ⟨vs, []⟩) R s

noncomputable def Sound (K : Cx) (ft : List Str) (n : Nat) (C : Orc) : Prop := ∀ f args r, C f args = some r → Runs K ft n f args r

/-- what a fresh answer is -/
noncomputable def FreshRd (K : Cx) (h : Heap) (g : Hp) (X : Addr → Prop) (v : Value) (p : PV) : Prop :=
  ∃ a, v = .ref a ∧ h.get? a = none ∧ RdTop K g (fun b => X b ∨ b = a) a p

theorem FreshRd.rd {K : Cx} {h : Heap} {g : Hp} {X : Addr → Prop} {v : Value} {p : PV} (e : FreshRd K h g X v p) (hX : XD h X) : Rd K g X v p := by
  obtain ⟨a, rfl, h1, h2⟩ := e
  exact RdTop.rd (fun _ y => .inl y) (hX.fresh h1) h2
end Mine
namespace Mine
open PySem PyProof.Rows

theorem append_sOf (a b : List Nat) : sOf a ++ sOf b = sOf (a ++ b) := by
  show Str.mk (a.toArray ++ b.toArray) = _
  simp [sOf]
theorem length_sOf (a : List Nat) : (sOf a).length = a.length := by
  show (a.toArray).size = a.length
  simp
theorem szOk_le {n : Nat} (h : szOk n = true) : n ≤ sizeLine := by
  have : n ≤ 1000000 := Nat.le_of_ble_eq_true h
  unfold sizeLine; omega
theorem smallInt_le {i : Int} (h : smallInt i = true) : i.natAbs ≤ 4294967296 := Nat.le_of_ble_eq_true h

theorem foldl_rep {α : Type} (l : Array α) : ∀ (n : Nat) (acc : Array α), (List.replicate n l).foldl (· ++ ·) acc = acc ++ (rep l.toList n).toArray
  | 0, acc => by simp [rep]
  | n + 1, acc => by
    rw [List.replicate_succ, List.foldl_cons, foldl_rep l n]
    apply Array.toList_inj.mp
    simp [rep]
theorem rep_nil {α : Type} : ∀ n : Nat, rep ([] : List α) n = []
  | 0 => rfl
  | n + 1 => by simp [rep, rep_nil n]
theorem rep_one {α : Type} (l : List α) : rep l 1 = l := by simp [rep]
theorem rep_length {α : Type} (l : List α) : ∀ n : Nat, (rep l n).length = l.length * n
  | 0 => by simp [rep]
  | n + 1 => by simp [rep, rep_length l n, Nat.mul_add]; omega

theorem txt_mul (a : List Nat) (n : Int) : Txt.mul (sOf a) n = sOf (rep a n.toNat) := by
  unfold Txt.mul
  by_cases h1 : n < 1
  · rw [if_pos h1]
    have : n.toNat = 0 := by omega
    rw [this]; rfl
  · rw [if_neg h1]
    split
    · rename_i h2
      simp only [Bool.or_eq_true, beq_iff_eq, length_sOf] at h2
      rcases h2 with h2 | h2
      · subst h2
        rw [show (1 : Int).toNat = 1 from rfl, rep_one]
      · have : a = [] := List.eq_nil_of_length_eq_zero h2
        subst this
        rw [rep_nil]
    · rw [foldl_rep]
      show Str.mk _ = Str.mk _
      simp

section
variable {K : Cx} {A : Around} {E : Value → Shared → Prop} {s : Shared} {τ : Tk} {X : Addr → Prop} {Q : Value → Shared → Prop}

theorem rd_int {g : Hp} (i : Int) (t : Tok) : Rd K g X (.int i t) (.int i) := ⟨t, rfl⟩
theorem rd_flt {h : Heap} (i : UInt64) (t : Tok) : Rd K ⟨h, addTk τ t i⟩ X (.float i t) (.flt i) := ⟨t, rfl, .inr ⟨rfl, rfl⟩⟩
theorem rd_bool {g : Hp} (b : Bool) : Rd K g X (.bool b) (.bool b) := rfl
theorem rd_str {g : Hp} (l : List Nat) (t : Tok) : Rd K g X (.str (sOf l) t) (.str l) := ⟨t, rfl⟩

theorem binI_ok {op : Operator} {a b : Int} {t u : Tok} {r : PV} (e : binI op a b = some r) (T : TokOk s τ) (hQ : ∀ v s' τ', Ext s τ s' τ' → Rd K ⟨s'.heap, τ'⟩ X v r → Q v s') : Wp K.M A (binaryOp op (.int a t) (.int b u)) Q E s := by
  cases op <;> simp only [binI] at e <;> (try (cases e; done))
  · cases e; exact ⟨PyProof.Rows.add_int (hQ _ _ _ (.tok1 T) (rd_int ..))⟩
  · cases e; exact ⟨AutoIntOps.sub_0 (hQ _ _ _ (.tok1 T) (rd_int ..))⟩
  · split at e
    · rename_i hs
      cases e
      rw [Bool.and_eq_true] at hs
      have h1 := smallInt_le hs.1
      refine ⟨AutoIntOps.mul_0 (hQ _ _ _ (.tok1 T) (rd_int ..)) (IntMulOk.of_left ?_)⟩
      unfold Builtin.Int.intBits
      split
      · exact Nat.zero_le _
      · have : a.natAbs.log2 ≤ 32 := by
          have := Nat.log2_lt (n := a.natAbs) (k := 33) (by intro h0; simp_all)
          omega
        omega
    · cases e
  · split at e
    · rename_i hs
      split at e
      · cases e
      · rename_i hi
        cases e
        simp only [Bool.and_eq_true, bne_iff_ne, ne_eq] at hs
        exact ⟨AutoIntOps.truediv_2 (by simpa using hs.1.1) (by simpa using hi) (hQ _ _ _ (.flt T _) (rd_flt ..))⟩
    · cases e
  · split at e
    · rename_i hs
      cases e
      exact ⟨AutoIntOps.mod_1 (by simpa using hs) (hQ _ _ _ (.tok1 T) (rd_int ..))⟩
    · cases e
  · split at e
    · rename_i hs
      cases e
      simp only [Bool.and_eq_true, decide_eq_true_eq] at hs
      obtain ⟨⟨ha, hb, hb0⟩, ha2⟩ := hs
      have ha := Nat.le_of_ble_eq_true ha
      have hb := Nat.le_of_ble_eq_true hb
      by_cases h0 : b = 0
      · subst h0
        refine ⟨AutoIntOps.pow_0 (by omega) (by decide) (hQ _ _ _ (.tok1 T) ?_)⟩
        simpa using rd_int (K := K) (X := X) (g := ⟨s.heap, τ⟩) 1 s.toks
      · refine ⟨AutoIntOps.pow_4 (by omega) (by simpa using h0) (by simp; omega) (by simp; omega) ?_ (hQ _ _ _ (.tok1 T) (rd_int ..))⟩
        unfold Builtin.Int.intTooBig Builtin.Int.intBits bitsLine
        have hn : (a == 0) = false := by simp; omega
        rw [hn]
        simp only [Bool.false_eq_true, if_false, decide_eq_true_eq, gt_iff_lt, Int.not_lt]
        have hl : a.natAbs.log2 ≤ 6 := by
          have := Nat.log2_lt (n := a.natAbs) (k := 7) (by omega)
          omega
        have h3 : ((a.natAbs.log2 + 1 : Nat) : Int) * b ≤ 7 * b := Int.mul_le_mul_of_nonneg_right (by omega) hb0
        have h4 : (2 : Nat) ^ 27 = 134217728 := by decide
        rw [h4]
        omega
    · cases e
  · split at e
    · rename_i hs
      cases e
      simp only [Bool.and_eq_true, bne_iff_ne, ne_eq] at hs
      have h1 := smallInt_le hs.2
      refine ⟨AutoIntOps.floordiv_1 (by simpa using hs.1) ?_ (hQ _ _ _ (.tok1 T) (rd_int ..))⟩
      rw [PyProof.noPylong_of_log2]
      · decide
      · by_cases h0 : b.natAbs = 0
        · rw [h0]; decide
        · have := (Nat.log2_lt (n := b.natAbs) (k := 33) h0).mpr (by omega)
          omega
    · cases e

theorem binF_ok {op : Operator} {a b : UInt64} {t u : Tok} {r : PV} (e : binF op a b = some r) (T : TokOk s τ) (hQ : ∀ v s' τ', Ext s τ s' τ' → Rd K ⟨s'.heap, τ'⟩ X v r → Q v s') : Wp K.M A (binaryOp op (.float a t) (.float b u)) Q E s := by
  cases op <;> simp only [binF] at e <;> (try (cases e; done))
  · cases e; exact ⟨AutoFloatOps.add_0 (hQ _ _ _ (.flt T _) (rd_flt ..))⟩
  · cases e; exact ⟨AutoFloatOps.sub_0 (hQ _ _ _ (.flt T _) (rd_flt ..))⟩
  · cases e; exact ⟨AutoFloatOps.mul_0 (hQ _ _ _ (.flt T _) (rd_flt ..))⟩
  · split at e
    · cases e
    · rename_i hs; cases e; exact ⟨AutoFloatOps.truediv_1 (by simpa using hs) (hQ _ _ _ (.flt T _) (rd_flt ..))⟩
  · split at e
    · cases e
    · rename_i hs; cases e; exact ⟨AutoFloatOps.mod_1 (by simpa using hs) (hQ _ _ _ (.flt T _) (rd_flt ..))⟩

theorem fltOf_int {n : Int} {x : UInt64} (e : fltOf (.int n) = some x) : ¬ Float64.isInf (Float64.ofInt n) = true ∧ x = Float64.ofInt n := by
  simp only [fltOf] at e
  split at e
  · split at e
    · cases e
    · rename_i h; cases e; exact ⟨by simpa using h, rfl⟩
  · cases e

theorem binFI_ok {op : Operator} {a : UInt64} {b : Int} {t u : Tok} {r : PV} {b' : UInt64} (eb : fltOf (.int b) = some b') (e : binF op a b' = some r) (T : TokOk s τ) (hQ : ∀ v s' τ', Ext s τ s' τ' → Rd K ⟨s'.heap, τ'⟩ X v r → Q v s') :
    Wp K.M A (binaryOp op (.float a t) (.int b u)) Q E s := by
  obtain ⟨h1, rfl⟩ := fltOf_int eb
  cases op <;> simp only [binF] at e <;> (try (cases e; done))
  · cases e; exact ⟨AutoFloatOps.add_fi_1 h1 (hQ _ _ _ (.flt T _) (rd_flt ..))⟩
  · cases e; exact ⟨AutoFloatOps.sub_fi_1 h1 (hQ _ _ _ (.flt T _) (rd_flt ..))⟩
  · cases e; exact ⟨AutoFloatOps.mul_fi_1 h1 (hQ _ _ _ (.flt T _) (rd_flt ..))⟩
  · split at e
    · cases e
    · rename_i hs; cases e; exact ⟨AutoFloatOps.truediv_fi_2 h1 (by simpa using hs) (hQ _ _ _ (.flt T _) (rd_flt ..))⟩
  · split at e
    · cases e
    · rename_i hs; cases e; exact ⟨AutoFloatOps.mod_fi_2 h1 (by simpa using hs) (hQ _ _ _ (.flt T _) (rd_flt ..))⟩
theorem binIF_ok {op : Operator} {b : UInt64} {a : Int} {t u : Tok} {r : PV} {a' : UInt64} (eb : fltOf (.int a) = some a') (e : binF op a' b = some r) (T : TokOk s τ) (hQ : ∀ v s' τ', Ext s τ s' τ' → Rd K ⟨s'.heap, τ'⟩ X v r → Q v s') :
    Wp K.M A (binaryOp op (.int a t) (.float b u)) Q E s := by
  obtain ⟨h1, rfl⟩ := fltOf_int eb
  cases op <;> simp only [binF] at e <;> (try (cases e; done))
  · cases e; exact ⟨AutoFloatOps.add_if_1 h1 (hQ _ _ _ (.flt T _) (rd_flt ..))⟩
  · cases e; exact ⟨AutoFloatOps.sub_if_1 h1 (hQ _ _ _ (.flt T _) (rd_flt ..))⟩
  · cases e; exact ⟨AutoFloatOps.mul_if_1 h1 (hQ _ _ _ (.flt T _) (rd_flt ..))⟩
  · split at e
    · cases e
    · rename_i hs; cases e; exact ⟨AutoFloatOps.truediv_if_2 h1 (by simpa using hs) (hQ _ _ _ (.flt T _) (rd_flt ..))⟩
  · split at e
    · cases e
    · rename_i hs; cases e; exact ⟨AutoFloatOps.mod_if_2 h1 (by simpa using hs) (hQ _ _ _ (.flt T _) (rd_flt ..))⟩

theorem PL.push {h : Heap} (vs : List Value) : PL (h.push { cls := .type "list", data := .seq vs.toArray }) h.objs.size vs := ⟨_, Heap.get?_push_size _ rfl⟩
theorem PT.push {h : Heap} (vs : List Value) : PT (h.push { cls := .type "tuple", data := .seq vs.toArray }) h.objs.size vs := ⟨_, Heap.get?_push_size _ rfl⟩

/-- a list laid anew -/
theorem fresh_list {vs : List Value} {l : List PV} (hl : RdL K ⟨s.heap, τ⟩ X vs l) : FreshRd K s.heap ⟨s.heap.push { cls := .type "list", data := .seq vs.toArray }, τ⟩ X (.ref s.heap.objs.size) (.list l) :=
  ⟨_, rfl, get_size _, vs, PL.push vs, RdL.keep (g := ⟨s.heap, τ⟩) (g' := ⟨s.heap.push { cls := .type "list", data := .seq vs.toArray }, τ⟩) (fun _ _ e => Heap.get?_push_of_some _ e) (fun _ _ e => e) (RdL.more (N := fun b => b = s.heap.objs.size) (fun a e => e ▸ get_size _) hl)⟩

theorem mul_list_ok {a : Addr} {vs : List Value} {l : List PV} {x : Int} {u : Tok} (hp : PL s.heap a vs) (hl : RdL K ⟨s.heap, τ⟩ X vs l) (hn : Nat.ble x.natAbs 1000 = true) (hz : szOk (l.length * x.toNat) = true)
    (T : TokOk s τ) (hQ : ∀ v s' τ', Ext s τ s' τ' → FreshRd K s.heap ⟨s'.heap, τ'⟩ X v (.list (rep l x.toNat)) → Q v s') : Wp K.M A (binaryOp .Mult (.ref a) (.int x u)) Q E s := by
  obtain ⟨k, hp⟩ := hp
  have hn := Nat.le_of_ble_eq_true hn
  have hz' := szOk_le hz
  have hlen := hl.length
  have hz2 : vs.length * x.toNat ≤ 2 ^ 24 := by rw [hlen]; exact hz'
  refine ⟨wpAny_binaryOp_repeat_ref (T := "list") (U := "int") (by decide) ⟨_, hp, rfl⟩ (fun s' => typeIs_int s' x u) noFill_list_mul F.fills_int_mul F.slot_int_rmul repeat_list F.slot_int_index.lookup
    (call_meets F.slot_int_rmul (typeIs_int s x u) F.entry_int_rmul (F.args_int_rmul_2 _ _) (int___rmul___int_list x u a vs.toArray k)
      ⟨hp, rfl, ⟨_, hp, rfl⟩, call_meets F.slot_list_mul ⟨_, hp, rfl⟩ F.entry_list_mul (F.args_list_mul_2 _ _)
        (AutoListH.list___mul___list_int_3 a vs.toArray k x u (by simp [Builtin.List.listFitsIndex]; omega) (by simp only [List.size_toArray]; omega) (by simp only [List.size_toArray, Builtin.List.listTooLong, sizeLine, decide_eq_true_eq, gt_iff_lt, Nat.not_lt]; omega))
        ⟨hp, ?_⟩⟩)⟩
  rw [foldl_rep]
  have e : rep vs.toArray.toList (if vs.toArray.isEmpty = true then 0 else x.toNat) = rep vs x.toNat := by
    simp only [List.isEmpty_toArray]
    split
    · rename_i h
      have : vs = [] := by simpa using h
      subst this
      simp [rep, rep_nil]
    · rfl
  rw [e, Array.empty_append]
  exact hQ _ _ _ (.push T) (fresh_list (hl.rep _))

theorem add_list_ok {a b : Addr} {vs ws : List Value} {l m : List PV} (hp : PL s.heap a vs) (hl : RdL K ⟨s.heap, τ⟩ X vs l) (hq : PL s.heap b ws) (hm : RdL K ⟨s.heap, τ⟩ X ws m) (hz : szOk (l.length + m.length) = true)
    (T : TokOk s τ) (hQ : ∀ v s' τ', Ext s τ s' τ' → FreshRd K s.heap ⟨s'.heap, τ'⟩ X v (.list (l ++ m)) → Q v s') : Wp K.M A (binaryOp .Add (.ref a) (.ref b)) Q E s := by
  obtain ⟨k, hp⟩ := hp
  obtain ⟨k', hq⟩ := hq
  have h1 := szOk_le hz
  refine ⟨P.add_list (n := k) (n2 := k') hp hq ?_ (by simp only [List.size_toArray, hl.length, hm.length]; exact h1)⟩
  rw [List.append_toArray]
  exact hQ _ _ _ (.push T) (fresh_list (hl.append hm))

theorem binop_ok {op : Operator} {p q r : PV} {v u : Value} (e : binop op p q = some r) (hv : Rd K ⟨s.heap, τ⟩ X v p) (hu : Rd K ⟨s.heap, τ⟩ X u q) (hX : XD s.heap X)
    (T : TokOk s τ) (hQ : ∀ v s' τ', Ext s τ s' τ' → Rd K ⟨s'.heap, τ'⟩ X v r → Q v s') : Wp K.M A (binaryOp op v u) Q E s := by
  unfold binop at e
  split at e
  · obtain ⟨t, rfl⟩ := hv; obtain ⟨t', rfl⟩ := hu; exact binI_ok e T hQ
  · obtain ⟨t, rfl, _⟩ := hv; obtain ⟨t', rfl, _⟩ := hu; exact binF_ok e T hQ
  · obtain ⟨t, rfl, _⟩ := hv; obtain ⟨t', rfl⟩ := hu
    rename_i a b _
    cases hf : fltOf (PV.int b) with
    | none => rw [hf] at e; cases e
    | some x => rw [hf] at e; dsimp only at e; exact binFI_ok hf e T hQ
  · obtain ⟨t, rfl⟩ := hv; obtain ⟨t', rfl, _⟩ := hu
    rename_i a b _
    cases hf : fltOf (PV.int a) with
    | none => rw [hf] at e; cases e
    | some x => rw [hf] at e; dsimp only at e; exact binIF_ok hf e T hQ
  · obtain ⟨t, rfl⟩ := hv; obtain ⟨t', rfl⟩ := hu
    split at e
    · split at e
      · rename_i hz
        cases e
        refine Wp.untok ⟨PyProof.Rows.add_str (fun t' tk hle => ?_) (by rw [length_sOf, length_sOf]; exact szOk_le hz)⟩
        rw [append_sOf]
        exact hQ _ _ _ (.tok T hle) (rd_str ..)
      · cases e
    · cases e
  · obtain ⟨t, rfl⟩ := hv; obtain ⟨t', rfl⟩ := hu
    split at e
    · split at e
      · rename_i a n _ hz
        cases e
        rw [Bool.and_eq_true] at hz
        have hn := Nat.le_of_ble_eq_true hz.1
        have hz' := szOk_le hz.2
        have hb : a.length ≤ 1000000 ∨ n.toNat = 0 := by
          have h2 : a.length * n.toNat ≤ 1000000 := Nat.le_of_ble_eq_true hz.2
          by_cases h0 : n.toNat = 0
          · exact .inr h0
          · refine .inl (Nat.le_trans (Nat.le_mul_of_pos_right _ (by omega)) h2)
        refine Wp.untok ⟨SB.mul ⟨by simp; omega, fun h1 _ => ?_, fun h1 _ => ?_⟩ fun t' k hle => ?_⟩
        · rw [length_sOf]
          have hb : a.length ≤ 1000000 := by omega
          have : (9223372036854775 : Int) ≤ (2 ^ 63 - 1) / n := by
            refine (Int.le_ediv_iff_mul_le (by omega)).mpr ?_
            have : (9223372036854775 : Int) * n ≤ 9223372036854775 * 1000 := Int.mul_le_mul_of_nonneg_left (by omega) (by decide)
            omega
          omega
        · rw [length_sOf]
          unfold Builtin.Str.tooLong
          simp only [decide_eq_false_iff_not, Nat.not_lt]
          have h2 : a.length * n.toNat ≤ 1000000 := Nat.le_of_ble_eq_true hz.2
          first | omega | (unfold sizeLine at *; omega)
        · rw [txt_mul]
          exact hQ _ _ _ (.tok T hle) (rd_str ..)
      · cases e
    · cases e
  · obtain ⟨a, vs, rfl, _, h2, h3⟩ := hv
    obtain ⟨b, ws, rfl, _, g2, g3⟩ := hu
    split at e
    · split at e
      · rename_i hz
        cases e
        exact add_list_ok h2 h3 g2 g3 hz T fun v s' τ' hs hf => hQ v s' τ' hs (hf.rd hX)
      · cases e
    · cases e
  · obtain ⟨a, vs, rfl, _, h2, h3⟩ := hv
    obtain ⟨t', rfl⟩ := hu
    split at e
    · split at e
      · rename_i hz
        rw [Bool.and_eq_true] at hz
        cases e
        exact mul_list_ok h2 h3 hz.1 hz.2 T fun v s' τ' hs hf => hQ v s' τ' hs (hf.rd hX)
      · cases e
    · cases e
  · cases e
end
end Mine
namespace Mine
open PySem PySem.SeqAt PyProof.Rows

theorem beq_sOf (a b : List Nat) : (sOf a == sOf b) = (a == b) := by
  rw [Bool.eq_iff_iff]
  simp [sOf]

section
variable {K : Cx} {h : Heap} {g : Hp} {X Y : Addr → Prop}

theorem PL.inj {a : Addr} {vs ws : List Value} (p : PL h a vs) (q : PL h a ws) : vs = ws := by
  obtain ⟨n, p⟩ := p
  obtain ⟨m, q⟩ := q
  rw [p] at q
  simp at q
  exact q.1
theorem PT.inj {a : Addr} {vs ws : List Value} (p : PT h a vs) (q : PT h a ws) : vs = ws := by
  obtain ⟨n, p⟩ := p
  obtain ⟨m, q⟩ := q
  rw [p] at q
  simp at q
  exact q.1
theorem PL.notT {a : Addr} {vs ws : List Value} (p : PL h a vs) (q : PT h a ws) : False := by
  obtain ⟨n, p⟩ := p
  obtain ⟨m, q⟩ := q
  rw [p] at q
  simp at q

theorem pyEqs_get {f : PV → PV → Option Bool} : ∀ {l m : List PV} {b : Bool}, pyEqs f l m = some b → ∀ (i : Nat) (p q : PV), l[i]? = some p → m[i]? = some q → ∃ c, f p q = some c
  | [], [], _, _, i, p, q, h1, _ => by simp at h1
  | x :: l, y :: m, b, e, i, p, q, h1, h2 => by
    unfold pyEqs at e
    cases hf : f x y with
    | none => rw [hf] at e; cases e
    | some c =>
      rw [hf] at e
      dsimp only at e
      cases hr : pyEqs f l m with
      | none => rw [hr] at e; cases e
      | some d =>
        cases i with
        | zero => simp at h1 h2; subst h1 h2; exact ⟨c, hf⟩
        | succ i => exact pyEqs_get hr i p q (by simpa using h1) (by simpa using h2)
theorem pyEqs_all {f : PV → PV → Option Bool} : ∀ {l m : List PV} {b : Bool}, pyEqs f l m = some b → l.length = m.length ∧ b = (List.range l.length).all fun i => match l[i]?, m[i]? with | some p, some q => (f p q).getD false | _, _ => false
  | [], [], b, e => by unfold pyEqs at e; cases e; exact ⟨rfl, rfl⟩
  | x :: l, y :: m, b, e => by
    unfold pyEqs at e
    cases hf : f x y with
    | none => rw [hf] at e; cases e
    | some c =>
      rw [hf] at e
      dsimp only at e
      cases hr : pyEqs f l m with
      | none => rw [hr] at e; cases e
      | some d =>
        rw [hr] at e
        cases e
        obtain ⟨h1, h2⟩ := pyEqs_all hr
        refine ⟨by simp [h1], ?_⟩
        rw [List.length_cons, List.range_succ_eq_map, List.all_cons, List.all_map]
        simp only [List.getElem?_cons_zero, hf, Option.getD_some, h2]
        congr 1

-- the same value is the same datum: with itself it is equal
theorem pyEqs_self {f : PV → PV → Option Bool} : ∀ {l : List PV} {b : Bool}, (∀ p c, p ∈ l → f p p = some c → c = true) → pyEqs f l l = some b → b = true
  | [], b, _, e => by unfold pyEqs at e; cases e; rfl
  | x :: l, b, hp, e => by
    unfold pyEqs at e
    cases hf : f x x with
    | none => rw [hf] at e; cases e
    | some c =>
      rw [hf] at e
      dsimp only at e
      cases hr : pyEqs f l l with
      | none => rw [hr] at e; cases e
      | some d =>
        rw [hr] at e
        cases e
        rw [hp x c (List.mem_cons_self ..) hf, pyEqs_self (fun p c hm => hp p c (List.mem_cons_of_mem _ hm)) hr]; rfl
theorem pyEqN_self : ∀ (n : Nat) {p : PV} {b : Bool}, pyEqN n p p = some b → b = true
  | 0, _, _, e => by cases e
  | n + 1, p, b, e => by
    cases p <;> simp only [pyEqN] at e <;> (try (cases e; done))
    · cases e; simp
    · cases e; simp
    · split at e
      · cases e
      · rename_i hn
        cases e
        rw [PySem.Flt.cmp_self]
        simpa using hn
    · cases e; simp
    · simp only [beq_self_eq_true, if_true] at e
      exact pyEqs_self (fun p c _ hc => pyEqN_self n hc) e
    · simp only [beq_self_eq_true, if_true] at e
      exact pyEqs_self (fun p c _ hc => pyEqN_self n hc) e

theorem pairs_det {K : Cx} : ∀ {es : List DictEntry} {kvs kvs' : List (Str × Value)}, Pairs (PySem.strKind K.prog K.w) es kvs → Pairs (PySem.strKind K.prog K.w) es kvs' → kvs = kvs'
  | [], _, _, .nil, .nil => rfl
  | e :: es, _, _, .cons (kv := a) h1 h2 h3, .cons (kv := b) g1 g2 g3 => by
    rw [pairs_det h3 g3]
    have e1 : a.1 = b.1 := (PySem.strKind K.prog K.w).inj _ _ _ h1 g1
    have e2 : a.2 = b.2 := h2.symm.trans g2
    rw [show a = b from Prod.ext e1 e2]
theorem PD.det {a : Addr} {kvs kvs' : List (Str × Value)} (p : PD K h a kvs) (q : PD K h a kvs') : kvs = kvs' := by
  obtain ⟨⟨o, es, ep, ho, _, hd, _, hp, _⟩, _⟩ := p
  obtain ⟨⟨o', es', ep', ho', _, hd', _, hp', _⟩, _⟩ := q
  rw [ho] at ho'
  cases ho'
  rw [hd] at hd'
  cases hd'
  exact pairs_det hp hp'
theorem PL.notD {a : Addr} {vs : List Value} {kvs : List (Str × Value)} (p : PL h a vs) (q : PD K h a kvs) : False := by
  obtain ⟨n, p⟩ := p
  obtain ⟨⟨o', es', ep', ho', _, hd', _⟩, _⟩ := q
  rw [p] at ho'
  cases ho'
  cases hd'
theorem PT.notD {a : Addr} {vs : List Value} {kvs : List (Str × Value)} (p : PT h a vs) (q : PD K h a kvs) : False := by
  obtain ⟨n, p⟩ := p
  obtain ⟨⟨o', es', ep', ho', _, hd', _⟩, _⟩ := q
  rw [p] at ho'
  cases ho'
  cases hd'
theorem PL.notR {a : Addr} {vs : List Value} {x y z : Int} {t u r : Tok} (p : PL h a vs) (q : PySem.IsRange h a x y z t u r) : False := by
  obtain ⟨n, p⟩ := p
  unfold PySem.IsRange at q
  rw [p] at q
  simp at q
theorem PT.notR {a : Addr} {vs : List Value} {x y z : Int} {t u r : Tok} (p : PT h a vs) (q : PySem.IsRange h a x y z t u r) : False := by
  obtain ⟨n, p⟩ := p
  unfold PySem.IsRange at q
  rw [p] at q
  simp at q
theorem PD.notR {a : Addr} {kvs : List (Str × Value)} {x y z : Int} {t u r : Tok} (p : PD K h a kvs) (q : PySem.IsRange h a x y z t u r) : False := by
  obtain ⟨⟨o', es', ep', ho', _, hd', _⟩, _⟩ := p
  unfold PySem.IsRange at q
  rw [q] at ho'
  cases ho'
  cases hd'

mutual
theorem Rd.det : ∀ {p q : PV} {v : Value}, Rd K g X v p → Rd K g Y v q → p = q
  | .none, q, _, h1, h2 => by
    cases h1
    cases q <;> simp [Rd] at h2
    rfl
  | .bool a, q, _, h1, h2 => by
    cases h1
    cases q <;> simp [Rd] at h2
    rw [h2]
  | .int a, q, _, h1, h2 => by
    obtain ⟨t, rfl⟩ := h1
    cases q <;> simp [Rd] at h2
    rw [h2]
  | .flt a, q, _, h1, h2 => by
    obtain ⟨t, rfl, _⟩ := h1
    cases q <;> simp [Rd] at h2
    obtain ⟨_, h2, _⟩ := h2
    rw [h2.1]
  | .str a, q, _, h1, h2 => by
    obtain ⟨t, rfl⟩ := h1
    cases q <;> simp [Rd, sOf] at h2
    rw [h2]
  | .list l, q, _, h1, h2 => by
    obtain ⟨a, vs, rfl, _, p1, r1⟩ := h1
    cases q with
    | list m => obtain ⟨a', ws, e', _, p2, r2⟩ := h2; cases e'; cases p1.inj p2; rw [RdL.det r1 r2]
    | tup m => obtain ⟨a', ws, e', _, p2, r2⟩ := h2; cases e'; exact (p1.notT p2).elim
    | dict m => obtain ⟨a', ws, e', _, p2, r2⟩ := h2; cases e'; exact (p1.notD p2).elim
    | rng m => obtain ⟨a', t, u, r, e', _, p2⟩ := h2; cases e'; exact (p1.notR p2).elim
    | _ => simp [Rd] at h2
  | .tup l, q, _, h1, h2 => by
    obtain ⟨a, vs, rfl, _, p1, r1⟩ := h1
    cases q with
    | list m => obtain ⟨a', ws, e', _, p2, r2⟩ := h2; cases e'; exact (p2.notT p1).elim
    | tup m => obtain ⟨a', ws, e', _, p2, r2⟩ := h2; cases e'; cases p1.inj p2; rw [RdL.det r1 r2]
    | dict m => obtain ⟨a', ws, e', _, p2, r2⟩ := h2; cases e'; exact (p1.notD p2).elim
    | rng m => obtain ⟨a', t, u, r, e', _, p2⟩ := h2; cases e'; exact (p1.notR p2).elim
    | _ => simp [Rd] at h2
  | .dict l, q, _, h1, h2 => by
    obtain ⟨a, vs, rfl, _, p1, r1⟩ := h1
    cases q with
    | list m => obtain ⟨a', ws, e', _, p2, r2⟩ := h2; cases e'; exact (p2.notD p1).elim
    | tup m => obtain ⟨a', ws, e', _, p2, r2⟩ := h2; cases e'; exact (p2.notD p1).elim
    | dict m => obtain ⟨a', ws, e', _, p2, r2⟩ := h2; cases e'; cases p1.det p2; rw [RdD.det r1 r2]
    | rng m => obtain ⟨a', t, u, r, e', _, p2⟩ := h2; cases e'; exact (p1.notR p2).elim
    | _ => simp [Rd] at h2
  | .rng n, q, _, h1, h2 => by
    obtain ⟨a, t, u, r, rfl, _, p1⟩ := h1
    cases q with
    | list m => obtain ⟨a', ws, e', _, p2, r2⟩ := h2; cases e'; exact (p2.notR p1).elim
    | tup m => obtain ⟨a', ws, e', _, p2, r2⟩ := h2; cases e'; exact (p2.notR p1).elim
    | dict m => obtain ⟨a', ws, e', _, p2, r2⟩ := h2; cases e'; exact (p2.notR p1).elim
    | rng m =>
      obtain ⟨a', t', u', r', e', _, p2⟩ := h2
      cases e'
      unfold PySem.IsRange at p1 p2
      rw [p1] at p2
      simp at p2
      rw [p2.2.1.1]
    | _ => simp [Rd] at h2
theorem RdL.det : ∀ {l m : List PV} {vs : List Value}, RdL K g X vs l → RdL K g Y vs m → l = m
  | [], m, _, h1, h2 => by
    cases h1
    cases m with
    | nil => rfl
    | cons q m => obtain ⟨v', r', e', _⟩ := h2; cases e'
  | p :: l, m, _, h1, h2 => by
    obtain ⟨v, r, rfl, a1, a2⟩ := h1
    cases m with
    | nil => cases h2
    | cons q m =>
      obtain ⟨v', r', e', b1, b2⟩ := h2
      cases e'
      rw [Rd.det a1 b1, RdL.det a2 b2]
theorem RdD.det : ∀ {l m : List (List Nat × PV)} {vs : List (Str × Value)}, RdD K g X vs l → RdD K g Y vs m → l = m
  | [], m, _, h1, h2 => by
    cases h1
    cases m with
    | nil => rfl
    | cons q m => obtain ⟨v', r', e', _⟩ := h2; cases e'
  | (k, p) :: l, m, _, h1, h2 => by
    obtain ⟨v, r, rfl, a1, a2⟩ := h1
    cases m with
    | nil => cases h2
    | cons q m =>
      obtain ⟨k', q⟩ := q
      obtain ⟨v', r', e', b1, b2⟩ := h2
      simp [sOf] at e'
      obtain ⟨⟨e1, e2⟩, e3⟩ := e'
      subst e1 e2 e3
      rw [Rd.det a1 b1, RdD.det a2 b2]
end
end

section
variable {K : Cx} {A : Around} {s : Shared} {τ : Tk} {X Y : Addr → Prop}

/-- == by values, of a kind where the answer is asked without a look at who they are -/
theorem EqAt.of_rc {v u : Value} {b : Bool} (hf : ∀ x t y r, v = .float x t → u = .float y r → False) (hs : v = u → b = true) (h : RcAt A s v u b) : EqAt A s v u b := fun prog w E Q hq => by
  unfold eqBool
  refine wpAny_holding ?_
  refine wpAny_ite_split (fun hab => ?_) (fun _ => ?_)
  · have := eq_of_beq hab
    rw [hs this] at hq
    exact wpAny_bind (wpAny_rule (wpAny_pure hq))
  · dsimp only
    split
    · rename_i heq; simp only [Prod.mk.injEq] at heq; exact (hf _ _ _ _ heq.1 heq.2).elim
    · exact wpAny_bind (h prog w E _ (wpAny_truthy_bool hq))

theorem same_flt {M : Model} {E : Value → Shared → Prop} {x y : UInt64} {t u : Tok} {Q : Bool → Shared → Prop} (h0 : (t == 0 || u == 0) = false) (hi : t = u → x = y) (hb : PySem.NoneBooked s.heap)
    (hq : ∀ b, (b = true → x = y) → Q b s) : wpAny M A (isSame (.float x t) (.float y u)) Q E s := by
  show wpAny M A (isSame.created (x == y && !Float64.isNaN x) t u) Q E s
  unfold isSame.created
  refine wpAny_ite ?_
  split
  · rename_i h; rw [h0] at h; exact absurd h Bool.false_ne_true
  refine wpAny_ite ?_
  split
  · rename_i h; exact wpAny_pure (hq _ fun _ => hi (by simpa using h))
  refine wpAny_ite ?_
  split
  · exact wpAny_pure (hq _ fun h => by cases h)
  rename_i he
  have hxy : x = y := by
    simp at he
    exact he.1
  refine wpAny_bind (wpAny_sharingNotTold_none hb ?_)
  first | rw [if_neg Bool.false_ne_true] | simp only [Bool.false_eq_true, if_false]
  refine wpAny_bind (wpAny_sharingNotTold_none hb ?_)
  first | rw [if_neg Bool.false_ne_true] | simp only [Bool.false_eq_true, if_false]
  exact wpAny_bind (wpAny_rule (wpAny_bind (wpAny_askSetting (wpAny_pure (hq _ fun _ => hxy)))))

theorem eqAt_flt {τ : Tk} {x y : UInt64} {t u : Tok} (T : TokOk s τ) (hb : PySem.NoneBooked s.heap) (hx : τ t x) (hy : τ u y) (hn : Float64.isNaN x = false) : EqAt A s (.float x t) (.float y u) (Float64.cmp x y == some .eq) := fun prog w E Q hq => by
  have hs : x = y → (Float64.cmp x y == some .eq) = true := fun e => by rw [← e, PySem.Flt.cmp_self, hn]; rfl
  unfold eqBool
  refine wpAny_holding ?_
  refine wpAny_ite_split (fun hab => ?_) (fun _ => ?_)
  · have := eq_of_beq hab
    injection this with e1 e2
    rw [hs e1] at hq
    exact wpAny_bind (wpAny_rule (wpAny_pure hq))
  · dsimp only
    refine wpAny_bind (same_flt (by rw [Bool.or_eq_false_iff]; exact ⟨beq_false_of_ne (Nat.pos_iff_ne_zero.mp (T.bound t x hx).1), beq_false_of_ne (Nat.pos_iff_ne_zero.mp (T.bound u y hy).1)⟩) (fun e => by subst e; exact T.inj t x y hx hy) hb fun b hb' => ?_)
    cases b with
    | true =>
      rw [hs (hb' rfl)] at hq
      exact wpAny_pure hq
    | false =>
      simp only [Bool.false_eq_true, if_false]
      exact wpAny_bind (AutoFloatOps.eq_0 (wpAny_truthy_bool hq))

/-- == of the parts -/
theorem eqAt_of {τ : Tk} {n : Nat} {p q : PV} {b : Bool} {v u : Value} (T : TokOk s τ) (hb : PySem.NoneBooked s.heap) (e : pyEqN n p q = some b) (h1 : Rd K ⟨s.heap, τ⟩ X v p) (h2 : Rd K ⟨s.heap, τ⟩ Y u q) (h : RcAt A s v u b) :
    EqAt A s v u b := by
  by_cases hf : (∃ x, p = .flt x) ∧ ∃ y, q = .flt y
  · obtain ⟨⟨x, rfl⟩, y, rfl⟩ := hf
    obtain ⟨t, rfl, hx⟩ := h1
    obtain ⟨t', rfl, hy⟩ := h2
    cases n with
    | zero => cases e
    | succ n =>
      simp only [pyEqN] at e
      split at e
      · cases e
      · rename_i hn
        cases e
        exact eqAt_flt T hb hx hy (by simp at hn; exact hn.1)
  · refine EqAt.of_rc (fun x t y r e1 e2 => ?_) (fun hvu => by subst hvu; have := Rd.det h1 h2; subst this; exact pyEqN_self n e) h
    subst e1 e2
    refine hf ⟨?_, ?_⟩
    · cases p <;> simp [Rd] at h1
      exact ⟨_, rfl⟩
    · cases q <;> simp [Rd] at h2
      exact ⟨_, rfl⟩

theorem rcAt_ok (T : TokOk s τ) (hb : PySem.NoneBooked s.heap) : ∀ (n : Nat) (p q : PV) (b : Bool) (A : Around) (v u : Value), pyEqN n p q = some b → Rd K ⟨s.heap, τ⟩ X v p → Rd K ⟨s.heap, τ⟩ Y u q → A.units + n < cLine → RcAt A s v u b
  | 0, _, _, _, _, _, _, e, _, _, _ => by cases e
  | n + 1, p, q, b, A, v, u, e, hv, hu, hr => by
    have hA : A.units < cLine := by omega
    have ih : ∀ (p q : PV) (b : Bool) (v u : Value), pyEqN n p q = some b → Rd K ⟨s.heap, τ⟩ X v p → Rd K ⟨s.heap, τ⟩ Y u q → EqAt A.in1 s v u b := fun p q b v u e h1 h2 =>
      eqAt_of T hb e h1 h2 (rcAt_ok T hb n p q b A.in1 v u e h1 h2 (by show A.units + 1 + n < cLine; omega))
    have each : ∀ {l m : List PV} {vs ws : List Value} {c : Bool}, pyEqs (pyEqN n) l m = some c → RdL K ⟨s.heap, τ⟩ X vs l → RdL K ⟨s.heap, τ⟩ Y ws m → ∀ j (h1 : j < vs.toArray.size) (h2 : j < ws.toArray.size),
        EqAt A.in1 s vs.toArray[j] ws.toArray[j] (match l[j]?, m[j]? with | some p, some q => (pyEqN n p q).getD false | _, _ => false) := fun {l m vs ws c} hc r1 r2 j h1 h2 => by
      simp only [List.size_toArray] at h1 h2
      obtain ⟨p', g1, k1⟩ := r1.get' (List.getElem?_eq_getElem h1)
      obtain ⟨q', g2, k2⟩ := r2.get' (List.getElem?_eq_getElem h2)
      obtain ⟨d, hd⟩ := pyEqs_get hc j p' q' g1 g2
      rw [g1, g2]
      simp only [hd, Option.getD_some, List.getElem_toArray]
      exact ih p' q' d _ _ hd k1 k2
    cases p <;> cases q <;> simp only [pyEqN] at e <;> (try (cases e; done))
    · cases e; cases hv; cases hu; exact RcAt.bool_bool _ _
    · cases e; obtain ⟨t, rfl⟩ := hv; obtain ⟨t', rfl⟩ := hu; exact RcAt.int_int _ _ _ _
    · cases e; obtain ⟨t, rfl⟩ := hv; obtain ⟨t', rfl, _⟩ := hu
      exact fun prog w E Q h => PyProof.Rows.eq_if h
    · cases e; obtain ⟨t, rfl, _⟩ := hv; obtain ⟨t', rfl⟩ := hu
      exact fun prog w E Q h => PyProof.Rows.eq_fi h
    · split at e
      · cases e
      · cases e; obtain ⟨t, rfl, _⟩ := hv; obtain ⟨t', rfl, _⟩ := hu
        exact fun prog w E Q h => AutoFloatOps.eq_0 h
    · cases e; obtain ⟨t, rfl⟩ := hv; obtain ⟨t', rfl⟩ := hu
      rw [← beq_sOf]
      exact RcAt.str_str _ _ _ _
    · obtain ⟨a, vs, rfl, _, p1, r1⟩ := hv
      obtain ⟨a', ws, rfl, _, p2, r2⟩ := hu
      have n1 := r1.length
      have n2 := r2.length
      split at e
      · rename_i l m hl
        obtain ⟨h1, h2⟩ := pyEqs_all e
        rw [h2, ← n1, show vs.length = vs.toArray.size by simp]
        exact RcAt.lists p1.isList p2.isList (by simp; omega) hA (each e r1 r2)
      · rename_i l m hl
        cases e
        exact RcAt.lists_lengths p1.isList p2.isList (by simp at hl ⊢; omega) hA
    · cases e
      obtain ⟨a, vs, rfl, _, p1, r1⟩ := hv
      obtain ⟨a', ws, rfl, _, p2, r2⟩ := hu
      exact RcAt.list_tuple p1.isList p2.isTuple hA
    · cases e
      obtain ⟨a, vs, rfl, _, p1, r1⟩ := hv
      obtain ⟨a', ws, rfl, _, p2, r2⟩ := hu
      exact RcAt.tuple_list p1.isTuple p2.isList hA
    · obtain ⟨a, vs, rfl, _, p1, r1⟩ := hv
      obtain ⟨a', ws, rfl, _, p2, r2⟩ := hu
      have n1 := r1.length
      have n2 := r2.length
      split at e
      · obtain ⟨h1, h2⟩ := pyEqs_all e
        have := RcAt.tuples (A := A) (s := s) p1.isTuple p2.isTuple hA (each e r1 r2)
        have e1 : (List.range (min vs.toArray.size ws.toArray.size)) = List.range vs.length := by congr 1; simp; omega
        have e2 : (vs.toArray.size == ws.toArray.size) = true := by simp; omega
        rw [e1, e2, Bool.and_true, n1, ← h2] at this
        exact this
      · cases e

theorem eqAt_ok (T : TokOk s τ) (hb : PySem.NoneBooked s.heap) {n : Nat} {p q : PV} {b : Bool} {A : Around} {v u : Value} (e : pyEqN n p q = some b) (h1 : Rd K ⟨s.heap, τ⟩ X v p) (h2 : Rd K ⟨s.heap, τ⟩ Y u q) (hr : A.units + n < cLine) : EqAt A s v u b :=
  eqAt_of T hb e h1 h2 (rcAt_ok T hb n p q b A v u e h1 h2 hr)

theorem rcNeAt_ok (T : TokOk s τ) (hb : PySem.NoneBooked s.heap) : ∀ (n : Nat) (p q : PV) (b : Bool) (A : Around) (v u : Value), pyEqN n p q = some b → Rd K ⟨s.heap, τ⟩ X v p → Rd K ⟨s.heap, τ⟩ Y u q → A.units + n < cLine → RcNeAt A s v u (!b)
  | 0, _, _, _, _, _, _, e, _, _, _ => by cases e
  | n + 1, p, q, b, A, v, u, e, hv, hu, hr => by
    have hA : A.units < cLine := by omega
    have each : ∀ {l m : List PV} {vs ws : List Value} {c : Bool}, pyEqs (pyEqN n) l m = some c → RdL K ⟨s.heap, τ⟩ X vs l → RdL K ⟨s.heap, τ⟩ Y ws m → ∀ j (h1 : j < vs.toArray.size) (h2 : j < ws.toArray.size),
        EqAt A.in1 s vs.toArray[j] ws.toArray[j] (match l[j]?, m[j]? with | some p, some q => (pyEqN n p q).getD false | _, _ => false) := fun {l m vs ws c} hc r1 r2 j h1 h2 => by
      simp only [List.size_toArray] at h1 h2
      obtain ⟨p', g1, k1⟩ := r1.get' (List.getElem?_eq_getElem h1)
      obtain ⟨q', g2, k2⟩ := r2.get' (List.getElem?_eq_getElem h2)
      obtain ⟨d, hd⟩ := pyEqs_get hc j p' q' g1 g2
      rw [g1, g2]
      simp only [hd, Option.getD_some, List.getElem_toArray]
      exact eqAt_ok T hb hd k1 k2 (by show A.units + 1 + n < cLine; omega)
    cases p <;> cases q <;> simp only [pyEqN] at e <;> (try (cases e; done))
    · cases e; cases hv; cases hu; exact RcNeAt.bool_bool _ _
    · cases e; obtain ⟨t, rfl⟩ := hv; obtain ⟨t', rfl⟩ := hu; exact RcNeAt.int_int _ _ _ _
    · cases e; obtain ⟨t, rfl⟩ := hv; obtain ⟨t', rfl, _⟩ := hu
      exact fun prog w E Q h => PyProof.Rows.ne_if h
    · cases e; obtain ⟨t, rfl, _⟩ := hv; obtain ⟨t', rfl⟩ := hu
      exact fun prog w E Q h => PyProof.Rows.ne_fi h
    · split at e
      · cases e
      · cases e; obtain ⟨t, rfl, _⟩ := hv; obtain ⟨t', rfl, _⟩ := hu
        exact fun prog w E Q h => AutoFloatOps.ne_0 h
    · cases e; obtain ⟨t, rfl⟩ := hv; obtain ⟨t', rfl⟩ := hu
      rw [← beq_sOf]
      exact RcNeAt.str_str _ _ _ _
    · obtain ⟨a, vs, rfl, _, p1, r1⟩ := hv
      obtain ⟨a', ws, rfl, _, p2, r2⟩ := hu
      have n1 := r1.length
      have n2 := r2.length
      split at e
      · rename_i l m hl
        obtain ⟨h1, h2⟩ := pyEqs_all e
        rw [h2, ← n1, show vs.length = vs.toArray.size by simp]
        exact RcNeAt.lists p1.isList p2.isList (by simp; omega) hA (each e r1 r2)
      · rename_i l m hl
        cases e
        exact RcNeAt.lists_lengths p1.isList p2.isList (by simp at hl ⊢; omega) hA
    · cases e
      obtain ⟨a, vs, rfl, _, p1, r1⟩ := hv
      obtain ⟨a', ws, rfl, _, p2, r2⟩ := hu
      exact RcNeAt.list_tuple p1.isList p2.isTuple hA
    · cases e
      obtain ⟨a, vs, rfl, _, p1, r1⟩ := hv
      obtain ⟨a', ws, rfl, _, p2, r2⟩ := hu
      exact RcNeAt.tuple_list p1.isTuple p2.isList hA
    · obtain ⟨a, vs, rfl, _, p1, r1⟩ := hv
      obtain ⟨a', ws, rfl, _, p2, r2⟩ := hu
      have n1 := r1.length
      have n2 := r2.length
      split at e
      · obtain ⟨h1, h2⟩ := pyEqs_all e
        have := RcNeAt.tuples (A := A) (s := s) p1.isTuple p2.isTuple hA (each e r1 r2)
        have e1 : (List.range (min vs.toArray.size ws.toArray.size)) = List.range vs.length := by congr 1; simp; omega
        have e2 : (vs.toArray.size == ws.toArray.size) = true := by simp; omega
        rw [e1, e2, Bool.and_true, n1, ← h2] at this
        exact this
      · cases e
end
end Mine
namespace Mine
open PySem PySem.SeqAt PyProof.Rows

section
variable {K : Cx} {A : Around} {E : Value → Shared → Prop} {s : Shared} {τ : Tk} {X : Addr → Prop}

theorem decide_mem_contains (c : Nat) (l : List Nat) : decide (c ∈ l) = l.contains c := by
  rw [Bool.eq_iff_iff]; simp

theorem look_valueAt {g : Hp} : ∀ {l : List (List Nat × PV)} {kvs : List (Str × Value)} (k : List Nat), RdD K g X kvs l →
    (look k l = Option.none → valueAt kvs (sOf k) = none) ∧ ∀ p, look k l = some p → ∃ v, valueAt kvs (sOf k) = some v ∧ Rd K g X v p
  | [], _, k, e => by
    cases e
    exact ⟨fun _ => rfl, fun p h => by simp [look] at h⟩
  | (k', q) :: l, _, k, e => by
    obtain ⟨v, r, rfl, h1, h2⟩ := e
    have ih := look_valueAt k h2
    by_cases hk : k' = k
    · subst hk
      refine ⟨fun h => by simp [look] at h, fun p h => ?_⟩
      simp only [look, beq_self_eq_true, if_true, Option.some.injEq] at h
      subst h
      exact ⟨v, by simp [valueAt], h1⟩
    · have hb : (k' == k) = false := by simpa using hk
      have hs : ¬ (sOf k' = sOf k) := by simpa [sOf] using hk
      have e1 : valueAt ((sOf k', v) :: r) (sOf k) = valueAt r (sOf k) := by simp [valueAt, hs]
      rw [e1]
      simp only [look, hb, Bool.false_eq_true, if_false]
      exact ih

open Classical in
/-- in a row of values -/
theorem anyEq_any {x : PV} {v : Value} {l : List PV} {vs : List Value} {b : Bool} (T : TokOk s τ) (hb : PySem.NoneBooked s.heap) (hu : A.units + 8 < cLine) (e : anyEq x l = some b) (hx : Rd K ⟨s.heap, τ⟩ X v x) (hl : RdL K ⟨s.heap, τ⟩ X vs l) :
    ∃ f : Value → Bool, (∀ y, y ∈ vs.toArray → EqAt A s y v (f y)) ∧ vs.toArray.any f = b := by
  -- the answer by the datum that a value reads as
  let f : Value → Bool := fun y => if h : ∃ p, Rd K ⟨s.heap, τ⟩ X y p then (pyEq h.choose x).getD false else false
  have hf : ∀ y p, Rd K ⟨s.heap, τ⟩ X y p → f y = (pyEq p x).getD false := fun y p hy => by
    have hex : ∃ p, Rd K ⟨s.heap, τ⟩ X y p := ⟨p, hy⟩
    show (if h : ∃ p, Rd K ⟨s.heap, τ⟩ X y p then (pyEq h.choose x).getD false else false) = _
    rw [dif_pos hex, Rd.det hex.choose_spec hy]
  have key : ∀ (l : List PV) (vs : List Value) (b : Bool), anyEq x l = some b → RdL K ⟨s.heap, τ⟩ X vs l → (∀ y ∈ vs, EqAt A s y v (f y)) ∧ vs.any f = b := by
    intro l
    induction l with
    | nil =>
      intro vs b e hl
      cases hl
      simp [anyEq] at e
      exact ⟨by simp, by simp [e]⟩
    | cons p l ih =>
      intro vs b e hl
      obtain ⟨u, r, rfl, h1, h2⟩ := hl
      simp only [anyEq] at e
      cases hp : pyEq p x with
      | none => rw [hp] at e; cases e
      | some c =>
        rw [hp] at e
        cases hr : anyEq x l with
        | none => rw [hr] at e; cases e
        | some d =>
          rw [hr] at e
          simp only [Option.some.injEq] at e
          obtain ⟨g1, g2⟩ := ih r d hr h2
          have e1 : f u = c := by rw [hf u p h1, hp]; rfl
          refine ⟨fun y hy => ?_, by rw [List.any_cons, e1, g2, e]⟩
          rcases List.mem_cons.mp hy with rfl | hy
          · rw [e1]; exact eqAt_ok T hb hp h1 hx (by omega)
          · exact g1 y hy
  obtain ⟨h1, h2⟩ := key l vs b e hl
  exact ⟨f, fun y hy => h1 y (by simpa using hy), by simpa using h2⟩

theorem pyIn_ok {p q : PV} {b : Bool} {v u : Value} {Q : Value → Shared → Prop} (neg : Bool) (e : pyIn p q = some b) (hv : Rd K ⟨s.heap, τ⟩ X v p) (hu : Rd K ⟨s.heap, τ⟩ X u q) (T : TokOk s τ) (hb : PySem.NoneBooked s.heap) (hr : A.units + 100 < cLine)
    (hQ : ∀ tk, s.toks ≤ tk → Q (.bool (if neg then !b else b)) { s with toks := tk }) : Wp K.M A (compareOp (if neg then .NotIn else .In) v u) Q E s := by
  unfold pyIn at e
  split at e
  · obtain ⟨t, rfl⟩ := hv; obtain ⟨t', rfl⟩ := hu
    split at e
    · rename_i l _ c
      cases e
      have h1 : Txt.contains (sOf l) (sOf [c]) = l.contains c := by
        show (!(Builtin.Str.occurrences (sOf l) ⟨#[c]⟩ 0 (sOf l).length 1).isEmpty) = _
        rw [StrLaws.found_one, ← decide_mem_contains]
      have := hQ s.toks (Nat.le_refl _)
      cases neg
      · refine ⟨SB.contains ?_⟩
        rw [h1]; exact this
      · refine ⟨SB.notContains ?_⟩
        rw [h1]; exact this
    · cases e
  · obtain ⟨t, rfl⟩ := hv
    obtain ⟨a, kvs, rfl, _, ⟨hd, hs⟩, hl⟩ := hu
    rename_i k l _
    cases e
    have hk : (valueAt kvs (sOf k)).isSome = (look k l).isSome := by
      have := look_valueAt k hl
      cases hlk : look k l with
      | none => rw [this.1 hlk]; rfl
      | some p => obtain ⟨v, h1, _⟩ := this.2 p hlk; rw [h1]; rfl
    have := hQ (s.toks + 1) (Nat.le_succ _)
    cases neg
    · refine ⟨wpAny_in_of (knd := PySem.strKind K.prog K.w) (k := sOf k) (strKind_is _ _ _ _) hs hd.mapOf ?_⟩
      rw [hk]; exact this
    · refine ⟨wpAny_notIn_of (knd := PySem.strKind K.prog K.w) (k := sOf k) (strKind_is _ _ _ _) hs hd.mapOf ?_⟩
      rw [hk]; exact this
  · obtain ⟨a, vs, rfl, _, p1, r1⟩ := hu
    obtain ⟨f, h1, h2⟩ := anyEq_any (A := A.in1) T hb (by show A.units + 1 + 8 < cLine; omega) e hv r1
    have := hQ s.toks (Nat.le_refl _)
    cases neg
    · exact ⟨in_listAt f p1.isList h1 (by rw [h2]; exact this)⟩
    · exact ⟨notIn_listAt f p1.isList h1 (by rw [h2]; exact this)⟩
  · obtain ⟨a, vs, rfl, _, p1, r1⟩ := hu
    obtain ⟨f, h1, h2⟩ := anyEq_any (A := A.in1) T hb (by show A.units + 1 + 8 < cLine; omega) e hv r1
    have := hQ s.toks (Nat.le_refl _)
    cases neg
    · exact ⟨in_tupleAt f p1.isTuple h1 (by rw [h2]; exact this)⟩
    · exact ⟨notIn_tupleAt f p1.isTuple h1 (by rw [h2]; exact this)⟩
  · cases e

theorem cmpop_ok {op : CmpOp} {p q : PV} {b : Bool} {v u : Value} {Q : Value → Shared → Prop} (e : cmpop op p q = some b) (hv : Rd K ⟨s.heap, τ⟩ X v p) (hu : Rd K ⟨s.heap, τ⟩ X u q) (T : TokOk s τ) (hb : PySem.NoneBooked s.heap) (hr : A.units + 100 < cLine)
    (hQ : ∀ tk, s.toks ≤ tk → Q (.bool b) { s with toks := tk }) : Wp K.M A (compareOp op v u) Q E s := by
  cases op <;> simp only [cmpop] at e <;> (try (cases e; done))
  · exact ⟨rcAt_ok T hb 8 p q b A v u e hv hu (by omega) K.prog K.w E Q (hQ s.toks (Nat.le_refl _))⟩
  · cases hp : pyEq p q with
    | none => rw [hp] at e; cases e
    | some c =>
      rw [hp] at e
      cases e
      exact ⟨rcNeAt_ok T hb 8 p q c A v u hp hv hu (by omega) K.prog K.w E Q (hQ s.toks (Nat.le_refl _))⟩
  · split at e
    · cases e
      obtain ⟨t, rfl⟩ := hv; obtain ⟨t', rfl⟩ := hu
      exact ⟨PyProof.Rows.lt_int (hQ s.toks (Nat.le_refl _))⟩
    · cases e
  · split at e
    · cases e
      obtain ⟨t, rfl⟩ := hv; obtain ⟨t', rfl⟩ := hu
      exact ⟨PyProof.Rows.gt_int (hQ s.toks (Nat.le_refl _))⟩
    · cases e
  · exact pyIn_ok false e hv hu T hb hr hQ
  · cases hp : pyIn p q with
    | none => rw [hp] at e; cases e
    | some c =>
      rw [hp] at e
      cases e
      exact pyIn_ok true hp hv hu T hb hr hQ

theorem truth_ok {p : PV} {b : Bool} {v : Value} {Q : Bool → Shared → Prop} (e : truth p = some b) (hv : Rd K ⟨s.heap, τ⟩ X v p)
    (hQ : ∀ tk, s.toks ≤ tk → Q b { s with toks := tk }) : Wp K.M A (truthy v) Q E s := by
  cases p <;> simp only [truth] at e <;> (try (cases e; done))
  · cases e; cases hv; exact ⟨wpAny_truthy_bool (hQ s.toks (Nat.le_refl _))⟩
  · cases e; obtain ⟨t, rfl⟩ := hv; exact ⟨P.truthy_int (hQ s.toks (Nat.le_refl _))⟩
  · split at e
    · rename_i l hz
      cases e
      obtain ⟨t, rfl⟩ := hv
      have hz : l.length ≤ 1000000 := Nat.le_of_ble_eq_true hz
      refine ⟨P.truthy_str (by rw [length_sOf]; omega) ?_⟩
      rw [length_sOf]
      have e1 : (((l.length : Nat) : Int) != 0) = !l.isEmpty := by cases l <;> simp <;> omega
      rw [e1]
      exact hQ _ (by omega)
    · cases e
  · split at e
    · rename_i l hz
      cases e
      obtain ⟨a, vs, rfl, _, p1, r1⟩ := hv
      have hz : l.length ≤ 1000000 := Nat.le_of_ble_eq_true hz
      have hn := r1.length
      refine ⟨wpAny_truthy_list p1.isList (by simp only [List.size_toArray]; omega) ?_⟩
      have e1 : vs.toArray.isEmpty = l.isEmpty := by
        cases l <;> cases vs <;> simp at hn ⊢
      rw [e1]
      exact hQ _ (by omega)
    · cases e

/-! ## items -/
theorem idx_seq {i : Int} {n j : Nat} (e : idx i n = some j) : seqIndex? i n = some j ∧ j < n ∧ -(2 ^ 63) ≤ i ∧ i < 2 ^ 63 ∧ (if i < 0 then -(n : Int) ≤ i ∧ j = (i + n).toNat else i < n ∧ j = i.toNat) := by
  unfold idx at e
  unfold seqIndex?
  split at e
  · rename_i hz
    have hz : n ≤ 1000000 := Nat.le_of_ble_eq_true hz
    split at e
    · split at e
      · cases e
        rename_i h1 h2
        refine ⟨?_, by omega, by omega, by omega, by rw [if_pos h1]; exact ⟨h2, rfl⟩⟩
        simp only [h1, if_true]
        rw [if_pos (by simp; omega)]
      · cases e
    · split at e
      · cases e
        rename_i h1 h2
        refine ⟨?_, by omega, by omega, by omega, by rw [if_neg h1]; exact ⟨h2, rfl⟩⟩
        simp only [h1, if_false]
        rw [if_pos (by simp; omega)]
      · cases e
  · cases e

theorem getI_ok {p q r : PV} {v u : Value} {Q : Value → Shared → Prop} (e : getI p q = some r) (hv : Rd K ⟨s.heap, τ⟩ X v p) (hu : Rd K ⟨s.heap, τ⟩ X u q) (T : TokOk s τ)
    (hQ : ∀ v s' τ', Ext s τ s' τ' → Rd K ⟨s'.heap, τ'⟩ X v r → Q v s') :
    (∃ T id, s.TypeIs v T ∧ typeLookup (.type T) "__getitem__" = pure (some (.builtin id))) ∧ Wp K.M A (getItem v u) Q E s := by
  unfold getI at e
  split at e
  · rename_i l i
    cases hi : idx i l.length with
    | none => rw [hi] at e; cases e
    | some j =>
      rw [hi] at e
      dsimp only at e
      obtain ⟨a, vs, rfl, _, p1, r1⟩ := hv
      obtain ⟨t, rfl⟩ := hu
      have hn := r1.length
      refine ⟨⟨_, _, p1.isList.typeIs, list_getitem_lookup⟩, ?_⟩
      obtain ⟨w', g1, g2⟩ := r1.get e
      obtain ⟨_, _, h3, h4, h5⟩ := idx_seq hi
      split at h5
      · rename_i h1
        refine ⟨wpAny_getItem_list_neg p1.isList h1 (by simp only [List.size_toArray, hn]; exact h5.1) h3 (by simp only [List.size_toArray, hn, List.getElem?_toArray]; rw [← h5.2]; exact g1) (hQ _ _ _ (.refl T) g2)⟩
      · refine ⟨wpAny_getItem_list p1.isList (by omega) h4 (by rw [List.getElem?_toArray, ← h5.2]; exact g1) (hQ _ _ _ (.refl T) g2)⟩
  · rename_i l i
    cases hi : idx i l.length with
    | none => rw [hi] at e; cases e
    | some j =>
      rw [hi] at e
      dsimp only at e
      obtain ⟨a, vs, rfl, _, p1, r1⟩ := hv
      obtain ⟨t, rfl⟩ := hu
      have hn := r1.length
      have ht : s.TypeIs (.ref a) "tuple" := let ⟨o, ho, hc, _⟩ := p1.isTuple; ⟨o, ho, hc⟩
      refine ⟨⟨_, _, ht, PySem.F.slot_tuple_getitem.lookup⟩, ?_⟩
      obtain ⟨w', g1, g2⟩ := r1.get e
      obtain ⟨h1, _, h3, h4, _⟩ := idx_seq hi
      exact ⟨PyProof.Rows.getItem_tuple (j := j) p1.isTuple h3 h4 (by simp only [List.size_toArray, hn]; exact h1) (by rw [List.getElem?_toArray]; exact g1) (hQ _ _ _ (.refl T) g2)⟩
  · rename_i l i
    cases hi : idx i l.length with
    | none => rw [hi] at e; cases e
    | some j =>
      rw [hi] at e
      dsimp only at e
      obtain ⟨t, rfl⟩ := hv
      obtain ⟨t', rfl⟩ := hu
      refine ⟨⟨_, _, typeIs_str _ _ _, PySem.F.slot_str_getitem.lookup⟩, ?_⟩
      obtain ⟨h1, h2, h3, h4, _⟩ := idx_seq hi
      cases hc : l[j]? with
      | none => rw [hc] at e; cases e
      | some c =>
        rw [hc] at e
        cases e
        refine ⟨P.getItem_str (c := c) (by simp; omega) (by rw [length_sOf, h1]; simpa using hc) (hQ _ _ _ (.tok1 T) ?_)⟩
        exact ⟨_, rfl⟩
  · rename_i l k
    obtain ⟨a, kvs, rfl, _, ⟨hd, hs⟩, hl⟩ := hv
    obtain ⟨t, rfl⟩ := hu
    obtain ⟨v', g1, g2⟩ := (look_valueAt k hl).2 r e
    refine ⟨⟨_, _, hd.typeIs, slot_dict_getitem.lookup⟩, ?_⟩
    exact ⟨wpAny_getItem_of (knd := PySem.strKind K.prog K.w) (k := sOf k) (strKind_is _ _ _ _) hd.mapOf g1 (hQ _ _ _ (.tok1 T) g2)⟩
  · cases e

/-! ## slices -/
theorem clip_at {d n a : Nat} {p : PV} {v : Value} {g : Hp} (e : clip d n p = some a) (hv : Rd K g X v p) : ∃ k : Option Int, IsPart v k ∧ a = k.elim d (clipAt n) ∧ ∃ kt : Option (Int × Tok), v = partValue kt ∧ kt.map (·.1) = k := by
  unfold clip at e
  split at e
  · cases e; cases hv; exact ⟨none, .none, rfl, none, rfl, rfl⟩
  · cases e
    obtain ⟨t, rfl⟩ := hv
    refine ⟨some _, .int _ t, ?_, some (_, t), rfl, rfl⟩
    simp only [Option.elim]
    unfold clipAt
    split
    · omega
    · split <;> omega
  · cases e

/-- the slice's object laid -/
abbrev withSlice (s : Shared) (vl vu vt : Value) : Shared := { s with heap := s.heap.push { cls := .type "slice", data := .fields #[vl, vu, vt] } }

theorem RdL.slice {l : List PV} {vs : List Value} {g : Hp} (h : RdL K g X vs l) (a b : Nat) : RdL K g X ((vs.drop a).take (b - a)) ((l.drop a).take (b - a)) := (h.drop a).take _

theorem slice_ok {p lo hi st r : PV} {v vl vu vt : Value} {Q : Value → Shared → Prop} (e : slice p lo hi st = some r) (hv : Rd K ⟨s.heap, τ⟩ X v p) (hl : Rd K ⟨s.heap, τ⟩ X vl lo) (hu : Rd K ⟨s.heap, τ⟩ X vu hi) (ht : Rd K ⟨s.heap, τ⟩ X vt st)
    (T : TokOk s τ) (hX : XD s.heap X) (hQ : ∀ v s' τ', Ext s τ s' τ' → Rd K ⟨s'.heap, τ'⟩ X v r → Q v s') :
    (∃ T id, (withSlice s vl vu vt).TypeIs v T ∧ typeLookup (.type T) "__getitem__" = pure (some (.builtin id))) ∧ Wp K.M A (getItem v (.ref s.heap.objs.size)) Q E (withSlice s vl vu vt) := by
  have hk : ∀ b o, s.heap.get? b = some o → (withSlice s vl vu vt).heap.get? b = some o := fun _ _ e => Heap.get?_push_of_some _ e
  have hs : (withSlice s vl vu vt).heap.IsSliceOf s.heap.objs.size vl vu vt := .new ..
  unfold slice at e
  split at e
  · rename_i l
    split at e
    · rename_i hz
      have hz := szOk_le hz
      obtain ⟨a, vs, rfl, _, p1, r1⟩ := hv
      have hn := r1.length
      have p1' := p1.keep hk
      have r1' : RdL K ⟨(withSlice s vl vu vt).heap, τ⟩ X vs l := RdL.heap hk r1
      refine ⟨⟨_, _, p1'.isList.typeIs, list_getitem_lookup⟩, ?_⟩
      have T' : TokOk (withSlice s vl vu vt) τ := T.le (Nat.le_refl _)
      have fin : ∀ (ys : List Value) (m : List PV), RdL K ⟨(withSlice s vl vu vt).heap, τ⟩ X ys m → PV.list m = r → Q (.ref (withSlice s vl vu vt).heap.objs.size) { withSlice s vl vu vt with heap := (withSlice s vl vu vt).heap.push { cls := .type "list", data := .seq ys.toArray } } := fun ys m hy hm => by
        subst hm
        refine hQ _ _ _ ((Ext.push T).trans (.push T')) ?_
        exact (fresh_list (s := withSlice s vl vu vt) hy).rd (hX.keep hk)
      unfold sliceL at e
      split at e
      · cases ht
        cases hc1 : clip 0 l.length lo with
        | none => rw [hc1] at e; cases e
        | some a1 =>
          rw [hc1] at e
          cases hc2 : clip l.length l.length hi with
          | none => rw [hc2] at e; cases e
          | some a2 =>
            rw [hc2] at e
            simp only [Option.map_some, Option.some.injEq] at e
            obtain ⟨k1, q1, rfl, _⟩ := clip_at hc1 hl
            obtain ⟨k2, q2, rfl, _⟩ := clip_at hc2 hu
            refine ⟨wpAny_getItem_list_slice p1'.isList hs q1 q2 .none (by simp) ?_ ?_⟩
            · rw [slicePick_plain]
              simp only [List.size_toArray, hn]
              exact fin _ _ (r1'.slice _ _) e
            · first | (simp only [List.size_toArray, hn]; exact hz) | omega
      · split at e
        · split at e
          · rename_i i _ _ h1
            have : i = -1 := by simpa using h1
            subst this
            simp only [Option.map_some, Option.some.injEq] at e
            cases hl
            cases hu
            obtain ⟨t, rfl⟩ := ht
            refine ⟨wpAny_getItem_list_slice p1'.isList hs .none .none (.int _ t) (by decide) ?_ ?_⟩
            · rw [PySem.W.krv_pick]
              exact fin _ _ r1'.reverse e
            · first | (simp only [List.size_toArray, hn]; exact hz) | omega
          · cases e
        · cases e
      · cases e
    · cases e
  · cases e
end
end Mine
namespace Mine
open PySem PySem.SeqAt PyProof.Rows

/-! ## texts -/
theorem replaceC_append (c : Nat) (t : List Nat) (a b : List Nat) : replaceC (a ++ b) c t = replaceC a c t ++ replaceC b c t := by simp [replaceC]
theorem replaceC_free (c : Nat) (t : List Nat) : ∀ l : List Nat, c ∉ l → replaceC l c t = l
  | [], _ => rfl
  | k :: r, h => by
    have h1 : (k == c) = false := by simpa using fun e : k = c => h (e ▸ List.mem_cons_self ..)
    have h2 : c ∉ r := fun m => h (List.mem_cons_of_mem _ m)
    show (if k == c then t else [k]) ++ replaceC r c t = _
    rw [h1, replaceC_free c t r h2]; rfl
theorem replaceC_join (c : Nat) (t : List Nat) : ∀ parts : List Str, (∀ p ∈ parts, c ∉ p.cps.toList) → replaceC (Str.join ⟨#[c]⟩ parts).cps.toList c t = (Str.join (sOf t) parts).cps.toList
  | [], _ => rfl
  | [p], h => replaceC_free c t _ (h p (List.mem_singleton.mpr rfl))
  | p :: q :: r, h => by
    have ih := replaceC_join c t (q :: r) fun a ha => h a (List.mem_cons_of_mem _ ha)
    show replaceC (p ++ ⟨#[c]⟩ ++ Str.join ⟨#[c]⟩ (q :: r)).cps.toList c t = (p ++ sOf t ++ Str.join (sOf t) (q :: r)).cps.toList
    simp only [Str.cps_append, Array.toList_append]
    rw [replaceC_append, replaceC_append, ih, replaceC_free c t _ (h p (List.mem_cons_self ..))]
    simp [replaceC]
theorem txt_replace (l : List Nat) (c : Nat) (t : List Nat) : Txt.replace (sOf l) (sOf [c]) (sOf t) = sOf (replaceC l c t) := by
  have h : (Txt.replace (sOf l) ⟨#[c]⟩ (sOf t)).cps.toList = replaceC l c t := by
    rw [StrLaws.replace_one, ← replaceC_join c t _ (StrLaws.split_free (sOf l) c), StrLaws.join_split]
  show Txt.replace (sOf l) ⟨#[c]⟩ (sOf t) = _
  rw [← h]

theorem txt_join : ∀ ss : List (List Nat), Txt.join (sOf []) (ss.map sOf) = sOf ss.flatten := by
  intro ss
  show Builtin.Str.glued (sOf []) (ss.map sOf) = _
  rw [StrLaws.glued_eq_join]
  induction ss with
  | nil => rfl
  | cons a r ih =>
    cases r with
    | nil => simp [Str.join]
    | cons b r =>
      show sOf a ++ sOf [] ++ Str.join (sOf []) ((b :: r).map sOf) = _
      rw [ih, append_sOf, append_sOf]
      simp

theorem join_size : ∀ (ss : List (List Nat)) (n : Nat), ((ss.map sOf).toArray.foldl (· + ·.length + (sOf []).length) n) = n + ss.flatten.length := by
  intro ss n
  rw [List.foldl_toArray]
  induction ss generalizing n with
  | nil => simp
  | cons a r ih =>
    rw [List.map_cons, List.foldl_cons, ih]
    simp [length_sOf]
    omega

theorem idxOf_spec (c : Nat) : ∀ (l : List Nat) (k : Nat), idxOf? c l = some k → l[k]? = some c ∧ ∀ j, j < k → l[j]? ≠ some c
  | [], k, h => by simp [idxOf?] at h
  | x :: r, k, h => by
    simp only [idxOf?] at h
    split at h
    · rename_i hx
      cases h
      exact ⟨by simpa using hx, fun j hj => by omega⟩
    · rename_i hx
      cases hr : idxOf? c r with
      | none => rw [hr] at h; cases h
      | some m =>
        rw [hr] at h
        simp only [Option.map_some, Option.some.injEq] at h
        subst h
        obtain ⟨h1, h2⟩ := idxOf_spec c r m hr
        refine ⟨by simpa using h1, fun j hj => ?_⟩
        cases j with
        | zero => simpa using hx
        | succ j => simpa using h2 j (by omega)

theorem idxOf_occ (c : Nat) (l : List Nat) (k : Nat) (h : idxOf? c l = some k) : ∃ rest, Builtin.Str.occurrences (sOf l) (sOf [c]) 0 (sOf l).length 1 = k :: rest := by
  obtain ⟨h1, h2⟩ := idxOf_spec c l k h
  have hat : ∀ i : Nat, StrLaws.At (sOf l) (sOf [c]) (sOf l).length i ↔ l[i]? = some c := fun i => StrLaws.subAt_one (sOf l) c i
  rcases StrLaws.occ_head (sOf l) (sOf [c]) 1 (Nat.le_refl _) with ⟨_, hn⟩ | ⟨i, r, e, hi, hlt⟩
  · exact (hn k ((hat k).mpr h1)).elim
  · have : i = k := by
      rcases Nat.lt_trichotomy i k with hc | hc | hc
      · exact (h2 i hc ((hat i).mp hi)).elim
      · exact hc
      · exact (hlt k hc ((hat k).mpr h1)).elim
    subst this
    exact ⟨r, e⟩

theorem take_sub_dropWhile (p : Nat → Bool) (l : List Nat) : l.take (l.length - (l.reverse.takeWhile p).length) = (l.reverse.dropWhile p).reverse := by
  have h := List.takeWhile_append_dropWhile (p := p) (l := l.reverse)
  have e : l = (l.reverse.dropWhile p).reverse ++ (l.reverse.takeWhile p).reverse := by
    rw [← List.reverse_append, h, List.reverse_reverse]
  have hl : l.length - (l.reverse.takeWhile p).length = (l.reverse.dropWhile p).reverse.length := by
    have := congrArg List.length e
    simp only [List.length_append, List.length_reverse] at this
    simp only [List.length_reverse]
    omega
  rw [hl]
  have e2 : (l.reverse.dropWhile p).reverse <+: l := ⟨_, e.symm⟩
  exact (List.prefix_iff_eq_take.mp e2).symm

section
variable {K : Cx} {A : Around} {E : Value → Shared → Prop} {s : Shared} {τ : Tk} {X : Addr → Prop} {Q : Value → Shared → Prop}

theorem strsOf_ok {g : Hp} : ∀ {l : List PV} {vs : List Value} {ss : List (List Nat)}, strsOf l = some ss → RdL K g X vs l → ∃ xs : List (Str × Tok), vs = PySem.strValues xs ∧ xs.map (·.1) = ss.map sOf
  | [], _, ss, e, h => by cases h; simp [strsOf] at e; subst e; exact ⟨[], rfl, rfl⟩
  | .str x :: l, _, ss, e, h => by
    obtain ⟨v, r, rfl, h1, h2⟩ := h
    obtain ⟨t, rfl⟩ := h1
    simp only [strsOf] at e
    cases hr : strsOf l with
    | none => rw [hr] at e; cases e
    | some q =>
      rw [hr] at e
      cases e
      obtain ⟨xs, e1, e2⟩ := strsOf_ok hr h2
      exact ⟨(sOf x, t) :: xs, by rw [e1]; rfl, by simp [e2]⟩

theorem intsOf_ok {g : Hp} : ∀ {l : List PV} {vs : List Value} {is : List Int}, intsOf l = some is → RdL K g X vs l → IntsAre vs is
  | [], _, is, e, h => by cases h; simp [intsOf] at e; subst e; exact .nil
  | .int x :: l, _, is, e, h => by
    obtain ⟨v, r, rfl, h1, h2⟩ := h
    obtain ⟨t, rfl⟩ := h1
    simp only [intsOf] at e
    cases hr : intsOf l with
    | none => rw [hr] at e; cases e
    | some q =>
      rw [hr] at e
      cases e
      exact .cons x t (intsOf_ok hr h2)
theorem ints_rd {g : Hp} : ∀ {vs : List Value} {is : List Int}, IntsAre vs is → RdL K g X vs (is.map .int)
  | _, _, .nil => rfl
  | _, _, .cons n t h => ⟨_, _, rfl, ⟨t, rfl⟩, ints_rd h⟩

theorem mth_ok {m : Mth} {o r : PV} {args : List PV} {v : Value} {vs : List Value} (e : mth m o args = some r) (hv : Rd K ⟨s.heap, τ⟩ X v o) (ha : RdL K ⟨s.heap, τ⟩ X vs args) (T : TokOk s τ)
    (hQ : ∀ v s' τ', Ext s τ s' τ' → Rd K ⟨s'.heap, τ'⟩ X v r → Q v s') : Wp K.M A (call (.builtin (mthId m)) (v :: vs)) Q E s := by
  cases mth_is e with
  | join l ss hs hz =>
    obtain ⟨t, rfl⟩ := hv
    obtain ⟨u, r', rfl, h1, h2⟩ := ha
    cases h2
    obtain ⟨a, ws, rfl, _, p1, r1⟩ := h1
    obtain ⟨xs, rfl, e2⟩ := strsOf_ok hs r1
    have hz : ss.flatten.length ≤ 1000000 := Nat.le_of_ble_eq_true hz
    refine Wp.untok ⟨SC.join p1.isList e2 ?_ fun t' k hle => ?_⟩
    · unfold JoinOk Builtin.Str.tooLong
      rw [join_size]
      simp only [Nat.zero_add, sizeLine, Bool.not_eq_true', decide_eq_false_iff_not, gt_iff_lt, Nat.not_lt]
      omega
    · rw [txt_join]
      exact hQ _ _ _ (.tok T hle) ⟨_, rfl⟩
  | index l c k hk =>
    obtain ⟨t, rfl⟩ := hv
    obtain ⟨u, r', rfl, h1, h2⟩ := ha
    cases h2
    obtain ⟨t', rfl⟩ := h1
    obtain ⟨rest, ho⟩ := idxOf_occ c l k hk
    exact ⟨SC.index ho (hQ _ _ _ (.tok1 T) ⟨_, rfl⟩)⟩
end
end Mine
namespace Mine
open PySem PySem.SeqAt PyProof.Rows

noncomputable def bltV : Blt → Value
  | .len => .builtin "len"
  | .sum => .builtin "sum"
  | .int => .type "int"
  | .min => .builtin "min"
  | .max => .builtin "max"
  | .range => .type "range"
  | .list => .type "list"
  | .tuple => .type "tuple"
  | .sorted => .builtin "sorted"

theorem insort_perm (x : Int) : ∀ l : List Int, (insort x l).Perm (x :: l)
  | [] => .refl _
  | y :: r => by
    unfold insort
    split
    · exact .refl _
    · exact ((insort_perm x r).cons y).trans (.swap x y r)
theorem isort_perm : ∀ l : List Int, (isort l).Perm l
  | [] => .refl _
  | x :: r => (insort_perm x (isort r)).trans ((isort_perm r).cons x)
theorem insort_sorted (x : Int) : ∀ l : List Int, l.Pairwise (· ≤ ·) → (insort x l).Pairwise (· ≤ ·)
  | [], _ => by simp [insort]
  | y :: r, h => by
    unfold insort
    have h' := List.pairwise_cons.mp h
    split
    · rename_i hx
      refine List.pairwise_cons.mpr ⟨fun z hz => ?_, h⟩
      rcases List.mem_cons.mp hz with rfl | hz
      · exact hx
      · exact Int.le_trans hx (h'.1 z hz)
    · rename_i hx
      refine List.pairwise_cons.mpr ⟨fun z hz => ?_, insort_sorted x r h'.2⟩
      rcases List.mem_cons.mp ((insort_perm x r).mem_iff.mp hz) with rfl | hz
      · omega
      · exact h'.1 z hz
theorem isort_sorted : ∀ l : List Int, (isort l).Pairwise (· ≤ ·)
  | [] => .nil
  | x :: r => insort_sorted x _ (isort_sorted r)
theorem isort_unique {a l : List Int} (hp : a.Perm l) (hs : a.Pairwise (· ≤ ·)) : a = isort l :=
  (hp.trans (isort_perm l).symm).eq_of_pairwise (fun _ _ _ _ h1 h2 => Int.le_antisymm h1 h2) hs (isort_sorted l)

theorem ints_items : ∀ {vs : List Value} {is : List Int}, IntsAre vs is → ∃ xs : List (Int × Tok), vs.toArray = intItems xs.toArray ∧ xs.map (·.1) = is
  | _, _, .nil => ⟨[], by simp [intItems], rfl⟩
  | _, _, .cons n t h => by
    obtain ⟨xs, e1, e2⟩ := ints_items h
    refine ⟨(n, t) :: xs, ?_, by simp [e2]⟩
    simp [intItems] at e1 ⊢
    exact e1

section
variable {K : Cx} {A : Around} {E : Value → Shared → Prop} {s : Shared} {τ : Tk} {X : Addr → Prop} {Q : Value → Shared → Prop}

noncomputable def fvals (fs : List (UInt64 × Tok)) : List Value := fs.map fun f => Value.float f.1 f.2
noncomputable def fbt (fs : List (UInt64 × Tok)) (o : Ordering) (i j : Nat) : Bool := Float64.cmp ((fs[i]?.map (·.1)).getD 0) ((fs[j]?.map (·.1)).getD 0) == some o

/-- floats walked for the best of them -/
theorem flt_walk (fs : List (UInt64 × Tok)) (hA : A.handled = none) (hne : 0 < fs.length) (op : CmpOp) (o : Ordering)
    (hop : ∀ (x y : UInt64) (t u : Tok) (s : Shared) (Q : Value → Shared → Prop) (E : Value → Shared → Prop), Q (.bool (Float64.cmp x y == some o)) s → wpAny K.M A.in1 (richCompare op (.float x t) (.float y u)) Q E s)
    (h : ∀ v h' tk, (fvals fs)[argBest (fbt fs o) (fs.length - 1)]? = some v → (∀ d o, s.heap.get? d = some o → h'.get? d = some o) → Q v { s with heap := h', toks := tk }) :
    wpAny K.M A.in1 (pyIter (.ref s.heap.objs.size)) (fun it s₂ => ∃ I fp wr n P St bt, it = .ref I ∧ Walks K.prog K.w A.in1 I fp wr n P St ∧ St 0 s₂.heap ∧ (∀ b ∈ fp, b < s₂.heap.objs.size) ∧ 0 < n ∧ CmpOf K.prog K.w A.in1 op P bt ∧
      ∀ v h' tk, P (argBest bt (n - 1)) v → (∀ b o, b ∉ wr → s₂.heap.get? b = some o → h'.get? b = some o) → Q v { s₂ with heap := h', toks := tk }) E
      { s with heap := s.heap.push { cls := .type "tuple", data := .seq (fvals fs).toArray } } := by
  have hT : (s.heap.push { cls := .type "tuple", data := .seq (fvals fs).toArray }).IsTuple s.heap.objs.size (fvals fs).toArray := ⟨_, Heap.get?_push_size _ rfl, rfl, 0, rfl⟩
  have hsz : (s.heap.push { cls := .type "tuple", data := .seq (fvals fs).toArray }).objs.size = s.heap.objs.size + 1 := Heap.size_push ..
  have hlen : (fvals fs).toArray.size = fs.length := by simp [fvals]
  refine wpAny_pyIter_tuple hT ?_
  refine ⟨_, [_, s.heap.objs.size], [_], _, _, _, fbt fs o, rfl, Walks.tuple (A := A.in1) hA _ s.heap.objs.size (by rw [hsz]; exact Nat.ne_of_lt (Nat.lt_succ_self _)) (fvals fs).toArray,
    ⟨⟨_, Heap.get?_push_size _ rfl, rfl, rfl⟩, hT.push _⟩, fun d hd => ?_, by rw [hlen]; exact hne, fun i j vi vj s' Q' E' hi hj hq => ?_, fun v h' tk hP hk => ?_⟩
  · show d < ((s.heap.push _).push _).objs.size
    rw [Heap.size_push, hsz]
    rcases List.mem_cons.mp hd with rfl | hd
    · rw [hsz]; exact Nat.lt_succ_self _
    · rcases List.mem_cons.mp hd with rfl | hd
      · exact Nat.lt_succ_of_lt (Nat.lt_succ_self _)
      · cases hd
  · have key : ∀ (i : Nat) (v : Value), (fvals fs).toArray[i]? = some v → ∃ t, v = .float ((fs[i]?.map (·.1)).getD 0) t := fun i v hv => by
      simp only [List.getElem?_toArray, fvals, List.getElem?_map] at hv
      cases hf : fs[i]? with
      | none => rw [hf] at hv; cases hv
      | some f => rw [hf] at hv; cases hv; exact ⟨f.2, rfl⟩
    obtain ⟨t, rfl⟩ := key i vi hi
    obtain ⟨u, rfl⟩ := key j vj hj
    exact hop _ _ t u s' Q' E' hq
  · refine h v h' tk (by rw [← hlen]; simpa using hP) fun d o e => ?_
    refine hk d o (fun hm => ?_) (Heap.get?_push_of_some _ (Heap.get?_push_of_some _ e))
    rcases List.mem_cons.mp hm with e1 | hm
    · have := Heap.lt_size e; rw [e1, hsz] at this; exact Nat.lt_irrefl _ (Nat.lt_of_succ_lt this)
    · cases hm

theorem RdD.length {g : Hp} : ∀ {l : List (List Nat × PV)} {kvs : List (Str × Value)}, RdD K g X kvs l → kvs.length = l.length
  | [], _, e => by cases e; rfl
  | (k, p) :: l, _, e => by
    obtain ⟨v, r, rfl, _, h2⟩ := e
    simp [RdD.length h2]
theorem RdD.key {g : Hp} : ∀ {l : List (List Nat × PV)} {kvs : List (Str × Value)} {i : Nat} {k : Str} {x : Value} {kp : List Nat × PV}, RdD K g X kvs l → kvs[i]? = some (k, x) → l[i]? = some kp → k = sOf kp.1
  | [], _, _, _, _, _, _, _, h => by simp at h
  | (k', p) :: l, _, 0, _, _, _, e, h1, h2 => by
    obtain ⟨v, r, rfl, _, _⟩ := e
    simp at h1 h2
    rw [← h2, ← h1.1]
  | (k', p) :: l, _, i + 1, _, _, _, e, h1, h2 => by
    obtain ⟨v, r, rfl, _, h3⟩ := e
    exact RdD.key h3 (by simpa using h1) (by simpa using h2)

theorem best3 {a b c : UInt64} {t u r : Tok} {o : Ordering} {v : Value} (h : (fvals [(a, t), (b, u), (c, r)])[argBest (fbt [(a, t), (b, u), (c, r)] o) 2]? = some v) :
    v = (if Float64.cmp c (if Float64.cmp b a == some o then b else a) == some o then .float c r else if Float64.cmp b a == some o then .float b u else .float a t) := by
  have e1 : argBest (fbt [(a, t), (b, u), (c, r)] o) 1 = if Float64.cmp b a == some o then 1 else 0 := by simp [argBest, fbt]
  have e2 : argBest (fbt [(a, t), (b, u), (c, r)] o) 2 = if Float64.cmp c (if Float64.cmp b a == some o then b else a) == some o then 2 else if Float64.cmp b a == some o then 1 else 0 := by
    show (if fbt [(a, t), (b, u), (c, r)] o 2 (argBest (fbt [(a, t), (b, u), (c, r)] o) 1) = true then 2 else argBest (fbt [(a, t), (b, u), (c, r)] o) 1) = _
    rw [e1]
    have e3 : fbt [(a, t), (b, u), (c, r)] o 2 (if Float64.cmp b a == some o then 1 else 0) = (Float64.cmp c (if Float64.cmp b a == some o then b else a) == some o) := by
      split <;> rfl
    rw [e3]
  rw [e2] at h
  by_cases h1 : (Float64.cmp b a == some o) = true
  · rw [if_pos h1, if_pos h1] at h
    rw [if_pos h1, if_pos h1]
    by_cases h2 : (Float64.cmp c b == some o) = true
    · rw [if_pos h2] at h ⊢; simp [fvals] at h; rw [← h]
    · rw [if_neg h2] at h ⊢; simp [fvals] at h; rw [← h]
  · rw [if_neg h1, if_neg h1] at h
    rw [if_neg h1, if_neg h1]
    by_cases h2 : (Float64.cmp c a == some o) = true
    · rw [if_pos h2] at h ⊢; simp [fvals] at h; rw [← h]
    · rw [if_neg h2] at h ⊢; simp [fvals] at h; rw [← h]
theorem best2 {a b : UInt64} {t u : Tok} {o : Ordering} {v : Value} (h : (fvals [(a, t), (b, u)])[argBest (fbt [(a, t), (b, u)] o) 1]? = some v) :
    v = (if Float64.cmp b a == some o then .float b u else .float a t) := by
  have e1 : argBest (fbt [(a, t), (b, u)] o) 1 = if Float64.cmp b a == some o then 1 else 0 := by simp [argBest, fbt]
  rw [e1] at h
  by_cases h1 : (Float64.cmp b a == some o) = true
  · rw [if_pos h1] at h ⊢; simp [fvals] at h; rw [← h]
  · rw [if_neg h1] at h ⊢; simp [fvals] at h; rw [← h]

theorem rd_ite {g : Hp} {c : Prop} [Decidable c] {v u : Value} {a b : UInt64} (h1 : Rd K g X v (.flt a)) (h2 : Rd K g X u (.flt b)) : Rd K g X (if c then v else u) (.flt (if c then a else b)) := by
  split
  · exact h1
  · exact h2

theorem blt_ok {b : Blt} {args : List PV} {r : PV} {vs : List Value} (e : blt b args = some r) (ha : RdL K ⟨s.heap, τ⟩ X vs args) (T : TokOk s τ) (hX : XD s.heap X) (hA : A.handled = none)
    (hQ : ∀ v s' τ', Ext s τ s' τ' → Rd K ⟨s'.heap, τ'⟩ X v r → Q v s') : Wp K.M A (call (bltV b) vs) Q E s := by
  cases blt_is e with
  | lenS l hz =>
    obtain ⟨v, r', rfl, ⟨t, rfl⟩, h2⟩ := ha
    cases h2
    have hz : l.length ≤ 1000000 := Nat.le_of_ble_eq_true hz
    refine ⟨P.len_str (by rw [length_sOf]; omega) ?_⟩
    rw [length_sOf]
    exact hQ _ _ _ (.tok T (by omega)) ⟨_, rfl⟩
  | lenL l hz =>
    obtain ⟨v, r', rfl, ⟨a, ws, rfl, _, p1, r1⟩, h2⟩ := ha
    cases h2
    have hz : l.length ≤ 1000000 := Nat.le_of_ble_eq_true hz
    have hn := r1.length
    refine ⟨Calls.call_len_list p1.isList (by simp only [List.size_toArray]; omega) ?_⟩
    simp only [List.size_toArray, hn]
    exact hQ _ _ _ (.tok T (by omega)) ⟨_, rfl⟩
  | sum l is hz hi =>
    obtain ⟨v, r', rfl, ⟨a, ws, rfl, _, p1, r1⟩, h2⟩ := ha
    cases h2
    obtain ⟨xs, e1, e2⟩ := ints_items (intsOf_ok hi r1)
    have hl := p1.isList
    rw [e1] at hl
    refine Wp.untok ⟨sum_intListG hA hl fun h' tk t' hk hle => ?_⟩
    have e3 : preSum (numAt xs.toArray) xs.toArray.size = is.sum := by
      rw [preSum_eq, List.take_of_length_le (by simp), ← e2]
    rw [e3]
    exact hQ _ _ _ (.of hk T hle) ⟨_, rfl⟩
  | int x sg m ex hd =>
    obtain ⟨v, r', rfl, ⟨t, rfl, _⟩, h2⟩ := ha
    cases h2
    exact ⟨call_int_float hd (hQ _ _ _ (.tok1 T) ⟨_, rfl⟩)⟩
  | minI a b =>
    obtain ⟨v, r', rfl, ⟨t, rfl⟩, v', r'', rfl, ⟨t', rfl⟩, h2⟩ := ha
    cases h2
    refine Wp.untok ⟨min_two_ints hA fun h' tk hk hle => hQ _ _ _ (.of hk T hle) ?_⟩
    split
    · exact ⟨_, rfl⟩
    · exact ⟨_, rfl⟩
  | minF a b =>
    obtain ⟨v, r', rfl, ⟨t, rfl, ht⟩, v', r'', rfl, ⟨t', rfl, ht'⟩, h2⟩ := ha
    cases h2
    refine Wp.untok ⟨call_min_two (flt_walk (K := K) (Q := fun v s' => s.toks ≤ s'.toks → Q v s') [(a, t), (b, t')] hA (by simp) .Lt .lt (fun x y t u s Q E h => AutoFloatOps.lt_0 h) fun v h' tk hv hk hle => hQ _ _ _ (.of hk T hle) ?_)⟩
    rw [best2 hv]
    exact rd_ite ⟨_, rfl, ht'⟩ ⟨_, rfl, ht⟩
  | min3 a b c =>
    obtain ⟨v, r', rfl, ⟨t, rfl, ht⟩, v', r'', rfl, ⟨t', rfl, ht'⟩, v'', r3, rfl, ⟨t'', rfl, ht''⟩, h2⟩ := ha
    cases h2
    refine Wp.untok ⟨call_min_three (flt_walk (K := K) (Q := fun v s' => s.toks ≤ s'.toks → Q v s') [(a, t), (b, t'), (c, t'')] hA (by simp) .Lt .lt (fun x y t u s Q E h => AutoFloatOps.lt_0 h) fun v h' tk hv hk hle => hQ _ _ _ (.of hk T hle) ?_)⟩
    rw [best3 hv]
    exact rd_ite ⟨_, rfl, ht''⟩ (rd_ite ⟨_, rfl, ht'⟩ ⟨_, rfl, ht⟩)
  | max3 a b c =>
    obtain ⟨v, r', rfl, ⟨t, rfl, ht⟩, v', r'', rfl, ⟨t', rfl, ht'⟩, v'', r3, rfl, ⟨t'', rfl, ht''⟩, h2⟩ := ha
    cases h2
    refine Wp.untok ⟨call_max_three (flt_walk (K := K) (Q := fun v s' => s.toks ≤ s'.toks → Q v s') [(a, t), (b, t'), (c, t'')] hA (by simp) .Gt .gt (fun x y t u s Q E h => AutoFloatOps.gt_0 h) fun v h' tk hv hk hle => hQ _ _ _ (.of hk T hle) ?_)⟩
    rw [best3 hv]
    exact rd_ite ⟨_, rfl, ht''⟩ (rd_ite ⟨_, rfl, ht'⟩ ⟨_, rfl, ht⟩)
  | range n h =>
    obtain ⟨v, r', rfl, ⟨t, rfl⟩, h2⟩ := ha
    cases h2
    refine ⟨call_range_1 (hQ _ _ _ (.of (fun _ _ e => Heap.get?_push_of_some _ e) T (by omega)) ?_)⟩
    exact ⟨_, _, _, _, rfl, hX.fresh (get_size _), IsRange.new ..⟩
  | listR n hz =>
    obtain ⟨v, r', rfl, ⟨a, t, u, w', rfl, _, p1⟩, h2⟩ := ha
    cases h2
    have hz := Nat.le_of_ble_eq_true hz
    have hsz : Builtin.Range.rangeSize 0 n 1 = ((n.toNat : Nat) : Int) := by
      unfold Builtin.Range.rangeSize
      simp only [show (1 : Int) > 0 from by decide, if_true]
      split <;> omega
    refine Wp.untok ⟨call_list_range (n := n.toNat) hA p1 ?_ hsz (by omega) fun h' tk acc' c' hk hD hit hle => hQ _ _ _ (.of hk T hle) ?_⟩
    · unfold Builtin.Range.small Builtin.Range.rangeFitsLong
      rw [hsz]
      simp
      omega
    · refine ⟨_, acc'.toList, rfl, hX.fresh (get_size _), ⟨c', by simpa using hD⟩, RdL.of_get (by simp [upto, hit.1]) fun i v p h1 h2 => ?_⟩
      obtain ⟨t', rfl⟩ := hit.2 i v (by simpa using h1)
      simp only [upto, List.getElem?_map] at h2
      cases hr : (List.range n.toNat)[i]? with
      | none => rw [hr] at h2; cases h2
      | some k =>
        rw [hr] at h2
        cases h2
        have : k = i := by
          rw [List.getElem?_eq_some_iff] at hr
          obtain ⟨_, hr⟩ := hr
          simpa using hr.symm
        subst this
        exact ⟨t', by simp⟩
  | listD l hz =>
    obtain ⟨v, r', rfl, ⟨a, kvs, rfl, _, ⟨hd, hs⟩, hl⟩, h2⟩ := ha
    cases h2
    obtain ⟨ep, hat⟩ := hd.dictAt
    have hlen : kvs.length = l.length := RdD.length hl
    refine Wp.untok ⟨PySem.W.kdl_call (PySem.W.kdl_dict (knd := PySem.strKind K.prog K.w) (kvs := kvs) (ep := ep) hs) hA hat (by rw [hlen]; exact szOk_le hz) fun h' tk acc' c' hk hD hit hle => hQ _ _ _ (.of hk T hle) ?_⟩
    refine ⟨_, acc'.toList, rfl, hX.fresh (get_size _), ⟨c', by simpa using hD⟩, RdL.of_get (by simp [hit.1, hlen]) fun i v p h1 h2 => ?_⟩
    obtain ⟨k, x, hkx, hkk⟩ := hit.2 i v (by simpa using h1)
    simp only [List.getElem?_map] at h2
    cases hr : l[i]? with
    | none => rw [hr] at h2; cases h2
    | some kp =>
      rw [hr] at h2
      cases h2
      have := RdD.key hl hkx hr
      subst this
      exact Value.isStrOf_shape hkk
  | tuple l hz =>
    obtain ⟨v, r', rfl, ⟨a, ws, rfl, _, p1, r1⟩, h2⟩ := ha
    cases h2
    have hn := r1.length
    refine ⟨call_tuple_list p1.isList (fun h' hk => ?_) (by simp only [List.size_toArray, hn]; exact szOk_le hz)⟩
    refine hQ _ _ _ (.heap T fun b o e => Heap.get?_push_of_some _ (hk b o e)) ?_
    refine ⟨_, ws, rfl, fun hx => ?_, PT.push ws, r1.heap fun b o e => Heap.get?_push_of_some _ (hk b o e)⟩
    obtain ⟨o, ho⟩ := (hX.keep hk) _ hx
    rw [get_size] at ho
    cases ho
  | sorted l is h64 hi =>
    obtain ⟨v, r', rfl, ⟨a, ws, rfl, _, p1, r1⟩, h2⟩ := ha
    cases h2
    have hn := r1.length
    have h64 : l.length < 64 := Nat.blt_eq.mp h64
    refine ⟨PyProof.Rows.sorted_ints p1.isList (intsOf_ok hi r1) (by omega) fun out ns' a1 a2 a3 => ?_⟩
    obtain ⟨ex, he⟩ := sortedAll_at s.heap ws out
    refine hQ _ _ _ (.heap T fun b o e => sortedAll_old e) ?_
    show Rd K _ X _ (PV.list ((isort is).map PV.int))
    rw [← isort_unique a2 a3]
    refine ⟨_, out.toList, rfl, fun hx => ?_, ⟨ex, ?_⟩, ints_rd a1⟩
    · obtain ⟨o, ho⟩ := hX _ hx
      exact absurd (Heap.lt_size ho) (Nat.not_lt.mpr (Nat.le_succ _))
    · rw [he]
end
end Mine
namespace Mine
open PySem PySem.SeqAt PyProof.Rows

/-- a walk over the items of a datum, laid -/
structure Walk (K : Cx) (A : Around) (s : Shared) (τ : Tk) (X : Addr → Prop) (items : List PV) (I : Addr) (fp wr : List Addr) (P : Nat → Value → Prop) (St : Nat → Heap → Prop) (s₂ : Shared) : Prop where
  walks : Walks K.prog K.w A I fp wr items.length P St
  start : St 0 s₂.heap
  low : ∀ b ∈ fp, b < s₂.heap.objs.size
  new : ∀ b ∈ wr, s.heap.get? b = none
  off : ∀ b ∈ fp, b ∈ wr ∨ (¬ X b ∧ ∃ o, s.heap.get? b = some o)
  live : ∀ i h, St i h → ∀ b ∈ wr, ∃ o, h.get? b = some o
  ext : Ext s τ s₂ τ
  item : ∀ i v, i < items.length → P i v → ∃ q, items[i]? = some q ∧ Rd K ⟨s.heap, τ⟩ X v q
  few : items.length ≤ 1000000

section
variable {K : Cx} {A : Around} {E : Value → Shared → Prop} {s : Shared} {τ : Tk} {X : Addr → Prop} {Q : Value → Shared → Prop}

theorem iter_ok {p : PV} {items : List PV} {v : Value} (e : itemsOf p = some items) (hv : Rd K ⟨s.heap, τ⟩ X v p) (T : TokOk s τ) (hA : A.handled = none)
    (hQ : ∀ I fp wr P St s₂, Walk K A s τ X items I fp wr P St s₂ → Q (.ref I) s₂) : Wp K.M A (pyIter v) Q E s := by
  unfold itemsOf at e
  split at e
  · split at e
    · rename_i hz
      cases e
      obtain ⟨a, vs, rfl, hx, p1, r1⟩ := hv
      have hn := r1.length
      have hz : items.length ≤ 1000000 := Nat.le_of_ble_eq_true hz
      obtain ⟨na, p1'⟩ := id p1
      have hne : a ≠ s.heap.objs.size := Nat.ne_of_lt (Heap.lt_size p1')
      have W := Walks.list (prog := K.prog) (w := K.w) hA s.heap.objs.size a hne vs.toArray
      rw [show vs.toArray.size = items.length by simp [hn]] at W
      refine ⟨wpAny_pyIter_list p1.isList (hQ s.heap.objs.size [s.heap.objs.size, a] [s.heap.objs.size] (fun i v => vs.toArray[i]? = some v) (fun i h => h.IsListIter s.heap.objs.size a i ∧ h.IsList a vs.toArray) _ ?_)⟩
      exact {
        walks := W
        start := ⟨⟨_, Heap.get?_push_size _ rfl, rfl, rfl⟩, p1.isList.push _⟩
        low := fun b hb => by
          show b < (s.heap.push _).objs.size
          rw [Heap.size_push]
          rcases List.mem_cons.mp hb with rfl | hb
          · exact Nat.lt_succ_self _
          · rw [List.mem_singleton.mp hb]; exact Nat.lt_succ_of_lt (Heap.lt_size p1')
        new := fun b hb => by rw [List.mem_singleton.mp hb]; exact get_size _
        off := fun b hb => by
          rcases List.mem_cons.mp hb with rfl | hb
          · exact .inl (List.mem_singleton.mpr rfl)
          · rw [List.mem_singleton.mp hb]; exact .inr ⟨hx, _, p1'⟩
        live := by
          rintro i h ⟨⟨o, ho, _⟩, _⟩ b hb
          rw [List.mem_singleton.mp hb]; exact ⟨o, ho⟩
        ext := .push T
        item := fun i v _ hi => r1.get' (by simpa using hi)
        few := hz }
    · cases e
  · split at e
    · rename_i hz
      cases e
      obtain ⟨a, vs, rfl, hx, p1, r1⟩ := hv
      have hn := r1.length
      have hz : items.length ≤ 1000000 := Nat.le_of_ble_eq_true hz
      obtain ⟨na, p1'⟩ := id p1
      have hne : a ≠ s.heap.objs.size := Nat.ne_of_lt (Heap.lt_size p1')
      have W := Walks.tuple (prog := K.prog) (w := K.w) hA s.heap.objs.size a hne vs.toArray
      rw [show vs.toArray.size = items.length by simp [hn]] at W
      refine ⟨wpAny_pyIter_tuple p1.isTuple (hQ s.heap.objs.size [s.heap.objs.size, a] [s.heap.objs.size] (fun i v => vs.toArray[i]? = some v) (fun i h => h.IsTupleIter s.heap.objs.size a i ∧ h.IsTuple a vs.toArray) _ ?_)⟩
      exact {
        walks := W
        start := ⟨⟨_, Heap.get?_push_size _ rfl, rfl, rfl⟩, p1.isTuple.push _⟩
        low := fun b hb => by
          show b < (s.heap.push _).objs.size
          rw [Heap.size_push]
          rcases List.mem_cons.mp hb with rfl | hb
          · exact Nat.lt_succ_self _
          · rw [List.mem_singleton.mp hb]; exact Nat.lt_succ_of_lt (Heap.lt_size p1')
        new := fun b hb => by rw [List.mem_singleton.mp hb]; exact get_size _
        off := fun b hb => by
          rcases List.mem_cons.mp hb with rfl | hb
          · exact .inl (List.mem_singleton.mpr rfl)
          · rw [List.mem_singleton.mp hb]; exact .inr ⟨hx, _, p1'⟩
        live := by
          rintro i h ⟨⟨o, ho, _⟩, _⟩ b hb
          rw [List.mem_singleton.mp hb]; exact ⟨o, ho⟩
        ext := .push T
        item := fun i v _ hi => r1.get' (by simpa using hi)
        few := hz }
    · cases e
  · split at e
    · rename_i l hz
      cases e
      obtain ⟨t, rfl⟩ := hv
      have hz : l.length ≤ 1000000 := Nat.le_of_ble_eq_true hz
      have hsz : (sOf l).cps.size = (l.map fun c => PV.str [c]).length := by simp
      have low : ∀ (o : Obj), ∀ b ∈ [s.heap.objs.size], b < (s.heap.push o).objs.size := fun o b hb => by
        rw [List.mem_singleton.mp hb, Heap.size_push]; exact Nat.lt_succ_self _
      have new : ∀ b ∈ [s.heap.objs.size], s.heap.get? b = none := fun b hb => by rw [List.mem_singleton.mp hb]; exact get_size _
      have item : ∀ (i : Nat) v, SignAt (sOf l) i v → ∃ q, (l.map fun c => PV.str [c])[i]? = some q ∧ Rd K ⟨s.heap, τ⟩ X v q := fun i v hi => by
        obtain ⟨c, u, hc, rfl⟩ := hi
        have hc : l[i]? = some c := by simpa using hc
        exact ⟨.str [c], by simp [hc], u, rfl⟩
      by_cases ha : (sOf l).cps.all (· < 128) = true
      · have W := Walks.strAscii (prog := K.prog) (w := K.w) hA s.heap.objs.size (sOf l) t
        rw [show (sOf l).cps.size = (l.map fun c => PV.str [c]).length from hsz] at W
        refine ⟨wpAny_pyIter_ascii ha (hQ s.heap.objs.size [s.heap.objs.size] [s.heap.objs.size] (SignAt (sOf l)) (fun i h => h.IsStrIter s.heap.objs.size "str_ascii_iterator" (sOf l) t i) _ ?_)⟩
        exact {
          walks := W
          start := ⟨_, Heap.get?_push_size _ rfl, rfl, rfl⟩
          low := low _
          new := new
          off := fun b hb => .inl hb
          live := by
            rintro i h ⟨o, ho, _⟩ b hb
            rw [List.mem_singleton.mp hb]; exact ⟨o, ho⟩
          ext := .push T
          item := fun i v _ hi => item i v hi
          few := by simpa using hz }
      · have W := Walks.strWide (prog := K.prog) (w := K.w) hA s.heap.objs.size (sOf l) t
        rw [show (sOf l).cps.size = (l.map fun c => PV.str [c]).length from hsz] at W
        refine ⟨wpAny_pyIter_wide (by simpa using ha) (hQ s.heap.objs.size [s.heap.objs.size] [s.heap.objs.size] (SignAt (sOf l)) (fun i h => h.IsStrIter s.heap.objs.size "str_iterator" (sOf l) t i) _ ?_)⟩
        exact {
          walks := W
          start := ⟨_, Heap.get?_push_size _ rfl, rfl, rfl⟩
          low := low _
          new := new
          off := fun b hb => .inl hb
          live := by
            rintro i h ⟨o, ho, _⟩ b hb
            rw [List.mem_singleton.mp hb]; exact ⟨o, ho⟩
          ext := .push T
          item := fun i v _ hi => item i v hi
          few := by simpa using hz }
    · cases e
  · split at e
    · rename_i n hz
      cases e
      obtain ⟨a, t, u, w', rfl, _, p1⟩ := hv
      have hz := Nat.le_of_ble_eq_true hz
      have hsz : Builtin.Range.rangeSize 0 n 1 = ((n.toNat : Nat) : Int) := by
        unfold Builtin.Range.rangeSize
        simp only [show (1 : Int) > 0 from by decide, if_true]
        split <;> omega
      have W := Walks.range (prog := K.prog) (w := K.w) hA s.heap.objs.size 0 1 n.toNat
      have hsm : Builtin.Range.small 0 n 1 = true := by
        unfold Builtin.Range.small Builtin.Range.rangeFitsLong
        rw [hsz]
        simp
        omega
      refine ⟨wpAny_pyIter_range p1 hsm (hQ s.heap.objs.size [s.heap.objs.size] [s.heap.objs.size] (fun i v => ∃ t, v = .int (0 + i * 1) t) (fun i h => IsRangeIter h s.heap.objs.size (0 + (i : Nat) * 1) ((n.toNat : Int) - (i : Nat)) 1) _ ?_)⟩
      exact {
        walks := by rw [show (upto n.toNat).length = n.toNat by simp [upto]]; exact W
        start := by
          show (s.heap.push _).get? _ = _
          rw [hsz, Heap.get?_push_size _ rfl]
          simp
        low := fun b hb => by
          show b < (s.heap.push _).objs.size
          rw [List.mem_singleton.mp hb, Heap.size_push]; exact Nat.lt_succ_self _
        new := fun b hb => by rw [List.mem_singleton.mp hb]; exact get_size _
        off := fun b hb => .inl hb
        live := fun i h hi b hb => by rw [List.mem_singleton.mp hb]; exact ⟨_, hi⟩
        ext := .push T
        item := by
          rintro i v hi ⟨t', rfl⟩
          have hi' : i < n.toNat := by simpa [upto] using hi
          refine ⟨.int i, by simp [upto, hi'], t', by simp⟩
        few := by simp [upto]; omega }
    · cases e
  · split at e
    · rename_i l hz
      cases e
      obtain ⟨a, kvs, rfl, hx, ⟨hd, hs⟩, hl⟩ := hv
      have hz : l.length ≤ 1000000 := Nat.le_of_ble_eq_true hz
      have hlen : kvs.length = l.length := RdD.length hl
      obtain ⟨ep, hat⟩ := hd.dictAt
      obtain ⟨o, es, ho, rest⟩ := id hat
      have hne : a ≠ s.heap.objs.size := Nat.ne_of_lt (Heap.lt_size ho)
      have W := Walks.dictKeys (prog := K.prog) (w := K.w) (knd := PySem.strKind K.prog K.w) hA s.heap.objs.size a hne kvs ep
      rw [show kvs.length = (l.map fun p => PV.str p.1).length by simp [hlen]] at W
      refine ⟨wpAny_pyIter_dict hs hat (hQ s.heap.objs.size [s.heap.objs.size, a] [s.heap.objs.size] (fun i v => ∃ k x, kvs[i]? = some (k, x) ∧ (PySem.strKind K.prog K.w).is k v = true) (fun i h => h.IsKeyIter s.heap.objs.size a i (l.map fun p => PV.str p.1).length ep ∧ Heap.DictAt (PySem.strKind K.prog K.w) h a kvs ep) _ ?_)⟩
      exact {
        walks := W
        start := ⟨⟨_, Heap.get?_push_size _ rfl, rfl, by simp [hlen]⟩, hat.keep fun _ _ e => Heap.get?_push_of_some _ e⟩
        low := fun b hb => by
          show b < (s.heap.push _).objs.size
          rw [Heap.size_push]
          rcases List.mem_cons.mp hb with rfl | hb
          · exact Nat.lt_succ_self _
          · rw [List.mem_singleton.mp hb]; exact Nat.lt_succ_of_lt (Heap.lt_size ho)
        new := fun b hb => by rw [List.mem_singleton.mp hb]; exact get_size _
        off := fun b hb => by
          rcases List.mem_cons.mp hb with rfl | hb
          · exact .inl (List.mem_singleton.mpr rfl)
          · rw [List.mem_singleton.mp hb]; exact .inr ⟨hx, _, ho⟩
        live := by
          rintro i h ⟨⟨o, ho, _⟩, _⟩ b hb
          rw [List.mem_singleton.mp hb]; exact ⟨o, ho⟩
        ext := .push T
        item := by
          rintro i v _ ⟨k, x, hkx, hkk⟩
          have hi : i < l.length := by rw [← hlen]; exact (List.getElem?_eq_some_iff.mp hkx).1
          have hr : l[i]? = some l[i] := List.getElem?_eq_getElem hi
          have := RdD.key hl hkx hr
          subst this
          exact ⟨.str l[i].1, by simp [hr], Value.isStrOf_shape hkk⟩
        few := by simpa using hz }
    · cases e
  · cases e
end
end Mine
namespace Mine
open PySem PySem.SeqAt PyProof.Rows

/-- what the top's names must be -/
structure Glb (K : Cx) (ft : List Str) : Prop where
  fn : ∀ name ∈ ft, ∃ d ∈ recsOf K.p, d.name = name
  nodebug : ∀ f ∈ ft, (f == ("__debug__" : Str)) = false
  blt : ∀ f b, bltOf f = some b → K.mg f = none ∧ K.mb f = some (bltV b)
  zip : K.mg ("zip" : Str) = none ∧ K.mb ("zip" : Str) = some (.type "zip")

/-- a frame at work -/
structure Frm (K : Cx) (m : Nat) (sc : Scope) (vars : List Str) (A : Around) (env : Env) (s : Shared) (τ : Tk) (X : Addr → Prop) (own : Nat → Option Addr) (ρ : Ρ) : Prop where
  room : Room m A
  top : K.T s.heap
  tok : TokOk s τ
  env : EnvOk K sc vars env ⟨s.heap, τ⟩ X own ρ
  xd : XD s.heap X
  ownX : ∀ j a, own j = some a → X a

section
variable {K : Cx} {m : Nat} {sc : Scope} {vars : List Str} {A : Around} {env : Env} {s s' : Shared} {τ τ' : Tk} {X : Addr → Prop} {own : Nat → Option Addr} {ρ : Ρ}

theorem Frm.ext (F : Frm K m sc vars A env s τ X own ρ) (x : Ext s τ s' τ') : Frm K m sc vars A env s' τ' X own ρ :=
  ⟨F.room, F.top.keep x.keep, x.ok, F.env.ext x, F.xd.keep x.keep, F.ownX⟩
theorem XD.off {h : Heap} (e : XD h X) (l : List Nat) : XD h (Off X own l) := fun a x => e a x.1
theorem Frm.xdo (F : Frm K m sc vars A env s τ X own ρ) (l : List Nat) : XD s.heap (Off X own l) := F.xd.off l
end

/-- the answer of a term: what it is, and whether it is new -/
noncomputable def Ans (K : Cx) (s : Shared) (τ : Tk) (X : Addr → Prop) (own : Nat → Option Addr) (x : Mine.X) (p : PV) (v : Value) (s' : Shared) (τ' : Tk) : Prop :=
  Ext s τ s' τ' ∧ Rd K ⟨s'.heap, τ'⟩ (Off X own (al x)) v p ∧ (isFresh x = true → FreshRd K s.heap ⟨s'.heap, τ'⟩ (Off X own (al x)) v p)

/-- a term stands for an expression -/
noncomputable def EvAt (K : Cx) (C : Orc) (m : Nat) (sc : Scope) (vars : List Str) (e : Expr) (x : Mine.X) : Prop :=
  ∀ (A : Around) (env : Env) (s : Shared) (τ : Tk) (X : Addr → Prop) (own : Nat → Option Addr) (ρ : Ρ) (p : PV), Frm K m sc vars A env s τ X own ρ → ev C x ρ = some p →
    ∀ (Q : Value → Shared → Prop) (E : Value → Shared → Prop), (∀ v s' τ', Ans K s τ X own x p v s' τ' → Q v s') → Wp K.M A (eval e env) Q E s
noncomputable def TrAt (K : Cx) (C : Orc) (m : Nat) (sc : Scope) (vars : List Str) (e : Expr) (x : Mine.X) : Prop :=
  ∀ (A : Around) (env : Env) (s : Shared) (τ : Tk) (X : Addr → Prop) (own : Nat → Option Addr) (ρ : Ρ) (p : PV) (b : Bool), Frm K m sc vars A env s τ X own ρ → ev C x ρ = some p → truth p = some b →
    ∀ (Q : Bool → Shared → Prop) (E : Value → Shared → Prop), (∀ s' τ', Ext s τ s' τ' → Q b s') → Wp K.M A (isTrue e env (eval e env)) Q E s

section
variable {K : Cx} {C : Orc} {m : Nat} {sc : Scope} {vars : List Str} {ft : List Str}

theorem Rd.offl {g : Hp} {X : Addr → Prop} {own : Nat → Option Addr} {l l' : List Nat} {v : Value} {p : PV} (hl : ∀ j ∈ l, j ∈ l') (h : Rd K g (Off X own l) v p) : Rd K g (Off X own l') v p := h.less fun _ y => y.anti hl
theorem RdL.offl {g : Hp} {X : Addr → Prop} {own : Nat → Option Addr} {l l' : List Nat} {v : List Value} {p : List PV} (hl : ∀ j ∈ l, j ∈ l') (h : RdL K g (Off X own l) v p) : RdL K g (Off X own l') v p := h.less fun _ y => y.anti hl

theorem FreshRd.old {h h' : Heap} {g : Hp} {X : Addr → Prop} {v : Value} {p : PV} (e : FreshRd K h' g X v p) (hk : ∀ b o, h.get? b = some o → h'.get? b = some o) : FreshRd K h g X v p := by
  obtain ⟨a, rfl, h1, h2⟩ := e
  refine ⟨a, rfl, ?_, h2⟩
  cases ha : h.get? a with
  | none => rfl
  | some o => rw [hk _ _ ha] at h1; cases h1

theorem ev_const {c : Const} {k : Nat} {pos : Pos} {v : PV} (h : cstOf c = some v) : EvAt K C m sc vars (.Constant c k pos) (.cst v) := by
  intro A env s τ X own ρ p F e Q E hQ
  simp only [ev, Option.some.injEq] at e
  subst e
  have nf : ∀ {P : Prop}, isFresh (.cst v) = true → P := fun h => by cases h
  rw [arm_eval_Constant]
  cases c <;> simp only [cstOf] at h <;> (try (cases h; done)) <;> cases h
  · exact .pure (hQ _ _ _ ⟨.refl F.tok, rfl, nf⟩)
  · exact .pure (hQ _ _ _ ⟨.refl F.tok, rfl, nf⟩)
  · exact ⟨wpAny_Constant_int (k := k) (pos := pos) (hQ _ _ _ ⟨.tok1 F.tok, ⟨_, rfl⟩, nf⟩)⟩
  · exact ⟨PySem.wpAny_Constant_float (k := k) (pos := pos) (hQ _ _ _ ⟨.flt F.tok _, ⟨_, rfl, .inr ⟨rfl, rfl⟩⟩, nf⟩)⟩
  · exact ⟨Calls.Constant_str (k := k) (pos := pos) (hQ _ _ _ ⟨.tok1 F.tok, ⟨_, rfl⟩, nf⟩)⟩

theorem varAt_ok {x : Str} {i : Nat} (h : varAt sc vars x = some i) : isVarK (sc.names.lookup x) = true ∧ (x == ("__debug__" : Str)) = false ∧ (x == (".0" : Str)) = false ∧ vars.findIdx? (· == x) = some i := by
  unfold varAt at h
  split at h
  · rename_i hc
    simp only [Bool.and_eq_true, Bool.not_eq_true'] at hc
    exact ⟨hc.1.1, hc.1.2, hc.2, h⟩
  · cases h

theorem load_at {A : Around} {env : Env} {s : Shared} {E : Value → Shared → Prop} {x : Str} {v : Value} {Q : Value → Shared → Prop} (hk : env.scope.kind = .function) (h : At env s.heap x v) (hq : Q v s) : Wp K.M A (loadName env x) Q E s := by
  rcases h with ⟨hl, m, hn, hv⟩ | ⟨hl, c, hc, hv⟩
  · exact ⟨wpAny_loadName_local hk hl hn hv hq⟩
  · exact ⟨wpAny_loadName_cell hk hl hc hv hq⟩

theorem ev_name {x : Str} {pos : Pos} {i : Nat} (h : varAt sc vars x = some i) : EvAt K C m sc vars (.Name x pos) (.var i) := by
  intro A env s τ X own ρ p F e Q E hQ
  obtain ⟨h1, h2, h3, h4⟩ := varAt_ok h
  have hb : (ρ[i]?).bind Sl.val = some p := by
    simp only [ev] at e
    cases hr : ρ[i]? with
    | none => rw [hr] at e; cases e
    | some sl => rw [hr] at e; exact e
  obtain ⟨v, hat, hh⟩ := F.env.var x i p h3 h1 h4 hb
  have hk : env.scope.kind = .function := by rw [F.env.scope]; exact F.env.kind
  refine ⟨wpAny_Name (load_at hk hat (hQ v s τ ⟨.refl F.tok, ?_, fun h => by cases h⟩)).out h2⟩
  unfold Held at hh
  split at hh
  · exact hh.less fun _ y => y.1
  · rename_i a ha
    obtain ⟨rfl, hh⟩ := hh
    exact RdTop.rd (fun _ y => y.1) (fun y => y.2 i (List.mem_singleton.mpr rfl) ha) hh

theorem ev_neg {a : Expr} {x : X} {pos : Pos} (ih : EvAt K C m sc vars a x) : EvAt K C m sc vars (.UnaryOp .USub a pos) (.neg x) := by
  intro A env s τ X own ρ p F e Q E hQ
  simp only [ev] at e
  split at e
  · rename_i i he
    cases e
    rw [arm_eval_UnaryOp]
    refine .bind (ih A env s τ X own ρ _ F he _ _ fun v s₁ τ₁ ⟨h1, h2, _⟩ => .bind (.stand (.holding ?_)))
    obtain ⟨t, rfl⟩ := h2
    exact ⟨PyProof.Rows.neg_int (hQ _ _ _ ⟨h1.trans (.tok1 h1.ok), ⟨_, rfl⟩, fun h => by cases h⟩)⟩
  · cases e

theorem ev_not {a : Expr} {x : X} {pos : Pos} (ih : EvAt K C m sc vars a x) : EvAt K C m sc vars (.UnaryOp .Not a pos) (.not x) := by
  intro A env s τ X own ρ p F e Q E hQ
  simp only [ev] at e
  split at e
  · rename_i q he
    cases ht : truth q with
    | none => rw [ht] at e; cases e
    | some b =>
      rw [ht] at e
      cases e
      rw [arm_eval_UnaryOp]
      refine .bind (ih A env s τ X own ρ _ F he _ _ fun v s₁ τ₁ ⟨h1, h2, _⟩ => .bind (.stand (.holding ⟨PyProof.Rows.not_of ?_⟩)))
      exact (truth_ok ht h2 fun tk hle => hQ _ _ _ ⟨h1.trans (.tok h1.ok hle), rfl, fun h => by cases h⟩).out
  · cases e

theorem binop_scalar {op : Operator} {p q r : PV} (hm : mixes op = false) (e : binop op p q = some r) : scalar r = true := by
  have hF : ∀ a b, binF op a b = some r → scalar r = true := fun a b h => by
    cases op <;> simp only [binF] at h <;> (try (cases h; done)) <;> (try (cases h; rfl)) <;> (split at h <;> cases h <;> rfl)
  have hI : ∀ a b, binI op a b = some r → scalar r = true := fun a b h => by
    cases op <;> simp only [binI] at h <;> (try (cases h; done)) <;> (try (cases h; rfl)) <;> (split at h <;> (try (cases h; done)) <;> (try (cases h; rfl)) <;> (split at h <;> cases h <;> rfl))
  unfold binop at e
  split at e
  · exact hI _ _ e
  · exact hF _ _ e
  · rename_i a b
    cases hf : fltOf (PV.int b) with
    | none => rw [hf] at e; cases e
    | some x => rw [hf] at e; dsimp only at e; exact hF _ _ e
  · rename_i a b
    cases hf : fltOf (PV.int a) with
    | none => rw [hf] at e; cases e
    | some x => rw [hf] at e; dsimp only at e; exact hF _ _ e
  all_goals (cases op <;> simp_all [mixes])

theorem ev_bin {a b : Expr} {op : Operator} {x y : X} {pos : Pos} (iha : EvAt K C m sc vars a x) (ihb : EvAt K C m sc vars b y) : EvAt K C m sc vars (.BinOp a op b pos) (.bin op x y) := by
  intro A env s τ X own ρ p F e Q E hQ
  simp only [ev] at e
  cases hx : ev C x ρ with
  | none => rw [hx] at e; cases e
  | some px =>
    cases hy : ev C y ρ with
    | none => rw [hx, hy] at e; cases e
    | some py =>
      rw [hx, hy] at e
      dsimp only at e
      rw [arm_eval_BinOp]
      refine .bind (iha A env s τ X own ρ _ F hx _ _ fun v s₁ τ₁ ⟨h1, h2, _⟩ => .bind (.holding ?_))
      refine ihb A env s₁ τ₁ X own ρ _ (F.ext h1) hy _ _ fun u s₂ τ₂ ⟨g1, g2, _⟩ => .bind (.stand (.operate ?_))
      have h2' : Rd K ⟨s₂.heap, τ₂⟩ (Off X own (al x ++ al y)) v px := (h2.ext g1).offl fun j hj => List.mem_append_left _ hj
      have g2' : Rd K ⟨s₂.heap, τ₂⟩ (Off X own (al x ++ al y)) u py := g2.offl fun j hj => List.mem_append_right _ hj
      have F₂ := (F.ext h1).ext g1
      by_cases hf : isFresh (.bin op x y) = true
      · -- a list, times a number
        have hop : op = .Mult ∧ ∃ l, x = .lst l := by
          unfold isFresh at hf
          split at hf <;> first | cases hf | skip
          all_goals (rename_i heq; first | (cases heq; done) | (cases heq; exact ⟨rfl, _, rfl⟩))
        obtain ⟨rfl, l, rfl⟩ := hop
        have hpx : ∃ vs, px = .list vs := by
          simp only [ev] at hx
          split at hx
          · split at hx
            · cases hx; exact ⟨_, rfl⟩
            · cases hx
          · cases hx
        obtain ⟨vs, rfl⟩ := hpx
        cases py with
        | int i =>
          obtain ⟨t, rfl⟩ := g2'
          obtain ⟨a, ws, rfl, hoff, hp, hl⟩ := h2'
          simp only [binop] at e
          split at e
          · rename_i hz
            rw [Bool.and_eq_true] at hz
            cases e
            exact mul_list_ok hp hl hz.1 hz.2 F₂.tok fun w' s₃ τ₃ k1 k2 => hQ _ _ _ ⟨(h1.trans g1).trans k1, k2.rd (F₂.xdo _), fun _ => k2.old (h1.trans g1).keep⟩
          · cases e
        | _ => simp only [binop] at e; cases e
      · refine binop_ok e h2' g2' (F₂.xdo _) F₂.tok fun w' s₃ τ₃ k1 k2 => hQ _ _ _ ⟨(h1.trans g1).trans k1, ?_, fun h => absurd h hf⟩
        show Rd K _ (Off X own (if mixes op then al x ++ al y else [])) _ _
        cases hm : mixes op with
        | true => exact k2
        | false => exact k2.scalar (binop_scalar hm e)
end
end Mine
namespace Mine
open PySem PySem.SeqAt PyProof.Rows

section
variable {K : Cx} {C : Orc} {m : Nat} {sc : Scope} {vars : List Str} {ft : List Str}

theorem ev_cmp {a b : Expr} {op : CmpOp} {x y : Mine.X} {pos : Pos} (iha : EvAt K C m sc vars a x) (ihb : EvAt K C m sc vars b y) (hm : behindInMarks op b = false) : EvAt K C m sc vars (.Compare a [op] [b] pos) (.cmp op x y) := by
  intro A env s τ X own ρ p F e Q E hQ
  simp only [ev] at e
  cases hx : ev C x ρ with
  | none => rw [hx] at e; cases e
  | some px =>
    cases hy : ev C y ρ with
    | none => rw [hx, hy] at e; cases e
    | some py =>
      rw [hx, hy] at e
      dsimp only at e
      cases hc : cmpop op px py with
      | none => rw [hc] at e; cases e
      | some r =>
        rw [hc] at e
        cases e
        refine ⟨wpAny_Compare1 (iha A env s τ X own ρ _ F hx _ _ fun v s₁ τ₁ ⟨h1, h2, _⟩ => ?_).out hm⟩
        refine (ihb A env s₁ τ₁ X own ρ _ (F.ext h1) hy _ _ fun u s₂ τ₂ ⟨g1, g2, _⟩ => ?_).out
        have F₂ := (F.ext h1).ext g1
        have h2' : Rd K ⟨s₂.heap, τ₂⟩ (Off X own (al x ++ al y)) v px := (h2.ext g1).offl fun j hj => List.mem_append_left _ hj
        have g2' : Rd K ⟨s₂.heap, τ₂⟩ (Off X own (al x ++ al y)) u py := g2.offl fun j hj => List.mem_append_right _ hj
        exact (cmpop_ok hc h2' g2' F₂.tok F₂.top.nb (by have := F.room.units; omega) fun tk hle => hQ _ _ _ ⟨(h1.trans g1).trans (.tok F₂.tok hle), rfl, fun h => by cases h⟩).out

theorem tr_cmp {a b : Expr} {op : CmpOp} {x y : Mine.X} {pos : Pos} (iha : EvAt K C m sc vars a x) (ihb : EvAt K C m sc vars b y) (hm : behindInMarks op b = false) : TrAt K C m sc vars (.Compare a [op] [b] pos) (.cmp op x y) := by
  intro A env s τ X own ρ p bb F e ht Q E hQ
  simp only [ev] at e
  cases hx : ev C x ρ with
  | none => rw [hx] at e; cases e
  | some px =>
    cases hy : ev C y ρ with
    | none => rw [hx, hy] at e; cases e
    | some py =>
      rw [hx, hy] at e
      dsimp only at e
      cases hc : cmpop op px py with
      | none => rw [hc] at e; cases e
      | some r =>
        rw [hc] at e
        cases e
        cases ht
        refine ⟨wpAny_isTrue_Compare1 (iha A env s τ X own ρ _ F hx _ _ fun v s₁ τ₁ ⟨h1, h2, _⟩ => ?_).out hm⟩
        refine (ihb A env s₁ τ₁ X own ρ _ (F.ext h1) hy _ _ fun u s₂ τ₂ ⟨g1, g2, _⟩ => ?_).out
        have F₂ := (F.ext h1).ext g1
        have h2' : Rd K ⟨s₂.heap, τ₂⟩ (Off X own (al x ++ al y)) v px := (h2.ext g1).offl fun j hj => List.mem_append_left _ hj
        have g2' : Rd K ⟨s₂.heap, τ₂⟩ (Off X own (al x ++ al y)) u py := g2.offl fun j hj => List.mem_append_right _ hj
        exact (cmpop_ok hc h2' g2' F₂.tok F₂.top.nb (by have := F.room.units; omega) fun tk hle => wpAny_truthy_bool (hQ _ _ ((h1.trans g1).trans (.tok F₂.tok hle)))).out

theorem tr_not {a : Expr} {x : Mine.X} {pos : Pos} (ih : TrAt K C m sc vars a x) : TrAt K C m sc vars (.UnaryOp .Not a pos) (.not x) := by
  intro A env s τ X own ρ p bb F e ht Q E hQ
  simp only [ev] at e
  split at e
  · rename_i q he
    cases hq : truth q with
    | none => rw [hq] at e; cases e
    | some b =>
      rw [hq] at e
      cases e
      cases ht
      rw [arm_isTrue_UnaryOp]
      exact .bind (ih A env s τ X own ρ _ _ F he hq _ _ fun s₁ τ₁ h1 => .pure (hQ _ _ h1))
  · cases e

/-- the plain road to a truth -/
theorem tr_of_ev {e : Expr} {x : Mine.X} (ih : EvAt K C m sc vars e x)
    (hs : ∀ env whole, isTrue e env whole = (do let v ← whole; standAt e.pos; holding [v] (truthy v))) : TrAt K C m sc vars e x := by
  intro A env s τ X own ρ p bb F he ht Q E hQ
  rw [hs]
  exact .bind (ih A env s τ X own ρ _ F he _ _ fun v s₁ τ₁ ⟨h1, h2, _⟩ => .bind (.stand (.holding (truth_ok ht h2 fun tk hle => hQ _ _ (h1.trans (.tok h1.ok hle))))))

/-- lists of expressions -/
noncomputable def EvL (K : Cx) (C : Orc) (m : Nat) (sc : Scope) (vars : List Str) : List Expr → XL → Prop
  | [], .nil => True
  | e :: r, .cons x l => EvAt K C m sc vars e x ∧ TrAt K C m sc vars e x ∧ (∀ a p, e ≠ .Starred a p) ∧ EvL K C m sc vars r l
  | _, _ => False

theorem ev_bop {op : BoolOp} {pos : Pos} : ∀ {es : List Expr} {l : XL}, EvL K C m sc vars es l → EvAt K C m sc vars (.BoolOp op es pos) (.bop (op == .And) l)
  | [], .nil, _ => fun A env s τ X own ρ p F e Q E hQ => by simp [ev, evB] at e
  | [a], .cons x .nil, ⟨iha, _, _, _⟩ => by
    intro A env s τ X own ρ p F e Q E hQ
    have e' : ev C x ρ = some p := by
      simp only [ev, evB] at e
      cases hx : ev C x ρ with
      | none => rw [hx] at e; cases e
      | some px => rw [hx] at e; exact e
    rw [arm_eval_BoolOp]
    show Wp K.M A (boolOp pos op [eval a env]) Q E s
    unfold boolOp
    refine iha A env s τ X own ρ _ F e' _ _ fun v s₁ τ₁ ⟨h1, h2, _⟩ => hQ _ _ _ ⟨h1, ?_, fun h => by cases h⟩
    exact h2.offl fun j hj => List.mem_append_left _ hj
  | a :: b :: es, .cons x (.cons y l), ⟨iha, _, _, ihl⟩ => by
    intro A env s τ X own ρ p F e Q E hQ
    rw [arm_eval_BoolOp]
    show Wp K.M A (boolOp pos op (eval a env :: eval b env :: evalEach es env)) Q E s
    unfold boolOp
    simp only [ev] at e
    unfold evB at e
    cases hx : ev C x ρ with
    | none => rw [hx] at e; cases e
    | some px =>
      rw [hx] at e
      dsimp only at e
      cases ht : truth px with
      | none => rw [ht] at e; cases e
      | some t =>
        rw [ht] at e
        dsimp only at e
        refine .bind (iha A env s τ X own ρ _ F hx _ _ fun v s₁ τ₁ ⟨h1, h2, _⟩ => .bind (.stand (.bind (.holding (truth_ok ht h2 fun tk hle => ?_)))))
        have h1' := h1.trans (Ext.tok h1.ok hle)
        by_cases hb : (t == (op == .And)) = true
        · rw [if_pos hb] at e
          have go : Wp K.M A (boolOp pos op (eval b env :: evalEach es env)) Q E { s₁ with toks := tk } := by
            have := ev_bop (op := op) (pos := pos) (es := b :: es) (l := .cons y l) ihl A env _ _ X own ρ p (F.ext h1') (by simpa only [ev] using e) Q E fun v s₂ τ₂ ⟨k1, k2, _⟩ => hQ _ _ _ ⟨h1'.trans k1, k2.offl (fun j hj => List.mem_append_right _ hj), fun h => by cases h⟩
            rw [arm_eval_BoolOp] at this
            exact this
          cases op <;> cases t <;> first | exact go | (exact absurd hb (by decide))
        · rw [if_neg hb] at e
          cases e
          have go : Wp K.M A (pure v) Q E { s₁ with toks := tk } := .pure (hQ _ _ _ ⟨h1', (h2.ext (Ext.tok h1.ok hle)).offl (fun j hj => List.mem_append_left _ hj), fun h => by cases h⟩)
          cases op <;> cases t <;> first | exact go | (exact absurd rfl hb)
  | [], .cons _ _, h => h.elim
  | _ :: _, .nil, h => h.elim
  | [_], .cons _ (.cons _ _), ⟨_, _, _, h⟩ => h.elim
  | _ :: _ :: _, .cons _ .nil, ⟨_, _, _, h⟩ => h.elim

theorem tr_bop {op : BoolOp} {pos : Pos} : ∀ {es : List Expr} {l : XL}, EvL K C m sc vars es l → TrAt K C m sc vars (.BoolOp op es pos) (.bop (op == .And) l)
  | [], .nil, _ => fun A env s τ X own ρ p bb F e ht Q E hQ => by simp [ev, evB] at e
  | [a], .cons x .nil, ⟨_, iha, _, _⟩ => by
    intro A env s τ X own ρ p bb F e ht Q E hQ
    have e' : ev C x ρ = some p := by
      simp only [ev, evB] at e
      cases hx : ev C x ρ with
      | none => rw [hx] at e; cases e
      | some px => rw [hx] at e; exact e
    rw [arm_isTrue_BoolOp, arm_allTrue_cons]
    refine .bind (iha A env s τ X own ρ _ _ F e' ht _ _ fun s₁ τ₁ h1 => ?_)
    have := hQ _ _ h1
    cases op <;> cases bb <;> exact .pure this
  | a :: b :: es, .cons x (.cons y l), ⟨_, iha, _, ihl⟩ => by
    intro A env s τ X own ρ p bb F e htt Q E hQ
    rw [arm_isTrue_BoolOp, arm_allTrue_cons]
    simp only [ev] at e
    unfold evB at e
    cases hx : ev C x ρ with
    | none => rw [hx] at e; cases e
    | some px =>
      rw [hx] at e
      dsimp only at e
      cases ht : truth px with
      | none => rw [ht] at e; cases e
      | some t =>
        rw [ht] at e
        dsimp only at e
        refine .bind (iha A env s τ X own ρ _ _ F hx ht _ _ fun s₁ τ₁ h1 => ?_)
        by_cases hb : (t == (op == .And)) = true
        · rw [if_pos hb] at e
          have go : Wp K.M A (allTrue op (b :: es) env) Q E s₁ := by
            have := tr_bop (op := op) (pos := pos) (es := b :: es) (l := .cons y l) ihl A env _ _ X own ρ p bb (F.ext h1) (by simpa only [ev] using e) htt Q E fun s₂ τ₂ k1 => hQ _ _ (h1.trans k1)
            rw [arm_isTrue_BoolOp] at this
            exact this
          cases op <;> cases t <;> first | exact go | (exact absurd hb (by decide))
        · rw [if_neg hb] at e
          cases e
          rw [ht] at htt
          cases htt
          have := hQ _ _ h1
          cases op <;> cases bb <;> first | (exact .pure this) | (exact absurd rfl hb)
  | [], .cons _ _, h => h.elim
  | _ :: _, .nil, h => h.elim
  | [_], .cons _ (.cons _ _), ⟨_, _, _, h⟩ => h.elim
  | _ :: _ :: _, .cons _ .nil, ⟨_, _, _, h⟩ => h.elim

theorem ev_ite {c a b : Expr} {x y z : Mine.X} {pos : Pos} (ihc : TrAt K C m sc vars c x) (iha : EvAt K C m sc vars a y) (ihb : EvAt K C m sc vars b z) : EvAt K C m sc vars (.IfExp c a b pos) (.ite x y z) := by
  intro A env s τ X own ρ p F e Q E hQ
  rw [arm_eval_IfExp]
  simp only [ev] at e
  cases hx : ev C x ρ with
  | none => rw [hx] at e; cases e
  | some px =>
    rw [hx] at e
    dsimp only at e
    cases ht : truth px with
    | none => rw [ht] at e; cases e
    | some t =>
      rw [ht] at e
      refine .bind (ihc A env s τ X own ρ _ _ F hx ht _ _ fun s₁ τ₁ h1 => ?_)
      cases t with
      | true => exact iha A env _ _ X own ρ _ (F.ext h1) e _ _ fun v s₂ τ₂ ⟨k1, k2, _⟩ => hQ _ _ _ ⟨h1.trans k1, k2.offl (fun j hj => List.mem_append_left _ hj), fun h => by cases h⟩
      | false => exact ihb A env _ _ X own ρ _ (F.ext h1) e _ _ fun v s₂ τ₂ ⟨k1, k2, _⟩ => hQ _ _ _ ⟨h1.trans k1, k2.offl (fun j hj => List.mem_append_right _ hj), fun h => by cases h⟩

theorem tr_ite {c a b : Expr} {x y z : Mine.X} {pos : Pos} (ihc : TrAt K C m sc vars c x) (iha : TrAt K C m sc vars a y) (ihb : TrAt K C m sc vars b z) : TrAt K C m sc vars (.IfExp c a b pos) (.ite x y z) := by
  intro A env s τ X own ρ p bb F e htt Q E hQ
  rw [arm_isTrue_IfExp]
  simp only [ev] at e
  cases hx : ev C x ρ with
  | none => rw [hx] at e; cases e
  | some px =>
    rw [hx] at e
    dsimp only at e
    cases ht : truth px with
    | none => rw [ht] at e; cases e
    | some t =>
      rw [ht] at e
      refine .bind (ihc A env s τ X own ρ _ _ F hx ht _ _ fun s₁ τ₁ h1 => ?_)
      cases t with
      | true => exact iha A env _ _ X own ρ _ _ (F.ext h1) e htt _ _ fun s₂ τ₂ k1 => hQ _ _ (h1.trans k1)
      | false => exact ihb A env _ _ X own ρ _ _ (F.ext h1) e htt _ _ fun s₂ τ₂ k1 => hQ _ _ (h1.trans k1)

/-- arguments and items, one after another -/
theorem spliced_ok {pos : Pos} : ∀ {es : List Expr} {l : XL}, EvL K C m sc vars es l →
    ∀ (A : Around) (env : Env) (s : Shared) (τ : Tk) (X : Addr → Prop) (own : Nat → Option Addr) (ρ : Ρ) (ps : List PV), Frm K m sc vars A env s τ X own ρ → evL C l ρ = some ps →
    ∀ (Q : List Value → Shared → Prop) (E : Value → Shared → Prop), (∀ vs s' τ', Ext s τ s' τ' → RdL K ⟨s'.heap, τ'⟩ (Off X own (alL l)) vs ps → Q vs s') → Wp K.M A (spliced (backTo pos (starEach es env))) Q E s
  | [], .nil, _ => fun A env s τ X own ρ ps F e Q E hQ => by
    cases e
    exact ⟨Calls.spliced_nil (hQ _ _ _ (.refl F.tok) rfl)⟩
  | a :: es, .cons x l, ⟨iha, _, hst, ihl⟩ => fun A env s τ X own ρ ps F e Q E hQ => by
    simp only [evL] at e
    cases hx : ev C x ρ with
    | none => rw [hx] at e; cases e
    | some px =>
      cases hl : evL C l ρ with
      | none => rw [hx, hl] at e; cases e
      | some pl =>
        rw [hx, hl] at e
        cases e
        have hb : backTo pos (starEach (a :: es) env) = (false, eval a env) :: backTo pos (starEach es env) := by
          cases a <;> first | rfl | (exact absurd rfl (hst _ _))
        rw [hb]
        refine ⟨Calls.spliced_cons (iha A env s τ X own ρ _ F hx _ _ fun v s₁ τ₁ ⟨h1, h2, _⟩ => ?_).out⟩
        refine (spliced_ok ihl A env _ _ X own ρ _ (F.ext h1) hl _ _ fun vs s₂ τ₂ k1 k2 => hQ _ _ _ (h1.trans k1) ?_).out
        exact ⟨v, vs, rfl, (h2.ext k1).offl (fun j hj => List.mem_append_left _ hj), k2.offl (fun j hj => List.mem_append_right _ hj)⟩
  | [], .cons _ _, h => h.elim
  | _ :: _, .nil, h => h.elim

theorem ev_lst {es : List Expr} {l : XL} {pos : Pos} (ih : EvL K C m sc vars es l) : EvAt K C m sc vars (.List es pos) (.lst l) := by
  intro A env s τ X own ρ p F e Q E hQ
  rw [arm_eval_List]
  simp only [ev] at e
  cases hl : evL C l ρ with
  | none => rw [hl] at e; cases e
  | some ps =>
    rw [hl] at e
    dsimp only at e
    split at e
    · rename_i hz
      cases e
      refine .bind (.stand (.bind (spliced_ok ih A env s τ X own ρ _ F hl _ _ fun vs s₁ τ₁ h1 h2 => ?_)))
      refine ⟨wpAny_newList (hQ _ _ _ ⟨h1.trans (.push h1.ok), ?_, fun _ => (fresh_list h2).old h1.keep⟩) (by rw [h2.length]; exact szOk_le hz)⟩
      exact (fresh_list h2).rd ((F.ext h1).xdo _)
    · cases e

theorem fresh_tup {s : Shared} {τ : Tk} {X : Addr → Prop} {vs : List Value} {l : List PV} (hl : RdL K ⟨s.heap, τ⟩ X vs l) (hX : XD s.heap X) : Rd K ⟨s.heap.push { cls := .type "tuple", data := .seq vs.toArray }, τ⟩ X (.ref s.heap.objs.size) (.tup l) :=
  ⟨_, vs, rfl, hX.fresh (get_size _), PT.push vs, RdL.heap (fun _ _ e => Heap.get?_push_of_some _ e) hl⟩

theorem ev_tup {es : List Expr} {l : XL} {k : Nat} {pos : Pos} (ih : EvL K C m sc vars es l) : EvAt K C m sc vars (.Tuple es k pos) (.tup l) := by
  intro A env s τ X own ρ p F e Q E hQ
  rw [arm_eval_Tuple]
  simp only [ev] at e
  cases hl : evL C l ρ with
  | none => rw [hl] at e; cases e
  | some ps =>
    rw [hl] at e
    dsimp only at e
    split at e
    · rename_i hz
      cases e
      refine .bind (.stand (.bind (spliced_ok ih A env s τ X own ρ _ F hl _ _ fun vs s₁ τ₁ h1 h2 => ?_)))
      exact ⟨wpAny_newTuple (hQ _ _ _ ⟨h1.trans (.push h1.ok), fresh_tup h2 ((F.ext h1).xdo _), fun h => by cases h⟩) (by rw [h2.length]; exact szOk_le hz)⟩
    · cases e

theorem ev_sub {a b : Expr} {x y : Mine.X} {pos : Pos} (iha : EvAt K C m sc vars a x) (ihb : EvAt K C m sc vars b y) (hs : ∀ l u p, b ≠ .Slice l u none p) : EvAt K C m sc vars (.Subscript a b pos) (.sub x y) := by
  intro A env s τ X own ρ p F e Q E hQ
  simp only [ev] at e
  cases hx : ev C x ρ with
  | none => rw [hx] at e; cases e
  | some px =>
    cases hy : ev C y ρ with
    | none => rw [hx, hy] at e; cases e
    | some py =>
      rw [hx, hy] at e
      dsimp only at e
      refine ⟨Subscript_ (iha A env s τ X own ρ _ F hx _ _ fun v s₁ τ₁ ⟨h1, h2, _⟩ => ?_).out⟩
      refine (ihb A env s₁ τ₁ X own ρ _ (F.ext h1) hy _ _ fun u s₂ τ₂ ⟨g1, g2, _⟩ => ?_).out
      have F₂ := (F.ext h1).ext g1
      have hpy : scalar py = true := by
        unfold getI at e
        split at e <;> first | rfl | cases e
      have g2' : Rd K ⟨s₂.heap, τ₂⟩ (Off X own (al x)) u py := g2.scalar hpy
      obtain ⟨⟨T, id, hT, hl⟩, hg⟩ := getI_ok (A := A) (E := E) e (h2.ext g1) g2' F₂.tok fun w' s₃ τ₃ k1 k2 => hQ _ _ _ ⟨(h1.trans g1).trans k1, k2, fun h => by cases h⟩
      refine tail_any hT hl hg.out (ops := [v, u]) ?_
      unfold subscripted
      split
      · exact absurd rfl (hs _ _ _)
      · rename_i h; cases h
      · rfl

theorem part_ok {o : Option Expr} {x : Mine.X} (ih : match o with | none => x = .cst .none | some a => EvAt K C m sc vars a x) {A : Around} {env : Env} {s : Shared} {τ : Tk} {X : Addr → Prop} {own : Nat → Option Addr} {ρ : Ρ} {p : PV}
    (F : Frm K m sc vars A env s τ X own ρ) (e : ev C x ρ = some p) {Q : Value → Shared → Prop} {E : Value → Shared → Prop} (hQ : ∀ v s' τ', Ext s τ s' τ' → Rd K ⟨s'.heap, τ'⟩ (Off X own (al x)) v p → Q v s') : Wp K.M A (evalPart o env) Q E s := by
  cases o with
  | none =>
    dsimp only at ih
    subst ih
    cases e
    exact .pure (hQ _ _ _ (.refl F.tok) rfl)
  | some a => exact ih A env s τ X own ρ _ F e _ _ fun v s' τ' ⟨h1, h2, _⟩ => hQ _ _ _ h1 h2

theorem slice_parts {a lo hi st r : PV} (e : slice a lo hi st = some r) : scalar lo = true ∧ scalar hi = true ∧ scalar st = true := by
  have hL : ∀ {α : Type} (l : List α) (y : List α), sliceL l lo hi st = some y → scalar lo = true ∧ scalar hi = true ∧ scalar st = true := by
    intro α l y h
    unfold sliceL at h
    split at h
    · cases lo <;> cases hi <;> simp [clip, scalar] at h ⊢
    · split at h
      · exact ⟨rfl, rfl, rfl⟩
      · cases h
    · cases h
  unfold slice at e
  split at e
  · split at e
    · rename_i l _
      cases hs : sliceL l lo hi st with
      | none => rw [hs] at e; cases e
      | some y => exact hL l y hs
    · cases e
  · cases e

theorem ev_slc {a : Expr} {lo hi st : Option Expr} {x l h t : Mine.X} {pos pos' : Pos} (iha : EvAt K C m sc vars a x) (il : match lo with | none => l = .cst .none | some a => EvAt K C m sc vars a l)
    (ih : match hi with | none => h = .cst .none | some a => EvAt K C m sc vars a h) (it : match st with | none => t = .cst .none | some a => EvAt K C m sc vars a t) : EvAt K C m sc vars (.Subscript a (.Slice lo hi st pos') pos) (.slc x l h t) := by
  intro A env s τ X own ρ p F e Q E hQ
  simp only [ev] at e
  cases hx : ev C x ρ with
  | none => rw [hx] at e; cases e
  | some px =>
    cases hl : ev C l ρ with
    | none => rw [hx, hl] at e; cases e
    | some pl =>
      cases hh : ev C h ρ with
      | none => rw [hx, hl, hh] at e; cases e
      | some ph =>
        cases ht : ev C t ρ with
        | none => rw [hx, hl, hh, ht] at e; cases e
        | some pt =>
          rw [hx, hl, hh, ht] at e
          dsimp only at e
          obtain ⟨c1, c2, c3⟩ := slice_parts e
          refine ⟨Subscript_ (iha A env s τ X own ρ _ F hx _ _ fun v s₁ τ₁ ⟨h1, h2, _⟩ => ?_).out⟩
          have F₁ := F.ext h1
          refine wpAny_Slice (part_ok il F₁ hl fun vl s₂ τ₂ k1 k2 => (part_ok ih (F₁.ext k1) hh fun vh s₃ τ₃ l1 l2 => (part_ok it ((F₁.ext k1).ext l1) ht fun vt s₄ τ₄ m1 m2 => ?_).out).out).out
          have x4 := ((h1.trans k1).trans l1).trans m1
          obtain ⟨⟨T, id, hT, hk⟩, hg⟩ := slice_ok (A := A) (E := E) (X := Off X own (al x)) e (((h2.ext k1).ext l1).ext m1) (((k2.scalar c1).ext l1).ext m1) ((l2.scalar c2).ext m1) (m2.scalar c3) m1.ok ((F.ext x4).xdo _) fun w' s₅ τ₅ n1 n2 => hQ _ _ _ ⟨x4.trans n1, n2, fun h => by cases h⟩
          cases st with
          | none => exact tail_any hT hk hg.out (ops := [.ref s₄.heap.objs.size, v]) rfl
          | some st => exact tail_any hT hk hg.out (ops := [v, .ref s₄.heap.objs.size]) rfl
end
end Mine
namespace Mine
open PySem PySem.SeqAt PyProof.Rows

section
variable {K : Cx} {C : Orc} {m : Nat} {sc : Scope} {vars : List Str} {ft : List Str}

/-- a new object was written to -/
theorem Ext.but {s s₁ : Shared} {τ τ₁ : Tk} {D : Addr} {h' : Heap} {t : Nat} (x : Ext s τ s₁ τ₁) (hD : s.heap.get? D = none) (hs : Heap.SameBut D s₁.heap h') (ht : s₁.toks ≤ t) : Ext s τ { s₁ with heap := h', toks := t } τ₁ :=
  ⟨x.gens, x.os, fun b o e => by
    have hb : b ≠ D := fun q => by subst q; rw [hD] at e; cases e
    show h'.get? b = some o
    rw [hs.2 b hb]
    exact x.keep b o e, x.sub, x.ok.le ht⟩

theorem Rd.but {s₁ : Shared} {τ₁ : Tk} {D : Addr} {h' : Heap} {X : Addr → Prop} {v : Value} {p : PV} (e : Rd K ⟨s₁.heap, τ₁⟩ X v p) (hX : X D) (hs : Heap.SameBut D s₁.heap h') : Rd K ⟨h', τ₁⟩ X v p :=
  Rd.mono (g := ⟨s₁.heap, τ₁⟩) (g' := ⟨h', τ₁⟩) (fun b o hb q => by
    have hb : b ≠ D := fun q => hb (q ▸ hX)
    show h'.get? b = some o
    rw [hs.2 b hb]; exact q) (fun _ _ q => q) (fun _ q => q) e
theorem RdL.but {s₁ : Shared} {τ₁ : Tk} {D : Addr} {h' : Heap} {X : Addr → Prop} {v : List Value} {p : List PV} (e : RdL K ⟨s₁.heap, τ₁⟩ X v p) (hX : X D) (hs : Heap.SameBut D s₁.heap h') : RdL K ⟨h', τ₁⟩ X v p :=
  RdL.mono (g := ⟨s₁.heap, τ₁⟩) (g' := ⟨h', τ₁⟩) (fun b o hb q => by
    have hb : b ≠ D := fun q => hb (q ▸ hX)
    show h'.get? b = some o
    rw [hs.2 b hb]; exact q) (fun _ _ q => q) (fun _ q => q) e
theorem RdD.but {s₁ : Shared} {τ₁ : Tk} {D : Addr} {h' : Heap} {X : Addr → Prop} {v : List (Str × Value)} {p : List (List Nat × PV)} (e : RdD K ⟨s₁.heap, τ₁⟩ X v p) (hX : X D) (hs : Heap.SameBut D s₁.heap h') : RdD K ⟨h', τ₁⟩ X v p :=
  RdD.mono (g := ⟨s₁.heap, τ₁⟩) (g' := ⟨h', τ₁⟩) (fun b o hb q => by
    have hb : b ≠ D := fun q => hb (q ▸ hX)
    show h'.get? b = some o
    rw [hs.2 b hb]; exact q) (fun _ _ q => q) (fun _ q => q) e

/-- the frame keeps off an object just laid -/
theorem Frm.push {A : Around} {env : Env} {s : Shared} {τ : Tk} {X : Addr → Prop} {own : Nat → Option Addr} {ρ : Ρ} {o : Obj} (F : Frm K m sc vars A env s τ X own ρ) (ho : o.isFreed = false) :
    Frm K m sc vars A env { s with heap := s.heap.push o } τ (fun b => X b ∨ b = s.heap.objs.size) own ρ :=
  have x : Ext s τ { s with heap := s.heap.push o } τ := .push F.tok
  ⟨F.room, F.top.keep x.keep, x.ok, (F.env.more (N := fun b => b = s.heap.objs.size) fun a e => e ▸ get_size _).ext x, fun a h => h.elim (fun h => F.xd.keep x.keep a h) (fun h => ⟨o, by subst h; exact Heap.get?_push_size _ ho⟩), fun j a h => .inl (F.ownX j a h)⟩

theorem Frm.notOwn {A : Around} {env : Env} {s : Shared} {τ : Tk} {X : Addr → Prop} {own : Nat → Option Addr} {ρ : Ρ} (F : Frm K m sc vars A env s τ X own ρ) {D : Addr} (hD : s.heap.get? D = none) (j : Nat) : own j ≠ some D :=
  fun h => F.xd.fresh hD (F.ownX j D h)

theorem Cx.T.notMods {h : Heap} (T : K.T h) : (h.objs.size == sysModules) = false := by
  obtain ⟨mc, hn, _⟩ := T.top.nodigits
  have := hn.lt
  have e : cStatics = 2 := rfl
  rw [e] at this
  simp only [sysModules, beq_eq_false_iff_ne, ne_eq]
  exact fun q => absurd (q ▸ this) (by decide)

theorem ev_dic0 {pos : Pos} : EvAt K C m sc vars (.Dict [] [] pos) (.dic .nil) := by
  intro A env s τ X own ρ p F e Q E hQ
  simp only [ev, evL, pairsOf, Option.map] at e
  cases e
  refine ⟨wpAny_Dict_empty (hQ _ _ τ ?_)⟩
  have hf : FreshRd K s.heap ⟨s.heap.push { cls := .type "dict", data := .dict #[] }, τ⟩ (Off X own []) (.ref s.heap.objs.size) (.dict []) := ⟨_, rfl, get_size _, [], ⟨.new _, F.top.notMods⟩, rfl⟩
  exact ⟨.push F.tok, hf.rd (F.xdo _), fun _ => hf⟩

theorem base_plain {o : Expr} (h : plainBase o = true) (attr : Str) (env : Env) (whole : Sem Value) : attributeBase o attr env whole = whole := by
  cases o <;> first | rfl | (cases h; done)

theorem mth_scalar {f : Mth} {o r : PV} {l : List PV} (e : mth f o l = some r) : scalar r = true := by
  cases mth_is e <;> rfl
theorem mth_str {f : Mth} {o r : PV} {l : List PV} (e : mth f o l = some r) : ∃ s, o = .str s := by
  cases mth_is e <;> exact ⟨_, rfl⟩

noncomputable def mthName : Mth → Str
  | .join => "join"
  | .index => "index"
theorem mthOf_name {f : Str} {b : Mth} (h : mthOf f = some b) : f = mthName b := by
  unfold mthOf at h
  split at h
  · rename_i h0; cases h; exact eq_of_beq h0
  · split at h
    · rename_i h0; cases h; exact eq_of_beq h0
    · cases h
theorem mth_slot (b : Mth) : Slot "str" (mthName b) (mthId b) ∧ typeOf (.builtin (mthId b)) = pure (.type "method_descriptor") := by
  cases b
  · exact ⟨F.slot_str_join, F.type_str_join⟩
  · exact ⟨F.slot_str_index, F.type_str_index⟩

theorem ev_mth {o a : Expr} {f : Str} {b : Mth} {x y : Mine.X} {apos pos : Pos} (iho : EvAt K C m sc vars o x) (iha : EvAt K C m sc vars a y) (hst : ∀ e p, a ≠ .Starred e p) (hb : plainBase o = true) (hl : (apos.endLine == pos.line) = true)
    (hf : mthOf f = some b) : EvAt K C m sc vars (.Call (.Attribute o f apos) [a] [] pos) (.mth b x (.cons y .nil)) := by
  intro A env s τ X own ρ p F e Q E hQ
  simp only [ev, evL] at e
  cases hx : ev C x ρ with
  | none => rw [hx] at e; cases e
  | some px =>
    cases hy : ev C y ρ with
    | none => rw [hx, hy] at e; cases e
    | some py =>
      rw [hx, hy] at e
      dsimp only at e
      obtain ⟨l, rfl⟩ := mth_str e
      have hs : starEach [a] env = [(false, eval a env)] := by
        cases a <;> first | rfl | (exact absurd rfl (hst _ _))
      refine ⟨wpAny_Call_method (T := "str") (id := mthId b) (base_plain hb _ _ _) ?_ hl PySem.F.plainAttrs_str (mthOf_name hf ▸ (mth_slot b).1) (mth_slot b).2 ?_⟩
      · rw [hs]; rfl
      refine (iho A env s τ X own ρ _ F hx _ _ fun v s₁ τ₁ ⟨h1, h2, _⟩ => ?_).out
      obtain ⟨t, rfl⟩ := h2
      refine ⟨typeIs_str _ _ _, (fun _ e => nomatch e), ?_⟩
      rw [hs]
      refine Calls.callWith_builtin rfl (Calls.evalArgs_plain (Calls.spliced_cons (iha A env s₁ τ₁ X own ρ _ (F.ext h1) hy _ _ fun u s₂ τ₂ ⟨g1, g2, _⟩ => Calls.spliced_nil ?_).out))
      exact (mth_ok (X := Off X own (al y)) e ⟨t, rfl⟩ (.single g2) g1.ok fun w' s₃ τ₃ k1 k2 => hQ _ _ _ ⟨(h1.trans g1).trans k1, k2.scalar (mth_scalar e), fun h => by cases h⟩).out

theorem ev_rpl {o : Expr} {as : List Expr} {x : Mine.X} {c : Nat} {t : List Nat} {apos pos : Pos} (iho : EvAt K C m sc vars o x) (hb : plainBase o = true) (hl : (apos.endLine == pos.line) = true)
    (hr : rplOf as = some (c, t)) : EvAt K C m sc vars (.Call (.Attribute o "replace" apos) as [] pos) (.rpl x c t) := by
  intro A env s τ X own ρ p F e Q E hQ
  simp only [ev] at e
  split at e
  · rename_i l hx
    split at e
    · rename_i hz
      cases e
      have has : ∃ (a b : Str) (k1 k2 : Nat) (p1 p2 : Pos), as = [.Constant (.str a) k1 p1, .Constant (.str b) k2 p2] ∧ a.cps.toList = [c] ∧ b.cps.toList = t ∧ [c] ≠ t := by
        rcases as with _ | ⟨e1, _ | ⟨e2, _ | _⟩⟩ <;> first | (cases hr; done) | skip
        cases h1 : strE e1 with
        | none => simp only [rplOf, h1] at hr; cases hr
        | some a =>
          cases h2 : strE e2 with
          | none => simp only [rplOf, h1, h2] at hr; cases hr
          | some b =>
            simp only [rplOf, h1, h2] at hr
            obtain ⟨k1, p1, rfl⟩ := strE_inv h1
            obtain ⟨k2, p2, rfl⟩ := strE_inv h2
            refine ⟨a, b, k1, k2, p1, p2, rfl, ?_⟩
            generalize a.cps.toList = u at hr
            generalize b.cps.toList = w at hr
            rcases u with _ | ⟨d, _ | _⟩ <;> first | (cases hr; done) | skip
            unfold rpl3 at hr
            dsimp only at hr
            cases hd : ([d] == w) with
            | true => rw [hd] at hr; cases hr
            | false =>
              rw [hd] at hr
              cases hr
              exact ⟨rfl, rfl, by simpa using hd⟩
      obtain ⟨a, b, k1, k2, p1, p2, rfl, ha, rfl, hne⟩ := has
      have ha' : a = sOf [c] := by
        cases a with | mk cps => cases cps with | mk q => simp at ha; subst ha; rfl
      have hb' : b = sOf b.cps.toList := by
        cases b with | mk cps => cases cps with | mk q => rfl
      have hz' := Nat.le_of_ble_eq_true hz
      refine ⟨wpAny_Call_method (T := "str") (id := "str.replace") (base_plain hb _ _ _) rfl hl PySem.F.plainAttrs_str PySem.F.slot_str_replace PySem.F.type_str_replace ?_⟩
      refine (iho A env s τ X own ρ _ F hx _ _ fun v s₁ τ₁ ⟨h1, h2, _⟩ => ?_).out
      obtain ⟨tt, rfl⟩ := h2
      refine ⟨typeIs_str _ _ _, (fun _ e => nomatch e), ?_⟩
      show wpAny K.M A (callWith pos (.builtin "str.replace") [.str (sOf l) tt] [(false, eval (.Constant (.str a) k1 p1) env), (false, eval (.Constant (.str b) k2 p2) env)] []) Q E s₁
      refine Calls.callWith_builtin rfl (Calls.evalArgs_plain (Calls.spliced_cons (Calls.Constant_str (Calls.spliced_cons (Calls.Constant_str (Calls.spliced_nil ?_))))))
      show wpAny K.M A (call (.builtin "str.replace") [.str (sOf l) tt, .str a s₁.toks, .str b (s₁.toks + 1)]) Q E _
      have hp := h1.ok.pos
      refine (Wp.untok ⟨SC.replace (Nat.pos_iff_ne_zero.mp hp) (Nat.succ_ne_zero _) (Nat.ne_of_lt (Nat.lt_succ_self _)) ?_ ?_ fun t' k hle => ?_⟩).out
      · rw [ha', hb']
        simp only [beq_eq_false_iff_ne, ne_eq]
        intro q
        exact hne (by have := congrArg (fun z : Str => z.cps.toList) q; simpa using this)
      · have : b.length = b.cps.toList.length := by cases b with | mk cps => cases cps with | mk q => rfl
        have h3 : (sOf l).length = l.length := rfl
        rw [this, h3]
        have : l.length + (l.length + 1) * b.cps.toList.length ≤ (l.length + 1) * (b.cps.toList.length + 1) := by
          rw [Nat.mul_add]; omega
        omega
      · rw [ha', hb', txt_replace]
        have x2 : Ext s₁ τ₁ { s₁ with toks := k } τ₁ := .tok h1.ok (Nat.le_trans (Nat.le_add_right _ 2) hle)
        exact hQ _ _ _ ⟨h1.trans x2, ⟨_, rfl⟩, fun h => by cases h⟩
    · cases e
  · cases e
end
end Mine
namespace Mine
open PySem PySem.SeqAt PyProof.Rows

section
variable {K : Cx} {C : Orc} {m : Nat} {sc : Scope} {vars : List Str} {ft : List Str}

theorem EvL.plain {pos : Pos} {env : Env} : ∀ {es : List Expr} {l : XL}, EvL K C m sc vars es l → (backTo pos (starEach es env)).any (·.1) = false
  | [], .nil, _ => rfl
  | a :: es, .cons x l, ⟨_, _, hst, ihl⟩ => by
    have hb : backTo pos (starEach (a :: es) env) = (false, eval a env) :: backTo pos (starEach es env) := by
      cases a <;> first | rfl | (exact absurd rfl (hst _ _))
    rw [hb]
    simpa using EvL.plain ihl
  | [], .cons _ _, h => h.elim
  | _ :: _, .nil, h => h.elim

theorem args_ok {pos : Pos} {f : Value} {es : List Expr} {l : XL} (ih : EvL K C m sc vars es l) {A : Around} {env : Env} {s : Shared} {τ : Tk} {X : Addr → Prop} {own : Nat → Option Addr} {ρ : Ρ} {ps : List PV} (F : Frm K m sc vars A env s τ X own ρ) (e : evL C l ρ = some ps)
    {Q : Args → Shared → Prop} {E : Value → Shared → Prop} (hQ : ∀ vs s' τ', Ext s τ s' τ' → RdL K ⟨s'.heap, τ'⟩ (Off X own (alL l)) vs ps → Q ⟨vs, []⟩ s') : Wp K.M A (evalArgs f true (backTo pos (starEach es env)) []) Q E s := by
  match es, l, ih with
  | [], .nil, _ =>
    cases e
    exact ⟨PySem.evalArgs_none (hQ _ _ _ (.refl F.tok) rfl)⟩
  | a :: es, .cons x l, ih =>
    have hb : backTo pos (starEach (a :: es) env) = (false, eval a env) :: backTo pos (starEach es env) := by
      obtain ⟨_, _, hst, _⟩ := ih
      cases a <;> first | rfl | (exact absurd rfl (hst _ _))
    have := spliced_ok (pos := pos) ih A env s τ X own ρ ps F e (fun vs s' => Q ⟨vs, []⟩ s') E hQ
    rw [hb] at this ⊢
    exact ⟨Calls.evalArgs_plain this.out⟩

theorem ev_call {f : Str} {k : Nat} {np pos : Pos} {es : List Expr} {l : XL} (G : Glb K ft) (S : Sound K ft m C) (ih : EvL K C m sc vars es l) (hg : isGlobK (sc.names.lookup f) = true) (hk : ft.findIdx? (· == f) = some k) :
    EvAt K C m sc vars (.Call (.Name f np) es [] pos) (.call k l) := by
  intro A env s τ X own ρ p F e Q E hQ
  simp only [ev] at e
  cases hl : evL C l ρ with
  | none => rw [hl] at e; cases e
  | some ps =>
    rw [hl] at e
    dsimp only at e
    have hfk : ft[k]? = some f := by
      obtain ⟨h1, h2, _⟩ := List.findIdx?_eq_some_iff_getElem.mp hk
      rw [List.getElem?_eq_getElem h1]
      exact congrArg some (eq_of_beq h2)
    have hmem : f ∈ ft := List.mem_of_getElem? hfk
    obtain ⟨d, hd, rfl⟩ := G.fn f hmem
    obtain ⟨a, o, pm, code, doc, h1, h2, h3, _⟩ := F.top.top.fn d hd
    have hkind : env.kindOf d.name = some .globalImplicit := by
      show env.scope.names.lookup d.name = _
      rw [F.env.scope]
      unfold isGlobK at hg
      split at hg
      · assumption
      · cases hg
    show Wp K.M A (eval (.Name d.name np) env >>= fun f => callWith pos f [] (backTo pos (starEach es env)) (backToKw pos (keywordEach [] env))) Q E s
    refine .bind ⟨Calls.Name_function_global (by rw [F.env.scope]; exact F.env.kind) hkind (Calls.loadGlobal_global (by rw [F.env.globals]; exact F.top.top.g) h1 ?_) (G.nodebug _ hmem)⟩
    refine ⟨Calls.callWith_function (o := o) (args_ok ih F hl fun vs s₁ τ₁ k1 k2 => ⟨⟨k1.keep _ _ h2, h3⟩, wpAny_call ?_⟩).out⟩
    refine (S k ps p e d.name A s₁ τ₁ _ vs a hfk h1 F.room (F.ext k1).top k1.ok k2 ((F.ext k1).xdo _) _ fun v s₂ τ₂ g1 g2 => ?_).out
    exact hQ _ _ _ ⟨k1.trans g1, g2, fun h => by cases h⟩

theorem blt_hands {b : Blt} {args : List PV} {r : PV} (hb : hands b = false) (e : blt b args = some r) : scalar r = true ∨ ∃ n, args = [.int n] := by
  cases blt_is e <;> first | exact .inl rfl | exact .inr ⟨_, rfl⟩ | (cases hb; done)

theorem bltOf_nodebug {f : Str} {b : Blt} (h : bltOf f = some b) : (f == ("__debug__" : Str)) = false := by
  cases hf : f == ("__debug__" : Str) with
  | false => rfl
  | true =>
    have := eq_of_beq hf
    subst this
    have hn : bltOf (Str.ofString "__debug__") = none := by decide
    rw [hn] at h
    cases h

theorem callWith_blt {b : Blt} {A : Around} {pos : Pos} {args : List (Bool × Sem Value)} {Q : Value → Shared → Prop} {E : Value → Shared → Prop} {s : Shared} (hp : args.any (·.1) = false)
    (h : Wp K.M A (evalArgs (bltV b) true args []) (fun a s₁ => Wp K.M A (call (bltV b) a.pos a.kw) Q E s₁) E s) : Wp K.M A (callWith pos (bltV b) [] args []) Q E s := by
  have hB : ∀ id, Wp K.M A (evalArgs (.builtin id) true args []) (fun a s₁ => Wp K.M A (call (.builtin id) a.pos a.kw) Q E s₁) E s → Wp K.M A (callWith pos (.builtin id) [] args []) Q E s :=
    fun id h => ⟨Calls.callWith_builtin hp (wpAny_mono h.out (fun _ _ x => x.out) fun _ _ x => x)⟩
  have hT : ∀ id, Wp K.M A (evalArgs (.type id) true args []) (fun a s₁ => Wp K.M A (call (.type id) a.pos a.kw) Q E s₁) E s → Wp K.M A (callWith pos (.type id) [] args []) Q E s :=
    fun id h => ⟨PySem.callWith_type hp (wpAny_mono h.out (fun _ _ x => x.out) fun _ _ x => x)⟩
  cases b
  case len => exact hB _ h
  case sum => exact hB _ h
  case min => exact hB _ h
  case max => exact hB _ h
  case sorted => exact hB _ h
  case int => exact hT _ h
  case range => exact hT _ h
  case list => exact hT _ h
  case tuple => exact hT _ h

theorem ev_blt {f : Str} {b : Blt} {np pos : Pos} {es : List Expr} {l : XL} (G : Glb K ft) (ih : EvL K C m sc vars es l) (hg : isGlobK (sc.names.lookup f) = true) (hk : bltOf f = some b) :
    EvAt K C m sc vars (.Call (.Name f np) es [] pos) (.blt b l) := by
  intro A env s τ X own ρ p F e Q E hQ
  simp only [ev] at e
  cases hl : evL C l ρ with
  | none => rw [hl] at e; cases e
  | some ps =>
    rw [hl] at e
    dsimp only at e
    obtain ⟨hn, hv⟩ := G.blt f b hk
    have hkind : env.kindOf f = some .globalImplicit := by
      show env.scope.names.lookup f = _
      rw [F.env.scope]
      unfold isGlobK at hg
      split at hg
      · assumption
      · cases hg
    show Wp K.M A (eval (.Name f np) env >>= fun f => callWith pos f [] (backTo pos (starEach es env)) (backToKw pos (keywordEach [] env))) Q E s
    refine .bind ⟨Calls.Name_function_global (by rw [F.env.scope]; exact F.env.kind) hkind (Calls.loadGlobal_builtin (by rw [F.env.globals]; exact F.top.top.g) hn (by rw [F.env.builtins]; exact F.top.top.b) hv ?_) (bltOf_nodebug hk)⟩
    refine callWith_blt ih.plain (args_ok ih F hl fun vs s₁ τ₁ k1 k2 => ?_)
    have F₁ := F.ext k1
    cases hh : hands b with
    | true =>
      refine blt_ok e k2 k1.ok (F₁.xdo _) F.room.handled fun v s₂ τ₂ g1 g2 => hQ _ _ _ ⟨k1.trans g1, ?_, fun h => by cases h⟩
      show Rd K _ (Off X own (if hands b then alL l else [])) _ _
      rw [hh]; exact g2
    | false =>
      rcases blt_hands hh e with hsc | ⟨n, rfl⟩
      · exact blt_ok e k2 k1.ok (F₁.xdo _) F.room.handled fun v s₂ τ₂ g1 g2 => hQ _ _ _ ⟨k1.trans g1, g2.scalar hsc, fun h => by cases h⟩
      · have k3 : RdL K ⟨s₁.heap, τ₁⟩ (Off X own []) vs [.int n] := by
          obtain ⟨v, r, rfl, q1, q2⟩ := k2
          exact ⟨v, r, rfl, q1, q2⟩
        refine blt_ok e k3 k1.ok (F₁.xdo _) F.room.handled fun v s₂ τ₂ g1 g2 => hQ _ _ _ ⟨k1.trans g1, ?_, fun h => by cases h⟩
        show Rd K _ (Off X own (if hands b then alL l else [])) _ _
        rw [hh]; exact g2
end
end Mine
namespace Mine
open PySem PySem.SeqAt PyProof.Rows

section
variable {K : Cx} {C : Orc} {m : Nat} {sc : Scope} {vars : List Str} {ft : List Str}

/-! ### the names of a comprehension -/
theorem lookup_relab (sc : Scope) : ∀ (names : List (Str × NameKind)) (y : Str),
    (names.map fun (n, k) => if (k == NameKind.free && sc.kind == .function && sc.names.lookup n == some .cell) then (n, NameKind.cell) else (n, k)).lookup y =
      (names.lookup y).map fun k => if (k == NameKind.free && sc.kind == .function && sc.names.lookup y == some .cell) then NameKind.cell else k
  | [], _ => rfl
  | (n, k) :: r, y => by
    have ih := lookup_relab sc r y
    rw [List.map_cons]
    cases hy : y == n with
    | true =>
      have := eq_of_beq hy
      subst this
      by_cases hc : (k == NameKind.free && sc.kind == .function && sc.names.lookup y == some .cell) = true
      · simp only [hc, if_true, List.lookup_cons, beq_self_eq_true, Option.map]
      · simp only [hc, List.lookup_cons, beq_self_eq_true, Option.map, Bool.false_eq_true, if_false]
    | false =>
      by_cases hc : (k == NameKind.free && sc.kind == .function && sc.names.lookup n == some .cell) = true
      · simp only [hc, if_true, List.lookup_cons, hy]; exact ih
      · simp only [hc, List.lookup_cons, hy, Bool.false_eq_true, if_false]; exact ih

theorem relab_eq {scope : Scope} {env : Env} (he : env.scope = sc) : relabel scope env = relab scope sc := by
  unfold relabel relab Env.kindOf
  rw [he]

noncomputable def closL (env : Env) : List (Str × NameKind) → List (Str × Addr) → List (Str × Addr)
  | [], acc => acc
  | (n, k) :: r, acc => if k == .free then (match env.cells.lookup n with | some c => closL env r ((n, c) :: acc) | none => closL env r acc) else closL env r acc

theorem clos_eq {scope : Scope} {env : Env} (h : ∀ q ∈ scope.names, q.2 = .free → ∃ c, env.cells.lookup q.1 = some c) : closureFor scope env = pure (closL env scope.names []) := by
  simp only [closureFor]
  have : ∀ (names : List (Str × NameKind)) (acc : List (Str × Addr)), (∀ q ∈ names, q.2 = .free → ∃ c, env.cells.lookup q.1 = some c) →
      (forIn names acc fun (x : Str × NameKind) (r : List (Str × Addr)) => if (x.2 == .free) = true then (do let a ← cellOf env x.1; pure (ForInStep.yield ((x.1, a) :: r))) else pure (ForInStep.yield r) : Sem (List (Str × Addr))) = pure (closL env names acc) := by
    intro names
    induction names with
    | nil => intro acc _; rfl
    | cons q r ih =>
      intro acc hq
      obtain ⟨n, k⟩ := q
      rw [List.forIn_cons]
      by_cases hk : (k == NameKind.free) = true
      · obtain ⟨c, hc⟩ := hq (n, k) List.mem_cons_self (eq_of_beq hk)
        have hco : cellOf env n = pure c := by unfold cellOf; rw [hc]
        simp only [hk, if_true, closL, hc, hco]
        exact ih _ fun q hq' => hq q (List.mem_cons_of_mem _ hq')
      · simp only [hk, Bool.false_eq_true, if_false, closL]
        exact ih _ fun q hq' => hq q (List.mem_cons_of_mem _ hq')
  have h2 := this scope.names [] h
  refine Eq.trans ?_ (show (pure (closL env scope.names []) >>= fun cs => pure cs : Sem _) = pure (closL env scope.names []) from rfl)
  rw [← h2]

theorem closL_lookup {env : Env} {y : Str} {c : Addr} (hc : env.cells.lookup y = some c) : ∀ (names : List (Str × NameKind)) (acc : List (Str × Addr)), (∀ c', acc.lookup y = some c' → c' = c) →
    (names.lookup y = some .free ∨ acc.lookup y = some c) → (closL env names acc).lookup y = some c
  | [], acc, h1, h2 => by
    rcases h2 with h2 | h2
    · cases h2
    · exact h2
  | (n, k) :: r, acc, h1, h2 => by
    unfold closL
    cases hy : y == n with
    | true =>
      have := eq_of_beq hy
      subst this
      by_cases hk : (k == NameKind.free) = true
      · rw [if_pos hk, hc]
        exact closL_lookup hc r _ (fun c' h => by simp [List.lookup_cons] at h; exact h.symm) (.inr (by simp [List.lookup_cons]))
      · rw [if_neg hk]
        refine closL_lookup hc r _ h1 (.inr ?_)
        rcases h2 with h2 | h2
        · simp [List.lookup_cons] at h2; subst h2; exact absurd rfl hk
        · exact h2
    | false =>
      by_cases hk : (k == NameKind.free) = true
      · rw [if_pos hk]
        cases hn : env.cells.lookup n with
        | none =>
          refine closL_lookup hc r _ h1 ?_
          rcases h2 with h2 | h2
          · exact .inl (by rwa [List.lookup_cons, hy] at h2)
          · exact .inr h2
        | some c' =>
          refine closL_lookup hc r _ (fun d hd => h1 d (by rwa [List.lookup_cons, hy] at hd)) ?_
          rcases h2 with h2 | h2
          · exact .inl (by rwa [List.lookup_cons, hy] at h2)
          · exact .inr (by rw [List.lookup_cons, hy]; exact h2)
      · rw [if_neg hk]
        refine closL_lookup hc r _ h1 ?_
        rcases h2 with h2 | h2
        · exact .inl (by rwa [List.lookup_cons, hy] at h2)
        · exact .inr h2

theorem cellsFrom_other {y : Str} : ∀ (names : List (Str × NameKind)) (n : Nat) (acc : List (Str × Addr)), (∀ q ∈ names, q.2 = .cell → q.1 ≠ y) → (cellsFrom n names acc).lookup y = acc.lookup y
  | [], _, _, _ => rfl
  | (a, k) :: r, n, acc, h => by
    unfold cellsFrom
    split
    · rename_i hk
      rw [cellsFrom_other r _ _ fun q hq => h q (List.mem_cons_of_mem _ hq), List.lookup_cons]
      have : (y == a) = false := by
        have := h (a, k) List.mem_cons_self (eq_of_beq hk)
        simpa using fun e : y = a => this e.symm
      rw [this]
    · exact cellsFrom_other r _ _ fun q hq => h q (List.mem_cons_of_mem _ hq)

theorem cellsFrom_own {x : Str} (lo : Nat) : ∀ (names : List (Str × NameKind)) (h : Heap) (acc : List (Str × Addr)), lo ≤ h.objs.size → (∃ c, acc.lookup x = some c ∧ lo ≤ c ∧ h.IsCell c none) ∨ (x, NameKind.cell) ∈ names →
    ∃ c, (cellsFrom h.objs.size names acc).lookup x = some c ∧ lo ≤ c ∧ (pushCells h names).IsCell c none
  | [], h, acc, _, h1 => by
    rcases h1 with h1 | h1
    · exact h1
    · cases h1
  | (a, k) :: r, h, acc, hlo, h1 => by
    unfold cellsFrom pushCells
    by_cases hk : (k == NameKind.cell) = true
    · rw [if_pos hk, if_pos hk]
      have hs : h.objs.size + 1 = (h.push { cls := .type "cell", data := .cell none }).objs.size := (Heap.size_push ..).symm
      rw [hs]
      refine cellsFrom_own lo r _ _ (by rw [← hs]; exact Nat.le_succ_of_le hlo) ?_
      cases hx : x == a with
      | true => exact .inl ⟨h.objs.size, by rw [List.lookup_cons, hx], hlo, ⟨_, Heap.get?_push_size _ rfl, rfl⟩⟩
      | false =>
        rcases h1 with ⟨c, e1, e2, e3⟩ | h1
        · exact .inl ⟨c, by rw [List.lookup_cons, hx]; exact e1, e2, e3.keeps fun b o e => Heap.get?_push_of_some _ e⟩
        · rcases List.mem_cons.mp h1 with h1 | h1
          · cases h1; simp at hx
          · exact .inr h1
    · rw [if_neg hk, if_neg hk]
      refine cellsFrom_own lo r _ _ hlo ?_
      rcases h1 with h1 | h1
      · exact .inl h1
      · rcases List.mem_cons.mp h1 with h1 | h1
        · cases h1; exact absurd rfl hk
        · exact .inr h1

theorem comp_env {scope : Scope} {env : Env} {cl : List (Str × Addr)} {A : Around} {E : Value → Shared → Prop} {s : Shared} {Q : Env → Shared → Prop}
    (h : ∀ cenv, cenv.scope = scope → cenv.locals = s.heap.objs.size → cenv.globals = env.globals → cenv.builtins = env.builtins → cenv.cells = cellsFrom (s.heap.push { cls := .type "dict", data := .dict #[] }).objs.size scope.names cl →
      Q cenv { s with heap := pushCells (s.heap.push { cls := .type "dict", data := .dict #[] }) scope.names }) :
    Wp K.M A (newFunctionEnv scope env.globals cl [] env.qual none .none (some env)) Q E s := by
  simp only [newFunctionEnv, Option.isSome_some, if_true]
  refine ⟨wpAny_bind (wpAny_alloc ?_)⟩
  refine wpAny_bind (wpAny_layCells _ (fun name kind cells => by cases hkc : kind == NameKind.cell <;> simp [hkc]) _ _ _ _ ?_)
  rw [List.forIn_nil]
  exact wpAny_bind (wpAny_pure (wpAny_pure (h _ rfl rfl rfl rfl rfl)))

structure CompOk (scope sc : Scope) (x : Str) : Prop where
  kind : scope.kind = .function
  skind : sc.kind = .function
  free : ∀ q ∈ scope.names, q.2 = .free → sc.names.lookup q.1 = some .cell
  once : ∀ q ∈ scope.names, scope.names.lookup q.1 = some q.2
  isvar : isVarK (scope.names.lookup x) = true
  notdot : (x == (".0" : Str)) = false
  only : ∀ q ∈ scope.names, isVarK (some q.2) = true → q.1 = x ∨ q.1 = (".0" : Str)
  dot : scope.names.lookup (".0" : Str) = some .local

theorem compOk_ok {scope sc : Scope} {x : Str} (h : compOk scope sc x = true) : CompOk scope sc x := by
  simp only [compOk, Bool.and_eq_true] at h
  obtain ⟨⟨⟨⟨⟨⟨⟨⟨h1, h2⟩, h3⟩, h4⟩, h5⟩, h6⟩, h7⟩, h8⟩, h9⟩ := h
  rw [List.all_eq_true] at h3 h4 h8
  refine ⟨eq_of_beq h1, eq_of_beq h2, fun q hq hf => ?_, fun q hq => eq_of_beq (h4 q hq), h5, by simpa using h6, fun q hq hv => ?_, eq_of_beq h9⟩
  · have := h3 q hq
    rw [hf] at this
    simpa using this
  · have := h8 q hq
    rw [hv] at this
    simpa using this

theorem lookup_mem {α : Type} : ∀ {l : List (Str × α)} {y : Str} {k : α}, l.lookup y = some k → (y, k) ∈ l := fun h => PySem.mem_of_lookup h

/-- a name of the comprehension that stands for a datum is its own, or a cell of the frame -/
theorem CompOk.split {scope sc : Scope} {x y : Str} (c : CompOk scope sc x) (hy : isVarK ((relab scope sc).names.lookup y) = true) (hd : (y == (".0" : Str)) = false) (hx : y ≠ x) :
    scope.names.lookup y = some .free ∧ sc.names.lookup y = some .cell ∧ (relab scope sc).names.lookup y = some .cell := by
  unfold relab at hy ⊢
  dsimp only at hy ⊢
  rw [lookup_relab] at hy ⊢
  cases hl : scope.names.lookup y with
  | none => rw [hl] at hy; cases hy
  | some k =>
    rw [hl] at hy
    have hm := lookup_mem hl
    have hk : isVarK (some k) = false := by
      cases hv : isVarK (some k) with
      | false => rfl
      | true =>
        rcases c.only _ hm hv with h | h
        · exact absurd h hx
        · dsimp only at h; rw [h] at hd; simp at hd
    simp only [Option.map] at hy ⊢
    by_cases hc : (k == NameKind.free && sc.kind == .function && sc.names.lookup y == some .cell) = true
    · rw [if_pos hc]
      simp only [Bool.and_eq_true] at hc
      exact ⟨congrArg some (eq_of_beq hc.1.1), eq_of_beq hc.2, rfl⟩
    · rw [if_neg hc] at hy
      rw [hk] at hy; cases hy

theorem CompOk.self {scope sc : Scope} {x : Str} (c : CompOk scope sc x) : (relab scope sc).names.lookup x = scope.names.lookup x := by
  unfold relab
  dsimp only
  rw [lookup_relab]
  have := c.isvar
  cases hl : scope.names.lookup x with
  | none => rfl
  | some k =>
    rw [hl] at this
    cases k <;> first | rfl | (cases this; done)

open Classical in
/-- what the frame's names own, seen from a comprehension that keeps off Y -/
noncomputable def ownIn (Y : Addr → Prop) (own : Nat → Option Addr) : Nat → Option Addr
  | 0 => none
  | k + 1 => match own k with
    | none => none
    | some a => if Y a then some a else none

theorem ownIn_none {Y : Addr → Prop} {own : Nat → Option Addr} {k : Nat} (h : own k = none) : ownIn Y own (k + 1) = none := by simp [ownIn, h]
theorem ownIn_pos {Y : Addr → Prop} {own : Nat → Option Addr} {k : Nat} {a : Addr} (h : own k = some a) (hy : Y a) : ownIn Y own (k + 1) = some a := by simp [ownIn, h, hy]
theorem ownIn_neg {Y : Addr → Prop} {own : Nat → Option Addr} {k : Nat} {a : Addr} (h : own k = some a) (hy : ¬ Y a) : ownIn Y own (k + 1) = none := by simp [ownIn, h, hy]
theorem ownIn_of {Y : Addr → Prop} {own : Nat → Option Addr} {j : Nat} {a : Addr} (h : ownIn Y own j = some a) : Y a ∧ ∃ k, j = k + 1 ∧ own k = some a := by
  cases j with
  | zero => cases h
  | succ k =>
    cases ho : own k with
    | none => rw [ownIn_none ho] at h; cases h
    | some b =>
      by_cases hy : Y b
      · rw [ownIn_pos ho hy] at h; cases h; exact ⟨hy, k, rfl, ho⟩
      · rw [ownIn_neg ho hy] at h; cases h

/-- the frame of a comprehension -/
theorem child_frm {scope : Scope} {x : Str} {A : Around} {env cenv : Env} {s₁ s' : Shared} {τ₁ τ' : Tk} {X Y N : Addr → Prop} {own : Nat → Option Addr} {ρ : Ρ} {q : PV} {v : Value} (c : CompOk scope sc x)
    (F : Frm K m sc vars A env s₁ τ₁ X own ρ) (hY : ∀ a, Y a → X a) (hN : ∀ a, N a → s₁.heap.get? a = none) (hN' : ∀ a, N a → ∃ o, s'.heap.get? a = some o) (e : Ext s₁ τ₁ s' τ')
    (h1 : cenv.scope = relab scope sc) (h2 : cenv.globals = env.globals) (h3 : cenv.builtins = env.builtins) (h4 : ∃ n, cenv.cells = cellsFrom n scope.names (closL env scope.names []))
    (h5 : (relab scope sc).names.lookup x = some .cell → ∃ c, cenv.cells.lookup x = some c)
    (hat : At cenv s'.heap x v) (hv : Rd K ⟨s₁.heap, τ₁⟩ Y v q) : Frm K m (relab scope sc) (x :: vars) A cenv s' τ' (fun b => Y b ∨ N b) (ownIn Y own) (.v q :: ρ) := by
  have hcell : ∀ y, y ≠ x → scope.names.lookup y = some .free → ∀ c', env.cells.lookup y = some c' → cenv.cells.lookup y = some c' := fun y hyx hf c' hc' => by
    obtain ⟨n, hn⟩ := h4
    rw [hn, cellsFrom_other]
    · exact closL_lookup hc' _ _ (fun _ h => by cases h) (.inl hf)
    · intro r hr hk
      have := c.once r hr
      intro he
      rw [he, hk] at this
      rw [this] at hf
      cases hf
  refine ⟨F.room, F.top.keep e.keep, e.ok, ⟨h1, ?_, h2.trans F.env.globals, h3.trans F.env.builtins, ?_, ?_⟩, ?_, ?_⟩
  · exact c.kind
  · intro y i p g0 g1 g2 g3
    by_cases hyx : y = x
    · subst hyx
      rw [List.findIdx?_cons] at g2
      simp at g2
      subst g2
      simp [Sl.val] at g3
      subst g3
      exact ⟨v, hat, (hv.more hN).ext e⟩
    · obtain ⟨k1, k2, k3⟩ := c.split g1 g0 hyx
      rw [List.findIdx?_cons] at g2
      have hxy : (x == y) = false := by simpa using fun e : x = y => hyx e.symm
      rw [hxy] at g2
      simp only [Bool.false_eq_true, if_false, Option.map_eq_some_iff] at g2
      obtain ⟨i', g2, rfl⟩ := g2
      have g3' : (ρ[i']?).bind Sl.val = some p := by simpa using g3
      obtain ⟨u, hu, hh⟩ := F.env.var y i' p g0 (by rw [k2]; rfl) g2 g3'
      refine ⟨u, .inr ⟨?_, ?_⟩, ?_⟩
      · show cenv.scope.names.lookup y = _
        rw [h1]; exact k3
      · rcases hu with ⟨hl, _⟩ | ⟨_, c', hc', hi⟩
        · have : env.kindOf y = sc.names.lookup y := by show env.scope.names.lookup y = _; rw [F.env.scope]
          rw [this, k2] at hl; cases hl
        · exact ⟨c', hcell y hyx k1 c' hc', hi.keeps e.keep⟩
      · show Held K _ _ (ownIn Y own (i' + 1)) u p
        cases ho : own i' with
        | none =>
          rw [ho] at hh
          rw [ownIn_none ho]
          exact ((Rd.less hY hh).more hN).ext e
        | some a =>
          rw [ho] at hh
          obtain ⟨rfl, hh⟩ := hh
          by_cases ha : Y a
          · rw [ownIn_pos ho ha]
            exact ⟨rfl, ((RdTop.mono (Y := Y) (fun _ _ _ q => q) (fun _ _ q => q) hY hh).more hN).ext e⟩
          · rw [ownIn_neg ho ha]
            exact ((RdTop.rd hY ha hh).more hN).ext e
  · intro y hy
    by_cases hyx : y = x
    · subst hyx; exact h5 hy
    · by_cases hyd : (y == (".0" : Str)) = true
      · have := eq_of_beq hyd
        subst this
        unfold relab at hy
        dsimp only at hy
        rw [lookup_relab, c.dot] at hy
        cases hy
      · obtain ⟨k1, k2, k3⟩ := c.split (by rw [hy]; rfl) (by simpa using hyd) hyx
        obtain ⟨c', hc'⟩ := F.env.cell y k2
        exact ⟨c', hcell y hyx k1 c' hc'⟩
  · intro a ha
    rcases ha with ha | ha
    · exact F.xd.keep e.keep a (hY a ha)
    · exact hN' a ha
  · intro j a h
    exact .inl (ownIn_of h).1
end
end Mine
namespace Mine
open PySem PySem.SeqAt PyProof.Rows

section
variable {K : Cx} {C : Orc} {m : Nat} {sc : Scope} {vars : List Str} {ft : List Str}

/-- where a comprehension's name is kept -/
structure Keep (K : Cx) (A : Around) (cenv : Env) (x : Str) (Cc loc : Addr) (Slot : Heap → Prop) : Prop where
  at' : ∀ h h', Slot h → (∀ b o, b = Cc ∨ b = loc → h.get? b = some o → h'.get? b = some o) → Slot h'
  ns : ∀ h, Slot h → ∃ m', h.Ns Cc m'
  live : ∀ h, Slot h → ∃ o, h.get? loc = some o
  store : ∀ (px : Pos) (v : Value) (s : Shared) (Q : Unit → Shared → Prop) (E : Value → Shared → Prop), Slot s.heap →
    (∀ h' tk, s.toks ≤ tk → At cenv h' x v → Slot h' → Heap.SameBut loc s.heap h' → Q () { s with heap := h', toks := tk }) → Wp K.M A (assign (.Name x px) cenv v) Q E s

theorem keep_local {A : Around} {cenv : Env} {x : Str} (hk : cenv.kindOf x = some .local) (hf : cenv.scope.kind = .function) : Keep K A cenv x cenv.locals cenv.locals (fun h => ∃ m', h.Ns cenv.locals m') where
  at' := fun h h' ⟨m', hn⟩ hk => ⟨m', hn.at' fun o e => hk _ o (.inl rfl) e⟩
  ns := fun h e => e
  live := fun h ⟨m', o, es, ep, ho, _⟩ => ⟨o, ho⟩
  store := fun px v s Q E ⟨m', hn⟩ hQ => ⟨wpAny_assign_Name (wpAny_storeName_local hk hn (fun h' hn' hs => hQ h' _ (Nat.le_succ _) (.inl ⟨hk, _, hn', by simp⟩) ⟨_, hn'⟩ hs) (by rw [hf]; rfl))⟩

theorem keep_cell {A : Around} {cenv : Env} {x : Str} {c : Addr} (hk : cenv.kindOf x = some .cell) (hf : cenv.scope.kind = .function) (hc : cenv.cells.lookup x = some c) (hne : cenv.locals ≠ c) :
    Keep K A cenv x cenv.locals c (fun h => (∃ m', h.Ns cenv.locals m') ∧ ∃ v₀, h.IsCell c v₀) where
  at' := fun h h' ⟨⟨m', hn⟩, v₀, o, ho, hd⟩ hk => ⟨⟨m', hn.at' fun o e => hk _ o (.inl rfl) e⟩, v₀, o, hk _ _ (.inr rfl) ho, hd⟩
  ns := fun h e => e.1
  live := fun h ⟨_, v₀, o, ho, _⟩ => ⟨o, ho⟩
  store := fun px v s Q E ⟨⟨m', hn⟩, v₀, hv⟩ hQ => ⟨wpAny_assign_Name (wpAny_storeName_cell hf hk hc hv (fun h' hv' hs => hQ h' s.toks (Nat.le_refl _) (.inr ⟨hk, c, hc, hv'⟩) ⟨⟨m', hn.sameBut hs hne⟩, _, hv'⟩ hs))⟩

theorem Ext.heapTok {s s' : Shared} {τ τ' : Tk} (x : Ext s τ s' τ') {h' : Heap} {t : Nat} (hk : ∀ b o, s.heap.get? b = some o → s'.heap.get? b = some o → h'.get? b = some o) (ht : s'.toks ≤ t) : Ext s τ { s' with heap := h', toks := t } τ' :=
  ⟨x.gens, x.os, fun b o e => hk b o e (x.keep b o e), x.sub, x.ok.le ht⟩

/-- the tests of a comprehension -/
theorem tests_ok {sc' : Scope} {vars' : List Str} {ifs : List Expr} {c : Mine.X} (ihc : (ifs = [] ∧ c = .cst (.bool true)) ∨ ∃ ce, ifs = [ce] ∧ TrAt K C m sc' vars' ce c) {A : Around} {env : Env} {s : Shared} {τ : Tk} {X : Addr → Prop} {own : Nat → Option Addr} {ρ : Ρ} {p : PV} {b : Bool}
    (F : Frm K m sc' vars' A env s τ X own ρ) (e : ev C c ρ = some p) (ht : truth p = some b) {Q : Bool → Shared → Prop} {E : Value → Shared → Prop} (hQ : ∀ s' τ', Ext s τ s' τ' → Q b s') :
    Wp K.M A (forIn ifs true fun c r => if r = true then do let ok ← isTrue c env (eval c env); pure (ForInStep.yield ok) else pure (ForInStep.yield r)) Q E s := by
  rcases ihc with ⟨rfl, rfl⟩ | ⟨ce, rfl, ih⟩
  · cases e; cases ht
    exact ⟨wpAny_tests_nil (hQ _ _ (.refl F.tok))⟩
  · exact ⟨wpAny_tests_one (ih A env s τ X own ρ _ _ F e ht _ _ hQ).out⟩

theorem RdL.keepOff {h h' : Heap} {τ : Tk} {X : Addr → Prop} {l : List PV} {vs : List Value} (hk : ∀ b o, ¬ X b → h.get? b = some o → h'.get? b = some o) (e : RdL K ⟨h, τ⟩ X vs l) : RdL K ⟨h', τ⟩ X vs l :=
  RdL.mono (g := ⟨h, τ⟩) (g' := ⟨h', τ⟩) hk (fun _ _ q => q) (fun _ q => q) e

theorem comp_loop {elt iter : Expr} {x : Str} {px : Pos} {ifs : List Expr} {scope : Scope} {pos : Pos} {y i c : Mine.X} (ok : CompOk scope sc x)
    (ihy : EvAt K C m (relab scope sc) (x :: vars) elt y) (ihc : (ifs = [] ∧ c = .cst (.bool true)) ∨ ∃ ce, ifs = [ce] ∧ TrAt K C m (relab scope sc) (x :: vars) ce c)
    {A : Around} {env cenv : Env} {s₁ s₄ : Shared} {τ₁ : Tk} {X : Addr → Prop} {own : Nat → Option Addr} {ρ : Ρ} {items all : List PV} {I D Cc loc : Addr} {fp wr : List Addr} {P : Nat → Value → Prop} {St : Nat → Heap → Prop} {Slot : Heap → Prop} {s₂ : Shared}
    (F : Frm K m sc vars A env s₁ τ₁ X own ρ) (W : Walk K A s₁ τ₁ (Off X own (al i)) items I fp wr P St s₂) (Kp : Keep K A cenv x Cc loc Slot)
    (hmap : mapC (fun v => match ev C c (.v v :: ρ) with | some c => truth c | Option.none => Option.none) (fun v => ev C y (.v v :: ρ)) items = some all)
    (hD : s₂.heap.objs.size ≤ D) (hC : s₂.heap.objs.size ≤ Cc) (hL : s₂.heap.objs.size ≤ loc) (hDC : D ≠ Cc) (hDL : D ≠ loc)
    (h1 : cenv.scope = relab scope sc) (h2 : cenv.globals = env.globals) (h3 : cenv.builtins = env.builtins) (h4 : ∃ n, cenv.cells = cellsFrom n scope.names (closL env scope.names []))
    (h5 : (relab scope sc).names.lookup x = some .cell → ∃ c, cenv.cells.lookup x = some c)
    (x4 : Ext s₁ τ₁ s₄ τ₁) (st4 : St 0 s₄.heap) (pl4 : PL s₄.heap D []) (sl4 : Slot s₄.heap)
    {R : Result → Shared → Prop}
    (hR : ∀ m' s' τ', Ext s₁ τ₁ s' τ' → s'.heap.Ns Cc m' → RdTop K ⟨s'.heap, τ'⟩ (fun b => Off X own (al (.comp y i c)) b ∨ (b = D ∨ b = Cc ∨ b = loc ∨ b ∈ wr)) D (.list all) → R (.ok .next) s') :
    Cp K.M A (.compLoop (.ListComp elt [⟨.Name x px, iter, ifs, 0⟩] scope pos) 0 (.ref I) (.ref D) cenv) R s₄ := by
  have new : ∀ a, s₂.heap.objs.size ≤ a → s₁.heap.get? a = none := fun a ha => by
    cases e : s₁.heap.get? a with
    | none => rfl
    | some o => exact absurd (Heap.lt_size (W.ext.keep a o e)) (Nat.not_lt.mpr ha)
  let N : Addr → Prop := fun b => b = D ∨ b = Cc ∨ b = loc ∨ b ∈ wr
  have hN : ∀ a, N a → s₁.heap.get? a = none := fun a ha => by
    rcases ha with rfl | rfl | rfl | ha
    · exact new _ hD
    · exact new _ hC
    · exact new _ hL
    · exact W.new a ha
  have offp : ∀ a, s₂.heap.objs.size ≤ a → a ∉ fp := fun a ha h => absurd (W.low a h) (Nat.not_lt.mpr ha)
  have offw : ∀ a, s₂.heap.objs.size ≤ a → a ∉ wr := fun a ha h => offp a ha (W.walks.sub a h)
  let Xr : Addr → Prop := fun b => Off X own (al (.comp y i c)) b ∨ N b
  have XrY : ∀ b, Xr b → Off (fun b => Off X own (al i) b ∨ N b) (ownIn (Off X own (al i)) own) (al y) b := fun b hb => by
    rcases hb with hb | hb
    · refine ⟨.inl (hb.anti fun j hj => List.mem_append_left _ hj), fun j hj ho => ?_⟩
      obtain ⟨_, k, rfl, hk⟩ := ownIn_of ho
      refine hb.2 k (List.mem_append_right _ ?_) hk
      exact List.mem_filterMap.mpr ⟨k + 1, hj, rfl⟩
    · refine ⟨.inr hb, fun j _ ho => ?_⟩
      obtain ⟨_, k, rfl, hk⟩ := ownIn_of ho
      exact F.notOwn (hN b hb) k hk
  refine ⟨codeAny_compLoop_tests (fun k s' => ∃ τ' j vs ys rest, k = items.length + 1 - j ∧ j ≤ items.length ∧ Ext s₁ τ₁ s' τ' ∧ St j s'.heap ∧ PL s'.heap D vs ∧ RdL K ⟨s'.heap, τ'⟩ Xr vs ys ∧ Slot s'.heap ∧
    mapC (fun v => match ev C c (.v v :: ρ) with | some c => truth c | Option.none => Option.none) (fun v => ev C y (.v v :: ρ)) (items.drop j) = some rest ∧ all = ys ++ rest ∧ ys.length ≤ j) ?_ (items.length + 1)
    ⟨τ₁, 0, [], [], all, rfl, Nat.zero_le _, x4, st4, pl4, rfl, sl4, by simpa using hmap, rfl, Nat.le_refl _⟩⟩
  rintro k s' ⟨τ', j, vs, ys, rest, rfl, hj, xs, hst, hpl, hrd, hsl, hm, hall, hlen⟩
  by_cases hlt : j < items.length
  · -- one more item
    refine (Wp.untok ⟨W.walks.item j s' _ _ hlt hst fun v h₁ tk₁ hPv hst₁ hk₁ hle₁ => ?_⟩).out
    obtain ⟨q, hq, hv⟩ := W.item j v hlt hPv
    have e1 : Ext s₁ τ₁ { s' with heap := h₁, toks := tk₁ } τ' := xs.heapTok (fun b o e e' => hk₁ b o (fun hb => by rw [W.new b hb] at e; cases e) e') hle₁
    have pl1 : PL h₁ D vs := let ⟨n, hp⟩ := hpl; ⟨n, hk₁ _ _ (offw D hD) hp⟩
    have rd1 : RdL K ⟨h₁, τ'⟩ Xr vs ys := hrd.keepOff fun b o hb e => hk₁ b o (fun hw => hb (.inr (.inr (.inr (.inr hw))))) e
    have sl1 : Slot h₁ := Kp.at' _ _ hsl fun b o hb e => hk₁ b o (by rcases hb with rfl | rfl; exact offw _ hC; exact offw _ hL) e
    refine (Kp.store px v _ _ _ sl1 fun h₂ tk₂ hle₂ hat sl2 hs₂ => ?_).out
    have e2 : Ext s₁ τ₁ { s' with heap := h₂, toks := tk₂ } τ' := e1.but (new _ hL) hs₂ hle₂
    have pl2 : PL h₂ D vs := let ⟨n, hp⟩ := pl1; ⟨n, by rw [hs₂.2 D hDL]; exact hp⟩
    have rd2 : RdL K ⟨h₂, τ'⟩ Xr vs ys := RdL.but (s₁ := { s' with heap := h₁, toks := tk₁ }) rd1 (.inr (.inr (.inr (.inl rfl)))) hs₂
    have st2 : St (j + 1) h₂ := W.walks.frame _ _ _ hst₁ fun b hb o e => by
      rw [hs₂.2 b (fun h => offp loc hL (h ▸ hb))]; exact e
    have live2 : ∀ a, N a → ∃ o, h₂.get? a = some o := fun a ha => by
      rcases ha with rfl | rfl | rfl | ha
      · exact let ⟨n, hp⟩ := pl2; ⟨_, hp⟩
      · exact let ⟨m', o, es, ep, ho, _⟩ := Kp.ns _ sl2; ⟨o, ho⟩
      · exact Kp.live _ sl2
      · exact W.live _ _ st2 a ha
    have F2 := child_frm (s' := { s' with heap := h₂, toks := tk₂ }) ok F (Y := Off X own (al i)) (fun a h => h.1) hN live2 e2 h1 h2 h3 h4 h5 hat hv
    have hdrop : items.drop j = q :: items.drop (j + 1) := by
      rw [List.drop_eq_getElem_cons hlt]
      rw [List.getElem?_eq_getElem hlt] at hq
      cases hq; rfl
    rw [hdrop] at hm
    unfold mapC at hm
    cases hc : ev C c (.v q :: ρ) with
    | none => rw [hc] at hm; cases hm
    | some pc =>
      rw [hc] at hm
      dsimp only at hm
      cases ht : truth pc with
      | none => rw [ht] at hm; cases hm
      | some b =>
        rw [ht] at hm
        refine (tests_ok ihc F2 hc ht fun s₃ τ₃ e3 => ?_).out
        have pl3 : PL s₃.heap D vs := pl2.keep e3.keep
        have rd3 : RdL K ⟨s₃.heap, τ₃⟩ Xr vs ys := rd2.ext e3
        have sl3 : Slot s₃.heap := Kp.at' _ _ sl2 fun b o _ e => e3.keep b o e
        have st3 : St (j + 1) s₃.heap := W.walks.frame _ _ _ st2 fun b _ o e => e3.keep b o e
        cases b with
        | false =>
          simp only [Bool.false_eq_true, if_false]
          exact ⟨items.length + 1 - (j + 1), by omega, τ₃, j + 1, vs, ys, rest, rfl, hlt, e2.trans e3, st3, pl3, rd3, sl3, hm, hall, Nat.le_succ_of_le hlen⟩
        | true =>
          simp only [if_true]
          dsimp only at hm
          cases hy : ev C y (.v q :: ρ) with
          | none => rw [hy] at hm; cases hm
          | some py =>
            rw [hy] at hm
            dsimp only at hm
            cases hr : mapC (fun v => match ev C c (.v v :: ρ) with | some c => truth c | Option.none => Option.none) (fun v => ev C y (.v v :: ρ)) (items.drop (j + 1)) with
            | none => rw [hr] at hm; cases hm
            | some rest' =>
              rw [hr] at hm
              cases hm
              refine (ihy A cenv s₃ τ₃ _ _ _ _ (F2.ext e3) hy _ _ fun u s₅ τ₅ ⟨e5, hu, _⟩ => ?_).out
              have pl5 : PL s₅.heap D vs := pl3.keep e5.keep
              refine wpAny_list_append_plain (items := vs.toArray) (hsz := by have := rd3.length; have := W.few; have e : sizeLine = 16777216 := rfl; simp only [List.size_toArray]; omega) pl5 fun h₆ pl6 hs₆ => ?_
              have hDX : Xr D := .inr (.inl rfl)
              refine ⟨items.length + 1 - (j + 1), by omega, τ₅, j + 1, vs ++ [u], ys ++ [py], rest', rfl, hlt, ((e2.trans e3).trans e5).but (new _ hD) hs₆ (Nat.le_refl _), ?_, ?_, ?_, ?_, hr, by rw [hall]; simp, by simp; omega⟩
              · exact W.walks.frame _ _ _ st3 fun b hb o e => by rw [hs₆.2 b (fun h => offp D hD (h ▸ hb))]; exact e5.keep b o e
              · obtain ⟨n, hp⟩ := pl6
                exact ⟨n, by rw [hp]; simp⟩
              · exact RdL.but ((rd3.ext e5).append (.single (hu.less XrY))) hDX hs₆
              · exact Kp.at' _ _ sl3 fun b o hb e => by
                  have : b ≠ D := by rcases hb with rfl | rfl; exact fun h => hDC h.symm; exact fun h => hDL h.symm
                  rw [hs₆.2 b this]; exact e5.keep b o e
  · have hje : j = items.length := Nat.le_antisymm hj (Nat.not_lt.mp hlt)
    subst hje
    refine (Wp.untok ⟨W.walks.done s' _ _ hst fun h₁ tk₁ hk₁ hle₁ => ?_⟩).out
    have hm' : rest = [] := by
      rw [List.drop_length] at hm
      unfold mapC at hm
      cases hm; rfl
    subst hm'
    rw [List.append_nil] at hall
    subst hall
    have e1 : Ext s₁ τ₁ { s' with heap := h₁, toks := tk₁ } τ' := xs.heapTok (fun b o e e' => hk₁ b o (fun hb => by rw [W.new b hb] at e; cases e) e') hle₁
    have sl1 : Slot h₁ := Kp.at' _ _ hsl fun b o hb e => hk₁ b o (by rcases hb with rfl | rfl; exact offw _ hC; exact offw _ hL) e
    obtain ⟨m', hns⟩ := Kp.ns _ sl1
    refine hR m' _ τ' e1 hns ⟨vs, ?_, ?_⟩
    · exact let ⟨n, hp⟩ := hpl; ⟨n, hk₁ _ _ (offw D hD) hp⟩
    · exact hrd.keepOff fun b o hb e => hk₁ b o (fun hw => hb (.inr (.inr (.inr (.inr hw))))) e
end
end Mine
namespace Mine
open PySem PySem.SeqAt PyProof.Rows

section
variable {K : Cx} {C : Orc} {m : Nat} {sc : Scope} {vars : List Str} {ft : List Str}

theorem pushCells_size : ∀ (names : List (Str × NameKind)) (h : Heap), h.objs.size ≤ (pushCells h names).objs.size
  | [], h => Nat.le_refl _
  | (a, k) :: r, h => by
    unfold pushCells
    split
    · refine Nat.le_trans ?_ (pushCells_size r _)
      rw [Heap.size_push]; exact Nat.le_succ _
    · exact pushCells_size r h

theorem comp_ok {elt iter : Expr} {x : Str} {px : Pos} {ifs : List Expr} {scope : Scope} {pos : Pos} {y i c : Mine.X} (ok : CompOk scope sc x) (ihi : EvAt K C m sc vars iter i)
    (ihy : EvAt K C m (relab scope sc) (x :: vars) elt y) (ihc : (ifs = [] ∧ c = .cst (.bool true)) ∨ ∃ ce, ifs = [ce] ∧ TrAt K C m (relab scope sc) (x :: vars) ce c)
    {A : Around} {env : Env} {s : Shared} {τ : Tk} {X : Addr → Prop} {own : Nat → Option Addr} {ρ : Ρ} {p : PV} (F : Frm K m sc vars A env s τ X own ρ) (e : ev C (.comp y i c) ρ = some p)
    {E : Value → Shared → Prop} {RR : Value → Addr → Result → Shared → Prop}
    (hR : ∀ D Cc m' s' τ', s.heap.get? Cc = none → D ≠ Cc → Ext s τ s' τ' → s'.heap.Ns Cc m' → FreshRd K s.heap ⟨s'.heap, τ'⟩ (fun b => Off X own (al (.comp y i c)) b ∨ b = Cc) (.ref D) p → RR (.ref D) Cc (.ok .next) s') :
    Wp K.M A (eval iter env) (fun xv s₁ => wpAny K.M A (pyIter xv) (fun it s₂ => wpAny K.M A (newList []) (fun acc s₃ =>
      wpAny K.M A (newFunctionEnv scope env.globals (closL env scope.names []) [] env.qual none .none (some env)) (fun cenv s₄ =>
        codeAny K.M A (.compStart (.ListComp elt [⟨.Name x px, iter, ifs, 0⟩] scope pos) 0 it acc { cenv with scope := relabel scope env }) (RR acc cenv.locals) s₄) E s₃) E s₂) E s₁) E s := by
  simp only [ev] at e
  cases hi : ev C i ρ with
  | none => rw [hi] at e; cases e
  | some pi =>
    rw [hi] at e
    dsimp only at e
    cases hit : itemsOf pi with
    | none => rw [hit] at e; cases e
    | some items =>
      rw [hit] at e
      dsimp only at e
      rw [Option.map_eq_some_iff] at e
      obtain ⟨all, hall, rfl⟩ := e
      refine ihi A env s τ X own ρ _ F hi _ _ fun xv s₁ τ₁ ⟨h1, h2, _⟩ => (iter_ok hit h2 h1.ok F.room.handled fun I fp wr P St s₂ W => ?_).out
      refine wpAny_newList ?_
      refine (comp_env fun cenv hc1 hc2 hc3 hc4 hc5 => ?_).out
      generalize hH3 : s₂.heap.push { cls := .type "list", data := .seq ([] : List Value).toArray } = H3 at hc2 hc5 ⊢
      dsimp only at hc2 hc5 ⊢
      generalize hH4 : H3.push { cls := .type "dict", data := .dict #[] } = H4 at hc5 ⊢
      have z3 : H3.objs.size = s₂.heap.objs.size + 1 := by rw [← hH3, Heap.size_push]
      have z4 : H4.objs.size = s₂.heap.objs.size + 2 := by rw [← hH4, Heap.size_push, z3]
      have k3 : ∀ b o, s₂.heap.get? b = some o → H3.get? b = some o := fun b o q => by rw [← hH3]; exact Heap.get?_push_of_some _ q
      have k4 : ∀ b o, H3.get? b = some o → (pushCells H4 scope.names).get? b = some o := fun b o q => pushCells_keeps _ _ _ _ (by rw [← hH4]; exact Heap.get?_push_of_some _ q)
      have x4 : Ext s₁ τ₁ { s₂ with heap := pushCells H4 scope.names } τ₁ := W.ext.heapTok (fun b o _ q => k4 b o (k3 b o q)) (Nat.le_refl _)
      have st4 : St 0 (pushCells H4 scope.names) := W.walks.frame _ _ _ W.start fun b _ o q => k4 b o (k3 b o q)
      have pl4 : PL (pushCells H4 scope.names) s₂.heap.objs.size [] := ⟨_, k4 _ _ (by rw [← hH3]; exact Heap.get?_push_size _ rfl)⟩
      have ns4 : (pushCells H4 scope.names).Ns cenv.locals (fun _ => none) := by
        rw [hc2]
        refine ⟨{ cls := .type "dict", data := .dict #[] }, #[], _, pushCells_keeps _ _ _ _ ?_, rfl, ?_, ?_⟩
        · rw [← hH4]; exact Heap.get?_push_size _ rfl
        · intro e he; simp at he
        · intro n; rfl
      have hDC : s₂.heap.objs.size ≠ cenv.locals := by rw [hc2, z3]; exact Nat.ne_of_lt (Nat.lt_succ_self _)
      have hC : s₂.heap.objs.size ≤ cenv.locals := by rw [hc2, z3]; exact Nat.le_succ _
      have F₁ := F.ext h1
      have new : ∀ a, s₂.heap.objs.size ≤ a → s.heap.get? a = none := fun a ha => by
        cases e : s.heap.get? a with
        | none => rfl
        | some o => exact absurd (Heap.lt_size (W.ext.keep a o (h1.keep a o e))) (Nat.not_lt.mpr ha)
      have fin : ∀ (loc : Addr) m' s' τ', Ext s₁ τ₁ s' τ' → s'.heap.Ns cenv.locals m' → RdTop K ⟨s'.heap, τ'⟩ (fun b => Off X own (al (.comp y i c)) b ∨ (b = s₂.heap.objs.size ∨ b = cenv.locals ∨ b = loc ∨ b ∈ wr)) s₂.heap.objs.size (.list all) →
          RR (.ref s₂.heap.objs.size) cenv.locals (.ok .next) s' := fun loc m' s' τ' x' ns' rd' =>
        hR _ _ m' s' τ' (new _ hC) hDC (h1.trans x') ns' ⟨_, rfl, new _ (Nat.le_refl _), RdTop.mono (fun _ _ _ q => q) (fun _ _ q => q) (fun b hb => by
          rcases hb with (hb | hb) | hb
          · exact .inl hb
          · exact .inr (.inr (.inl hb))
          · exact .inr (.inl hb)) rd'⟩
      have hre : relabel scope env = relab scope sc := relab_eq F.env.scope
      have hself := ok.self
      have loop : Cp K.M A (.compLoop (.ListComp elt [⟨.Name x px, iter, ifs, 0⟩] scope pos) 0 (.ref I) (.ref s₂.heap.objs.size) { cenv with scope := relabel scope env }) (RR (.ref s₂.heap.objs.size) cenv.locals) { s₂ with heap := pushCells H4 scope.names } := by
        rw [hre]
        have hkv := ok.isvar
        cases hk : scope.names.lookup x with
        | none => rw [hk] at hkv; cases hkv
        | some k =>
          have hcase : k = .local ∨ k = .cell := by rw [hk] at hkv; cases k <;> first | (exact .inl rfl) | (exact .inr rfl) | (cases hkv; done)
          rcases hcase with rfl | rfl
          · refine comp_loop (cenv := { cenv with scope := relab scope sc }) ok ihy ihc F₁ W (keep_local (cenv := { cenv with scope := relab scope sc }) (by show (relab scope sc).names.lookup x = _; rw [hself, hk]) ok.kind) hall (Nat.le_refl _) hC hC hDC hDC
              rfl hc3 hc4 ⟨_, hc5⟩ (fun h => by rw [hself, hk] at h; cases h) x4 st4 pl4 ⟨_, ns4⟩ (fin cenv.locals)
          · obtain ⟨c0, l1, l2, l3⟩ := cellsFrom_own (x := x) H4.objs.size scope.names H4 (closL env scope.names []) (Nat.le_refl _) (.inr (lookup_mem hk))
            rw [← hc5] at l1
            have hL : s₂.heap.objs.size ≤ c0 := by rw [z4] at l2; exact Nat.le_trans (Nat.le_add_right _ 2) l2
            have hDL : s₂.heap.objs.size ≠ c0 := by rw [z4] at l2; exact Nat.ne_of_lt (Nat.lt_of_lt_of_le (Nat.lt_add_of_pos_right (by decide)) l2)
            have hCL : cenv.locals ≠ c0 := by rw [hc2, z3]; rw [z4] at l2; exact Nat.ne_of_lt (Nat.lt_of_lt_of_le (Nat.lt_succ_self _) l2)
            refine comp_loop (cenv := { cenv with scope := relab scope sc }) ok ihy ihc F₁ W (keep_cell (cenv := { cenv with scope := relab scope sc }) (c := c0) (by show (relab scope sc).names.lookup x = _; rw [hself, hk]) ok.kind l1 hCL) hall (Nat.le_refl _) hC hL hDC hDL
              rfl hc3 hc4 ⟨_, hc5⟩ (fun _ => ⟨c0, l1⟩) x4 st4 pl4 ⟨⟨_, ns4⟩, _, l3⟩ (fin c0)
      exact codeAny_compStart_list loop.out (W.walks.self 0 _ _ _ st4 loop.out)

theorem FreshRd.but {h : Heap} {s' : Shared} {τ' : Tk} {X : Addr → Prop} {Cc D : Addr} {p : PV} {h' : Heap} (e : FreshRd K h ⟨s'.heap, τ'⟩ (fun b => X b ∨ b = Cc) (.ref D) p) (hD : D ≠ Cc) (hs : Heap.SameBut Cc s'.heap h') :
    FreshRd K h ⟨h', τ'⟩ X (.ref D) p := by
  obtain ⟨a, ha, h1, h2⟩ := e
  cases ha
  refine ⟨D, rfl, h1, ?_⟩
  have h3 : RdTop K ⟨h', τ'⟩ (fun b => (X b ∨ b = Cc) ∨ b = D) D p := RdTop.mono (g := ⟨s'.heap, τ'⟩) (g' := ⟨h', τ'⟩) (fun b o hb q => by
    have hb : b ≠ Cc := fun q => by
      rcases hb with hb | hb
      · exact hb (.inl (.inr q))
      · exact hD (hb ▸ q)
    show h'.get? b = some o
    rw [hs.2 b hb]; exact q) (fun _ _ q => q) (fun _ q => q) h2
  exact RdTop.mono (fun _ _ _ q => q) (fun _ _ q => q) (fun b hb => by
    rcases hb with hb | hb
    · exact .inl (.inl hb)
    · exact .inr hb) h3

theorem CompOk.closure {scope : Scope} {x : Str} (ok : CompOk scope sc x) {A : Around} {env : Env} {s : Shared} {τ : Tk} {X : Addr → Prop} {own : Nat → Option Addr} {ρ : Ρ} (F : Frm K m sc vars A env s τ X own ρ) : closureFor scope env = pure (closL env scope.names []) :=
  clos_eq fun q hq hf => F.env.cell _ (ok.free q hq hf)

theorem ev_comp {elt iter : Expr} {x : Str} {px : Pos} {ifs : List Expr} {scope : Scope} {pos : Pos} {y i c : Mine.X} (ok : CompOk scope sc x) (ihi : EvAt K C m sc vars iter i)
    (ihy : EvAt K C m (relab scope sc) (x :: vars) elt y) (ihc : (ifs = [] ∧ c = .cst (.bool true)) ∨ ∃ ce, ifs = [ce] ∧ TrAt K C m (relab scope sc) (x :: vars) ce c) (hs : ∀ env x, foldedSetIterable iter env x = pure x) :
    EvAt K C m sc vars (.ListComp elt [⟨.Name x px, iter, ifs, 0⟩] scope pos) (.comp y i c) := by
  intro A env s τ X own ρ p F e Q E hQ
  rw [eval_ListComp]
  refine ⟨wpAny_comprehension_free (use := none) (cl := closL env scope.names []) rfl (hs env) (ok.closure F) ok.kind (fun q hq hl => by rw [ok.once q hq, hl]) (comp_ok ok ihi ihy ihc F e fun D Cc m' s' τ' g1 g2 g3 g4 g5 => ?_).out⟩
  refine ⟨m', g4, fun h' hs' => hQ _ _ τ' ?_⟩
  have g6 := g5.but g2 hs'
  have g7 : Ext s τ { s' with heap := h', toks := s'.toks } τ' := g3.but g1 hs' (Nat.le_refl _)
  exact ⟨g7, g6.rd (F.xdo _), fun _ => g6⟩
end
end Mine
namespace Mine
open PySem PySem.SeqAt PyProof.Rows

section
variable {K : Cx} {C : Orc} {m : Nat} {ft : List Str}

noncomputable def oddE : Expr → Bool
  | .Starred .. => true
  | .Set .. => true
  | .Slice .. => true
  | _ => false

theorem isV_odd {e : Expr} {v : EV} (h : IsV e v) (hv : oddE e = true) : v = .other := by
  cases h <;> first | rfl | (cases hv; done)
theorem cx_odd {n : Nat} {sc : Scope} {vars : List Str} {e : Expr} {x : Mine.X} (h : cx n ft sc vars e = some x) : oddE e = false := by
  cases n with
  | zero => cases h
  | succ n =>
    cases ho : oddE e with
    | false => rfl
    | true =>
      have h : cxV (cx n ft) ft sc vars (viewE e) = some x := h
      rw [isV_odd (viewE_ok e) ho] at h
      cases h

theorem odd_star {e : Expr} (h : oddE e = false) : ∀ a p, e ≠ .Starred a p := fun a p q => by subst q; cases h
theorem odd_slice {e : Expr} (h : oddE e = false) : ∀ l u p, e ≠ .Slice l u none p := fun a b p q => by subst q; cases h
theorem odd_behind {e : Expr} (h : oddE e = false) (op : CmpOp) : behindInMarks op e = false := by cases e <;> first | rfl | (cases h; done)
theorem odd_folded {e : Expr} (h : oddE e = false) (env : Env) (v : Value) : foldedSetIterable e env v = pure v := by cases e <;> first | rfl | (cases h; done)

/-- both readings -/
noncomputable def Both (K : Cx) (C : Orc) (m : Nat) (sc : Scope) (vars : List Str) (e : Expr) (x : Mine.X) : Prop := EvAt K C m sc vars e x ∧ TrAt K C m sc vars e x

theorem both_of {sc : Scope} {vars : List Str} {e : Expr} {x : Mine.X} (h : EvAt K C m sc vars e x) (hs : ∀ env whole, isTrue e env whole = (do let v ← whole; standAt e.pos; holding [v] (truthy v))) : Both K C m sc vars e x := ⟨h, tr_of_ev h hs⟩

theorem cxL_ok {n : Nat} {sc : Scope} {vars : List Str} (ih : ∀ e x, cx n ft sc vars e = some x → Both K C m sc vars e x) : ∀ {es : List Expr} {l : XL}, cxL (cx n ft sc vars) es = some l → EvL K C m sc vars es l
  | [], l, h => by cases h; trivial
  | e :: es, l, h => by
    unfold cxL at h
    cases h1 : cx n ft sc vars e with
    | none => rw [h1] at h; cases h
    | some x =>
      cases h2 : cxL (cx n ft sc vars) es with
      | none => rw [h1, h2] at h; cases h
      | some r =>
        rw [h1, h2] at h
        cases h
        exact ⟨(ih _ _ h1).1, (ih _ _ h1).2, odd_star (cx_odd h1), cxL_ok ih h2⟩

theorem cxO_ok {n : Nat} {sc : Scope} {vars : List Str} (ih : ∀ e x, cx n ft sc vars e = some x → Both K C m sc vars e x) {o : Option Expr} {x : Mine.X} (h : cxO (cx n ft sc vars) o = some x) : match (generalizing := false) o with | none => x = .cst .none | some a => EvAt K C m sc vars a x := by
  cases o with
  | none => cases h; rfl
  | some a => exact (ih _ _ h).1

theorem cxSome_inv {f : Mine.X → Mine.X} {o : Option Mine.X} {x : Mine.X} (h : cxSome f o = some x) : ∃ a, o = some a ∧ x = f a := by
  cases o with
  | none => cases h
  | some a => cases h; exact ⟨a, rfl, rfl⟩
theorem cxLs_inv {f : XL → Mine.X} {o : Option XL} {x : Mine.X} (h : cxLs f o = some x) : ∃ a, o = some a ∧ x = f a := by
  cases o with
  | none => cases h
  | some a => cases h; exact ⟨a, rfl, rfl⟩
theorem cx2_inv {f : Mine.X → Mine.X → Mine.X} {o q : Option Mine.X} {x : Mine.X} (h : cx2 f o q = some x) : ∃ a b, o = some a ∧ q = some b ∧ x = f a b := by
  cases o <;> cases q <;> cases h
  exact ⟨_, _, rfl, rfl, rfl⟩
theorem cx3_inv {f : Mine.X → Mine.X → Mine.X → Mine.X} {o q r : Option Mine.X} {x : Mine.X} (h : cx3 f o q r = some x) : ∃ a b c, o = some a ∧ q = some b ∧ r = some c ∧ x = f a b c := by
  cases o with
  | none => cases h
  | some a =>
    obtain ⟨b, c, h1, h2, h3⟩ := cx2_inv h
    exact ⟨a, b, c, rfl, h1, h2, h3⟩
theorem cx4_inv {f : Mine.X → Mine.X → Mine.X → Mine.X → Mine.X} {o q r t : Option Mine.X} {x : Mine.X} (h : cx4 f o q r t = some x) : ∃ a b c d, o = some a ∧ q = some b ∧ r = some c ∧ t = some d ∧ x = f a b c d := by
  cases o with
  | none => cases h
  | some a =>
    obtain ⟨b, c, d, h1, h2, h3, h4⟩ := cx3_inv h
    exact ⟨a, b, c, d, rfl, h1, h2, h3, h4⟩

theorem comp_inv {n : Nat} {sc : Scope} {vars : List Str} {elt iter : Expr} {y : Str} {ifs : List Expr} {scope : Scope} {x : Mine.X} (h : cxV (cx n ft) ft sc vars (.comp elt iter y ifs scope) = some x) :
    ∃ i el, compOk scope sc y = true ∧ cx n ft sc vars iter = some i ∧ cx n ft (relab scope sc) (y :: vars) elt = some el ∧
      ((ifs = [] ∧ x = .comp el i (.cst (.bool true))) ∨ ∃ c z, ifs = [c] ∧ cx n ft (relab scope sc) (y :: vars) c = some z ∧ x = .comp el i z) := by
  obtain ⟨hc, e1⟩ := ifz_inv h
  obtain ⟨i, h1, e2⟩ := obind_inv e1
  obtain ⟨el, h2, e3⟩ := obind_inv e2
  refine ⟨i, el, hc, h1, h2, ?_⟩
  rcases ifs with _ | ⟨c, _ | ⟨d, q⟩⟩
  · cases e3; exact .inl ⟨rfl, rfl⟩
  · obtain ⟨z, h3, e4⟩ := obind_inv e3
    cases e4; exact .inr ⟨c, z, rfl, h3, rfl⟩
  · cases e3

section
variable {sc : Scope} {vars : List Str} {rec : Expr → Option Mine.X}
theorem meth_ok {o : Expr} {m' : Str} {as : List Expr} {x : Mine.X} {apos p : Pos} (ihs : ∀ e x, rec e = some x → Both K C m sc vars e x) (hodd : ∀ e x, rec e = some x → oddE e = false) (hb : plainBase o = true) (hl : (apos.endLine == p.line) = true) (h : cxMeth rec o m' as = some x) :
    EvAt K C m sc vars (.Call (.Attribute o m' apos) as [] p) x := by
  unfold cxMeth at h
  cases hm : m' == ("replace" : Str) with
  | true =>
    rw [hm] at h
    have hm := eq_of_beq hm
    subst hm
    cases h1 : rec o with
    | none => rw [h1] at h; cases h
    | some y =>
      rw [h1] at h
      cases h2 : rplOf as with
      | none => rw [h2] at h; cases h
      | some ct =>
        rw [h2] at h
        obtain ⟨c, t⟩ := ct
        cases h
        exact ev_rpl (ihs _ _ h1).1 hb hl h2
  | false =>
    rw [hm] at h
    cases h1 : mthOf m' with
    | none => rw [h1] at h; cases h
    | some f =>
      rw [h1] at h
      cases h2 : rec o with
      | none => rw [h2] at h; cases h
      | some y =>
        rw [h2] at h
        rcases as with _ | ⟨a, _ | _⟩ <;> first | (cases h; done) | skip
        dsimp only at h
        cases h3 : rec a with
        | none => rw [h3] at h; cases h
        | some z =>
          rw [h3] at h
          cases h
          exact ev_mth (ihs _ _ h2).1 (ihs _ _ h3).1 (odd_star (hodd _ _ h3)) hb hl h1
end

theorem cx_ok (G : Glb K ft) (S : Sound K ft m C) : ∀ (n : Nat) (sc : Scope) (vars : List Str) (e : Expr) (x : Mine.X), cx n ft sc vars e = some x → Both K C m sc vars e x
  | 0, _, _, _, _, h => by cases h
  | n + 1, sc, vars, e, x, h => by
    have ih := cx_ok G S n
    have ihs := ih sc vars
    have h : cxV (cx n ft) ft sc vars (viewE e) = some x := h
    have hv := viewE_ok e
    generalize viewE e = v at hv h
    cases hv with
    | cst c k p =>
      have h : cxCst (cstOf c) = some x := h
      cases h1 : cstOf c with
      | none => rw [h1] at h; cases h
      | some v =>
        rw [h1] at h
        cases h
        exact both_of (ev_const h1) fun _ _ => rfl
    | name y p =>
      have h : cxVar (varAt sc vars y) = some x := h
      cases h1 : varAt sc vars y with
      | none => rw [h1] at h; cases h
      | some i =>
        rw [h1] at h
        cases h
        exact both_of (ev_name h1) fun _ _ => rfl
    | not a p =>
      cases h
    | neg a p =>
      obtain ⟨v, h1, rfl⟩ := cxSome_inv h
      exact both_of (ev_neg (ihs _ _ h1).1) fun _ _ => rfl
    | bin op a b p =>
      obtain ⟨x, y, h1, h2, rfl⟩ := cx2_inv h
      exact both_of (ev_bin (ihs _ _ h1).1 (ihs _ _ h2).1) fun _ _ => rfl
    | cmp op a b p =>
      obtain ⟨x, y, h1, h2, rfl⟩ := cx2_inv h
      exact ⟨ev_cmp (ihs _ _ h1).1 (ihs _ _ h2).1 (odd_behind (cx_odd h2) _), tr_cmp (ihs _ _ h1).1 (ihs _ _ h2).1 (odd_behind (cx_odd h2) _)⟩
    | bop op es p =>
      obtain ⟨l, h1, rfl⟩ := cxLs_inv h
      exact ⟨ev_bop (cxL_ok ihs h1), tr_bop (cxL_ok ihs h1)⟩
    | ite c a b p =>
      obtain ⟨x, y, z, h1, h2, h3, rfl⟩ := cx3_inv h
      exact ⟨ev_ite (ihs _ _ h1).2 (ihs _ _ h2).1 (ihs _ _ h3).1, tr_ite (ihs _ _ h1).2 (ihs _ _ h2).2 (ihs _ _ h3).2⟩
    | lst es p =>
      obtain ⟨l, h1, rfl⟩ := cxLs_inv h
      exact both_of (ev_lst (cxL_ok ihs h1)) fun _ _ => rfl
    | tup es k p =>
      obtain ⟨l, h1, rfl⟩ := cxLs_inv h
      exact both_of (ev_tup (cxL_ok ihs h1)) fun _ _ => rfl
    | dic0 p =>
      cases h
      exact both_of ev_dic0 fun _ _ => rfl
    | dic1 k v p =>
      cases h
    | slc a lo hi st q p =>
      obtain ⟨x, y, z, w, h1, h2, h3, h4, rfl⟩ := cx4_inv h
      exact both_of (ev_slc (ihs _ _ h1).1 (cxO_ok ihs h2) (cxO_ok ihs h3) (cxO_ok ihs h4)) fun _ _ => rfl
    | sub a i p =>
      obtain ⟨x, y, h1, h2, rfl⟩ := cx2_inv h
      exact both_of (ev_sub (ihs _ _ h1).1 (ihs _ _ h2).1 (odd_slice (cx_odd h2))) fun _ _ => rfl
    | meth o m' apos as p hb hl => exact both_of (meth_ok ihs (fun _ _ q => cx_odd q) hb hl h) fun _ _ => rfl
    | call f q as p =>
      have h : cxCall (cx n ft sc vars) ft sc f as = some x := h
      unfold cxCall at h
      cases hg : isGlobK (sc.names.lookup f) with
      | false => rw [hg] at h; cases h
      | true =>
        rw [hg] at h
        cases h2 : cxL (cx n ft sc vars) as with
        | none => rw [h2] at h; cases h
        | some l =>
          rw [h2] at h
          cases h1 : ft.findIdx? (· == f) with
          | some k =>
            rw [h1] at h
            cases h
            exact both_of (ev_call G S (cxL_ok ihs h2) hg h1) fun _ _ => rfl
          | none =>
            rw [h1] at h
            cases h3 : bltOf f with
            | none => rw [h3] at h; cases h
            | some b =>
              rw [h3] at h
              cases h
              exact both_of (ev_blt G (cxL_ok ihs h2) hg h3) fun _ _ => rfl
    | comp elt iter y q ifs scope p =>
      obtain ⟨i, el, hc, h1, h2, h3⟩ := comp_inv h
      have ok := compOk_ok hc
      rcases h3 with ⟨rfl, rfl⟩ | ⟨c, z, rfl, h3, rfl⟩
      · exact both_of (ev_comp ok (ihs _ _ h1).1 (ih _ _ _ _ h2).1 (.inl ⟨rfl, rfl⟩) fun env v => odd_folded (cx_odd h1) env v) fun _ _ => rfl
      · exact both_of (ev_comp ok (ihs _ _ h1).1 (ih _ _ _ _ h2).1 (.inr ⟨_, rfl, (ih _ _ _ _ h3).2⟩) fun env v => odd_folded (cx_odd h1) env v) fun _ _ => rfl
    | other => cases h
end
end Mine
namespace Mine
open PySem PySem.SeqAt PyProof.Rows

/-- the places of a frame's names -/
noncomputable def Lo (env : Env) (b : Addr) : Prop := b = env.locals ∨ ∃ n, env.cells.lookup n = some b
/-- what a frame's data keep off -/
noncomputable def XO (X₀ : Addr → Prop) (env : Env) (own : Nat → Option Addr) (b : Addr) : Prop := X₀ b ∨ Lo env b ∨ ∃ j, own j = some b
noncomputable def up (own : Nat → Option Addr) (i : Nat) (o : Option Addr) : Nat → Option Addr := fun j => if j = i then o else own j
noncomputable def ownDrop (own : Nat → Option Addr) (l : List Nat) : Nat → Option Addr := fun j => if j ∈ l then none else own j

structure Fr (K : Cx) (m : Nat) (sc : Scope) (vars : List Str) (A : Around) (env : Env) (s₀ : Shared) (τ₀ : Tk) (X₀ : Addr → Prop) (s : Shared) (τ : Tk) (own : Nat → Option Addr) (ρ : Ρ) : Prop where
  room : Room m A
  top0 : K.T s₀.heap
  ext : Ext s₀ τ₀ s τ
  x0l : XD s.heap X₀
  x0o : ∀ j a, own j = some a → ¬ X₀ a
  x0n : ∀ b, Lo env b → ¬ X₀ b
  loc : ∀ b, Lo env b → s₀.heap.get? b = none
  fresh : ∀ j a, own j = some a → s₀.heap.get? a = none ∧ ¬ Lo env a
  live : ∀ j a, own j = some a → ∃ o, s.heap.get? a = some o
  inj : ∀ i j a, own i = some a → own j = some a → i = j
  owns : ∀ i c, ρ[i]? = some (.o c) → ∃ a, own i = some a
  owned : ∀ i a, own i = some a → ∃ c, ρ[i]? = some (.o c)
  ns : ∃ m', s.heap.Ns env.locals m'
  cells : ∀ n c, env.cells.lookup n = some c → (∃ v₀, s.heap.IsCell c v₀) ∧ c ≠ env.locals
  cinj : ∀ n n' c, env.cells.lookup n = some c → env.cells.lookup n' = some c → n = n'
  env : EnvOk K sc vars env ⟨s.heap, τ⟩ (XO X₀ env own) own ρ

section
variable {K : Cx} {m : Nat} {sc : Scope} {vars : List Str} {A : Around} {env : Env} {s₀ : Shared} {τ₀ : Tk} {X₀ : Addr → Prop} {s s' : Shared} {τ τ' : Tk} {own : Nat → Option Addr} {ρ : Ρ}

theorem Lo.live (F : Fr K m sc vars A env s₀ τ₀ X₀ s τ own ρ) {b : Addr} (h : Lo env b) : ∃ o, s.heap.get? b = some o := by
  rcases h with rfl | ⟨n, hn⟩
  · obtain ⟨m', o, es, ep, ho, _⟩ := F.ns; exact ⟨o, ho⟩
  · obtain ⟨⟨v, o, ho, _⟩, _⟩ := F.cells n b hn; exact ⟨o, ho⟩

theorem Fr.frm (F : Fr K m sc vars A env s₀ τ₀ X₀ s τ own ρ) : Frm K m sc vars A env s τ (XO X₀ env own) own ρ where
  room := F.room
  top := F.top0.keep F.ext.keep
  tok := F.ext.ok
  env := F.env
  xd := fun a ha => by
    rcases ha with ha | ha | ⟨j, ha⟩
    · exact F.x0l a ha
    · exact Lo.live F ha
    · exact F.live j a ha
  ownX := fun j a h => .inr (.inr ⟨j, h⟩)

theorem Fr.step (F : Fr K m sc vars A env s₀ τ₀ X₀ s τ own ρ) (x : Ext s τ s' τ') : Fr K m sc vars A env s₀ τ₀ X₀ s' τ' own ρ where
  room := F.room
  top0 := F.top0
  ext := F.ext.trans x
  x0l := F.x0l.keep x.keep
  x0o := F.x0o
  x0n := F.x0n
  loc := F.loc
  fresh := F.fresh
  live := fun j a h => let ⟨o, ho⟩ := F.live j a h; ⟨o, x.keep _ _ ho⟩
  inj := F.inj
  owns := F.owns
  owned := F.owned
  ns := let ⟨m', hn⟩ := F.ns; ⟨m', hn.keeps x.keep⟩
  cells := fun n c h => let ⟨⟨v, hv⟩, hc⟩ := F.cells n c h; ⟨⟨v, hv.keeps x.keep⟩, hc⟩
  cinj := F.cinj
  env := F.env.ext x

theorem ownDrop_of {own : Nat → Option Addr} {l : List Nat} {j : Nat} {a : Addr} (h : ownDrop own l j = some a) : j ∉ l ∧ own j = some a := by
  unfold ownDrop at h
  split at h
  · cases h
  · rename_i hj; exact ⟨hj, h⟩
theorem ownDrop_mem {own : Nat → Option Addr} {l : List Nat} {j : Nat} (h : j ∈ l) : ownDrop own l j = none := by simp [ownDrop, h]
theorem ownDrop_not {own : Nat → Option Addr} {l : List Nat} {j : Nat} (h : j ∉ l) : ownDrop own l j = own j := by simp [ownDrop, h]

/-- what keeps off all but the dropped keeps off what is left -/
theorem Fr.offDrop (F : Fr K m sc vars A env s₀ τ₀ X₀ s τ own ρ) (l : List Nat) {b : Addr} (h : XO X₀ env (ownDrop own l) b) : Off (XO X₀ env own) own l b := by
  rcases h with h | h | ⟨j, h⟩
  · refine ⟨.inl h, fun j _ e => ?_⟩
    exact F.x0o j b e h
  · exact ⟨.inr (.inl h), fun j _ e => (F.fresh j b e).2 h⟩
  · obtain ⟨hj, h⟩ := ownDrop_of h
    exact ⟨.inr (.inr ⟨j, h⟩), fun i hi e => hj (F.inj i j b e h ▸ hi)⟩

theorem dropAt_get : ∀ (l : List Nat) (ρ : Ρ) (j : Nat), (dropAt ρ l)[j]? = if j ∈ l then (ρ[j]?).map Sl.drop else ρ[j]?
  | [], ρ, j => by simp [dropAt]
  | i :: l, ρ, j => by
    unfold dropAt
    rw [dropAt_get l]
    have hdd : ∀ x : Sl, x.drop.drop = x.drop := fun x => by cases x <;> rfl
    rw [List.getElem?_modify]
    by_cases hij : i = j
    · subst hij
      by_cases hl : i ∈ l
      · rw [if_pos hl, if_pos (List.mem_cons_self)]
        cases ρ[i]? with
        | none => simp
        | some x => simp [hdd]
      · rw [if_neg hl, if_pos (List.mem_cons_self)]
        simp
    · have hne : (i = j) = False := by simp [hij]
      by_cases hl : j ∈ l
      · rw [if_pos hl, if_pos (List.mem_cons_of_mem _ hl)]
        simp [hij]
      · rw [if_neg hl, if_neg (by simp [hl]; exact fun h => hij h.symm)]
        simp [hij]

theorem Sl.drop_val (x : Sl) : x.drop.val = x.val := by cases x <;> rfl

theorem Fr.drop (F : Fr K m sc vars A env s₀ τ₀ X₀ s τ own ρ) (l : List Nat) : Fr K m sc vars A env s₀ τ₀ X₀ s τ (ownDrop own l) (dropAt ρ l) where
  room := F.room
  top0 := F.top0
  ext := F.ext
  x0l := F.x0l
  x0o := fun j a h => F.x0o j a (ownDrop_of h).2
  x0n := F.x0n
  loc := F.loc
  fresh := fun j a h => F.fresh j a (ownDrop_of h).2
  live := fun j a h => F.live j a (ownDrop_of h).2
  inj := fun i j a h h' => F.inj i j a (ownDrop_of h).2 (ownDrop_of h').2
  owns := fun i c h => by
    rw [dropAt_get] at h
    split at h
    · cases hr : ρ[i]? with
      | none => rw [hr] at h; cases h
      | some x => rw [hr] at h; cases x <;> cases h
    · rename_i hi
      obtain ⟨a, ha⟩ := F.owns i c h
      exact ⟨a, by rw [ownDrop_not hi]; exact ha⟩
  owned := fun i a h => by
    obtain ⟨hi, h⟩ := ownDrop_of h
    obtain ⟨c, hc⟩ := F.owned i a h
    exact ⟨c, by rw [dropAt_get, if_neg hi]; exact hc⟩
  ns := F.ns
  cells := F.cells
  cinj := F.cinj
  env := by
    refine ⟨F.env.scope, F.env.kind, F.env.globals, F.env.builtins, fun y j p h0 h1 h2 h3 => ?_, F.env.cell⟩
    have h3' : (ρ[j]?).bind Sl.val = some p := by
      rw [dropAt_get] at h3
      split at h3
      · cases hr : ρ[j]? with
        | none => rw [hr] at h3; cases h3
        | some x =>
          rw [hr] at h3
          simpa [Sl.drop_val] using h3
      · exact h3
    obtain ⟨v, hat, hh⟩ := F.env.var y j p h0 h1 h2 h3'
    refine ⟨v, hat, ?_⟩
    have hsub : ∀ b, XO X₀ env (ownDrop own l) b → XO X₀ env own b := fun b hb => (F.offDrop l hb).1
    by_cases hj : j ∈ l
    · rw [ownDrop_mem hj]
      cases ho : own j with
      | none => rw [ho] at hh; exact Rd.less hsub hh
      | some a =>
        rw [ho] at hh
        obtain ⟨rfl, hh⟩ := hh
        exact RdTop.rd hsub (fun hb => (F.offDrop l hb).2 j hj ho) hh
    · rw [ownDrop_not hj]
      exact Held.less hsub hh

theorem ns_unique {h : Heap} {L : Addr} {m m' : Str → Option Value} (a : h.Ns L m) (b : h.Ns L m') : m = m' := by
  obtain ⟨o, es, ep, h1, h2, _, h4⟩ := a
  obtain ⟨o', es', ep', h1', h2', _, h4'⟩ := b
  rw [h1] at h1'; cases h1'
  rw [h2] at h2'; cases h2'
  funext n
  rw [← h4 n, ← h4' n]

theorem up_self {own : Nat → Option Addr} {i : Nat} {o : Option Addr} : up own i o i = o := by simp [up]
theorem up_ne {own : Nat → Option Addr} {i j : Nat} {o : Option Addr} (h : j ≠ i) : up own i o j = own j := by simp [up, h]

/-- where a name is stored -/
theorem store_at (F : Fr K m sc vars A env s₀ τ₀ X₀ s τ own ρ) {x : Str} (hv : isVarK (sc.names.lookup x) = true) (v : Value) {Q : Unit → Shared → Prop} {E : Value → Shared → Prop}
    (hQ : ∀ L h' tk, Lo env L → s.toks ≤ tk → Heap.SameBut L s.heap h' → At env h' x v → (∃ m', h'.Ns env.locals m') → (∀ n c, env.cells.lookup n = some c → ∃ v₀, h'.IsCell c v₀) →
      (∀ y u, y ≠ x → At env s.heap y u → At env h' y u) → Q () { s with heap := h', toks := tk }) : Wp K.M A (storeName env x v) Q E s := by
  have hfk : env.scope.kind = .function := by rw [F.env.scope]; exact F.env.kind
  have hk : env.kindOf x = sc.names.lookup x := by show env.scope.names.lookup x = _; rw [F.env.scope]
  obtain ⟨m₀, hns⟩ := F.ns
  cases hl : sc.names.lookup x with
  | none => rw [hl] at hv; cases hv
  | some k =>
    rw [hl] at hv hk
    have hcase : k = .local ∨ k = .cell := by cases k <;> first | (exact .inl rfl) | (exact .inr rfl) | (cases hv; done)
    rcases hcase with rfl | rfl
    · refine ⟨wpAny_storeName_local hk hns (fun h' hn' hs => hQ env.locals h' _ (.inl rfl) (Nat.le_succ _) hs (.inl ⟨hk, _, hn', by simp⟩) ⟨_, hn'⟩ (fun n c hc => ?_) fun y u hy hat => ?_) (by rw [hfk]; rfl)⟩
      · obtain ⟨⟨v₀, hv₀⟩, hne⟩ := F.cells n c hc
        exact ⟨v₀, hv₀.sameBut hs hne⟩
      · rcases hat with ⟨hl', m', hm', hu⟩ | ⟨hl', c, hc, hu⟩
        · refine .inl ⟨hl', _, hn', ?_⟩
          rw [if_neg hy, ← ns_unique hm' hns]; exact hu
        · exact .inr ⟨hl', c, hc, hu.sameBut hs (F.cells y c hc).2⟩
    · obtain ⟨c, hc⟩ := F.env.cell x hl
      obtain ⟨⟨v₀, hv₀⟩, hne⟩ := F.cells x c hc
      refine ⟨wpAny_storeName_cell hfk hk hc hv₀ fun h' hv' hs => hQ c h' s.toks (.inr ⟨x, hc⟩) (Nat.le_refl _) hs (.inr ⟨hk, c, hc, hv'⟩) ⟨m₀, hns.sameBut hs (Ne.symm hne)⟩ (fun n c' hc' => ?_) fun y u hy hat => ?_⟩
      · by_cases hcc : c' = c
        · subst hcc; exact ⟨_, hv'⟩
        · obtain ⟨⟨v₁, hv₁⟩, _⟩ := F.cells n c' hc'
          exact ⟨v₁, hv₁.sameBut hs hcc⟩
      · rcases hat with ⟨hl', m', hm', hu⟩ | ⟨hl', c', hc', hu⟩
        · exact .inl ⟨hl', m', hm'.sameBut hs (Ne.symm hne), hu⟩
        · refine .inr ⟨hl', c', hc', hu.sameBut hs fun e => hy ?_⟩
          subst e
          exact F.cinj _ _ _ hc' hc

theorem Held.but {K : Cx} {h h' : Heap} {τ : Tk} {X : Addr → Prop} {o : Option Addr} {v : Value} {p : PV} {L : Addr} (e : Held K ⟨h, τ⟩ X o v p) (hL : X L) (ho : o ≠ some L) (hs : Heap.SameBut L h h') : Held K ⟨h', τ⟩ X o v p :=
  Held.mono (g := ⟨h, τ⟩) (g' := ⟨h', τ⟩) (fun b ob hb q => by
    have : b ≠ L := fun e => by
      subst e
      rcases hb with hb | hb
      · exact hb hL
      · exact ho hb
    show h'.get? b = some ob
    rw [hs.2 b this]; exact q) (fun _ _ q => q) (fun _ q => q) e

theorem At.off {env : Env} {h h' : Heap} {x : Str} {v : Value} (e : At env h x v) (hk : ∀ b o, Lo env b → h.get? b = some o → h'.get? b = some o) : At env h' x v := by
  rcases e with ⟨a, m', hn, c⟩ | ⟨a, c, hc, o, ho, hd⟩
  · exact .inl ⟨a, m', hn.at' fun o e => hk _ o (.inl rfl) e, c⟩
  · exact .inr ⟨a, c, hc, o, hk _ _ (.inr ⟨x, hc⟩) ho, hd⟩

/-- a name is given a datum; Z: what goes behind it -/
theorem Fr.put (F : Fr K m sc vars A env s₀ τ₀ X₀ s τ own ρ) {Z : Addr → Prop} (hZ0 : ∀ b, Z b → s₀.heap.get? b = none) (hZL : ∀ b, Z b → ¬ Lo env b) {x : Str} {i : Nat} (hx : varAt sc vars x = some i) (hi : i < ρ.length) {sl : Sl} {p : PV} {o : Option Addr} {v : Value}
    (hsl : (o = none ∧ sl = .v p) ∨ ((∃ a, o = some a ∧ s₀.heap.get? a = none ∧ ¬ Lo env a ∧ (∃ ob, s.heap.get? a = some ob) ∧ (∀ j, own j ≠ some a) ∧ ¬ X₀ a) ∧ sl = .o p)) (hZX : ∀ b, Z b → ¬ X₀ b)
    (hZo : ∀ b j, Z b → up own i o j ≠ some b)
    (hE : ∀ y j q, j ≠ i → (y == (".0" : Str)) = false → isVarK (sc.names.lookup y) = true → vars.findIdx? (· == y) = some j → (ρ[j]?).bind Sl.val = some q → ∃ u, At env s.heap y u ∧ Held K ⟨s.heap, τ⟩ (fun b => XO X₀ env (up own i o) b ∨ Z b) (own j) u q)
    (hv : Held K ⟨s.heap, τ⟩ (fun b => XO X₀ env (up own i o) b ∨ Z b) o v p) {Q : Unit → Shared → Prop} {E : Value → Shared → Prop}
    (hQ : ∀ L h' tk, Lo env L → s.toks ≤ tk → Heap.SameBut L s.heap h' → (∀ h'' : Heap, (∀ b ob, ¬ Z b → h'.get? b = some ob → h''.get? b = some ob) → Fr K m sc vars A env s₀ τ₀ X₀ { s with heap := h'', toks := tk } τ (up own i o) (ρ.set i sl)) → Q () { s with heap := h', toks := tk }) :
    Wp K.M A (storeName env x v) Q E s := by
  obtain ⟨x1, x2, x3, x4⟩ := varAt_ok hx
  refine store_at F x1 v fun L h' tk hL htk hs hat hns hcs hoth => hQ L h' tk hL htk hs fun h'' hk => ?_
  have hLX : (fun b => XO X₀ env (up own i o) b ∨ Z b) L := .inl (.inr (.inl hL))
  have hoL : ∀ j, own j ≠ some L := fun j e => (F.fresh j L e).2 hL
  have huL : ∀ j, up own i o j ≠ some L := fun j e => by
    by_cases hj : j = i
    · subst hj
      rw [up_self] at e
      rcases hsl with ⟨rfl, _⟩ | ⟨⟨a, rfl, _, ha, _⟩, _⟩
      · cases e
      · cases e; exact ha hL
    · rw [up_ne hj] at e; exact hoL j e
  have hLo : ∀ b ob, Lo env b → h'.get? b = some ob → h''.get? b = some ob := fun b ob hb e => hk b ob (fun hz => hZL b hz hb) e
  have hset : ∀ j, j ≠ i → (ρ.set i sl)[j]? = ρ[j]? := fun j hj => List.getElem?_set_ne (Ne.symm hj)
  have hself : (ρ.set i sl)[i]? = some sl := by simp [List.getElem?_set, hi]
  have hZH : ∀ {o' : Option Addr} {u : Value} {q : PV}, (∀ b, Z b → o' ≠ some b) → o' ≠ some L → Held K ⟨s.heap, τ⟩ (fun b => XO X₀ env (up own i o) b ∨ Z b) o' u q → Held K ⟨h'', τ⟩ (XO X₀ env (up own i o)) o' u q := fun {o' u q} hz hl hh => by
    have h1 := hh.but hLX hl hs
    have h2 : Held K ⟨h'', τ⟩ (fun b => XO X₀ env (up own i o) b ∨ Z b) o' u q := Held.mono (g := ⟨h', τ⟩) (g' := ⟨h'', τ⟩) (fun b ob hb q => hk b ob (fun z => by
      rcases hb with hb | hb
      · exact hb (.inr z)
      · exact hz b z hb) q) (fun _ _ q => q) (fun _ q => q) h1
    exact h2.less fun b hb => .inl hb
  refine ⟨F.room, F.top0, F.ext.heapTok (fun b ob e e' => hk b ob (fun z => by rw [hZ0 b z] at e; cases e) ?_) htk, ?_, ?_, F.x0n, F.loc, ?_, ?_, ?_, ?_, ?_, ?_, ?_, F.cinj, ⟨F.env.scope, F.env.kind, F.env.globals, F.env.builtins, ?_, F.env.cell⟩⟩
  · rw [hs.2 b fun q => by subst q; rw [F.loc b hL] at e; cases e]; exact e'
  · intro a ha
    obtain ⟨ob, hob⟩ := F.x0l a ha
    exact ⟨ob, hk _ _ (fun z => hZX a z ha) (by rw [hs.2 a fun q => F.x0n L hL (q ▸ ha)]; exact hob)⟩
  · intro j a h
    by_cases hj : j = i
    · subst hj
      rw [up_self] at h
      rcases hsl with ⟨rfl, _⟩ | ⟨⟨a', rfl, _, _, _, _, h5⟩, _⟩
      · cases h
      · cases h; exact h5
    · rw [up_ne hj] at h; exact F.x0o j a h
  · intro j a h
    by_cases hj : j = i
    · subst hj
      rw [up_self] at h
      rcases hsl with ⟨rfl, _⟩ | ⟨⟨a', rfl, h1, h2, _⟩, _⟩
      · cases h
      · cases h; exact ⟨h1, h2⟩
    · rw [up_ne hj] at h; exact F.fresh j a h
  · intro j a h
    have hzz : ¬ Z a := fun z => hZo a j z h
    have haL : a ≠ L := fun q => huL j (q ▸ h)
    have : ∃ ob, s.heap.get? a = some ob := by
      by_cases hj : j = i
      · subst hj
        rw [up_self] at h
        rcases hsl with ⟨rfl, _⟩ | ⟨⟨a', rfl, h1, h2, h3, _⟩, _⟩
        · cases h
        · cases h; exact h3
      · rw [up_ne hj] at h; exact F.live j a h
    obtain ⟨ob, hob⟩ := this
    exact ⟨ob, hk _ _ hzz (by rw [hs.2 a haL]; exact hob)⟩
  · intro j k a h h'
    by_cases hj : j = i
    · by_cases hk' : k = i
      · rw [hj, hk']
      · subst hj
        rw [up_self] at h
        rw [up_ne hk'] at h'
        rcases hsl with ⟨rfl, _⟩ | ⟨⟨a', rfl, _, _, _, h4, _⟩, _⟩
        · cases h
        · cases h; exact absurd h' (h4 k)
    · by_cases hk' : k = i
      · subst hk'
        rw [up_self] at h'
        rw [up_ne hj] at h
        rcases hsl with ⟨rfl, _⟩ | ⟨⟨a', rfl, _, _, _, h4, _⟩, _⟩
        · cases h'
        · cases h'; exact absurd h (h4 j)
      · rw [up_ne hj] at h; rw [up_ne hk'] at h'; exact F.inj j k a h h'
  · intro j c h
    by_cases hj : j = i
    · subst hj
      rw [hself] at h
      rcases hsl with ⟨_, rfl⟩ | ⟨⟨a', rfl, _⟩, rfl⟩
      · cases h
      · exact ⟨a', up_self⟩
    · rw [hset j hj] at h
      rw [up_ne hj]
      exact F.owns j c h
  · intro j a h
    by_cases hj : j = i
    · subst hj
      rw [up_self] at h
      rcases hsl with ⟨rfl, _⟩ | ⟨⟨a', rfl, _⟩, rfl⟩
      · cases h
      · exact ⟨p, hself⟩
    · rw [up_ne hj] at h
      rw [hset j hj]
      exact F.owned j a h
  · obtain ⟨m', hn⟩ := hns
    exact ⟨m', hn.at' fun o e => hLo _ o (.inl rfl) e⟩
  · intro n c hc
    obtain ⟨v₀, ob, ho, hd⟩ := hcs n c hc
    exact ⟨⟨v₀, ob, hLo _ _ (.inr ⟨n, hc⟩) ho, hd⟩, (F.cells n c hc).2⟩
  · intro y j q g0 g1 g2 g3
    by_cases hj : j = i
    · subst hj
      have hyx : y = x := by
        obtain ⟨z1, z2, _⟩ := List.findIdx?_eq_some_iff_getElem.mp g2
        obtain ⟨z3, z4, _⟩ := List.findIdx?_eq_some_iff_getElem.mp x4
        exact (eq_of_beq z2).symm.trans (eq_of_beq z4)
      subst hyx
      rw [hself] at g3
      have hq : q = p := by
        rcases hsl with ⟨_, rfl⟩ | ⟨_, rfl⟩ <;> (cases g3; rfl)
      subst hq
      refine ⟨v, hat.off hLo, ?_⟩
      rw [up_self]
      exact hZH (fun b z e => hZo b j z (by rw [up_self]; exact e)) (fun e => huL j (by rw [up_self]; exact e)) hv
    · rw [hset j hj] at g3
      obtain ⟨u, hu, hh⟩ := hE y j q hj g0 g1 g2 g3
      have hyx : y ≠ x := fun e => by
        subst e
        rw [x4] at g2
        exact hj (Option.some.inj g2).symm
      refine ⟨u, (hoth y u hyx hu).off hLo, ?_⟩
      rw [up_ne hj]
      exact hZH (fun b z e => hZo b j z (by rw [up_ne hj]; exact e)) (hoL j) hh
end
end Mine
namespace Mine
open PySem PySem.SeqAt PyProof.Rows

/-- what a run of statements leaves as it was -/
structure Stp (env : Env) (s : Shared) (τ : Tk) (own : Nat → Option Addr) (s' : Shared) (τ' : Tk) (own' : Nat → Option Addr) : Prop where
  keep : ∀ b o, s.heap.get? b = some o → ¬ Lo env b → (∀ j, own j ≠ some b) → s'.heap.get? b = some o
  own : ∀ j b, own' j = some b → ¬ Lo env b → (∃ i, own i = some b) ∨ s.heap.get? b = none
  sub : ∀ t x, τ t x → τ' t x

section
variable {K : Cx} {C : Orc} {m : Nat} {sc : Scope} {vars : List Str} {A : Around} {env : Env} {s₀ : Shared} {τ₀ : Tk} {X₀ : Addr → Prop} {s s' s'' : Shared} {τ τ' τ'' : Tk} {own own' own'' : Nat → Option Addr} {ρ : Ρ}

theorem Stp.ext (x : Ext s τ s' τ') : Stp env s τ own s' τ' own := ⟨fun b o e _ _ => x.keep b o e, fun j b h _ => .inl ⟨j, h⟩, x.sub⟩
theorem Stp.drop (l : List Nat) : Stp env s τ own s τ (ownDrop own l) := ⟨fun b o e _ _ => e, fun j b h _ => .inl ⟨j, (ownDrop_of h).2⟩, fun _ _ e => e⟩
theorem Stp.trans (a : Stp env s τ own s' τ' own') (b : Stp env s' τ' own' s'' τ'' own'') : Stp env s τ own s'' τ'' own'' where
  keep := fun x o e h1 h2 => b.keep x o (a.keep x o e h1 h2) h1 fun j hj => by
    rcases a.own j x hj h1 with ⟨i, hi⟩ | hn
    · exact h2 i hi
    · rw [hn] at e; cases e
  own := fun j x h hL => by
    rcases b.own j x h hL with ⟨i, hi⟩ | hn
    · exact a.own i x hi hL
    · cases e : s.heap.get? x with
      | none => exact .inr rfl
      | some o =>
        by_cases ho : ∃ i, own i = some x
        · exact .inl ho
        · have := a.keep x o e hL fun j hj => ho ⟨j, hj⟩
          rw [hn] at this; cases this
  sub := fun t x e => b.sub t x (a.sub t x e)

theorem Rd.stp (hown : ∀ j b, own' j = some b → ¬ Lo env b) (a : Stp env s τ own s' τ' own') {v : Value} {p : PV} (e : Rd K ⟨s.heap, τ⟩ (XO X₀ env own) v p) : Rd K ⟨s'.heap, τ'⟩ (XO X₀ env own') v p := by
  have h1 := Rd.more (N := fun b => s.heap.get? b = none) (fun _ q => q) e
  have h2 : Rd K ⟨s'.heap, τ'⟩ (fun b => XO X₀ env own b ∨ s.heap.get? b = none) v p := Rd.mono (g := ⟨s.heap, τ⟩) (g' := ⟨s'.heap, τ'⟩) (fun b o hb q => a.keep b o q (fun hL => hb (.inl (.inr (.inl hL)))) fun j hj => hb (.inl (.inr (.inr ⟨j, hj⟩)))) a.sub (fun _ q => q) h1
  refine h2.less fun b hb => ?_
  rcases hb with hb | hb | ⟨j, hb⟩
  · exact .inl (.inl hb)
  · exact .inl (.inr (.inl hb))
  · rcases a.own j b hb (hown j b hb) with ⟨i, hi⟩ | hn
    · exact .inl (.inr (.inr ⟨i, hi⟩))
    · exact .inr hn

/-- what is to hold behind a statement -/
structure Ends (K : Cx) (m : Nat) (sc : Scope) (vars : List Str) (A : Around) (env : Env) (s₀ : Shared) (τ₀ : Tk) (X₀ : Addr → Prop) (s : Shared) (τ : Tk) (own : Nat → Option Addr) (r : Res) (Q : Flow → Shared → Prop) : Prop where
  nxt : ∀ ρ', r = .nxt ρ' → ∀ s' τ' own', Fr K m sc vars A env s₀ τ₀ X₀ s' τ' own' ρ' → Stp env s τ own s' τ' own' → Q .next s'
  ret : ∀ p, r = .ret p → ∀ v s' τ', Ext s₀ τ₀ s' τ' → Rd K ⟨s'.heap, τ'⟩ X₀ v p → Q (.ret v) s'

noncomputable def ExAt (K : Cx) (C : Orc) (m : Nat) (sc : Scope) (vars : List Str) (st : Stmt) (S : Mine.S) : Prop :=
  ∀ (A : Around) (env : Env) (s₀ : Shared) (τ₀ : Tk) (X₀ : Addr → Prop) (s : Shared) (τ : Tk) (own : Nat → Option Addr) (ρ : Ρ) (r : Res), Fr K m sc vars A env s₀ τ₀ X₀ s τ own ρ → ex C S ρ = some r →
    ∀ (Q : Flow → Shared → Prop) (E : Value → Shared → Prop), Ends K m sc vars A env s₀ τ₀ X₀ s τ own r Q → Wp K.M A (exec st env) Q E s
noncomputable def ExsAt (K : Cx) (C : Orc) (m : Nat) (sc : Scope) (vars : List Str) (sts : List Stmt) (S : SL) : Prop :=
  ∀ (A : Around) (env : Env) (s₀ : Shared) (τ₀ : Tk) (X₀ : Addr → Prop) (s : Shared) (τ : Tk) (own : Nat → Option Addr) (ρ : Ρ) (r : Res), Fr K m sc vars A env s₀ τ₀ X₀ s τ own ρ → exs C S ρ = some r →
    ∀ (Q : Flow → Shared → Prop) (E : Value → Shared → Prop), Ends K m sc vars A env s₀ τ₀ X₀ s τ own r Q → Wp K.M A (execs sts env) Q E s

theorem Ends.go (e : Ends K m sc vars A env s₀ τ₀ X₀ s τ own r Q) (a : Stp env s τ own s' τ' own') : Ends K m sc vars A env s₀ τ₀ X₀ s' τ' own' r Q :=
  ⟨fun ρ' hr s'' τ'' own'' F b => e.nxt ρ' hr s'' τ'' own'' F (a.trans b), e.ret⟩

noncomputable def SL.toList : SL → List Mine.S
  | .nil => []
  | .cons a l => a :: l.toList
/-- lists of statements -/
noncomputable def ExL (K : Cx) (C : Orc) (m : Nat) (sc : Scope) (vars : List Str) : List Stmt → SL → Prop
  | [], .nil => True
  | e :: r, .cons x l => ExAt K C m sc vars e x ∧ ExL K C m sc vars r l
  | _, _ => False

theorem exs_ok : ∀ {sts : List Stmt} {l : SL}, ExL K C m sc vars sts l → ExsAt K C m sc vars sts l
  | [], .nil, _ => fun A env s₀ τ₀ X₀ s τ own ρ r F e Q E hQ => by
    cases e
    exact ⟨wpAny_execs_nil (hQ.nxt _ rfl _ _ _ F (.ext (.refl F.ext.ok)))⟩
  | st :: sts, .cons a l, ⟨h1, h2⟩ => fun A env s₀ τ₀ X₀ s τ own ρ r F e Q E hQ => by
    simp only [exs] at e
    cases ha : ex C a ρ with
    | none => rw [ha] at e; cases e
    | some r₁ =>
      rw [ha] at e
      refine ⟨wpAny_execs_cons (h1 A env s₀ τ₀ X₀ s τ own ρ r₁ F ha _ E ⟨fun ρ' hr s' τ' own' F' st' => ?_, fun p hr v s' τ' x' rd' => ?_⟩).out⟩
      · subst hr
        exact (exs_ok h2 A env s₀ τ₀ X₀ s' τ' own' ρ' r F' e Q E (hQ.go st')).out
      · subst hr
        cases e
        exact hQ.ret p rfl v s' τ' x' rd'
  | [], .cons _ _, h => h.elim
  | _ :: _, .nil, h => h.elim

theorem ex_ret {v : Expr} {x : Mine.X} {pos : Pos} (ih : EvAt K C m sc vars v x) : ExAt K C m sc vars (.Return (some v) pos) (.ret x) := by
  intro A env s₀ τ₀ X₀ s τ own ρ r F e Q E hQ
  simp only [ex, Option.map_eq_some_iff] at e
  obtain ⟨p, hp, rfl⟩ := e
  refine ⟨wpAny_Return_some (ih A env s τ _ own ρ p F.frm hp _ E fun u s' τ' ⟨h1, h2, _⟩ => ?_).out⟩
  exact hQ.ret p rfl u s' τ' (F.ext.trans h1) (h2.less fun b hb => F.offDrop (al x) (.inl hb))

theorem ex_ite {c : Expr} {a b : List Stmt} {x : Mine.X} {y z : SL} {pos : Pos} (ihc : TrAt K C m sc vars c x) (iha : ExsAt K C m sc vars a y) (ihb : ExsAt K C m sc vars b z) : ExAt K C m sc vars (.If c a b pos) (.ite x y z) := by
  intro A env s₀ τ₀ X₀ s τ own ρ r F e Q E hQ
  simp only [ex] at e
  cases hx : ev C x ρ with
  | none => rw [hx] at e; cases e
  | some px =>
    rw [hx] at e
    dsimp only at e
    cases ht : truth px with
    | none => rw [ht] at e; cases e
    | some t =>
      rw [ht] at e
      refine ⟨wpAny_If (ihc A env s τ _ own ρ _ _ F.frm hx ht _ E fun s' τ' h1 => ?_).out⟩
      cases t with
      | true => exact (iha A env s₀ τ₀ X₀ s' τ' own ρ r (F.step h1) e Q E (hQ.go (.ext h1))).out
      | false => exact (ihb A env s₀ τ₀ X₀ s' τ' own ρ r (F.step h1) e Q E (hQ.go (.ext h1))).out

theorem setAt_ok {ρ ρ' : Ρ} {i : Nat} {sl : Sl} (h : setAt ρ i sl = some ρ') : i < ρ.length ∧ ρ' = ρ.set i sl := by
  unfold setAt at h
  split at h
  · rename_i hi
    cases h
    exact ⟨Nat.ble_eq.mp hi, rfl⟩
  · cases h

theorem XO.up_none {i : Nat} {b : Addr} (h : XO X₀ env (up own i none) b) : XO X₀ env own b := by
  rcases h with h | h | ⟨j, h⟩
  · exact .inl h
  · exact .inr (.inl h)
  · by_cases hj : j = i
    · subst hj; rw [up_self] at h; cases h
    · rw [up_ne hj] at h; exact .inr (.inr ⟨j, h⟩)

/-- a plain store -/
theorem Fr.plain (F : Fr K m sc vars A env s₀ τ₀ X₀ s τ own ρ) {x : Str} {i : Nat} (hx : varAt sc vars x = some i) {ρ' : Ρ} {p : PV} {v : Value} (hi : setAt ρ i (.v p) = some ρ') (hv : Rd K ⟨s.heap, τ⟩ (XO X₀ env own) v p) {Q : Unit → Shared → Prop} {E : Value → Shared → Prop}
    (hQ : ∀ s' own', Fr K m sc vars A env s₀ τ₀ X₀ s' τ own' ρ' → Stp env s τ own s' τ own' → s.toks ≤ s'.toks → Q () s') : Wp K.M A (storeName env x v) Q E s := by
  obtain ⟨hlt, rfl⟩ := setAt_ok hi
  refine Fr.put F (Z := fun _ => False) (fun _ h => h.elim) (fun _ h => h.elim) hx hlt (o := none) (p := p) (sl := .v p) (.inl ⟨rfl, rfl⟩) (fun _ h => h.elim) (fun _ _ h => h.elim) (fun y j q hj h0 h1 h2 h3 => ?_) ?_ fun L h' tk hL htk hs hfr => ?_
  · obtain ⟨u, hu, hh⟩ := F.env.var y j q h0 h1 h2 h3
    exact ⟨u, hu, hh.less fun b hb => hb.elim XO.up_none fun h => h.elim⟩
  · exact Rd.less (fun b hb => hb.elim XO.up_none fun h => h.elim) hv
  · refine hQ _ _ (hfr h' fun b ob _ e => e) ⟨fun b o e hb _ => ?_, fun j b h _ => ?_, fun _ _ e => e⟩ htk
    · show h'.get? b = some o
      rw [hs.2 b fun q => hb (q ▸ hL)]; exact e
    · by_cases hj : j = i
      · subst hj; rw [up_self] at h; cases h
      · rw [up_ne hj] at h; exact .inl ⟨j, h⟩

/-- a store of something new -/
theorem Fr.newly {s₁ : Shared} {τ₁ : Tk} (F : Fr K m sc vars A env s₀ τ₀ X₀ s₁ τ₁ own ρ) (x1 : Ext s₁ τ₁ s τ) {Z : Addr → Prop} (hZ : ∀ b, Z b → s₁.heap.get? b = none) {x : Str} {i : Nat} (hx : varAt sc vars x = some i) {ρ' : Ρ} {p : PV} {v : Value} (hi : setAt ρ i (.o p) = some ρ')
    (hv : FreshRd K s₁.heap ⟨s.heap, τ⟩ (fun b => XO X₀ env own b ∨ Z b) v p) (hva : ∀ a, v = .ref a → ¬ Z a) {Q : Unit → Shared → Prop} {E : Value → Shared → Prop}
    (hQ : ∀ L h' tk, Lo env L → s.toks ≤ tk → Heap.SameBut L s.heap h' → (∀ h'' : Heap, (∀ b ob, ¬ Z b → h'.get? b = some ob → h''.get? b = some ob) → ∃ own', Fr K m sc vars A env s₀ τ₀ X₀ { s with heap := h'', toks := tk } τ own' ρ' ∧ Stp env s₁ τ₁ own { s with heap := h'', toks := tk } τ own') → Q () { s with heap := h', toks := tk }) :
    Wp K.M A (storeName env x v) Q E s := by
  obtain ⟨hlt, rfl⟩ := setAt_ok hi
  obtain ⟨a, rfl, ha, hr⟩ := hv
  have hZa : ¬ Z a := hva a rfl
  have hX : ∀ b, s₁.heap.get? b = none → ¬ XO X₀ env own b := fun b hb => F.frm.xd.fresh hb
  have h0 : ∀ b, s₁.heap.get? b = none → s₀.heap.get? b = none := fun b hb => by
    cases e : s₀.heap.get? b with
    | none => rfl
    | some o => rw [F.ext.keep b o e] at hb; cases hb
  have hXup : ∀ b, XO X₀ env (up own i (some a)) b → XO X₀ env own b ∨ b = a := fun b hb => by
    rcases hb with hb | hb | ⟨j, hb⟩
    · exact .inl (.inl hb)
    · exact .inl (.inr (.inl hb))
    · by_cases hj : j = i
      · subst hj; rw [up_self] at hb; cases hb; exact .inr rfl
      · rw [up_ne hj] at hb; exact .inl (.inr (.inr ⟨j, hb⟩))
  refine Fr.put (F.step x1) (Z := Z) (fun b z => h0 b (hZ b z)) (fun b z hL => hX b (hZ b z) (.inr (.inl hL))) hx hlt (o := some a) (p := p) (sl := .o p) (.inr ⟨⟨a, rfl, h0 a ha, fun hL => hX a ha (.inr (.inl hL)), hr.live, fun j hj => hX a ha (.inr (.inr ⟨j, hj⟩)), fun h => hX a ha (.inl h)⟩, rfl⟩)
    (fun b z h => hX b (hZ b z) (.inl h)) (fun b j z h => ?_) (fun y j q hj h0 h1 h2 h3 => ?_) ?_ fun L h' tk hL htk hs hfr => ?_
  · by_cases hj : j = i
    · subst hj; rw [up_self] at h; cases h; exact hZa z
    · rw [up_ne hj] at h; exact hX b (hZ b z) (.inr (.inr ⟨j, h⟩))
  · have hE := (F.env.more (N := fun b => s₁.heap.get? b = none) fun _ q => q).ext x1
    obtain ⟨u, hu, hh⟩ := hE.var y j q h0 h1 h2 h3
    refine ⟨u, hu, hh.less fun b hb => ?_⟩
    rcases hb with hb | hb
    · rcases hXup b hb with hb | rfl
      · exact .inl hb
      · exact .inr ha
    · exact .inr (hZ b hb)
  · refine ⟨rfl, RdTop.mono (fun _ _ _ q => q) (fun _ _ q => q) (fun b hb => ?_) hr⟩
    rcases hb with hb | hb
    · rcases hXup b hb with hb | rfl
      · exact .inl (.inl hb)
      · exact .inr rfl
    · exact .inl (.inr hb)
  · refine hQ L h' tk hL htk hs fun h'' hk => ⟨_, hfr h'' hk, ⟨fun b o e hb _ => ?_, fun j b h _ => ?_, x1.sub⟩⟩
    · refine hk b o (fun z => by rw [hZ b z] at e; cases e) ?_
      rw [hs.2 b fun q => hb (q ▸ hL)]; exact x1.keep b o e
    · by_cases hj : j = i
      · subst hj; rw [up_self] at h; cases h; exact .inr ha
      · rw [up_ne hj] at h; exact .inl ⟨j, h⟩
end
end Mine
namespace Mine
open PySem PySem.SeqAt PyProof.Rows

section
variable {K : Cx} {C : Orc} {m : Nat} {sc : Scope} {vars : List Str} {A : Around} {env : Env} {s₀ : Shared} {τ₀ : Tk} {X₀ : Addr → Prop} {s s' s'' : Shared} {τ τ' τ'' : Tk} {own own' own'' : Nat → Option Addr} {ρ : Ρ}

noncomputable def isCompE : Expr → Bool
  | .ListComp .. => true
  | .SetComp .. => true
  | .DictComp .. => true
  | _ => false
theorem swaps_false {v : Expr} (h : isCompE v = false) (t : Option Expr) (l : Nat) (env : Env) : swapsWith v t l env = pure false := by
  cases v <;> first | rfl | (cases h; done)

theorem FreshRd.less {h : Heap} {g : Hp} {X Y : Addr → Prop} {v : Value} {p : PV} (hY : ∀ b, Y b → X b) (e : FreshRd K h g X v p) : FreshRd K h g Y v p := by
  obtain ⟨a, rfl, h1, h2⟩ := e
  exact ⟨a, rfl, h1, RdTop.mono (fun _ _ _ q => q) (fun _ _ q => q) (fun b hb => hb.imp (hY b) id) h2⟩
theorem FreshRd.notScalar {h : Heap} {g : Hp} {X : Addr → Prop} {v : Value} {p : PV} (e : FreshRd K h g X v p) : scalar p = false := by
  obtain ⟨a, rfl, h1, h2⟩ := e
  cases p <;> first | rfl | (exact h2.elim)

/-- the drop that goes with a datum -/
theorem Fr.dropFor (F : Fr K m sc vars A env s₀ τ₀ X₀ s τ own ρ) (x : Mine.X) (p : PV) : ∃ own', Fr K m sc vars A env s₀ τ₀ X₀ s τ own' (Mine.dropFor ρ x p) ∧ Stp env s τ own s τ own' ∧
    (∀ (h' : Heap) (τ' : Tk) v, Rd K ⟨h', τ'⟩ (Off (XO X₀ env own) own (al x)) v p → Rd K ⟨h', τ'⟩ (XO X₀ env own') v p) ∧
    (∀ (h h' : Heap) (τ' : Tk) (Z : Addr → Prop) v, FreshRd K h ⟨h', τ'⟩ (fun b => Off (XO X₀ env own) own (al x) b ∨ Z b) v p → FreshRd K h ⟨h', τ'⟩ (fun b => XO X₀ env own' b ∨ Z b) v p) := by
  cases hs : scalar p with
  | true =>
    refine ⟨own, ?_, .ext (.refl F.ext.ok), fun h' τ' v e => e.scalar hs, fun h h' τ' Z v e => by rw [e.notScalar] at hs; cases hs⟩
    unfold Mine.dropFor
    rw [hs]; exact F
  | false =>
    refine ⟨_, ?_, .drop (al x), fun h' τ' v e => e.less fun b hb => F.offDrop (al x) hb, fun h h' τ' Z v e => e.less fun b hb => hb.imp (fun hb => F.offDrop (al x) hb) id⟩
    unfold Mine.dropFor
    rw [hs]; exact F.drop (al x)

theorem ex_asg {y : Str} {py : Pos} {v : Expr} {e : Mine.X} {i : Nat} {pos : Pos} (hy : varAt sc vars y = some i) (ih : EvAt K C m sc vars v e) (hc : isCompE v = false) : ExAt K C m sc vars (.Assign [.Name y py] v pos) (.asg i true e) := by
  intro A env s₀ τ₀ X₀ s τ own ρ r F he Q E hQ
  simp only [ex] at he
  cases hx : ev C e ρ with
  | none => rw [hx] at he; cases he
  | some p =>
    rw [hx] at he
    dsimp only at he
    rw [Option.map_eq_some_iff] at he
    obtain ⟨ρ', hset, rfl⟩ := he
    refine ⟨wpAny_Assign_Name (ih A env s τ _ own ρ p F.frm hx _ E fun u s₁ τ₁ ⟨h1, h2, h3⟩ => ?_).out (swaps_false hc _ _ _)⟩
    obtain ⟨own', F', st', hrd, hfr⟩ := F.dropFor e p
    by_cases hf : isFresh e = true
    · simp only [hf, Bool.and_self, if_true] at hset
      have h4 := hfr _ _ _ (fun _ => False) _ ((h3 hf).less fun b hb => hb.elim id fun h => h.elim)
      refine (Fr.newly F' h1 (Z := fun _ => False) (fun _ h => h.elim) hy hset h4 (fun _ _ h => h.elim) fun L h' tk hL htk hs hk => ?_).out
      obtain ⟨own'', F'', st''⟩ := hk h' fun _ _ _ q => q
      exact hQ.nxt _ rfl _ _ _ F'' (st'.trans st'')
    · simp only [hf, Bool.and_false, Bool.false_eq_true, if_false] at hset
      refine ((F'.step h1).plain hy hset (hrd _ _ _ h2) fun s₂ own'' F'' st'' _ => ?_).out
      exact hQ.nxt _ rfl _ _ _ F'' ((st'.trans (.ext h1)).trans st'')

theorem ex_asg_comp {y x : Str} {py px : Pos} {elt iter : Expr} {ifs : List Expr} {scope : Scope} {cpos pos : Pos} {ye ie ce : Mine.X} {i : Nat} (hy : varAt sc vars y = some i) (ok : CompOk scope sc x) (ihi : EvAt K C m sc vars iter ie)
    (ihy : EvAt K C m (relab scope sc) (x :: vars) elt ye) (ihc : (ifs = [] ∧ ce = .cst (.bool true)) ∨ ∃ c, ifs = [c] ∧ TrAt K C m (relab scope sc) (x :: vars) c ce) (hfs : ∀ env x, foldedSetIterable iter env x = pure x) :
    ExAt K C m sc vars (.Assign [.Name y py] (.ListComp elt [⟨.Name x px, iter, ifs, 0⟩] scope cpos) pos) (.asg i true (.comp ye ie ce)) := by
  intro A env s₀ τ₀ X₀ s τ own ρ r F he Q E hQ
  simp only [ex] at he
  cases hx : ev C (.comp ye ie ce) ρ with
  | none => rw [hx] at he; cases he
  | some p =>
    rw [hx] at he
    dsimp only at he
    rw [Option.map_eq_some_iff] at he
    obtain ⟨ρ', hset, rfl⟩ := he
    simp only [isFresh, Bool.and_self, if_true] at hset
    obtain ⟨own', F', st', hrd, hfr⟩ := F.dropFor (.comp ye ie ce) p
    have hsw : ∃ b, swapsWith (.ListComp elt [⟨.Name x px, iter, ifs, 0⟩] scope cpos) (some (.Name y py)) pos.line env = pure b := ⟨_, rfl⟩
    obtain ⟨b, hsw⟩ := hsw
    cases b with
    | false =>
      refine ⟨wpAny_Assign_Name (ev_comp ok ihi ihy ihc hfs A env s τ _ own ρ p F.frm hx _ E fun u s₁ τ₁ ⟨h1, h2, h3⟩ => ?_).out hsw⟩
      have h4 := hfr _ _ _ (fun _ => False) _ ((h3 rfl).less fun b hb => hb.elim id fun h => h.elim)
      refine (Fr.newly F' h1 (Z := fun _ => False) (fun _ h => h.elim) hy hset h4 (fun _ _ h => h.elim) fun L h' tk hL htk hs hk => ?_).out
      obtain ⟨own'', F'', st''⟩ := hk h' fun _ _ _ q => q
      exact hQ.nxt _ rfl _ _ _ F'' (st'.trans st'')
    | true =>
      rw [exec_Assign_Name_used _ _ _ _ hsw, arm_evalThenUse_ListComp]
      refine .bind (.stand (.bind (.bind ⟨wpAny_comprehension_free (use := some (assign (.Name y py) env)) (cl := closL env scope.names []) rfl (hfs env) (ok.closure F.frm) ok.kind (fun q hq hl => by rw [ok.once q hq, hl])
        (comp_ok ok ihi ihy ihc F.frm hx fun D Cc m' s₁ τ₁ g1 g2 g3 g4 g5 => ?_).out⟩)))
      have h4 := hfr _ _ _ (fun b => b = Cc) _ g5
      refine wpAny_assign_Name (Fr.newly F' g3 (Z := fun b => b = Cc) (fun b h => h ▸ g1) hy hset h4 (fun a ha => by cases ha; exact g2) fun L h' tk hL htk hs hk => ?_).out
      have hCL : Cc ≠ L := fun q => by
        have := Lo.live F hL
        rw [← q, g1] at this
        obtain ⟨o, ho⟩ := this; cases ho
      refine ⟨m', g4.sameBut hs hCL, fun h'' hs'' => ?_⟩
      obtain ⟨own'', F'', st''⟩ := hk h'' fun b ob hb q => by rw [hs''.2 b hb]; exact q
      exact .pure (.pure (hQ.nxt _ rfl _ _ _ F'' (st'.trans st'')))

theorem augop_ok {op : Operator} {p q r : PV} {v u : Value} {X : Addr → Prop} {Q : Value → Shared → Prop} {E : Value → Shared → Prop} (e : augop op p q = some r) (hv : Rd K ⟨s.heap, τ⟩ X v p) (hu : Rd K ⟨s.heap, τ⟩ X u q)
    (T : TokOk s τ) (hQ : ∀ v s' τ', Ext s τ s' τ' → (∀ Y, Rd K ⟨s'.heap, τ'⟩ Y v r) → Q v s') : Wp K.M A (inplaceOp op v u) Q E s := by
  unfold augop at e
  split at e
  · cases e
    obtain ⟨t, rfl⟩ := hv; obtain ⟨t', rfl⟩ := hu
    exact ⟨AutoIntOps.iadd_0 (hQ _ _ _ (.tok1 T) fun Y => rd_int ..)⟩
  · split at e
    · rename_i a b hz
      cases e
      obtain ⟨t, rfl⟩ := hv; obtain ⟨t', rfl⟩ := hu
      refine Wp.untok ⟨PyProof.Rows.iadd_str (fun t' tk hle => ?_) (by rw [length_sOf, length_sOf]; exact szOk_le hz)⟩
      rw [append_sOf]
      exact hQ _ _ _ (.tok T hle) fun Y => rd_str ..
    · cases e
  · cases e

end
end Mine
namespace Mine
open PySem PySem.SeqAt PyProof.Rows

section
variable {K : Cx} {C : Orc} {m : Nat} {sc : Scope} {vars : List Str} {A : Around} {env : Env} {s₀ : Shared} {τ₀ : Tk} {X₀ : Addr → Prop} {s s' s'' : Shared} {τ τ' τ'' : Tk} {own own' own'' : Nat → Option Addr} {ρ : Ρ}

theorem At.but {h h' : Heap} {x : Str} {v : Value} {a : Addr} (e : At env h x v) (ha : ¬ Lo env a) (hs : Heap.SameBut a h h') : At env h' x v :=
  e.off fun b o hb q => by rw [hs.2 b fun z => ha (z ▸ hb)]; exact q

/-- a name's own object is changed -/
theorem Fr.mutate (F : Fr K m sc vars A env s₀ τ₀ X₀ s τ own ρ) {i : Nat} {a : Addr} (ho : own i = some a) {c' : PV} {h' : Heap} {tk : Nat} (htk : s.toks ≤ tk) (hs : Heap.SameBut a s.heap h') (hr : RdTop K ⟨h', τ⟩ (XO X₀ env own) a c') :
    Fr K m sc vars A env s₀ τ₀ X₀ { s with heap := h', toks := tk } τ own (ρ.set i (.o c')) ∧ Stp env s τ own { s with heap := h', toks := tk } τ own := by
  have ha0 := (F.fresh i a ho).1
  have haL := (F.fresh i a ho).2
  obtain ⟨c, hc⟩ := F.owned i a ho
  have hi : i < ρ.length := by
    rcases Nat.lt_or_ge i ρ.length with h | h
    · exact h
    · rw [List.getElem?_eq_none h] at hc; cases hc
  have hset : ∀ j, j ≠ i → (ρ.set i (Sl.o c'))[j]? = ρ[j]? := fun j hj => List.getElem?_set_ne (Ne.symm hj)
  have hself : (ρ.set i (Sl.o c'))[i]? = some (.o c') := by simp [List.getElem?_set, hi]
  refine ⟨⟨F.room, F.top0, F.ext.but ha0 hs htk, ?_, F.x0o, F.x0n, F.loc, F.fresh, ?_, F.inj, ?_, ?_, ?_, ?_, F.cinj, ⟨F.env.scope, F.env.kind, F.env.globals, F.env.builtins, ?_, F.env.cell⟩⟩, ⟨fun b o e _ hb => ?_, fun j b h _ => .inl ⟨j, h⟩, fun _ _ e => e⟩⟩
  · intro b hb
    obtain ⟨o, hob⟩ := F.x0l b hb
    exact ⟨o, by show h'.get? b = some o; rw [hs.2 b fun z => F.x0o i a ho (z ▸ hb)]; exact hob⟩
  · intro j b hb
    by_cases hba : b = a
    · subst hba; exact hr.live
    · obtain ⟨o, hob⟩ := F.live j b hb
      exact ⟨o, by show h'.get? b = some o; rw [hs.2 b hba]; exact hob⟩
  · intro j d h
    by_cases hj : j = i
    · subst hj; exact ⟨a, ho⟩
    · rw [hset j hj] at h; exact F.owns j d h
  · intro j b h
    by_cases hj : j = i
    · subst hj; exact ⟨c', hself⟩
    · rw [hset j hj]; exact F.owned j b h
  · obtain ⟨m', hn⟩ := F.ns
    exact ⟨m', hn.sameBut hs fun z => haL (z ▸ .inl rfl)⟩
  · intro n c hc
    obtain ⟨⟨v₀, hv⟩, hne⟩ := F.cells n c hc
    exact ⟨⟨v₀, hv.sameBut hs fun z => haL (z ▸ .inr ⟨n, hc⟩)⟩, hne⟩
  · intro y j q g0 g1 g2 g3
    by_cases hj : j = i
    · subst hj
      rw [hself] at g3
      cases g3
      obtain ⟨u, hu, hh⟩ := F.env.var y j c g0 g1 g2 (by rw [hc]; rfl)
      rw [ho] at hh
      exact ⟨u, hu.but haL hs, by rw [ho]; exact ⟨hh.1, hr⟩⟩
    · rw [hset j hj] at g3
      obtain ⟨u, hu, hh⟩ := F.env.var y j q g0 g1 g2 g3
      exact ⟨u, hu.but haL hs, hh.but (.inr (.inr ⟨i, ho⟩)) (fun z => hj (F.inj j i a z ho)) hs⟩
  · show h'.get? b = some o
    rw [hs.2 b fun z => hb i (z ▸ ho)]; exact e

/-- the object of an owning name -/
theorem Fr.object (F : Fr K m sc vars A env s₀ τ₀ X₀ s τ own ρ) {y : Str} {i : Nat} {c : PV} (hy : varAt sc vars y = some i) (hc : ρ[i]? = some (.o c)) : ∃ a, own i = some a ∧ At env s.heap y (.ref a) ∧ RdTop K ⟨s.heap, τ⟩ (XO X₀ env own) a c := by
  obtain ⟨x1, x2, x3, x4⟩ := varAt_ok hy
  obtain ⟨a, ha⟩ := F.owns i c hc
  obtain ⟨u, hu, hh⟩ := F.env.var y i c x3 x1 x4 (by rw [hc]; rfl)
  rw [ha] at hh
  obtain ⟨rfl, hh⟩ := hh
  exact ⟨a, ha, hu, hh⟩

theorem put_stored {g : Hp} {X : Addr → Prop} {k : List Nat} {p : PV} {v : Value} (hv : Rd K g X v p) : ∀ {l : List (List Nat × PV)} {kvs : List (Str × Value)}, RdD K g X kvs l → (kvs.map (·.1)).Nodup → RdD K g X (stored kvs (sOf k) v) (put k p l)
  | [], _, e, _ => by cases e; exact ⟨v, [], rfl, hv, rfl⟩
  | (k', q) :: l, _, e, hn => by
    obtain ⟨u, r, rfl, h1, h2⟩ := e
    simp only [List.map_cons, List.nodup_cons] at hn
    unfold put
    by_cases hk : k' = k
    · subst hk
      simp only [beq_self_eq_true, if_true]
      have : stored ((sOf k', u) :: r) (sOf k') v = (sOf k', v) :: r := by
        unfold stored
        simp only [List.any_cons, decide_true, Bool.true_or, if_true, List.map_cons]
        rw [map_store_of_not_mem r (sOf k') v hn.1]
      rw [this]
      exact ⟨v, r, rfl, hv, h2⟩
    · have hk' : (k' == k) = false := by simpa using hk
      have hs : sOf k' ≠ sOf k := fun e => hk (by have := congrArg (fun z : Str => z.cps.toList) e; simpa using this)
      rw [if_neg (by simp [hk'])]
      have ih := put_stored (k := k) hv h2 hn.2
      have : stored ((sOf k', u) :: r) (sOf k) v = (sOf k', u) :: stored r (sOf k) v := by
        unfold stored
        simp only [List.any_cons, hs, decide_false, Bool.false_or, List.map_cons, if_false]
        split <;> simp
      rw [this]
      exact ⟨u, _, rfl, h1, ih⟩

/-- a store into an owned object -/
theorem store_ok (F : Fr K m sc vars A env s₀ τ₀ X₀ s τ own ρ) {i : Nat} {a : Addr} (ho : own i = some a) {c kv p c' : PV} (hst : storeI c kv p = some c') (hr : RdTop K ⟨s.heap, τ⟩ (XO X₀ env own) a c) {kvv v : Value} (hk : ∀ Y, Rd K ⟨s.heap, τ⟩ Y kvv kv)
    (hv : Rd K ⟨s.heap, τ⟩ (XO X₀ env own) v p) {Q : Unit → Shared → Prop} {E : Value → Shared → Prop}
    (hQ : ∀ s', Fr K m sc vars A env s₀ τ₀ X₀ s' τ own (ρ.set i (.o c')) → Stp env s τ own s' τ own → Q () s') : Wp K.M A (setItem (.ref a) kvv v) Q E s := by
  have haX : XO X₀ env own a := .inr (.inr ⟨i, ho⟩)
  unfold storeI at hst
  split at hst
  · split at hst
    · rename_i l n hz
      cases hst
      simp only [Bool.and_eq_true, decide_eq_true_eq] at hz
      obtain ⟨t, rfl⟩ := hk (fun _ => False)
      obtain ⟨vs, ⟨n', hp⟩, hl⟩ := hr
      have hlen := hl.length
      have hz1 := Nat.le_of_ble_eq_true hz.1
      refine ⟨PySem.W.ki_setAt (items := vs.toArray) (n := n') hp hz.2.1 (by omega) (by simp only [List.size_toArray]; omega) ?_⟩
      have hup := PySem.IsL.update (items := vs.toArray) (n := n') (x := hp) (·.setIfInBounds n.toNat v)
      have hs : Heap.SameBut a s.heap (s.heap.update a (Obj.mapSeq (·.setIfInBounds n.toNat v))) := Heap.SameBut.update ..
      have hr' : RdTop K ⟨s.heap.update a (Obj.mapSeq (·.setIfInBounds n.toNat v)), τ⟩ (XO X₀ env own) a (.list (l.set n.toNat p)) := by
        refine ⟨vs.set n.toNat v, ⟨n', ?_⟩, RdL.but (hl.set n.toNat hv) haX hs⟩
        refine hup.trans ?_
        simp
      obtain ⟨F', st'⟩ := F.mutate ho (Nat.le_refl _) hs hr'
      exact hQ _ F' st'
    · cases hst
  · split at hst
    · rename_i l k hz
      cases hst
      obtain ⟨t, rfl⟩ := hk (fun _ => False)
      obtain ⟨kvs, ⟨hd, hsm⟩, hl⟩ := hr
      refine ⟨wpAny_setItem_pairs (knd := PySem.strKind K.prog K.w) (k := sOf k) (by simp [PySem.strKind, Value.isStrOf]) hd (fun h' hd' hs => ?_) (by rw [hl.length]; exact szOk_le hz)⟩
      have hn : (kvs.map (·.1)).Nodup := let ⟨_, _, _, _, _, _, _, _, h⟩ := hd; h
      obtain ⟨F', st'⟩ := F.mutate (c' := .dict (put k p l)) ho (Nat.le_succ _) hs ⟨_, ⟨hd', hsm⟩, RdD.but (put_stored hv hl hn) haX hs⟩
      exact hQ _ F' st'
    · cases hst
  · cases hst

theorem storeI_key {c kv p c' : PV} (h : storeI c kv p = some c') : scalar kv = true := by
  unfold storeI at h
  split at h
  · rfl
  · rfl
  · cases h

theorem swaps_sub (v o i : Expr) (p : Pos) (l : Nat) (env : Env) : swapsWith v (some (.Subscript o i p)) l env = pure false := by cases v <;> rfl
theorem ex_setI {o : Str} {po ps pos : Pos} {k v : Expr} {ke e : Mine.X} {i : Nat} (hy : varAt sc vars o = some i) (ihk : EvAt K C m sc vars k ke) (ih : EvAt K C m sc vars v e) :
    ExAt K C m sc vars (.Assign [.Subscript (.Name o po) k ps] v pos) (.setI i ke e) := by
  intro A env s₀ τ₀ X₀ s τ own ρ r F he Q E hQ
  have hfk : env.scope.kind = .function := by rw [F.env.scope]; exact F.env.kind
  obtain ⟨x1, x2, x3, x4⟩ := varAt_ok hy
  simp only [ex] at he
  cases hx : ev C e ρ with
  | none => rw [hx] at he; cases he
  | some p =>
    cases hkk : ev C ke ρ with
    | none => rw [hx, hkk] at he; cases he
    | some kv =>
      rw [hx, hkk] at he
      dsimp only at he
      split at he
      · rename_i c hci
        cases hst : storeI c kv p with
        | none => rw [hst] at he; cases he
        | some c' =>
          rw [hst] at he
          dsimp only at he
          rw [Option.map_eq_some_iff] at he
          obtain ⟨ρ', hset, rfl⟩ := he
          obtain ⟨_, rfl⟩ := setAt_ok hset
          refine ⟨wpAny_Assign_Subscript (ih A env s τ _ own ρ p F.frm hx _ E fun u s₁ τ₁ ⟨h1, h2, _⟩ => ?_).out (swaps_sub _ _ _ _ _ _)⟩
          obtain ⟨own', F', st', hrd, _⟩ := F.dropFor e p
          have F₁ := F'.step h1
          obtain ⟨a, ho, hat, hr⟩ := F₁.object hy hci
          refine wpAny_Name (load_at (K := K) hfk hat ?_).out x2
          refine (ihk A env s₁ τ₁ _ own ρ kv (F.step h1).frm hkk _ E fun w s₂ τ₂ ⟨k1, k2, _⟩ => ?_).out
          refine (store_ok (F₁.step k1) ho hst (hr.ext k1) (fun Y => k2.scalar (storeI_key hst)) ((hrd _ _ _ h2).ext k1) fun s₃ F₃ st₃ => ?_).out
          exact hQ.nxt _ rfl _ _ _ F₃ ((st'.trans (.ext (h1.trans k1))).trans st₃)
      · cases he

theorem aug_store {i : Expr} (h : oddE i = false) (ov iv new : Value) : augStore i ov iv new = (do holding [new, ov, iv] (setItem ov iv new); release [new, ov, iv] []; pure .next) := by
  cases i <;> first | rfl | (cases h; done)

theorem ex_augI {o : Str} {po ps pos : Pos} {k v : Expr} {op : Operator} {ke e : Mine.X} {i : Nat} (hy : varAt sc vars o = some i) (ihk : EvAt K C m sc vars k ke) (ih : EvAt K C m sc vars v e) (hodd : oddE k = false) :
    ExAt K C m sc vars (.AugAssign (.Subscript (.Name o po) k ps) op v pos) (.augI i ke op e) := by
  intro A env s₀ τ₀ X₀ s τ own ρ r F he Q E hQ
  have hfk : env.scope.kind = .function := by rw [F.env.scope]; exact F.env.kind
  obtain ⟨x1, x2, x3, x4⟩ := varAt_ok hy
  simp only [ex] at he
  split at he
  · rename_i c hci
    cases hkk : ev C ke ρ with
    | none => rw [hkk] at he; cases he
    | some kv =>
      rw [hkk] at he
      dsimp only at he
      cases hg : getI c kv with
      | none => rw [hg] at he; cases he
      | some old =>
        rw [hg] at he
        dsimp only at he
        cases hx : ev C e ρ with
        | none => rw [hx] at he; cases he
        | some p =>
          rw [hx] at he
          dsimp only at he
          cases ha : augop op old p with
          | none => rw [ha] at he; cases he
          | some q =>
            rw [ha] at he
            dsimp only at he
            cases hst : storeI c kv q with
            | none => rw [hst] at he; cases he
            | some c' =>
              rw [hst] at he
              dsimp only at he
              rw [Option.map_eq_some_iff] at he
              obtain ⟨ρ', hset, rfl⟩ := he
              obtain ⟨_, rfl⟩ := setAt_ok hset
              obtain ⟨a, ho, hat, hr⟩ := F.object hy hci
              refine ⟨wpAny_AugAssign_Subscript_any (wpAny_Name (load_at (K := K) hfk hat ?_).out x2) (aug_store hodd)⟩
              refine (ihk A env s τ _ own ρ kv F.frm hkk _ E fun w s₂ τ₂ ⟨k1, k2, _⟩ => ?_).out
              have hkey : scalar kv = true := storeI_key hst
              have hrd : Rd K ⟨s₂.heap, τ₂⟩ (fun _ => False) (.ref a) c := RdTop.rd (fun _ h => h.elim) (fun h => h.elim) (hr.ext k1)
              have hold : scalar old = true := by
                unfold augop at ha
                split at ha
                · rfl
                · rfl
                · cases ha
              refine (getI_ok (A := A) (E := E) (X := fun _ => False) hg hrd (k2.scalar hkey) k1.ok fun u s₃ τ₃ l1 l2 => ?_).2.out
              have F₃ := (F.step k1).step l1
              refine (ih A env s₃ τ₃ _ own ρ p F₃.frm hx _ E fun u' s₄ τ₄ ⟨n1, n2, _⟩ => ?_).out
              refine (augop_ok ha ((l2.scalar hold).ext n1) n2 n1.ok fun w' s₅ τ₅ m1 m2 => ?_).out
              have x5 := ((k1.trans l1).trans n1).trans m1
              refine (store_ok (F.step x5) ho hst (hr.ext x5) (fun Y => (k2.scalar hkey).ext ((l1.trans n1).trans m1)) (m2 _) fun s₆ F₆ st₆ => ?_).out
              exact hQ.nxt _ rfl _ _ _ F₆ ((Stp.ext x5).trans st₆)
  · cases he

theorem ex_app {o : Str} {po apos cpos pos : Pos} {v : Expr} {e : Mine.X} {i : Nat} (hy : varAt sc vars o = some i) (ih : EvAt K C m sc vars v e) (hst : ∀ a p, v ≠ .Starred a p) (hl : (apos.endLine == cpos.line) = true) :
    ExAt K C m sc vars (.Expr (.Call (.Attribute (.Name o po) "append" apos) [v] [] cpos) pos) (.app i e) := by
  intro A env s₀ τ₀ X₀ s τ own ρ r F he Q E hQ
  have hfk : env.scope.kind = .function := by rw [F.env.scope]; exact F.env.kind
  obtain ⟨x1, x2, x3, x4⟩ := varAt_ok hy
  simp only [ex] at he
  cases hx : ev C e ρ with
  | none => rw [hx] at he; cases he
  | some p =>
    rw [hx] at he
    dsimp only at he
    split at he
    · rename_i l hci
      split at he
      · rename_i hz
        rw [Option.map_eq_some_iff] at he
        obtain ⟨ρ', hset, rfl⟩ := he
        obtain ⟨_, rfl⟩ := setAt_ok hset
        obtain ⟨own', F', st', hrd, _⟩ := F.dropFor e p
        obtain ⟨a, ho, hat, hr⟩ := F'.object hy hci
        have hs : starEach [v] env = [(false, eval v env)] := by
          cases v <;> first | rfl | (exact absurd rfl (hst _ _))
        refine ⟨wpAny_Expr (wpAny_Call_method (T := "list") (id := "list.append") (base_plain rfl _ _ _) (by rw [hs]; rfl) hl PySem.F.plainAttrs_list PySem.F.slot_list_append PySem.F.type_list_append (wpAny_Name (load_at (K := K) hfk hat ?_).out x2)) ?_ (swaps_false rfl _ _ _)⟩
        · obtain ⟨vs, ⟨n, hp⟩, hl'⟩ := hr
          refine ⟨⟨_, hp, rfl⟩, (fun a' ha' => by cases ha'; exact ⟨_, hp, rfl⟩), ?_⟩
          rw [hs]
          refine Calls.callWith_builtin rfl (Calls.evalArgs_plain (Calls.spliced_cons (ih A env s τ _ own ρ p F.frm hx _ E fun u s₁ τ₁ ⟨h1, h2, _⟩ => Calls.spliced_nil ?_).out))
          have F₁ := F'.step h1
          refine wpAny_list_append_plain (items := vs.toArray) ⟨n, h1.keep _ _ hp⟩ (fun h' hpl hsb => ?_) (by simp only [List.size_toArray]; rw [hl'.length]; exact szOk_le hz)
          have haX : XO X₀ env own' a := .inr (.inr ⟨i, ho⟩)
          have hr' : RdTop K ⟨h', τ₁⟩ (XO X₀ env own') a (.list (l ++ [p])) := by
            refine ⟨vs ++ [u], ?_, RdL.but ((hl'.ext h1).append (.single (hrd _ _ _ h2))) haX hsb⟩
            obtain ⟨n', hp'⟩ := hpl
            exact ⟨n', by rw [hp']; simp⟩
          obtain ⟨F₂, st₂⟩ := F₁.mutate ho (Nat.le_refl _) hsb hr'
          exact hQ.nxt _ rfl _ _ _ F₂ ((st'.trans (.ext h1)).trans st₂)
        · unfold interactive; rw [hfk]; rfl
      · cases he
    · cases he
end
end Mine
namespace Mine
open PySem PySem.SeqAt PyProof.Rows

section
variable {K : Cx} {C : Orc} {m : Nat} {sc : Scope} {vars : List Str} {A : Around} {env : Env} {s₀ : Shared} {τ₀ : Tk} {X₀ : Addr → Prop} {s s' s'' : Shared} {τ τ' τ'' : Tk} {own own' own'' : Nat → Option Addr} {ρ : Ρ}

/-- to keep off some more, that is new -/
theorem Fr.addX (F : Fr K m sc vars A env s₀ τ₀ X₀ s τ own ρ) (x : Ext s τ s' τ') {N : Addr → Prop} (hN : ∀ a, N a → s.heap.get? a = none) (hN' : ∀ a, N a → ∃ o, s'.heap.get? a = some o) :
    Fr K m sc vars A env s₀ τ₀ (fun b => X₀ b ∨ N b) s' τ' own ρ := by
  have F' := F.step x
  have hX : ∀ b, N b → ¬ XO X₀ env own b := fun b hb => F.frm.xd.fresh (hN b hb)
  refine ⟨F'.room, F'.top0, F'.ext, fun a ha => ha.elim (F'.x0l a) (hN' a), fun j a h ha => ha.elim (F'.x0o j a h) fun ha => hX a ha (.inr (.inr ⟨j, h⟩)), fun b hb ha => ha.elim (F'.x0n b hb) fun ha => hX b ha (.inr (.inl hb)),
    F'.loc, F'.fresh, F'.live, F'.inj, F'.owns, F'.owned, F'.ns, F'.cells, F'.cinj, ?_⟩
  refine ((F.env.more (N := N) hN).ext x).less fun b hb => ?_
  rcases hb with (hb | hb) | hb | hb
  · exact .inl (.inl hb)
  · exact .inr hb
  · exact .inl (.inr (.inl hb))
  · exact .inl (.inr (.inr hb))

theorem Fr.lessX {Y₀ : Addr → Prop} (F : Fr K m sc vars A env s₀ τ₀ X₀ s τ own ρ) (h : ∀ b, Y₀ b → X₀ b) : Fr K m sc vars A env s₀ τ₀ Y₀ s τ own ρ :=
  ⟨F.room, F.top0, F.ext, fun a ha => F.x0l a (h a ha), fun j a e ha => F.x0o j a e (h a ha), fun b hb ha => F.x0n b hb (h b ha), F.loc, F.fresh, F.live, F.inj, F.owns, F.owned, F.ns, F.cells, F.cinj,
    F.env.less fun b hb => hb.imp (h b) id⟩

/-- what is kept off is changed -/
theorem Fr.shift {Y₀ : Addr → Prop} (F : Fr K m sc vars A env s₀ τ₀ X₀ s τ own ρ) {Z : Addr → Prop} (hY : ∀ b, Y₀ b → X₀ b) (hZ : ∀ b, Z b → X₀ b) (hZ0 : ∀ b, Z b → s₀.heap.get? b = none) {h' : Heap} {tk : Nat} (hk : ∀ b o, ¬ Z b → s.heap.get? b = some o → h'.get? b = some o)
    (hl : ∀ b, Y₀ b → Z b → ∃ o, h'.get? b = some o) (htk : s.toks ≤ tk) :
    Fr K m sc vars A env s₀ τ₀ Y₀ { s with heap := h', toks := tk } τ own ρ := by
  have hLo : ∀ b o, Lo env b → s.heap.get? b = some o → h'.get? b = some o := fun b o hb e => hk b o (fun z => F.x0n b hb (hZ b z)) e
  have hown : ∀ j b, own j = some b → ¬ Z b := fun j b hb z => F.x0o j b hb (hZ b z)
  refine ⟨F.room, F.top0, F.ext.heapTok (fun b o e e' => hk b o (fun z => by rw [hZ0 b z] at e; cases e) e') htk, ?_, fun j a e ha => F.x0o j a e (hY a ha), fun b hb ha => F.x0n b hb (hY b ha), F.loc, F.fresh, ?_, F.inj, F.owns, F.owned, ?_, ?_, F.cinj, ⟨F.env.scope, F.env.kind, F.env.globals, F.env.builtins, ?_, F.env.cell⟩⟩
  · intro a ha
    by_cases z : Z a
    · exact hl a ha z
    · obtain ⟨o, ho⟩ := F.x0l a (hY a ha); exact ⟨o, hk a o z ho⟩
  · intro j a h
    obtain ⟨o, ho⟩ := F.live j a h
    exact ⟨o, hk a o (hown j a h) ho⟩
  · obtain ⟨m', hn⟩ := F.ns
    exact ⟨m', hn.at' fun o e => hLo _ o (.inl rfl) e⟩
  · intro n c hc
    obtain ⟨⟨v₀, o, ho, hd⟩, hne⟩ := F.cells n c hc
    exact ⟨⟨v₀, o, hLo _ _ (.inr ⟨n, hc⟩) ho, hd⟩, hne⟩
  · intro y j q g0 g1 g2 g3
    obtain ⟨u, hu, hh⟩ := F.env.var y j q g0 g1 g2 g3
    have h1 : Held K ⟨h', τ⟩ (XO X₀ env own) (own j) u q := Held.mono (g := ⟨s.heap, τ⟩) (g' := ⟨h', τ⟩) (fun b o hb e => hk b o (fun z => by
      rcases hb with hb | hb
      · exact hb (.inl (hZ b z))
      · exact hown j b hb z) e) (fun _ _ e => e) (fun _ q => q) hh
    exact ⟨u, hu.off hLo, h1.less fun b hb => hb.imp (hY b) id⟩

/-- like Stp, but Z may change -/
structure StpW (Z : Addr → Prop) (env : Env) (s : Shared) (τ : Tk) (own : Nat → Option Addr) (s' : Shared) (τ' : Tk) (own' : Nat → Option Addr) : Prop where
  keep : ∀ b o, s.heap.get? b = some o → ¬ Lo env b → (∀ j, own j ≠ some b) → ¬ Z b → s'.heap.get? b = some o
  own : ∀ j b, own' j = some b → ¬ Lo env b → (∃ i, own i = some b) ∨ s.heap.get? b = none ∨ Z b
  sub : ∀ t x, τ t x → τ' t x

theorem StpW.go {Z : Addr → Prop} (a : StpW Z env s τ own s' τ' own') (b : Stp env s' τ' own' s'' τ'' own'') : StpW Z env s τ own s'' τ'' own'' where
  keep := fun x o e h1 h2 hz => b.keep x o (a.keep x o e h1 h2 hz) h1 fun j hj => by
    rcases a.own j x hj h1 with ⟨i, hi⟩ | hn | hz'
    · exact h2 i hi
    · rw [hn] at e; cases e
    · exact hz hz'
  own := fun j x h hL => by
    rcases b.own j x h hL with ⟨i, hi⟩ | hn
    · exact a.own i x hi hL
    · cases e : s.heap.get? x with
      | none => exact .inr (.inl rfl)
      | some o =>
        by_cases ho : ∃ i, own i = some x
        · exact .inl ho
        · by_cases hz : Z x
          · exact .inr (.inr hz)
          · have := a.keep x o e hL (fun j hj => ho ⟨j, hj⟩) hz
            rw [hn] at this; cases this
  sub := fun t x e => b.sub t x (a.sub t x e)

theorem StpW.stp {Z : Addr → Prop} (a : StpW Z env s τ own s' τ' own') (hZ : ∀ b, Z b → s.heap.get? b = none) : Stp env s τ own s' τ' own' where
  keep := fun b o e h1 h2 => a.keep b o e h1 h2 fun z => by rw [hZ b z] at e; cases e
  own := fun j b h hL => by
    rcases a.own j b h hL with h | h | h
    · exact .inl h
    · exact .inr h
    · exact .inr (hZ b h)
  sub := a.sub

theorem Rd.stpW {Z : Addr → Prop} (hown : ∀ j b, own' j = some b → ¬ Lo env b) (a : StpW Z env s τ own s' τ' own') (hZ : ∀ b, Z b → s.heap.get? b = none) {v : Value} {p : PV} (e : Rd K ⟨s.heap, τ⟩ (XO X₀ env own) v p) : Rd K ⟨s'.heap, τ'⟩ (XO (fun b => X₀ b ∨ Z b) env own') v p := by
  have h1 := Rd.more (N := fun b => s.heap.get? b = none) (fun _ q => q) e
  have h2 : Rd K ⟨s'.heap, τ'⟩ (fun b => XO X₀ env own b ∨ s.heap.get? b = none) v p := Rd.mono (g := ⟨s.heap, τ⟩) (g' := ⟨s'.heap, τ'⟩) (fun b o hb q => a.keep b o q (fun hL => hb (.inl (.inr (.inl hL)))) (fun j hj => hb (.inl (.inr (.inr ⟨j, hj⟩)))) fun z => hb (.inr (hZ b z))) a.sub (fun _ q => q) h1
  refine h2.less fun b hb => ?_
  rcases hb with (hb | hb) | hb | ⟨j, hb⟩
  · exact .inl (.inl hb)
  · exact .inr (hZ b hb)
  · exact .inl (.inr (.inl hb))
  · rcases a.own j b hb (hown j b hb) with ⟨i, hi⟩ | hn | hz
    · exact .inl (.inr (.inr ⟨i, hi⟩))
    · exact .inr hn
    · exact .inr (hZ b hz)

theorem ex_try {b : List Stmt} {h₀ : ExceptHandler} {hs : List ExceptHandler} {y : SL} {pos : Pos} (ihb : ExsAt K C m sc vars b y) : ExAt K C m sc vars (.Try b (h₀ :: hs) [] [] pos) (.tr y) := by
  intro A env s₀ τ₀ X₀ s τ own ρ r F he Q E hQ
  simp only [ex] at he
  show Wp K.M A (standAt pos >>= fun _ => tryStmt false (execs b env) (h₀ :: hs) (execs [] env) [] env) Q E s
  refine .bind (.stand ⟨wpAny_tryStmt_except (ihb A env s₀ τ₀ X₀ s τ own ρ r F he _ _ ⟨fun ρ' hr s' τ' own' F' st' => ?_, fun p hr v s' τ' x' rd' => ?_⟩).out⟩)
  · exact wpAny_execs_nil (hQ.nxt ρ' hr s' τ' own' F' st')
  · exact hQ.ret p hr v s' τ' x' rd'

/-- a loop over a walk -/
theorem for_loop {y : Str} {py : Pos} {b : List Stmt} {body : SL} {i : Nat} {X : Addr → Prop} (hy : varAt sc vars y = some i) (ihb : ExsAt K C m sc vars b body) {s₁ s₂ : Shared} {τ₁ : Tk} {items : List PV} {I : Addr} {fp wr : List Addr} {P : Nat → Value → Prop} {St : Nat → Heap → Prop}
    (F : Fr K m sc vars A env s₀ τ₀ X₀ s₁ τ₁ own ρ) (hX : ∀ b, XO X₀ env own b → X b) (W : Walk K A s₁ τ₁ X items I fp wr P St s₂) {r : Res}
    (he : forEach (fun ρ v => match bindEach ρ [i] v with | some ρ' => exs C body ρ' | Option.none => Option.none) items ρ = some r) {Q : Flow → Shared → Prop} {R : Result → Shared → Prop} (hR : ∀ f s', Q f s' → R (.ok f) s')
    (hQ : Ends K m sc vars A env s₀ τ₀ X₀ s₁ τ₁ own r Q) : Cp K.M A (.forLoop (.Name y py) (.ref I) b [] env) R s₂ := by
  let Z : Addr → Prop := fun b => b ∈ wr
  have hZ1 : ∀ b, Z b → s₁.heap.get? b = none := W.new
  have hZ0 : ∀ b, Z b → s₀.heap.get? b = none := fun b z => by
    cases e : s₀.heap.get? b with
    | none => rfl
    | some o => have := F.ext.keep b o e; rw [hZ1 b z] at this; cases this
  have F₂ : Fr K m sc vars A env s₀ τ₀ (fun b => X₀ b ∨ Z b) s₂ τ₁ own ρ := F.addX W.ext hZ1 (fun b z => W.live 0 _ W.start b z)
  refine ⟨codeAny_forLoop (fun k s' => ∃ τ' own' ρ' j, k = items.length + 1 - j ∧ j ≤ items.length ∧ Fr K m sc vars A env s₀ τ₀ (fun b => X₀ b ∨ Z b) s' τ' own' ρ' ∧ St j s'.heap ∧ StpW Z env s₁ τ₁ own s' τ' own' ∧
    forEach (fun ρ v => match bindEach ρ [i] v with | some ρ' => exs C body ρ' | Option.none => Option.none) (items.drop j) ρ' = some r) ?_ (items.length + 1)
    ⟨τ₁, own, ρ, 0, rfl, Nat.zero_le _, F₂, W.start, ⟨fun b o e _ _ _ => W.ext.keep b o e, fun j b h _ => .inl ⟨j, h⟩, fun _ _ e => e⟩, by simpa using he⟩⟩
  rintro k s' ⟨τ', own', ρ', j, rfl, hj, F', hst, sw, hfe⟩
  by_cases hlt : j < items.length
  · refine (Wp.untok ⟨W.walks.item j s' _ _ hlt hst fun v h₁ tk₁ hPv hst₁ hk₁ hle₁ => ?_⟩).out
    obtain ⟨q, hq, hv⟩ := W.item j v hlt hPv
    have F₁ := F'.shift (Z := Z) (h' := h₁) (tk := tk₁) (fun _ h => h) (fun b z => .inr z) hZ0 (fun b o hb e => hk₁ b o hb e) (fun b _ z => W.live _ _ hst₁ b z) hle₁
    have sw₁ : StpW Z env s₁ τ₁ own { s' with heap := h₁, toks := tk₁ } τ' own' := ⟨fun b o e h1 h2 hz => hk₁ b o hz (sw.keep b o e h1 h2 hz), sw.own, sw.sub⟩
    have hdrop : items.drop j = q :: items.drop (j + 1) := by
      rw [List.drop_eq_getElem_cons hlt]
      rw [List.getElem?_eq_getElem hlt] at hq
      cases hq; rfl
    rw [hdrop] at hfe
    unfold forEach at hfe
    dsimp only [bindEach] at hfe
    cases hset : setAt ρ' i (.v q) with
    | none => rw [hset] at hfe; cases hfe
    | some ρ₁ =>
      rw [hset] at hfe
      dsimp only at hfe
      have hv' : Rd K ⟨h₁, τ'⟩ (XO (fun b => X₀ b ∨ Z b) env own') v q := Rd.stpW (s' := { s' with heap := h₁, toks := tk₁ }) (fun j b h => (F'.fresh j b h).2) sw₁ hZ1 (hv.less hX)
      refine wpAny_assign_Name (F₁.plain hy hset hv' fun s₃ own₃ F₃ st₃ _ => ?_).out
      cases hb : exs C body ρ₁ with
      | none => rw [hb] at hfe; cases hfe
      | some r₁ =>
        rw [hb] at hfe
        refine (ihb A env s₀ τ₀ _ s₃ τ' own₃ ρ₁ r₁ F₃ hb _ _ ⟨fun ρ₂ hr s₄ τ₄ own₄ F₄ st₄ => ?_, fun p hr u s₄ τ₄ x₄ rd₄ => ?_⟩).out
        · subst hr
          have sw₄ := (sw₁.go st₃).go st₄
          refine ⟨items.length + 1 - (j + 1), by omega, τ₄, own₄, ρ₂, j + 1, rfl, hlt, F₄, ?_, sw₄, hfe⟩
          have st₃₄ := st₃.trans st₄
          refine W.walks.frame _ _ _ hst₁ fun b hb o e => st₃₄.keep b o e ?_ ?_
          · intro hL
            rcases W.off b hb with hw | ⟨hx, _⟩
            · exact F'.x0n b hL (.inr hw)
            · exact hx (hX b (.inr (.inl hL)))
          · intro jj hjj
            rcases W.off b hb with hw | ⟨hx, o', ho'⟩
            · exact F'.x0o jj b hjj (.inr hw)
            · rcases sw₁.own jj b hjj (F'.fresh jj b hjj).2 with ⟨i', hi'⟩ | hn | hz
              · exact hx (hX b (.inr (.inr ⟨i', hi'⟩)))
              · rw [hn] at ho'; cases ho'
              · exact F'.x0o jj b hjj (.inr hz)
        · subst hr
          cases hfe
          exact hR _ _ (hQ.ret p rfl u s₄ τ₄ x₄ (rd₄.less fun b hb => .inl hb))
  · have hje : j = items.length := Nat.le_antisymm hj (Nat.not_lt.mp hlt)
    subst hje
    refine (Wp.untok ⟨W.walks.done s' _ _ hst fun h₁ tk₁ hk₁ hle₁ => ?_⟩).out
    rw [List.drop_length] at hfe
    unfold forEach at hfe
    cases hfe
    have F₁ := F'.shift (Y₀ := X₀) (Z := Z) (h' := h₁) (tk := tk₁) (fun _ h => .inl h) (fun b z => .inr z) hZ0 (fun b o hb e => hk₁ b o hb e) (fun b hb z => by
      obtain ⟨o, ho⟩ := F.x0l b hb
      rw [hZ1 b z] at ho; cases ho) hle₁
    have sw₁ : StpW Z env s₁ τ₁ own { s' with heap := h₁, toks := tk₁ } τ' own' := ⟨fun b o e h1 h2 hz => hk₁ b o hz (sw.keep b o e h1 h2 hz), sw.own, sw.sub⟩
    exact wpAny_execs_nil (hR _ _ (hQ.nxt _ rfl _ _ _ F₁ (sw₁.stp hZ1)))

theorem ex_for {y : Str} {py : Pos} {it : Expr} {b : List Stmt} {e : Mine.X} {body : SL} {i : Nat} {pos : Pos} (hy : varAt sc vars y = some i) (ihe : EvAt K C m sc vars it e) (ihb : ExsAt K C m sc vars b body) (hfs : ∀ env x, foldedSetIterable it env x = pure x) :
    ExAt K C m sc vars (.For (.Name y py) it b [] pos) (.fr [i] e body) := by
  intro A env s₀ τ₀ X₀ s τ own ρ r F he Q E hQ
  simp only [ex] at he
  cases hx : ev C e ρ with
  | none => rw [hx] at he; cases he
  | some p =>
    rw [hx] at he
    dsimp only at he
    cases hit : itemsOf p with
    | none => rw [hit] at he; cases he
    | some items =>
      rw [hit] at he
      dsimp only at he
      refine ⟨wpAny_For (ihe A env s τ _ own ρ p F.frm hx _ E fun u s₁ τ₁ ⟨h1, h2, _⟩ => (iter_ok hit h2 h1.ok F.room.handled fun I fp wr P St s₂ W => ?_).out).out (hfs env)⟩
      have F₁ := (F.drop (al e)).step h1
      exact (for_loop hy ihb F₁ (fun b hb => F.offDrop (al e) hb) W he (fun f s' q => q) (hQ.go ((Stp.drop (al e)).trans (.ext h1)))).out
end
end Mine
namespace Mine
open PySem PySem.SeqAt PyProof.Rows

section
variable {K : Cx} {C : Orc} {m : Nat} {sc : Scope} {vars : List Str} {A : Around} {env : Env} {s₀ : Shared} {τ₀ : Tk} {X₀ : Addr → Prop} {s s' s'' : Shared} {τ τ' τ'' : Tk} {own own' own'' : Nat → Option Addr} {ρ : Ρ}

noncomputable def StFns (K : Cx) (A : Around) (env : Env) : List Str → List (Value → Sem Unit) → Prop
  | [], [] => True
  | x :: xs, t :: ts => (∀ v Q E s, Wp K.M A (storeName env x v) Q E s → Wp K.M A (t v) Q E s) ∧ StFns K A env xs ts
  | _, _ => False
noncomputable def VarsAt (sc : Scope) (vars : List Str) : List Str → List Nat → Prop
  | [], [] => True
  | x :: xs, i :: is => varAt sc vars x = some i ∧ VarsAt sc vars xs is
  | _, _ => False

theorem RdL.stp (hown : ∀ j b, own' j = some b → ¬ Lo env b) (a : Stp env s τ own s' τ' own') : ∀ {l : List PV} {vs : List Value}, RdL K ⟨s.heap, τ⟩ (XO X₀ env own) vs l → RdL K ⟨s'.heap, τ'⟩ (XO X₀ env own') vs l
  | [], _, e => e
  | p :: l, _, e => by
    obtain ⟨v, r, rfl, h1, h2⟩ := e
    exact ⟨v, r, rfl, h1.stp hown a, RdL.stp hown a h2⟩

theorem stores_ok : ∀ {xs : List Str} {is : List Nat} {ts : List (Value → Sem Unit)} {vs : List Value} {ps : List PV} {s : Shared} {own : Nat → Option Addr} {ρ ρ' : Ρ}, StFns K A env xs ts → VarsAt sc vars xs is → Fr K m sc vars A env s₀ τ₀ X₀ s τ own ρ → RdL K ⟨s.heap, τ⟩ (XO X₀ env own) vs ps →
    setEach ρ false is ps = some ρ' → ∀ {Q : Unit → Shared → Prop} {E : Value → Shared → Prop}, (∀ s' own', Fr K m sc vars A env s₀ τ₀ X₀ s' τ own' ρ' → Stp env s τ own s' τ own' → Q () s') → Wp K.M A (assignInOrder ts vs) Q E s
  | [], [], [], vs, ps, s, own, ρ, ρ', _, _, F, hv, hs, Q, E, hQ => by
    cases ps with
    | nil =>
      cases hs
      cases hv
      exact .pure (hQ _ _ F (.ext (.refl F.ext.ok)))
    | cons _ _ => cases hs
  | x :: xs, i :: is, t :: ts, vs, ps, s, own, ρ, ρ', ⟨ht, hts⟩, ⟨hx, hxs⟩, F, hv, hs, Q, E, hQ => by
    cases ps with
    | nil => cases hs
    | cons p ps =>
      obtain ⟨v, r, rfl, h1, h2⟩ := hv
      simp only [setEach, Bool.false_eq_true, if_false] at hs
      cases hset : setAt ρ i (.v p) with
      | none => rw [hset] at hs; cases hs
      | some ρ₁ =>
        rw [hset] at hs
        show Wp K.M A (holding r (t v) >>= fun _ => assignInOrder ts r) Q E s
        refine .bind (.holding (ht v _ _ _ (F.plain hx hset h1 fun s₁ own₁ F₁ st₁ _ => ?_)))
        exact stores_ok hts hxs F₁ (h2.stp (fun j b h => (F₁.fresh j b h).2) st₁) hs fun s₂ own₂ F₂ st₂ => hQ _ _ F₂ (st₁.trans st₂)
  | [], _ :: _, _, _, _, _, _, _, _, _, h, _, _, _, _, _, _ => h.elim
  | _ :: _, [], _, _, _, _, _, _, _, _, h, _, _, _, _, _, _ => h.elim
  | [], [], _ :: _, _, _, _, _, _, _, h, _, _, _, _, _, _, _ => h.elim
  | _ :: _, _ :: _, [], _, _, _, _, _, _, h, _, _, _, _, _, _, _ => h.elim

theorem fn_assign (x : Str) (p : Pos) (v : Value) (Q : Unit → Shared → Prop) (E : Value → Shared → Prop) (s : Shared) (h : Wp K.M A (storeName env x v) Q E s) : Wp K.M A (assign (.Name x p) env v) Q E s := ⟨wpAny_assign_Name h.out⟩
theorem fn_bind (x : Str) (v : Value) (Q : Unit → Shared → Prop) (E : Value → Shared → Prop) (s : Shared) (h : Wp K.M A (storeName env x v) Q E s) : Wp K.M A (bindName env x v) Q E s := ⟨wpAny_bindName h.out⟩

theorem namesOf_ok (K : Cx) (A : Around) (env : Env) : ∀ {ts : List Expr} {is : List Nat}, namesOf sc vars ts = some is → ∃ xs, VarsAt sc vars xs is ∧ StFns K A env xs ((assignEach ts env).map (·.2)) ∧ (assignEach ts env).findIdx? (·.1) = none ∧ (assignEach ts env).length = is.length
  | [], is, h => by cases h; exact ⟨[], trivial, trivial, rfl, rfl⟩
  | e :: ts, is, h => by
    unfold namesOf at h
    cases hn : nameE e with
    | none => rw [hn] at h; cases h
    | some x =>
      obtain ⟨p, rfl⟩ := nameE_inv hn
      rw [hn] at h
      dsimp only at h
      cases hx : varAt sc vars x with
      | none => rw [hx] at h; cases h
      | some i =>
        rw [hx] at h
        dsimp only at h
        cases hr : namesOf sc vars ts with
        | none => rw [hr] at h; cases h
        | some r =>
          rw [hr] at h
          cases h
          obtain ⟨xs, h1, h2, h3, h4⟩ := namesOf_ok K A env hr
          refine ⟨x :: xs, ⟨hx, h1⟩, ⟨fn_assign x p, h2⟩, ?_, ?_⟩
          · show ((false, assign (.Name x p) env) :: assignEach ts env).findIdx? (·.1) = none
            rw [List.findIdx?_cons, h3]; rfl
          · show ((false, assign (.Name x p) env) :: assignEach ts env).length = _
            simp [h4]

/-- how a tuple's stores go -/
inductive Swap (ts : List Expr) (env : Env) (v : Expr) : Sem (Option (List Str)) → Prop
  | none : Swap ts env v (pure none)
  | two (a b : Str) (pa pb : Pos) : ts = [.Name a pa, .Name b pb] → a ≠ b → Swap ts env v (pure (some [a, b]))
  | three (a b c : Str) (pa pb pc : Pos) : ts = [.Name a pa, .Name b pb, .Name c pc] → a ≠ b → a ≠ c → b ≠ c → Swap ts env v (pure (some [a, b, c]))

theorem fm_two {α β : Type} {f : α → Option β} {x y : α} {N : List β} (h : [x, y].filterMap f = N) (hn : N.length = 2) : ∃ a b, f x = some a ∧ f y = some b ∧ N = [a, b] := by
  subst h
  simp only [List.filterMap_cons, List.filterMap_nil] at hn ⊢
  cases hx : f x <;> cases hy : f y <;> rw [hx, hy] at hn <;> simp at hn
  exact ⟨_, _, rfl, rfl, rfl⟩
theorem fm_three {α β : Type} {f : α → Option β} {x y z : α} {N : List β} (h : [x, y, z].filterMap f = N) (hn : N.length = 3) : ∃ a b c, f x = some a ∧ f y = some b ∧ f z = some c ∧ N = [a, b, c] := by
  subst h
  simp only [List.filterMap_cons, List.filterMap_nil] at hn ⊢
  cases hx : f x <;> cases hy : f y <;> cases hz : f z <;> rw [hx, hy, hz] at hn <;> simp at hn
  exact ⟨_, _, _, rfl, rfl, rfl, rfl⟩

theorem swap_two {a b : Str} {pa pb tp : Pos} {k : Nat} {v : Expr} {env : Env} (hp : plainSwap v = true) : Swap [.Name a pa, .Name b pb] env v (swappedStores [.Tuple [.Name a pa, .Name b pb] k tp] v env) := by
  cases v <;> try exact .none
  rename_i vs k2 p2
  have hp : (vs.all (foldedForSure 8) || !vs.all (constantsAlone 8)) = true := hp
  unfold swappedStores
  dsimp only
  split
  · exact .none
  · split
    · exact .none
    · generalize hN : List.filterMap _ _ = N
      split
      · exact .none
      · rename_i hd
        simp only [Bool.or_eq_true, not_or, bne_iff_ne, ne_eq, Classical.not_not] at hd
        split
        · exact .none
        · rename_i hf
          split
          · rename_i hc
            rw [hc] at hp
            simp only [Bool.not_true, Bool.or_false] at hp
            exact absurd hp hf
          · obtain ⟨a', b', h1, h2, rfl⟩ := fm_two hN hd.1
            dsimp only at h1 h2
            split at h1 <;> simp at h1
            split at h2 <;> simp at h2
            subst h1; subst h2
            refine .two _ _ pa pb rfl fun q => ?_
            subst q
            have := hd.2
            simp [List.eraseDups_cons] at this

theorem swap_three {a b c : Str} {pa pb pc tp : Pos} {k : Nat} {v : Expr} {env : Env} (hp : plainSwap v = true) : Swap [.Name a pa, .Name b pb, .Name c pc] env v (swappedStores [.Tuple [.Name a pa, .Name b pb, .Name c pc] k tp] v env) := by
  cases v <;> try exact .none
  rename_i vs k2 p2
  have hp : (vs.all (foldedForSure 8) || !vs.all (constantsAlone 8)) = true := hp
  unfold swappedStores
  dsimp only
  split
  · exact .none
  · split
    · exact .none
    · generalize hN : List.filterMap _ _ = N
      split
      · exact .none
      · rename_i hd
        simp only [Bool.or_eq_true, not_or, bne_iff_ne, ne_eq, Classical.not_not] at hd
        split
        · exact .none
        · rename_i hf
          split
          · rename_i hc
            rw [hc] at hp
            simp only [Bool.not_true, Bool.or_false] at hp
            exact absurd hp hf
          · obtain ⟨a', b', c', h1, h2, h3, rfl⟩ := fm_three hN hd.1
            dsimp only at h1 h2 h3
            split at h1 <;> simp at h1
            split at h2 <;> simp at h2
            split at h3 <;> simp at h3
            subst h1; subst h2; subst h3
            have := hd.2
            have e3 : ∀ x y z : Str, [x, y, z].eraseDups.length = 3 → x ≠ y ∧ x ≠ z ∧ y ≠ z := fun x y z h => by
              rw [List.eraseDups_cons] at h
              by_cases hxy : x = y
              · subst hxy
                by_cases hxz : x = z
                · subst hxz; simp at h
                · simp [List.filter_cons, List.eraseDups_cons] at h
                  split at h <;> simp [List.eraseDups_cons] at h
              · by_cases hxz : x = z
                · subst hxz
                  simp [List.filter_cons, List.eraseDups_cons] at h
                  split at h <;> simp [List.eraseDups_cons] at h
                · by_cases hyz : y = z
                  · subst hyz
                    simp [List.filter_cons] at h
                    split at h <;> simp [List.eraseDups_cons] at h
                  · exact ⟨hxy, hxz, hyz⟩
            obtain ⟨z1, z2, z3⟩ := e3 _ _ _ this
            exact .three _ _ _ pa pb pc rfl z1 z2 z3
end
end Mine
namespace Mine
open PySem PySem.SeqAt PyProof.Rows

section
variable {K : Cx} {C : Orc} {m : Nat} {sc : Scope} {vars : List Str} {A : Around} {env : Env} {s₀ : Shared} {τ₀ : Tk} {X₀ : Addr → Prop} {s s' s'' : Shared} {τ τ' τ'' : Tk} {own own' own'' : Nat → Option Addr} {ρ : Ρ}

theorem varAt_inj {a b : Str} {i : Nat} (ha : varAt sc vars a = some i) (hb : varAt sc vars b = some i) : a = b := by
  obtain ⟨_, _, _, x4⟩ := varAt_ok ha
  obtain ⟨_, _, _, y4⟩ := varAt_ok hb
  obtain ⟨z1, z2, _⟩ := List.findIdx?_eq_some_iff_getElem.mp x4
  obtain ⟨z3, z4, _⟩ := List.findIdx?_eq_some_iff_getElem.mp y4
  exact (eq_of_beq z2).symm.trans (eq_of_beq z4)

theorem setEach_length : ∀ {is : List Nat} {ps : List PV} {ρ ρ' : Ρ} {o : Bool}, setEach ρ o is ps = some ρ' → is.length = ps.length
  | [], [], _, _, _, _ => rfl
  | i :: is, p :: ps, ρ, ρ', o, h => by
    unfold setEach at h
    split at h
    · simp [setEach_length h]
    · cases h
  | [], _ :: _, _, _, _, h => by cases h
  | _ :: _, [], _, _, _, h => by cases h

theorem setAt_lt {i : Nat} {ρ : Ρ} (h : i < ρ.length) (x : Sl) : setAt ρ i x = some (ρ.set i x) := by
  unfold setAt
  have : Nat.blt i ρ.length = true := Nat.ble_eq.mpr h
  rw [this]; rfl
theorem namesOf_cons {w : Expr} {r : List Expr} {js : List Nat} (h : namesOf sc vars (w :: r) = some js) : ∃ a pa i l, w = .Name a pa ∧ varAt sc vars a = some i ∧ namesOf sc vars r = some l ∧ js = i :: l := by
  unfold namesOf at h
  cases hn : nameE w with
  | none => rw [hn] at h; cases h
  | some a =>
    obtain ⟨pa, rfl⟩ := nameE_inv hn
    rw [hn] at h
    dsimp only at h
    cases ha : varAt sc vars a with
    | none => rw [ha] at h; cases h
    | some i =>
      rw [ha] at h
      dsimp only at h
      cases hr : namesOf sc vars r with
      | none => rw [hr] at h; cases h
      | some l =>
        rw [hr] at h
        cases h
        exact ⟨_, _, _, _, rfl, ha, rfl, rfl⟩
theorem setAt_comm {i j : Nat} (hij : i ≠ j) {ρ ρ₁ ρ₂ : Ρ} {x y : Sl} (h1 : setAt ρ i x = some ρ₁) (h2 : setAt ρ₁ j y = some ρ₂) : ∃ ρ₃, setAt ρ j y = some ρ₃ ∧ setAt ρ₃ i x = some ρ₂ := by
  obtain ⟨a1, rfl⟩ := setAt_ok h1
  obtain ⟨a2, rfl⟩ := setAt_ok h2
  rw [List.length_set] at a2
  refine ⟨ρ.set j y, setAt_lt a2 y, ?_⟩
  rw [setAt_lt (by rw [List.length_set]; exact a1), List.set_comm _ _ (Ne.symm hij)]

theorem setEach2 {ρ ρ' : Ρ} {o : Bool} {i j : Nat} {p q : PV} : setEach ρ o [i, j] [p, q] = some ρ' ↔ ∃ ρ₁, setAt ρ i (if o then .o p else .v p) = some ρ₁ ∧ setAt ρ₁ j (if o then .o q else .v q) = some ρ' := by
  simp only [setEach]
  cases h1 : setAt ρ i (if o then .o p else .v p) with
  | none => simp
  | some ρ₁ =>
    cases h2 : setAt ρ₁ j (if o then .o q else .v q) with
    | none => simp [h2]
    | some ρ₂ => simp [h2]
theorem setEach3 {ρ ρ' : Ρ} {o : Bool} {i j k : Nat} {p q r : PV} : setEach ρ o [i, j, k] [p, q, r] = some ρ' ↔ ∃ ρ₁ ρ₂, setAt ρ i (if o then .o p else .v p) = some ρ₁ ∧ setAt ρ₁ j (if o then .o q else .v q) = some ρ₂ ∧ setAt ρ₂ k (if o then .o r else .v r) = some ρ' := by
  simp only [setEach]
  cases h1 : setAt ρ i (if o then .o p else .v p) with
  | none => simp
  | some ρ₁ =>
    cases h2 : setAt ρ₁ j (if o then .o q else .v q) with
    | none => simp [h2]
    | some ρ₂ =>
      cases h3 : setAt ρ₂ k (if o then .o r else .v r) with
      | none => simp [h2, h3]
      | some ρ₃ => simp [h2, h3]

theorem swap2 {ρ ρ' : Ρ} {i j : Nat} {p q : PV} (hij : i ≠ j) (h : setEach ρ o [i, j] [p, q] = some ρ') : setEach ρ o [j, i] [q, p] = some ρ' := by
  obtain ⟨ρ₁, h1, h2⟩ := setEach2.mp h
  exact setEach2.mpr (setAt_comm hij h1 h2)
theorem swap3 {ρ ρ' : Ρ} {i j k : Nat} {p q r : PV} (hij : i ≠ j) (hik : i ≠ k) (hjk : j ≠ k) (h : setEach ρ o [i, j, k] [p, q, r] = some ρ') : setEach ρ o [k, j, i] [r, q, p] = some ρ' := by
  obtain ⟨ρ₁, ρ₂, h1, h2, h3⟩ := setEach3.mp h
  -- i j k -> i k j -> k i j -> k j i
  obtain ⟨ρ₄, g1, g2⟩ := setAt_comm hjk h2 h3
  obtain ⟨ρ₅, f1, f2⟩ := setAt_comm hik h1 g1
  obtain ⟨ρ₆, e1, e2⟩ := setAt_comm hij f2 g2
  exact setEach3.mpr ⟨ρ₅, ρ₆, f1, e1, e2⟩

theorem Ext.but0 {s : Shared} {τ : Tk} {h' : Heap} (T : TokOk s τ) (hx : Heap.ExtBut s.heap.objs.size s.heap h') : Ext s τ { s with heap := h' } τ :=
  .heap T fun b o e => hx b o (Nat.ne_of_lt (Heap.lt_size e)) e

/-- the stores of a tuple, in whichever order -/
theorem unp_stores {ts : List Expr} {is : List Nat} {k : Nat} {tp : Pos} {v : Expr} (hn : namesOf sc vars ts = some is) (hlen : ts.length = 2 ∨ ts.length = 3) (hp : plainSwap v = true)
    {s : Shared} {own : Nat → Option Addr} {ρ ρ' : Ρ} {t : Addr} {us : List Value} {ps : List PV} (F : Fr K m sc vars A env s₀ τ₀ X₀ s τ own ρ) (hpt : PT s.heap t us) (hrl : RdL K ⟨s.heap, τ⟩ (XO X₀ env own) us ps) (hset : setEach ρ false is ps = some ρ')
    {Q : Flow → Shared → Prop} {E : Value → Shared → Prop} (hQ : ∀ s' own', Fr K m sc vars A env s₀ τ₀ X₀ s' τ own' ρ' → Stp env s τ own s' τ own' → Q .next s') :
    Wp K.M A (swappedStores [.Tuple ts k tp] v env >>= fun sw => assignStores env (.ref t) sw ((assignEach [.Tuple ts k tp] env).map (·.2))) Q E s := by
  have hh := F.room.handled
  have hul : us.length = is.length := by rw [hrl.length, setEach_length hset]
  have hnone : Wp K.M A (assignStores env (.ref t) none ((assignEach [.Tuple ts k tp] env).map (·.2))) Q E s := by
    show Wp K.M A (assign (.Tuple ts k tp) env (.ref t) >>= fun _ => pure .next) Q E s
    obtain ⟨xs, g1, g2, g3, g4⟩ := namesOf_ok K A env hn
    refine .bind ⟨wpAny_assign_Tuple hh hpt.isTuple (by rw [g4, List.size_toArray, hul]) g3 fun h' hx => ?_⟩
    have e1 : Ext s τ { s with heap := h' } τ := .but0 F.ext.ok hx
    exact (stores_ok g2 g1 (F.step e1) (hrl.ext e1) hset fun s₂ own₂ F₂ st₂ => .pure (hQ _ _ F₂ ((Stp.ext e1).trans st₂))).out
  have hsome : ∀ (names : List Str) (js : List Nat), names.length = us.length → VarsAt sc vars names.reverse js → setEach ρ false js ps.reverse = some ρ' → Wp K.M A (assignStores env (.ref t) (some names) ((assignEach [.Tuple ts k tp] env).map (·.2))) Q E s := by
    intro names js hl hv hs'
    show Wp K.M A (rule "assign.swapped-stores" >>= fun _ => unpackItems (.ref t) names.length none >>= fun items => assignInOrder (names.reverse.map fun n => bindName env n) items.reverse >>= fun _ => pure .next) Q E s
    refine .bind ⟨wpAny_rule ?_⟩
    have hz : names.length = us.toArray.size := by simpa using hl
    rw [hz]
    refine .bind ⟨wpAny_unpackItems_tuple hh hpt.isTuple fun h' hx => ?_⟩
    have e1 : Ext s τ { s with heap := h' } τ := .but0 F.ext.ok hx
    have hfn : ∀ l : List Str, StFns K A env l (l.map fun n => bindName env n) := fun l => by
      induction l with
      | nil => trivial
      | cons x l ih => exact ⟨fn_bind x, ih⟩
    exact .bind (stores_ok (hfn _) hv (F.step e1) (hrl.ext e1).reverse hs' fun s₂ own₂ F₂ st₂ => .pure (hQ _ _ F₂ ((Stp.ext e1).trans st₂)))
  match ts, hlen, hn, hnone, hsome with
  | [x, y], _, hn, hnone, hsome =>
    obtain ⟨a, pa, i, l1, rfl, va, h1, rfl⟩ := namesOf_cons hn
    obtain ⟨b, pb, j, l2, rfl, vb, h2, rfl⟩ := namesOf_cons h1
    cases h2
    have hsw := swap_two (a := a) (b := b) (pa := pa) (pb := pb) (tp := tp) (k := k) (env := env) hp
    generalize swappedStores [.Tuple [.Name a pa, .Name b pb] k tp] v env = sw at hsw ⊢
    cases hsw with
    | none => exact .bind (.pure hnone)
    | two a' b' pa' pb' heq hne =>
      cases heq
      have hps : ∃ p q, ps = [p, q] := by
        have := setEach_length hset
        match ps, this with
        | [p, q], _ => exact ⟨p, q, rfl⟩
      obtain ⟨p, q, rfl⟩ := hps
      refine .bind (.pure (hsome [a, b] [j, i] (by rw [hul]; rfl) ⟨vb, va, trivial⟩ ?_))
      exact swap2 (fun e => hne (varAt_inj (e ▸ va) vb)) hset
    | three a' b' c' pa' pb' pc' heq => cases heq
  | [x, y, z], _, hn, hnone, hsome =>
    obtain ⟨a, pa, i, l1, rfl, va, h1, rfl⟩ := namesOf_cons hn
    obtain ⟨b, pb, j, l2, rfl, vb, h2, rfl⟩ := namesOf_cons h1
    obtain ⟨c, pc, l, l3, rfl, vc, h3, rfl⟩ := namesOf_cons h2
    cases h3
    have hsw := swap_three (a := a) (b := b) (c := c) (pa := pa) (pb := pb) (pc := pc) (tp := tp) (k := k) (env := env) hp
    generalize swappedStores [.Tuple [.Name a pa, .Name b pb, .Name c pc] k tp] v env = sw at hsw ⊢
    cases hsw with
    | none => exact .bind (.pure hnone)
    | two a' b' pa' pb' heq => cases heq
    | three a' b' c' pa' pb' pc' heq n1 n2 n3 =>
      cases heq
      have hps : ∃ p q r, ps = [p, q, r] := by
        have := setEach_length hset
        match ps, this with
        | [p, q, r], _ => exact ⟨p, q, r, rfl⟩
      obtain ⟨p, q, r, rfl⟩ := hps
      refine .bind (.pure (hsome [a, b, c] [l, j, i] (by rw [hul]; rfl) ⟨vc, vb, va, trivial⟩ ?_))
      exact swap3 (fun e => n1 (varAt_inj (e ▸ va) vb)) (fun e => n2 (varAt_inj (e ▸ va) vc)) (fun e => n3 (varAt_inj (e ▸ vb) vc)) hset

theorem ex_unp {ts : List Expr} {is : List Nat} {k : Nat} {tp pos : Pos} {v : Expr} {e : Mine.X} (hn : namesOf sc vars ts = some is) (hlen : ts.length = 2 ∨ ts.length = 3) (hp : plainSwap v = true) (hc : isCompE v = false) (ih : EvAt K C m sc vars v e) :
    ExAt K C m sc vars (.Assign [.Tuple ts k tp] v pos) (.unp is false e) := by
  intro A env s₀ τ₀ X₀ s τ own ρ r F he Q E hQ
  simp only [ex] at he
  split at he
  · rename_i ps hx
    rw [Option.map_eq_some_iff] at he
    obtain ⟨ρ', hset, rfl⟩ := he
    simp only [Bool.false_and] at hset
    show Wp K.M A (standAt pos >>= fun _ => swapsWith v (some (.Tuple ts k tp)) pos.line env >>= fun b => if b = true then (evalThenUse v env (fun u => assignAll u ((assignEach [.Tuple ts k tp] env).map (·.2))) >>= fun _ => pure .next) else (eval v env >>= fun u => swappedStores [.Tuple ts k tp] v env >>= fun sw => assignStores env u sw ((assignEach [.Tuple ts k tp] env).map (·.2)))) Q E s
    refine .bind (.stand (.bind (.of_eq (swaps_false hc _ _ _) ?_)))
    rw [if_neg Bool.false_ne_true]
    refine .bind (ih A env s τ _ own ρ _ F.frm hx _ E fun u s₁ τ₁ ⟨h1, h2, _⟩ => ?_)
    obtain ⟨t, us, rfl, _, hpt, hrl⟩ := h2
    have F₁ := (F.drop (al e)).step h1
    exact unp_stores hn hlen hp F₁ hpt (hrl.less fun b hb => F.offDrop (al e) hb) hset fun s₂ own₂ F₂ st₂ => hQ.nxt _ rfl _ _ _ F₂ (((Stp.drop (al e)).trans (.ext h1)).trans st₂)
  · cases he
end
end Mine

namespace Mine
open PySem PySem.SeqAt PyProof.Rows

section
variable {K : Cx} {C : Orc} {m : Nat} {sc : Scope} {vars : List Str} {ft : List Str}

theorem comp_of {sc : Scope} {vars : List Str} {v : Expr} {w : EV} (hv : IsV v w) : (∃ elt iter y q ifs scope p, v = .ListComp elt [⟨.Name y q, iter, ifs, 0⟩] scope p ∧ w = .comp elt iter y ifs scope) ∨ w = .other ∨ isCompE v = false := by
  cases hv <;> first | exact .inr (.inr rfl) | exact .inr (.inl rfl) | exact .inl ⟨_, _, _, _, _, _, _, rfl, rfl⟩
theorem comp_not {n : Nat} {v : Expr} {e : Mine.X} (h : cx n ft sc vars v = some e) (hl : ∀ a b c d, v ≠ .ListComp a b c d) : isCompE v = false := by
  cases n with
  | zero => cases h
  | succ n =>
    rcases comp_of (sc := sc) (vars := vars) (viewE_ok v) with ⟨_, _, _, _, _, _, _, rfl, _⟩ | hw | hc
    · exact absurd rfl (hl _ _ _ _)
    · have h : cxV (cx n ft) ft sc vars (viewE v) = some e := h
      rw [hw] at h; cases h
    · exact hc

theorem cx_asg (G : Glb K ft) (S : Sound K ft m C) {n : Nat} {v : Expr} {e : Mine.X} (h : cx n ft sc vars v = some e) {y : Str} {py pos : Pos} {i : Nat} (hy : varAt sc vars y = some i) :
    ExAt K C m sc vars (.Assign [.Name y py] v pos) (.asg i true e) := by
  cases n with
  | zero => cases h
  | succ n =>
    have ih := cx_ok (m := m) G S n
    have h' : cxV (cx n ft) ft sc vars (viewE v) = some e := h
    rcases comp_of (sc := sc) (vars := vars) (viewE_ok v) with ⟨elt, iter, z, q, ifs, scope, p, rfl, hw⟩ | hw | hc
    · rw [hw] at h'
      obtain ⟨i', el, hc, h1, h2, h3⟩ := comp_inv h'
      have ok := compOk_ok hc
      rcases h3 with ⟨rfl, rfl⟩ | ⟨c, z', rfl, h3, rfl⟩
      · exact ex_asg_comp hy ok (ih _ _ _ _ h1).1 (ih _ _ _ _ h2).1 (.inl ⟨rfl, rfl⟩) fun env v => odd_folded (cx_odd h1) env v
      · exact ex_asg_comp hy ok (ih _ _ _ _ h1).1 (ih _ _ _ _ h2).1 (.inr ⟨_, rfl, (ih _ _ _ _ h3).2⟩) fun env v => odd_folded (cx_odd h1) env v
    · rw [hw] at h'; cases h'
    · exact ex_asg hy (cx_ok (m := m) G S _ _ _ _ _ h).1 hc

/-- what the loop over a zip is to do -/
noncomputable def ZipOk (K : Cx) (C : Orc) (m : Nat) : Prop := ∀ (sc : Scope) (vars : List Str) (ts : List Expr) (k : Nat) (tp pos : Pos) (it e1 e2 : Expr) (b : List Stmt) (i j : Nat) (x y : Mine.X) (body : SL), isGlobK (sc.names.lookup ("zip" : Str)) = true →
  namesOf sc vars ts = some [i, j] → isZip it = some (e1, e2) → EvL K C m sc vars [e1, e2] (.cons x (.cons y .nil)) → ExsAt K C m sc vars b body → ExAt K C m sc vars (.For (.Tuple ts k tp) it b [] pos) (.frz i j x y body)

theorem s1_inv {f : Mine.X → Mine.S} {o : Option Mine.X} {x : Mine.S} (h : s1 f o = some x) : ∃ a, o = some a ∧ x = f a := by
  cases o with
  | none => cases h
  | some a => cases h; exact ⟨a, rfl, rfl⟩
theorem s2_inv {f : Mine.X → Mine.X → Mine.S} {o q : Option Mine.X} {x : Mine.S} (h : s2 f o q = some x) : ∃ a b, o = some a ∧ q = some b ∧ x = f a b := by
  cases o with
  | none => cases h
  | some a =>
    obtain ⟨b, h1, h2⟩ := s1_inv h
    exact ⟨a, b, rfl, h1, h2⟩
theorem sAt_inv {o : Option Nat} {f : Nat → Option Mine.S} {x : Mine.S} (h : sAt o f = some x) : ∃ i, o = some i ∧ f i = some x := by
  cases o with
  | none => cases h
  | some i => exact ⟨i, rfl, h⟩
theorem sIs_inv {o : Option (List Nat)} {f : List Nat → Option Mine.S} {x : Mine.S} (h : sIs o f = some x) : ∃ i, o = some i ∧ f i = some x := by
  cases o with
  | none => cases h
  | some i => exact ⟨i, rfl, h⟩
theorem sX_inv {o : Option Mine.X} {f : Mine.X → Option Mine.S} {x : Mine.S} (h : sX o f = some x) : ∃ i, o = some i ∧ f i = some x := by
  cases o with
  | none => cases h
  | some i => exact ⟨i, rfl, h⟩
theorem sLL_inv {o : Option SL} {f : SL → Option Mine.S} {x : Mine.S} (h : sLL o f = some x) : ∃ i, o = some i ∧ f i = some x := by
  cases o with
  | none => cases h
  | some i => exact ⟨i, rfl, h⟩
theorem sL_inv {f : SL → Mine.S} {o : Option SL} {x : Mine.S} (h : sL f o = some x) : ∃ a, o = some a ∧ x = f a := by
  cases o with
  | none => cases h
  | some a => cases h; exact ⟨a, rfl, rfl⟩
theorem sIf_inv {b : Bool} {o : Option Mine.S} {x : Mine.S} (h : sIf b o = some x) : b = true ∧ o = some x := by
  cases b with
  | true => exact ⟨rfl, h⟩
  | false => cases h

theorem csL_ok {f : Stmt → Option Mine.S} (ih : ∀ e x, f e = some x → ExAt K C m sc vars e x) : ∀ {es : List Stmt} {l : SL}, csL f es = some l → ExL K C m sc vars es l
  | [], l, h => by cases h; trivial
  | e :: es, l, h => by
    unfold csL at h
    cases h1 : f e with
    | none => rw [h1] at h; cases h
    | some x =>
      cases h2 : csL f es with
      | none => rw [h1, h2] at h; cases h
      | some r =>
        rw [h1, h2] at h
        cases h
        exact ⟨ih _ _ h1, csL_ok ih h2⟩

theorem cs_ok (G : Glb K ft) (S : Sound K ft m C) {zp : Bool} (hz : zp = true → ZipOk K C m) : ∀ (n : Nat) (sc : Scope) (vars : List Str) (st : Stmt) (x : Mine.S), cs zp n ft sc vars st = some x → ExAt K C m sc vars st x
  | 0, _, _, _, _, h => by cases h
  | n + 1, sc, vars, st, x, h => by
    have ih := cs_ok G S hz n sc vars
    have ihL : ∀ {es : List Stmt} {l : SL}, csL (cs zp n ft sc vars) es = some l → ExsAt K C m sc vars es l := fun h => exs_ok (csL_ok ih h)
    have ie := cx_ok (m := m) G S n sc vars
    have key : ∀ (ts : List Expr) (k : Nat) (tp : Pos) (v : Expr) (pos : Pos) (is : List Nat) (e : Mine.X), namesOf sc vars ts = some is → cx n ft sc vars v = some e → plainSwap v = true → 2 ≤ ts.length → ts.length ≤ 3 → ExAt K C m sc vars (.Assign [.Tuple ts k tp] v pos) (.unp is false e) := by
      intro ts k tp v pos is e hn hv hp h2 h3
      have hl : ts.length = 2 ∨ ts.length = 3 := by omega
      exact ex_unp hn hl hp (comp_not hv fun a b c d q => by subst q; cases hp) (ie _ _ hv).1
    have h : csV zp (cs zp n ft sc vars) (cx n ft sc vars) sc vars (viewS st) = some x := h
    have hv := viewS_ok st
    generalize viewS st = v at hv h
    cases hv with
    | asgN y q v p =>
      obtain ⟨i, hy, h⟩ := sAt_inv h
      obtain ⟨e, hv, rfl⟩ := s1_inv h
      exact cx_asg G S hv hy
    | asgT ts k q v p =>
      obtain ⟨hb, h⟩ := sIf_inv h
      simp only [Bool.and_eq_true] at hb
      obtain ⟨is, hn, h⟩ := sIs_inv h
      obtain ⟨e, hv, rfl⟩ := s1_inv h
      exact key _ _ _ _ _ _ _ hn hv hb.2.1 (Nat.le_of_ble_eq_true hb.2.2.1) (Nat.le_of_ble_eq_true hb.2.2.2)
    | asgI o q k r v p =>
      obtain ⟨i, ho, h⟩ := sAt_inv h
      obtain ⟨a, e, hk, hv, rfl⟩ := s2_inv h
      exact ex_setI ho (ie _ _ hk).1 (ie _ _ hv).1
    | augN y q op v p =>
      cases h
    | augI o q k r op v p =>
      obtain ⟨i, ho, h⟩ := sAt_inv h
      obtain ⟨a, e, hk, hv, rfl⟩ := s2_inv h
      exact ex_augI ho (ie _ _ hk).1 (ie _ _ hv).1 (cx_odd hk)
    | app o q apos a cpos p hl =>
      obtain ⟨i, ho, h⟩ := sAt_inv h
      obtain ⟨e, hv, rfl⟩ := s1_inv h
      exact ex_app ho (ie _ _ hv).1 (odd_star (cx_odd hv)) hl
    | ret v p =>
      obtain ⟨e, hv, rfl⟩ := s1_inv h
      exact ex_ret (ie _ _ hv).1
    | ite c a b p =>
      obtain ⟨x, h1, h⟩ := sX_inv h
      obtain ⟨y, h2, h⟩ := sLL_inv h
      obtain ⟨z, h3, rfl⟩ := sL_inv h
      exact ex_ite (ie _ _ h1).2 (ihL h2) (ihL h3)
    | forN y q it b p =>
      obtain ⟨i, h1, h⟩ := sAt_inv h
      obtain ⟨e, h2, h⟩ := sX_inv h
      obtain ⟨z, h3, rfl⟩ := sL_inv h
      exact ex_for h1 (ie _ _ h2).1 (ihL h3) fun env v => odd_folded (cx_odd h2) env v
    | forT ts k q it b p =>
      obtain ⟨hb, h⟩ := sIf_inv h
      rw [Bool.and_eq_true] at hb
      obtain ⟨is, h1, h⟩ := sIs_inv h
      obtain ⟨body, h3, h⟩ := sLL_inv h
      rcases is with _ | ⟨i, _ | ⟨j, _ | _⟩⟩ <;> first | (cases h; done) | skip
      unfold zipS at h
      dsimp only at h
      cases h2 : isZip it with
      | none => rw [h2] at h; cases h
      | some e12 =>
        rw [h2] at h
        obtain ⟨e1, e2⟩ := e12
        obtain ⟨x1, x2, h4, h5, rfl⟩ := s2_inv h
        exact hz hb.1 _ _ _ _ _ _ _ _ _ _ _ _ _ _ _ hb.2 h1 h2 ⟨(ie _ _ h4).1, (ie _ _ h4).2, odd_star (cx_odd h4), (ie _ _ h5).1, (ie _ _ h5).2, odd_star (cx_odd h5), trivial⟩ (ihL h3)
    | whl c b p =>
      cases h
    | tr b hh hs p =>
      obtain ⟨l, hv, rfl⟩ := sL_inv h
      exact ex_try (ihL hv)
    | other => cases h
end
end Mine
namespace Mine
open PySem PySem.Calls PyProof.Rows

theorem lookup_zip : ∀ {ps : List Str} {vs : List Value}, vs.length = ps.length → ∀ n ∈ ps, ((ps.zip vs).lookup n).isSome = true
  | [], _, _, n, h => by cases h
  | p :: ps, v :: vs, hl, n, h => by
    rw [List.zip_cons_cons, List.lookup_cons]
    cases hn : n == p with
    | true => rfl
    | false =>
      rcases List.mem_cons.mp h with rfl | h
      · simp at hn
      · exact lookup_zip (by simpa using hl) n h
theorem zip_again : ∀ {ps : List Str} {vs : List Value}, ps.Nodup → vs.length = ps.length → (ps.filterMap fun n => ((ps.zip vs).lookup n).map (n, ·)) = ps.zip vs := by
  have key : ∀ (ps : List Str) (vs : List Value) (slots : List (Str × Value)), ps.Nodup → vs.length = ps.length → (∀ n ∈ ps, slots.lookup n = (ps.zip vs).lookup n) → (ps.filterMap fun n => (slots.lookup n).map (n, ·)) = ps.zip vs := by
    intro ps
    induction ps with
    | nil => intro vs slots _ _ _; rfl
    | cons p ps ih =>
      intro vs slots hn hl hs
      match vs, hl with
      | v :: vs, hl =>
        have h0 := hs p List.mem_cons_self
        rw [List.zip_cons_cons, List.lookup_cons, beq_self_eq_true] at h0
        rw [List.filterMap_cons, h0, List.zip_cons_cons]
        simp only [Option.map]
        rw [List.nodup_cons] at hn
        refine congrArg _ (ih vs slots hn.2 (by simpa using hl) fun n hm => ?_)
        rw [hs n (List.mem_cons_of_mem _ hm), List.zip_cons_cons, List.lookup_cons]
        have : (n == p) = false := by simpa using fun e : n = p => hn.1 (e ▸ hm)
        rw [this]
  exact fun {_ _} hn hl => key _ _ _ hn hl fun _ _ => rfl

theorem bind_ok {ps : List Str} {name : Str} {body : List Stmt} {sc : Scope} {pm code doc : Value} {args : Arguments} {vs : List Value} (hp : paramsOf args = some ps) (hnd : ps.Nodup) (hl : vs.length = ps.length) : bindArgs (docDef name args body sc pm code doc) ⟨vs, []⟩ = pure (ps.zip vs) := by
  unfold paramsOf at hp
  split at hp
  · rename_i as
    cases hp
    have hm : List.filter (fun n => (((as.map (·.arg)).zip vs).lookup n).isNone) (as.map (·.arg)) = [] := by
      rw [List.filter_eq_nil_iff]
      intro n hn h
      have := lookup_zip hl n hn
      rw [Option.isNone_iff_eq_none] at h
      rw [h] at this; cases this
    have hz := zip_again hnd hl
    unfold bindArgs docDef
    simp only [List.map_nil, List.nil_append, List.forIn_nil, List.append_nil]
    have hd : seqItems? Value.none = pure none := rfl
    rw [hd]
    show (if _ then _ else _ : Sem _) = _
    have hg : ¬ (vs.length > (as.map (·.arg)).length) := by omega
    rw [if_neg (by simp only [Bool.and_eq_true, decide_eq_true_eq]; exact fun q => hg q.1)]
    generalize hps : as.map (·.arg) = ps at *
    have ht : List.take (ps.length - (List.drop (([] : List Value).length - ps.length) ([] : List Value)).length) ps = ps := by simp
    have hc : ¬ (!(List.filter (fun n => (List.lookup n (ps.zip vs)).isNone) (List.take (ps.length - (List.drop (([] : List Value).length - ps.length) ([] : List Value)).length) ps)).isEmpty) = true := by
      rw [ht, hm]; decide
    refine (if_neg hc).trans ?_
    have he : (List.drop (ps.length - (List.drop (((none : Option (Array Value)).getD #[]).toList.length - ps.length) ((none : Option (Array Value)).getD #[]).toList).length) ps).zip (List.drop (((none : Option (Array Value)).getD #[]).toList.length - ps.length) ((none : Option (Array Value)).getD #[]).toList) = [] := by simp
    rw [he, List.forIn_nil]
    show (pure _ : Sem _) = _
    rw [hz]
  · cases hp
end Mine
namespace Mine
open PySem PySem.SeqAt PySem.Calls PyProof.Rows

section
variable {K : Cx} {C : Orc} {m : Nat} {ft : List Str}

theorem bindL_not {k : Str → Option NameKind} {y : Str} : ∀ {r : List (Str × Value)} {m : Str → Option Value}, y ∉ r.map (·.1) → bindL k r m y = m y
  | [], _, _ => rfl
  | (n, v) :: r, m, h => by
    simp only [List.map_cons, List.mem_cons, not_or] at h
    unfold bindL
    rw [bindL_not h.2]
    split
    · exact if_neg h.1
    · rfl
theorem bindL_at {k : Str → Option NameKind} {y : Str} {v : Value} (hk : k y = some .local) : ∀ {r : List (Str × Value)} {m : Str → Option Value}, (r.map (·.1)).Nodup → (y, v) ∈ r → bindL k r m y = some v
  | (n, u) :: r, m, hn, h => by
    simp only [List.map_cons, List.nodup_cons] at hn
    unfold bindL
    rcases List.mem_cons.mp h with h | h
    · cases h
      rw [bindL_not hn.1, if_pos hk, if_pos rfl]
    · exact bindL_at hk hn.2 h
theorem bindC_not {k : Str → Option NameKind} {y : Str} : ∀ {r : List (Str × Value)} {m : Str → Option Value}, y ∉ r.map (·.1) → bindC k r m y = m y
  | [], _, _ => rfl
  | (n, v) :: r, m, h => by
    simp only [List.map_cons, List.mem_cons, not_or] at h
    unfold bindC
    rw [bindC_not h.2]
    split
    · rfl
    · exact if_neg h.1
theorem bindC_at {k : Str → Option NameKind} {y : Str} {v : Value} (hk : k y ≠ some .local) : ∀ {r : List (Str × Value)} {m : Str → Option Value}, (r.map (·.1)).Nodup → (y, v) ∈ r → bindC k r m y = some v
  | (n, u) :: r, m, hn, h => by
    simp only [List.map_cons, List.nodup_cons] at hn
    unfold bindC
    rcases List.mem_cons.mp h with h | h
    · cases h
      rw [bindC_not hn.1, if_neg hk, if_pos rfl]
    · exact bindC_at hk hn.2 h

theorem zip_fst : ∀ {ps : List Str} {vs : List Value}, vs.length = ps.length → (ps.zip vs).map (·.1) = ps
  | [], _, _ => rfl
  | p :: ps, v :: vs, h => by
    rw [List.zip_cons_cons, List.map_cons, zip_fst (by simpa using h)]

/-- a def and its term -/
structure FnAt (K : Cx) (ft : List Str) (zp : Bool) (f : Nat) (fn : Fn) : Prop where
  out : ∃ d ∈ recsOf K.p, ft[f]? = some d.name ∧ ∃ ps fuel, paramsOf d.params = some ps ∧ csL (cs zp fuel ft d.scope (varsOf ps d.scope)) d.body = some fn.body ∧ fn.np = ps.length ∧ fn.nv = (varsOf ps d.scope).length ∧ ps.Nodup ∧
    d.scope.isCoroutine = false ∧ d.scope.isGenerator = false ∧ d.scope.kind = .function ∧ ∀ p ∈ ps, isVarK (d.scope.names.lookup p) = true

theorem call_env {A : Around} {s : Shared} {R : Result → Shared → Prop} {a : Addr} {o : Obj} {fd : FuncData} {body : List Stmt} {vals : List Value} {binds : List (Str × Value)}
    (hroom : A.depth < recursionLimit) (ho : s.heap.get? a = some o) (hdata : o.data = .func fd) (hlim : s.heap.NoLimit) (hcd : s.heap.CodeRec fd.code fd.qualname)
    (hbody : fd.body = .stmts body) (hbind : bindArgs fd ⟨vals, []⟩ = pure binds) (hclo : fd.closure = [])
    (hkind : ∀ x ∈ binds, fd.scope.names.lookup x.1 = some .local ∨ (fd.scope.names.lookup x.1 = some .cell ∧ ((cellsFrom (s.heap.objs.size + 1) fd.scope.names []).lookup x.1).isSome = true))
    (h : ∀ s₁, s.toks ≤ s₁.toks → InCallC s (callEnvC fd s.heap.objs.size a).locals (bindL (callEnvC fd s.heap.objs.size a).kindOf binds fun _ => none) (callEnvC fd s.heap.objs.size a).cells
        (bindC (callEnvC fd s.heap.objs.size a).kindOf binds fun _ => none) s₁ →
      ∀ E, Wp K.M (A.deeper (callEnvC fd s.heap.objs.size a)) (execs body (callEnvC fd s.heap.objs.size a)) (fun f s' => R (.ok (.ret (match f with | .ret v => v | _ => .none))) s') E s₁)
    (hco : fd.scope.isCoroutine = false) (hgen : fd.scope.isGenerator = false) (hk : fd.scope.kind = .function) :
    Cp K.M A (.call (.ref a) ⟨vals, []⟩) R s := by
  refine ⟨codeAny_call_function hroom ho hdata hco hgen hbody hcd ?_⟩
  rw [hbind, hclo]
  refine wpAny_pure (Wp.untok ⟨wpAny_newFunctionEnv_cells hk hkind fun env he s' x => ?_⟩).out
  subst he
  exact fun hle => ⟨hlim.keeps x.toInCall.keep, codeAny_func (h s' hle x _).out⟩

theorem fn_runs (G : Glb K ft) (S : Sound K ft m C) {zp : Bool} (hz : zp = true → ZipOk K C m) {f : Nat} {fn : Fn} (D : FnAt K ft zp f fn) {args : List PV} {r : PV} (hr : run C fn args = some r) : Runs K ft (m + 1) f args r := by
  obtain ⟨d, hd, hf, ps, fuel, hps, hcs, hnp, hnv, hnd, hco, hgen, hk, hpk⟩ := D.out
  intro name A s τ X vs fa hname hfa hroom hT tok hvs hX R hR
  rw [hf] at hname
  cases hname
  obtain ⟨a, o, pm, code, doc, h1, h2, h3, h4⟩ := hT.top.fn d hd
  rw [h1] at hfa
  cases hfa
  unfold run at hr
  split at hr
  · rename_i hlen
    have hlen : args.length = ps.length := by rw [← hnp]; exact eq_of_beq hlen
    have hvl : vs.length = ps.length := by rw [hvs.length, hlen]
    split at hr
    · rename_i v hex
      cases hr
      have hL := get_size s.heap
      have hge : ∀ c, s.heap.objs.size ≤ c → s.heap.get? c = none := fun c hc => by
        cases e : s.heap.get? c with
        | none => rfl
        | some o => exact absurd (Heap.lt_size e) (Nat.not_lt.mpr hc)
      have hcellx : ∀ x, d.scope.names.lookup x = some .cell → ∃ c, (cellsFrom (s.heap.objs.size + 1) d.scope.names []).lookup x = some c := fun x hx => by
        obtain ⟨c, hc, _⟩ := cellsFrom_own (x := x) 0 d.scope.names (s.heap.push { cls := .type "frame", data := .dict #[] }) [] (Nat.zero_le _) (.inr (lookup_mem hx))
        rw [Heap.size_push] at hc
        exact ⟨c, hc⟩
      refine call_env (K := K) (Nat.lt_of_le_of_lt (Nat.le_add_right _ _) hroom.depth) h2 h3 hT.top.nolimit h4 rfl (bind_ok hps hnd hvl) rfl (fun x hx => ?_) (fun s₁ htk IC E => ?_) hco hgen hk
      · have hxp : x.1 ∈ ps := by
          have : x.1 ∈ (ps.zip vs).map (·.1) := List.mem_map_of_mem hx
          rwa [zip_fst hvl] at this
        have := hpk _ hxp
        cases hl : d.scope.names.lookup x.1 with
        | none => rw [hl] at this; cases this
        | some k =>
          rw [hl] at this
          have hcase : k = .local ∨ k = .cell := by cases k <;> first | (exact .inl rfl) | (exact .inr rfl) | (cases this; done)
          rcases hcase with rfl | rfl
          · exact .inl hl
          · obtain ⟨c, hc⟩ := hcellx _ hl
            exact .inr ⟨hl, by show ((cellsFrom (s.heap.objs.size + 1) d.scope.names []).lookup x.1).isSome = true; rw [hc]; rfl⟩
      · generalize henv : callEnvC (docDef d.name d.params d.body d.scope pm code doc) s.heap.objs.size fa = env at IC ⊢
        have e1 : env.scope = d.scope := by rw [← henv]; rfl
        have e2 : env.locals = s.heap.objs.size := by rw [← henv]; rfl
        have e3 : env.globals = mainGlobals := by rw [← henv]; rfl
        have e4 : env.builtins = builtinsNs := by rw [← henv]; rfl
        have e5 : env.cells = cellsFrom (s.heap.objs.size + 1) d.scope.names [] := by rw [← henv]; rfl
        have hkof : ∀ y, env.kindOf y = d.scope.names.lookup y := fun y => by show env.scope.names.lookup y = _; rw [e1]
        have hext : Ext s τ s₁ τ := by
          obtain ⟨h', tk, rfl⟩ := IC.toInCall.same
          exact .of IC.toInCall.keep tok htk
        have hlo : ∀ b, Lo env b → s.heap.get? b = none := fun b hb => by
          rcases hb with rfl | ⟨n, hn⟩
          · rw [e2]; exact hL
          · have := IC.above n b (PySem.mem_of_lookup hn)
            rw [e2] at this
            exact hge b (Nat.le_of_lt this)
        have F : Fr K m d.scope (varsOf ps d.scope) (A.deeper env) env s τ X s₁ τ (fun _ => none) (args.map .v ++ List.replicate (fn.nv - fn.np) .no) := by
          refine ⟨⟨hroom.handled, ?_, ?_⟩, hT, hext, hX.keep hext.keep, fun j a h => (by cases h), fun b hb hx => ?_, hlo, fun j a h => (by cases h), fun j a h => (by cases h), fun i j a h => (by cases h), fun i c h => ?_, fun i a h => (by cases h), ⟨_, IC.toInCall.ns⟩, fun n c hc => ⟨⟨_, IC.cell n c hc⟩, ?_⟩, fun n n' c h h' => name_of_addr IC.apart (PySem.mem_of_lookup h) (PySem.mem_of_lookup h'),
            ⟨e1, hk, e3, e4, fun y i p g0 g1 g2 g3 => ?_, fun x hx => by rw [e5]; exact hcellx x hx⟩⟩
          · have := hroom.depth
            show A.depth + 1 + m < recursionLimit
            omega
          · have := hroom.units
            show A.units + 3 + 100 * m + 100 < cLine
            omega
          · obtain ⟨o', ho'⟩ := hX b hx
            rw [hlo b hb] at ho'; cases ho'
          · exfalso
            rcases Nat.lt_or_ge i args.length with hi | hi
            · rw [List.getElem?_append_left (by simpa using hi), List.getElem?_map] at h
              rw [List.getElem?_eq_getElem hi] at h
              cases h
            · rw [List.getElem?_append_right (by simpa using hi)] at h
              have := List.mem_of_getElem? h
              rw [List.mem_replicate] at this
              cases this.2
          · have := IC.above n c (PySem.mem_of_lookup hc)
            exact Nat.ne_of_gt this
          · have hi : i < args.length := by
              rcases Nat.lt_or_ge i args.length with hi | hi
              · exact hi
              · rw [List.getElem?_append_right (by simpa using hi)] at g3
                cases hh : (List.replicate (fn.nv - fn.np) Sl.no)[i - (args.map Sl.v).length]? with
                | none => rw [hh] at g3; cases g3
                | some sl =>
                  have := List.mem_of_getElem? hh
                  rw [List.mem_replicate] at this
                  rw [hh, this.2] at g3
                  cases g3
            rw [List.getElem?_append_left (by simpa using hi), List.getElem?_map, List.getElem?_eq_getElem hi] at g3
            simp only [Option.map, Option.bind, Sl.val, Option.some.injEq] at g3
            subst g3
            obtain ⟨u, hu, hrd⟩ := hvs.get (List.getElem?_eq_getElem hi)
            have hip : i < ps.length := by rw [← hlen]; exact hi
            have hyi : ps[i] = y := by
              obtain ⟨z1, z2, _⟩ := List.findIdx?_eq_some_iff_getElem.mp g2
              have := eq_of_beq z2
              rw [← this]
              exact (List.getElem_append_left hip).symm
            have hmem : (y, u) ∈ ps.zip vs := by
              have hiv : i < vs.length := by rw [hvl]; exact hip
              rw [List.getElem?_eq_getElem hiv] at hu
              cases hu
              rw [← hyi]
              have : (ps.zip vs)[i]'(by rw [List.length_zip]; omega) = (ps[i], vs[i]) := List.getElem_zip
              rw [← this]
              exact List.getElem_mem _
            have hndz : ((ps.zip vs).map (·.1)).Nodup := by rw [zip_fst hvl]; exact hnd
            refine ⟨u, ?_, (Rd.more (N := fun b => s.heap.get? b = none) (fun _ q => q) hrd).ext hext |>.less fun b hb => ?_⟩
            · cases hl : d.scope.names.lookup y with
              | none => rw [hl] at g1; cases g1
              | some k =>
                rw [hl] at g1
                have hcase : k = .local ∨ k = .cell := by cases k <;> first | (exact .inl rfl) | (exact .inr rfl) | (cases g1; done)
                rcases hcase with rfl | rfl
                · exact .inl ⟨by rw [hkof, hl], _, IC.toInCall.ns, bindL_at (by rw [hkof, hl]) hndz hmem⟩
                · obtain ⟨c, hc⟩ := hcellx y hl
                  have hc' : env.cells.lookup y = some c := by rw [e5]; exact hc
                  refine .inr ⟨by rw [hkof, hl], c, hc', ?_⟩
                  have := IC.cell y c hc'
                  rw [bindC_at (by rw [hkof, hl]; decide) hndz hmem] at this
                  exact this
            · rcases hb with hb | hb | ⟨j, hb⟩
              · exact .inl hb
              · exact .inr (hlo b hb)
              · cases hb
        have hbody := exs_ok (csL_ok (cs_ok G S hz fuel d.scope (varsOf ps d.scope)) hcs)
        refine hbody _ env s τ X s₁ τ _ _ _ F hex _ E ⟨fun _ h => (by cases h), fun p hp v' s' τ' x' rd' => ?_⟩
        cases hp
        exact hR v' s' τ' x' rd'
    · cases hr
  · cases hr

theorem Sound.none : Sound K ft 0 (fun _ _ => Option.none) := fun f args r h => by cases h
theorem Runs.up {n : Nat} {f : Nat} {args : List PV} {r : PV} (h : Runs K ft n f args r) : Runs K ft (n + 1) f args r :=
  fun name A s τ X vs fa h1 h2 h3 => h name A s τ X vs fa h1 h2 (h3.less (Nat.le_succ _))
end
end Mine
namespace Mine
open PySem PySem.W PyProof.Rows

theorem script_rd {K : Cx} {g : Hp} {X : Addr → Prop} : ∀ {vs : List Value} {ns : List Int}, IntsAre vs ns → RdL K g X vs (ns.map .int)
  | [], [], _ => rfl
  | v :: vs, n :: ns, h => by
    cases h with
    | cons _ t h2 => exact ⟨_, _, rfl, ⟨t, rfl⟩, script_rd h2⟩

theorem top_ok {K : Cx} {ft : List Str} {m f : Nat} {name : Str} {fa a : Addr} {vs : List Value} {ns : List Int} {s₁ : Shared} {c : ClaimW} {cl : Str → Option Addr} {mean : ExcName → Option Value} {args : List WData}
    (T : K.T s₁.heap) (tk : 0 < s₁.toks) (pl : s₁.heap.get? a = some { cls := .type "list", data := .seq vs.toArray }) (hI : IntsAre vs ns) (hr : Runs K ft m f [.list (ns.map .int)] (.bool true)) (hf : ft[f]? = some name) (hm : K.mg name = some (.ref fa))
    (room : Room m callerA) (hg : s₁.gens = #[]) (h1 : ∀ cls, c.raises args cls = false) (h2 : c.post args (.bool true) args = true) {E : Value → Shared → Prop} :
    wpAny K.M callerA (call (.ref fa) [.ref a]) (fun v s' => GoodWG c cl mean args s₁ (.ok (.ret v)) s') E s₁ := by
  refine wpAny_call (hr name callerA s₁ (fun _ _ => False) (fun _ => False) [.ref a] fa hf hm room T ⟨tk, fun _ _ h => h.elim, fun _ _ _ h => h.elim⟩ ⟨.ref a, [], rfl, ⟨a, vs, rfl, fun h => h, ⟨_, pl⟩, script_rd hI⟩, rfl⟩ (fun _ h => h.elim) _ fun v s' τ' x rd => ?_).out
  cases rd
  exact GoodW.toG ⟨.inl ⟨_, _, [], rfl, h1, ReadsW.bool true, h2, fun _ => ⟨List.nodup_nil, fun _ hm => (nomatch hm)⟩⟩, x.keep, x.os, by rw [x.gens, hg]⟩
end Mine
namespace Mine
open PySem PySem.W PyProof.Rows

noncomputable def nodupB : List Str → Bool
  | [] => true
  | x :: r => !(r.contains x) && nodupB r
theorem nodupB_ok : ∀ {l : List Str}, nodupB l = true → l.Nodup
  | [], _ => List.nodup_nil
  | x :: r, h => by
    unfold nodupB at h
    rw [Bool.and_eq_true] at h
    refine List.nodup_cons.mpr ⟨fun hm => ?_, nodupB_ok h.2⟩
    have := h.1
    simp [hm] at this

/-- a def's record, compiled -/
noncomputable def fnOfRec (zp : Bool) (fuel : Nat) (ft : List Str) (d : DefRec) : Option Fn :=
  match paramsOf d.params with
  | some ps => if nodupB ps && !d.scope.isCoroutine && !d.scope.isGenerator && d.scope.kind == .function && ps.all (fun p => isVarK (d.scope.names.lookup p)) then
      match csL (cs zp fuel ft d.scope (varsOf ps d.scope)) d.body with
      | some b => some ⟨ps.length, (varsOf ps d.scope).length, b⟩
      | Option.none => Option.none
    else Option.none
  | Option.none => Option.none

noncomputable def tabOf (zp : Bool) (fuel : Nat) (ft : List Str) (p : Program) : List (Str × Option Fn) := (recsOf p).map fun d => (d.name, fnOfRec zp fuel ft d)

theorem fnAt_of {K : Cx} {zp : Bool} {fuel : Nat} {ft : List Str} {tab : List (Str × Option Fn)} (h : tabOf zp fuel ft K.p = tab) (hft : tab.map (·.1) = ft) {f : Nat} {name : Str} {fn : Fn} (e : tab[f]? = some (name, some fn)) : FnAt K ft zp f fn := by
  subst h
  unfold tabOf at e
  rw [List.getElem?_map, Option.map_eq_some_iff] at e
  obtain ⟨d, hd, he⟩ := e
  have hmem : d ∈ recsOf K.p := List.mem_of_getElem? hd
  have hname : ft[f]? = some d.name := by
    rw [← hft]
    unfold tabOf
    rw [List.getElem?_map, List.getElem?_map, hd]
    rfl
  have hfn : fnOfRec zp fuel ft d = some fn := congrArg Prod.snd he
  unfold fnOfRec at hfn
  split at hfn
  · rename_i ps hps
    split at hfn
    · rename_i hc
      simp only [Bool.and_eq_true, Bool.not_eq_true'] at hc
      split at hfn
      · rename_i b hb
        cases hfn
        exact ⟨d, hmem, hname, ps, fuel, hps, hb, rfl, rfl, nodupB_ok hc.1.1.1.1, hc.1.1.1.2, hc.1.1.2, eq_of_beq hc.1.2, fun p hp => List.all_eq_true.mp hc.2 p hp⟩
      · cases hfn
    · cases hfn
  · cases hfn

/-- the top's names -/
theorem glb_of {K : Cx} {h : Heap} {zp : Bool} {fuel : Nat} {ft : List Str} {tab : List (Str × Option Fn)} (T : Top K.p K.loose K.mean K.mg K.mb h) (e : tabOf zp fuel ft K.p = tab) (hft : tab.map (·.1) = ft)
    (hfree : ["len", "sum", "int", "min", "max", "range", "list", "tuple", "sorted", "zip"].all (fun (x : String) => !(startupNames.contains (Str.ofString x)) && !(K.loose.contains (Str.ofString x)) && !(((recsOf K.p).map (·.name)).contains (Str.ofString x)) && !(((litsOf K.p).map (·.1)).contains (Str.ofString x)) && !(((clssOf K.p K.loose).map (·.name)).contains (Str.ofString x))) = true)
    (hdbg : ft.all (fun x => !(x == ("__debug__" : Str))) = true) : Glb K ft := by
  have hmg : ∀ x : String, x ∈ ["len", "sum", "int", "min", "max", "range", "list", "tuple", "sorted", "zip"] → K.mg (Str.ofString x) = none := fun x hx => by
    have := List.all_eq_true.mp hfree x hx
    simp only [Bool.and_eq_true, Bool.not_eq_true'] at this
    have nm : ∀ {l : List Str}, l.contains (Str.ofString x) = false → Str.ofString x ∉ l := fun {l} h hm => by
      rw [List.contains_iff_mem.mpr hm] at h; cases h
    exact T.free _ (nm this.1.1.1.1) (nm this.1.1.1.2) (nm this.1.1.2) (nm this.1.2) (nm this.2)
  refine ⟨fun name hm => ?_, fun f hf => by simpa using List.all_eq_true.mp hdbg f hf, fun f b hb => ?_, hmg "zip" (by simp), ?_⟩
  · rw [← hft, ← e] at hm
    unfold tabOf at hm
    rw [List.map_map, List.mem_map] at hm
    obtain ⟨d, hd, rfl⟩ := hm
    exact ⟨d, hd, rfl⟩
  · unfold bltOf at hb
    have go : ∀ (x : String) (b' : Blt), x ∈ ["len", "sum", "int", "min", "max", "range", "list", "tuple", "sorted", "zip"] → bootBuiltins (Str.ofString x) = some (bltV b') → Str.ofString x ≠ ("__name__" : Str) → f = Str.ofString x → some b' = some b → K.mg f = none ∧ K.mb f = some (bltV b) := by
      intro x b' hx hbb hn hf hbe
      cases hbe
      subst hf
      exact ⟨hmg x hx, by rw [T.builtins _ hn]; exact hbb⟩
    repeat' split at hb
    all_goals first
      | (cases hb; done)
      | (rename_i hq; exact go "len" .len (by simp) (by rfl) (by decide) (eq_of_beq hq) hb)
      | (rename_i hq; exact go "sum" .sum (by simp) (by rfl) (by decide) (eq_of_beq hq) hb)
      | (rename_i hq; exact go "int" .int (by simp) (by rfl) (by decide) (eq_of_beq hq) hb)
      | (rename_i hq; exact go "min" .min (by simp) (by rfl) (by decide) (eq_of_beq hq) hb)
      | (rename_i hq; exact go "max" .max (by simp) (by rfl) (by decide) (eq_of_beq hq) hb)
      | (rename_i hq; exact go "range" .range (by simp) (by rfl) (by decide) (eq_of_beq hq) hb)
      | (rename_i hq; exact go "list" .list (by simp) (by rfl) (by decide) (eq_of_beq hq) hb)
      | (rename_i hq; exact go "tuple" .tuple (by simp) (by rfl) (by decide) (eq_of_beq hq) hb)
      | (rename_i hq; exact go "sorted" .sorted (by simp) (by rfl) (by decide) (eq_of_beq hq) hb)
  · rw [T.builtins _ (by decide)]; rfl
end Mine
namespace Mine
open PySem

theorem szOk_of {n : Nat} (h : n ≤ 1000000) : szOk n = true := Nat.ble_eq_true_of_le h

/-! ## the oracles, level by level -/
abbrev Lv := List (Option (Nat × Fn))
noncomputable def lvl (fs : Lv) : Nat → Orc
  | 0 => fun _ _ => none
  | n + 1 => fun f args => match fs[f]? with
    | some (some (l, fn)) => match Nat.beq l (n + 1) with
      | true => run (lvl fs n) fn args
      | false => lvl fs n f args
    | _ => none
theorem lvl_succ {fs : Lv} {f l n : Nat} {fn : Fn} (h : fs[f]? = some (some (l, fn))) (args : List PV) : lvl fs (n + 1) f args = (match Nat.beq l (n + 1) with | true => run (lvl fs n) fn args | false => lvl fs n f args) := by
  rw [lvl]; dsimp only; rw [h]
theorem lvl_at {fs : Lv} {f l : Nat} {fn : Fn} (h : fs[f]? = some (some (l + 1, fn))) {args : List PV} : ∀ {n : Nat}, l < n → lvl fs n f args = run (lvl fs l) fn args
  | 0, hn => by omega
  | n + 1, hn => by
    rw [lvl_succ h]
    cases hb : Nat.beq (l + 1) (n + 1) with
    | true =>
      have : l = n := by have := Nat.eq_of_beq_eq_true hb; omega
      subst this
      rfl
    | false =>
      have : l ≠ n := by intro e; subst e; rw [Nat.beq_refl] at hb; cases hb
      exact lvl_at h (by omega)

/-! ## running statements -/
theorem exs_nxt {C : Orc} {a : Mine.S} {l : SL} {ρ ρ' : Ρ} (h : ex C a ρ = some (.nxt ρ')) : exs C (.cons a l) ρ = exs C l ρ' := by
  rw [exs, h]
theorem exs_ret {C : Orc} {a : Mine.S} {l : SL} {ρ : Ρ} {v : PV} (h : ex C a ρ = some (.ret v)) : exs C (.cons a l) ρ = some (.ret v) := by
  rw [exs, h]
theorem exs_one {C : Orc} {a : Mine.S} {ρ : Ρ} {r : Res} (h : ex C a ρ = some r) : exs C (.cons a .nil) ρ = some r := by
  rw [exs, h]
  cases r with
  | nxt ρ => rfl
  | ret v => rfl
theorem ex_iteT {C : Orc} {c : Mine.X} {a b : SL} {ρ : Ρ} (h : ev C c ρ = some (.bool true)) : ex C (.ite c a b) ρ = exs C a ρ := by
  rw [ex, h]; rfl
theorem ex_iteF {C : Orc} {c : Mine.X} {a b : SL} {ρ : Ρ} (h : ev C c ρ = some (.bool false)) : ex C (.ite c a b) ρ = exs C b ρ := by
  rw [ex, h]; rfl
theorem xx_asg {C : Orc} {i : Nat} {own : Bool} {e : Mine.X} {ρ : Ρ} {v : PV} (h : ev C e ρ = some v) : ex C (.asg i own e) ρ = (setAt (dropFor ρ e v) i (if own && isFresh e then .o v else .v v)).map .nxt := by
  rw [ex, h]
theorem xx_unp {C : Orc} {is : List Nat} {own : Bool} {e : Mine.X} {ρ : Ρ} {vs : List PV} (h : ev C e ρ = some (.tup vs)) : ex C (.unp is own e) ρ = (setEach (dropAt ρ (al e)) (own && isTupOfNil e) is vs).map .nxt := by
  rw [ex, h]
theorem xx_ret {C : Orc} {e : Mine.X} {ρ : Ρ} {v : PV} (h : ev C e ρ = some v) : ex C (.ret e) ρ = some (.ret v) := by
  rw [ex, h]; rfl
theorem run_of {C : Orc} {f : Fn} {args : List PV} {v : PV} (h1 : args.length = f.np) (h2 : exs C f.body (args.map .v ++ List.replicate (f.nv - f.np) .no) = some (.ret v)) : run C f args = some v := by
  unfold run; rw [h1, h2]; simp
theorem ex_fr {C : Orc} {is : List Nat} {iter : Mine.X} {b : SL} {ρ : Ρ} {x : PV} {items : List PV} (h1 : ev C iter ρ = some x) (h2 : itemsOf x = some items) :
    ex C (.fr is iter b) ρ = forEach (fun ρ v => match bindEach ρ is v with | some ρ' => exs C b ρ' | Option.none => Option.none) items (dropAt ρ (al iter)) := by
  rw [ex, h1]; dsimp only
  first | (rw [h2]; done) | (rw [h2]; rfl)
end Mine
namespace Mine
open PySem

theorem mapC_if {f : PV → Option Bool} {g : PV → Option PV} {p : PV → Bool} {h : PV → PV} : ∀ {l : List PV}, (∀ v ∈ l, f v = some (p v)) → (∀ v ∈ l, p v = true → g v = some (h v)) → mapC f g l = some ((l.filter p).map h)
  | [], _, _ => rfl
  | x :: r, h1, h2 => by
    have ih := mapC_if (l := r) (fun v hv => h1 v (List.mem_cons_of_mem _ hv)) (fun v hv => h2 v (List.mem_cons_of_mem _ hv))
    rw [mapC, h1 x (List.mem_cons_self ..)]
    cases hp : p x with
    | true =>
      dsimp only
      rw [h2 x (List.mem_cons_self ..) hp]
      dsimp only
      rw [ih, List.filter_cons_of_pos hp]
      rfl
    | false =>
      dsimp only
      rw [ih, List.filter_cons_of_neg (by rw [hp]; decide)]
theorem ev_comp_if {C : Orc} {elt iter cond : Mine.X} {ρ : Ρ} {x : PV} {items : List PV} {p : PV → Bool} {g : PV → PV} (h1 : ev C iter ρ = some x) (h2 : itemsOf x = some items)
    (h3 : ∀ v ∈ items, ev C cond (.v v :: ρ) = some (.bool (p v))) (h4 : ∀ v ∈ items, p v = true → ev C elt (.v v :: ρ) = some (g v)) : ev C (.comp elt iter cond) ρ = some (.list ((items.filter p).map g)) := by
  rw [ev, h1]
  dsimp only
  rw [h2]
  dsimp only
  rw [mapC_if (p := p) (h := g) (fun v hv => by rw [h3 v hv]; rfl) h4]
  rfl
theorem ev_comp_all {C : Orc} {elt iter : Mine.X} {ρ : Ρ} {x : PV} {items : List PV} {g : PV → PV} (h1 : ev C iter ρ = some x) (h2 : itemsOf x = some items)
    (h4 : ∀ v ∈ items, ev C elt (.v v :: ρ) = some (g v)) : ev C (.comp elt iter (.cst (.bool true))) ρ = some (.list (items.map g)) := by
  rw [ev_comp_if (p := fun _ => true) (g := g) h1 h2 (fun _ _ => rfl) (fun v hv _ => h4 v hv)]
  congr 3
  exact List.filter_eq_self.mpr fun _ _ => rfl
/-- over range(3) -/
theorem xv_rpl {C : Orc} {o : Mine.X} {ρ : Ρ} {s t : List Nat} {c : Nat} (h : ev C o ρ = some (.str s)) (hz : szOk ((s.length + 1) * (t.length + 1)) = true) : ev C (.rpl o c t) ρ = some (.str (replaceC s c t)) := by
  rw [ev, h]; dsimp only; rw [if_pos hz]
theorem ev_comp3 {C : Orc} {elt : Mine.X} {ρ : Ρ} {a b c : PV} (h0 : ev C elt (.v (.int ((0 : Nat) : Int)) :: ρ) = some a) (h1 : ev C elt (.v (.int ((1 : Nat) : Int)) :: ρ) = some b) (h2 : ev C elt (.v (.int ((2 : Nat) : Int)) :: ρ) = some c) :
    ev C (.comp elt (.blt .range (.cons (.cst (.int 3)) .nil)) (.cst (.bool true))) ρ = some (.list [a, b, c]) := by
  have h3 : ev C (.blt .range (.cons (.cst (.int 3)) .nil)) ρ = some (.rng 3) := rfl
  have h4 : itemsOf (.rng 3) = some [.int ((0 : Nat) : Int), .int ((1 : Nat) : Int), .int ((2 : Nat) : Int)] := rfl
  rw [ev, h3]
  dsimp only
  rw [h4]
  simp only [mapC, h0, h1, h2, Option.map]
  simp only [ev, truth]
theorem xv_call {C : Orc} {f : Nat} {l : XL} {ρ : Ρ} {vs : List PV} {r : PV} (h : evL C l ρ = some vs) (h2 : C f vs = some r) : ev C (.call f l) ρ = some r := by
  rw [ev, h]; exact h2
theorem xv_bin {C : Orc} {op : Operator} {a b : Mine.X} {ρ : Ρ} {x y r : PV} (h1 : ev C a ρ = some x) (h2 : ev C b ρ = some y) (h : binop op x y = some r) : ev C (.bin op a b) ρ = some r := by
  rw [ev, h1]; dsimp only; rw [h2]; exact h
theorem xv_cmp {C : Orc} {op : CmpOp} {a b : Mine.X} {ρ : Ρ} {x y : PV} {r : Bool} (h1 : ev C a ρ = some x) (h2 : ev C b ρ = some y) (h : cmpop op x y = some r) : ev C (.cmp op a b) ρ = some (.bool r) := by
  rw [ev, h1]; dsimp only; rw [h2]; dsimp only; rw [h]; rfl
theorem xv_sub {C : Orc} {a b : Mine.X} {ρ : Ρ} {x y r : PV} (h1 : ev C a ρ = some x) (h2 : ev C b ρ = some y) (h : getI x y = some r) : ev C (.sub a b) ρ = some r := by
  rw [ev, h1]; dsimp only; rw [h2]; exact h
theorem ev_blt1 {C : Orc} {b : Blt} {a : Mine.X} {ρ : Ρ} {x r : PV} (h1 : ev C a ρ = some x) (h : blt b [x] = some r) : ev C (.blt b (.cons a .nil)) ρ = some r := by
  rw [ev, evL, h1]; exact h
theorem ev_iteT {C : Orc} {c a b : Mine.X} {ρ : Ρ} {r : PV} (h1 : ev C c ρ = some (.bool true)) (h : ev C a ρ = some r) : ev C (.ite c a b) ρ = some r := by
  rw [ev, h1]; exact h
theorem ev_iteF {C : Orc} {c a b : Mine.X} {ρ : Ρ} {r : PV} (h1 : ev C c ρ = some (.bool false)) (h : ev C b ρ = some r) : ev C (.ite c a b) ρ = some r := by
  rw [ev, h1]; exact h
theorem evL2 {C : Orc} {a b : Mine.X} {ρ : Ρ} {x y : PV} (h1 : ev C a ρ = some x) (h2 : ev C b ρ = some y) : evL C (.cons a (.cons b .nil)) ρ = some [x, y] := by
  rw [evL, h1]; dsimp only; rw [evL, h2]; rfl
theorem evL1 {C : Orc} {a : Mine.X} {ρ : Ρ} {x : PV} (h1 : ev C a ρ = some x) : evL C (.cons a .nil) ρ = some [x] := by
  rw [evL, h1]; rfl
theorem evL3 {C : Orc} {a b c : Mine.X} {ρ : Ρ} {x y z : PV} (h1 : ev C a ρ = some x) (h2 : ev C b ρ = some y) (h3 : ev C c ρ = some z) : evL C (.cons a (.cons b (.cons c .nil))) ρ = some [x, y, z] := by
  rw [evL, h1]; dsimp only; rw [evL2 h2 h3]
theorem xv_slc {C : Orc} {a lo hi st : Mine.X} {ρ : Ρ} {x l h t r : PV} (h1 : ev C a ρ = some x) (h2 : ev C lo ρ = some l) (h3 : ev C hi ρ = some h) (h4 : ev C st ρ = some t) (e : slice x l h t = some r) : ev C (.slc a lo hi st) ρ = some r := by
  rw [ev, h1]; dsimp only; rw [h2]; dsimp only; rw [h3]; dsimp only; rw [h4]; exact e

/-! ### slices -/
theorem clipN {d m : Nat} (n : Nat) : clip d m (.int n) = some (if n < m then n else m) := by
  simp only [clip, Int.toNat_natCast, Int.ofNat_lt]
  rw [if_neg (by omega)]
theorem sliceL_to {α : Type} {s : List α} {n : Nat} : sliceL s .none (.int n) .none = some (s.take n) := by
  have h1 : clip 0 s.length .none = some 0 := rfl
  simp only [sliceL, clipN, h1, List.drop_zero, Nat.sub_zero]
  split
  · rfl
  · rw [List.take_of_length_le (by omega), List.take_of_length_le (by omega)]
theorem sliceL_from {α : Type} {s : List α} {n : Nat} : sliceL s (.int n) .none .none = some (s.drop n) := by
  have h1 : clip s.length s.length .none = some s.length := rfl
  simp only [sliceL, clipN, h1]
  congr 1
  split
  · rw [List.take_of_length_le (by rw [List.length_drop]; omega)]
  · rw [List.drop_of_length_le (by omega), List.drop_of_length_le (by omega)]; simp
theorem slc_to {s : List PV} {n : Nat} (h : s.length ≤ 1000000) : slice (.list s) .none (.int n) .none = some (.list (s.take n)) := by
  simp only [slice, szOk_of h, if_true, sliceL_to, Option.map]
theorem slc_from {s : List PV} {n : Nat} (h : s.length ≤ 1000000) : slice (.list s) (.int n) .none .none = some (.list (s.drop n)) := by
  simp only [slice, szOk_of h, if_true, sliceL_from, Option.map]
theorem getN {l : List PV} {n : Nat} {v : PV} (h : l.length ≤ 1000000) (e : l[n]? = some v) : getI (.list l) (.int n) = some v := by
  have hl : n < l.length := by
    rcases Nat.lt_or_ge n l.length with h | h
    · exact h
    · rw [List.getElem?_eq_none h] at e; cases e
  have : idx (n : Int) l.length = some n := by
    unfold idx
    rw [if_pos (szOk_of h), if_neg (by omega), if_pos (by omega)]
    simp
  simp only [getI, this, e]
theorem getT {l : List PV} {n : Nat} {v : PV} (h : l.length ≤ 1000000) (e : l[n]? = some v) : getI (.tup l) (.int n) = some v := by
  have hl : n < l.length := by
    rcases Nat.lt_or_ge n l.length with h | h
    · exact h
    · rw [List.getElem?_eq_none h] at e; cases e
  have : idx (n : Int) l.length = some n := by
    unfold idx
    rw [if_pos (szOk_of h), if_neg (by omega), if_pos (by omega)]
    simp
  simp only [getI, this, e]

/-! ### numbers -/
theorem natEqInt (a b : Nat) : (((a : Nat) : Int) == ((b : Nat) : Int)) = Nat.beq a b := by
  cases h : Nat.beq a b with
  | true => rw [Nat.eq_of_beq_eq_true h]; simp
  | false =>
    rw [beq_eq_false_iff_ne]; intro e
    rw [Int.ofNat_inj.mp e, Nat.beq_refl] at h; cases h
theorem fmodN (a b : Nat) (hb : 0 < b) : ((a : Nat) : Int).fmod ((b : Nat) : Int) = ((a % b : Nat) : Int) := by
  rw [Int.fmod_eq_emod_of_nonneg _ (by omega)]; rfl
theorem modN (a b : Nat) (hb : 0 < b) : binop .Mod (.int a) (.int b) = some (.int ((a % b : Nat) : Int)) := by
  simp only [binop, binI]
  rw [if_pos (by simp; omega), fmodN _ _ hb]
/-- the remainder of any number -/
noncomputable def rem (i : Int) (b : Nat) : Nat := (i.fmod (b : Int)).toNat
theorem fmod_nn (i : Int) {b : Nat} (hb : 0 < b) : 0 ≤ i.fmod (b : Int) := by
  rw [Int.fmod_eq_emod_of_nonneg _ (by omega)]
  exact Int.emod_nonneg _ (by omega)
theorem rem_lt {i : Int} {b : Nat} (hb : 0 < b) : rem i b < b := by
  have h1 := fmod_nn i hb
  have h2 : i.fmod (b : Int) < b := by
    rw [Int.fmod_eq_emod_of_nonneg _ (by omega)]
    exact Int.emod_lt_of_pos _ (by omega)
  unfold rem; omega
theorem modI (i : Int) (b : Nat) (hb : 0 < b) : binop .Mod (.int i) (.int b) = some (.int ((rem i b : Nat) : Int)) := by
  have h1 := fmod_nn i hb
  simp only [binop, binI, rem]
  rw [if_pos (by simp; omega), Int.toNat_of_nonneg h1]
theorem divI (i : Int) (b : Nat) (hb : 0 < b) (hs : b ≤ 4294967296) : binop .FloorDiv (.int i) (.int b) = some (.int (i.fdiv (b : Int))) := by
  simp only [binop, binI]
  rw [if_pos]
  rw [Bool.and_eq_true]
  exact ⟨by simp; omega, Nat.ble_eq_true_of_le (by simpa using hs)⟩
theorem divN (a b : Nat) (hb : 0 < b) (hs : b ≤ 4294967296) : binop .FloorDiv (.int a) (.int b) = some (.int ((a / b : Nat) : Int)) := by
  rw [divI _ _ hb hs, Int.fdiv_eq_ediv_of_nonneg _ (by omega)]
  rfl
theorem addN (a b : Nat) : binop .Add (.int a) (.int b) = some (.int ((a + b : Nat) : Int)) := by
  simp only [binop, binI]; rfl
theorem mulN (a b : Nat) (ha : a ≤ 4294967296) (hb : b ≤ 4294967296) : binop .Mult (.int a) (.int b) = some (.int ((a * b : Nat) : Int)) := by
  simp only [binop, binI]
  rw [if_pos]
  · rfl
  · rw [Bool.and_eq_true]
    exact ⟨Nat.ble_eq_true_of_le (by simpa using ha), Nat.ble_eq_true_of_le (by simpa using hb)⟩
theorem eqN (a b : Nat) : cmpop .Eq (.int a) (.int b) = some (Nat.beq a b) := by
  show some (((a : Nat) : Int) == ((b : Nat) : Int)) = _
  rw [natEqInt]
theorem lenL {l : List PV} (h : l.length ≤ 1000000) : blt .len [.list l] = some (.int l.length) := by
  show ifz (szOk l.length) _ = _
  rw [szOk_of h]; rfl
theorem lenS {l : List Nat} (h : l.length ≤ 1000000) : blt .len [.str l] = some (.int l.length) := by
  show ifz (szOk l.length) _ = _
  rw [szOk_of h]; rfl
end Mine
namespace Mine
open PySem
noncomputable def p_rgb_to_hsv : Fn := ⟨3, 12, (.cons (.asg 3 true (.blt .max (.cons (.var 0) (.cons (.var 1) (.cons (.var 2) .nil))))) (.cons (.asg 4 true (.blt .min (.cons (.var 0) (.cons (.var 1) (.cons (.var 2) .nil))))) (.cons (.asg 5 true (.bin .Sub (.var 3) (.var 4))) (.cons (.asg 6 true (.var 3)) (.cons (.ite (.cmp .Eq (.var 4) (.var 3)) (.cons (.ret (.tup (.cons (.cst (.flt 0)) (.cons (.cst (.flt 0)) (.cons (.var 6) .nil))))) .nil) .nil) (.cons (.asg 7 true (.bin .Div (.var 5) (.var 3))) (.cons (.asg 8 true (.bin .Div (.bin .Sub (.var 3) (.var 0)) (.var 5))) (.cons (.asg 9 true (.bin .Div (.bin .Sub (.var 3) (.var 1)) (.var 5))) (.cons (.asg 10 true (.bin .Div (.bin .Sub (.var 3) (.var 2)) (.var 5))) (.cons (.ite (.cmp .Eq (.var 0) (.var 3)) (.cons (.asg 11 true (.bin .Sub (.var 10) (.var 9))) .nil) (.cons (.ite (.cmp .Eq (.var 1) (.var 3)) (.cons (.asg 11 true (.bin .Sub (.bin .Add (.cst (.flt 4611686018427387904)) (.var 8)) (.var 10))) .nil) (.cons (.asg 11 true (.bin .Sub (.bin .Add (.cst (.flt 4616189618054758400)) (.var 9)) (.var 8))) .nil)) .nil)) (.cons (.asg 11 true (.bin .Mod (.bin .Div (.var 11) (.cst (.flt 4618441417868443648))) (.cst (.flt 4607182418800017408)))) (.cons (.ret (.tup (.cons (.var 11) (.cons (.var 7) (.cons (.var 6) .nil))))) .nil))))))))))))⟩
noncomputable def p_hsv_to_rgb : Fn := ⟨3, 8, (.cons (.ite (.cmp .Eq (.var 1) (.cst (.flt 0))) (.cons (.ret (.tup (.cons (.var 2) (.cons (.var 2) (.cons (.var 2) .nil))))) .nil) .nil) (.cons (.asg 3 true (.blt .int (.cons (.bin .Mult (.var 0) (.cst (.flt 4618441417868443648))) .nil))) (.cons (.asg 4 true (.bin .Sub (.bin .Mult (.var 0) (.cst (.flt 4618441417868443648))) (.var 3))) (.cons (.asg 5 true (.bin .Mult (.var 2) (.bin .Sub (.cst (.flt 4607182418800017408)) (.var 1)))) (.cons (.asg 6 true (.bin .Mult (.var 2) (.bin .Sub (.cst (.flt 4607182418800017408)) (.bin .Mult (.var 1) (.var 4))))) (.cons (.asg 7 true (.bin .Mult (.var 2) (.bin .Sub (.cst (.flt 4607182418800017408)) (.bin .Mult (.var 1) (.bin .Sub (.cst (.flt 4607182418800017408)) (.var 4)))))) (.cons (.asg 3 true (.bin .Mod (.var 3) (.cst (.int 6)))) (.cons (.ite (.cmp .Eq (.var 3) (.cst (.int 0))) (.cons (.ret (.tup (.cons (.var 2) (.cons (.var 7) (.cons (.var 5) .nil))))) .nil) .nil) (.cons (.ite (.cmp .Eq (.var 3) (.cst (.int 1))) (.cons (.ret (.tup (.cons (.var 6) (.cons (.var 2) (.cons (.var 5) .nil))))) .nil) .nil) (.cons (.ite (.cmp .Eq (.var 3) (.cst (.int 2))) (.cons (.ret (.tup (.cons (.var 5) (.cons (.var 2) (.cons (.var 7) .nil))))) .nil) .nil) (.cons (.ite (.cmp .Eq (.var 3) (.cst (.int 3))) (.cons (.ret (.tup (.cons (.var 5) (.cons (.var 6) (.cons (.var 2) .nil))))) .nil) .nil) (.cons (.ite (.cmp .Eq (.var 3) (.cst (.int 4))) (.cons (.ret (.tup (.cons (.var 7) (.cons (.var 5) (.cons (.var 2) .nil))))) .nil) .nil) (.cons (.ite (.cmp .Eq (.var 3) (.cst (.int 5))) (.cons (.ret (.tup (.cons (.var 2) (.cons (.var 5) (.cons (.var 6) .nil))))) .nil) .nil) .nil)))))))))))))⟩
noncomputable def p_escape_cdata : Fn := ⟨1, 1, (.cons (.tr (.cons (.ite (.cmp .In (.cst (.str [38])) (.var 0)) (.cons (.asg 0 true (.rpl (.var 0) 38 [38, 97, 109, 112, 59])) .nil) .nil) (.cons (.ite (.cmp .In (.cst (.str [60])) (.var 0)) (.cons (.asg 0 true (.rpl (.var 0) 60 [38, 108, 116, 59])) .nil) .nil) (.cons (.ite (.cmp .In (.cst (.str [62])) (.var 0)) (.cons (.asg 0 true (.rpl (.var 0) 62 [38, 103, 116, 59])) .nil) .nil) (.cons (.ret (.var 0)) .nil))))) .nil)⟩
noncomputable def p_escape_attrib : Fn := ⟨1, 1, (.cons (.tr (.cons (.ite (.cmp .In (.cst (.str [38])) (.var 0)) (.cons (.asg 0 true (.rpl (.var 0) 38 [38, 97, 109, 112, 59])) .nil) .nil) (.cons (.ite (.cmp .In (.cst (.str [60])) (.var 0)) (.cons (.asg 0 true (.rpl (.var 0) 60 [38, 108, 116, 59])) .nil) .nil) (.cons (.ite (.cmp .In (.cst (.str [62])) (.var 0)) (.cons (.asg 0 true (.rpl (.var 0) 62 [38, 103, 116, 59])) .nil) .nil) (.cons (.ite (.cmp .In (.cst (.str [34])) (.var 0)) (.cons (.asg 0 true (.rpl (.var 0) 34 [38, 113, 117, 111, 116, 59])) .nil) .nil) (.cons (.ite (.cmp .In (.cst (.str [13])) (.var 0)) (.cons (.asg 0 true (.rpl (.var 0) 13 [38, 35, 49, 51, 59])) .nil) .nil) (.cons (.ite (.cmp .In (.cst (.str [10])) (.var 0)) (.cons (.asg 0 true (.rpl (.var 0) 10 [38, 35, 49, 48, 59])) .nil) .nil) (.cons (.ite (.cmp .In (.cst (.str [9])) (.var 0)) (.cons (.asg 0 true (.rpl (.var 0) 9 [38, 35, 48, 57, 59])) .nil) .nil) (.cons (.ret (.var 0)) .nil))))))))) .nil)⟩
noncomputable def p_escape_attrib_html : Fn := ⟨1, 1, (.cons (.tr (.cons (.ite (.cmp .In (.cst (.str [38])) (.var 0)) (.cons (.asg 0 true (.rpl (.var 0) 38 [38, 97, 109, 112, 59])) .nil) .nil) (.cons (.ite (.cmp .In (.cst (.str [62])) (.var 0)) (.cons (.asg 0 true (.rpl (.var 0) 62 [38, 103, 116, 59])) .nil) .nil) (.cons (.ite (.cmp .In (.cst (.str [34])) (.var 0)) (.cons (.asg 0 true (.rpl (.var 0) 34 [38, 113, 117, 111, 116, 59])) .nil) .nil) (.cons (.ret (.var 0)) .nil))))) .nil)⟩
noncomputable def p_escape_cdata_c14n : Fn := ⟨1, 1, (.cons (.tr (.cons (.ite (.cmp .In (.cst (.str [38])) (.var 0)) (.cons (.asg 0 true (.rpl (.var 0) 38 [38, 97, 109, 112, 59])) .nil) .nil) (.cons (.ite (.cmp .In (.cst (.str [60])) (.var 0)) (.cons (.asg 0 true (.rpl (.var 0) 60 [38, 108, 116, 59])) .nil) .nil) (.cons (.ite (.cmp .In (.cst (.str [62])) (.var 0)) (.cons (.asg 0 true (.rpl (.var 0) 62 [38, 103, 116, 59])) .nil) .nil) (.cons (.ite (.cmp .In (.cst (.str [13])) (.var 0)) (.cons (.asg 0 true (.rpl (.var 0) 13 [38, 35, 120, 68, 59])) .nil) .nil) (.cons (.ret (.var 0)) .nil)))))) .nil)⟩
noncomputable def p_escape_attrib_c14n : Fn := ⟨1, 1, (.cons (.tr (.cons (.ite (.cmp .In (.cst (.str [38])) (.var 0)) (.cons (.asg 0 true (.rpl (.var 0) 38 [38, 97, 109, 112, 59])) .nil) .nil) (.cons (.ite (.cmp .In (.cst (.str [60])) (.var 0)) (.cons (.asg 0 true (.rpl (.var 0) 60 [38, 108, 116, 59])) .nil) .nil) (.cons (.ite (.cmp .In (.cst (.str [34])) (.var 0)) (.cons (.asg 0 true (.rpl (.var 0) 34 [38, 113, 117, 111, 116, 59])) .nil) .nil) (.cons (.ite (.cmp .In (.cst (.str [9])) (.var 0)) (.cons (.asg 0 true (.rpl (.var 0) 9 [38, 35, 120, 57, 59])) .nil) .nil) (.cons (.ite (.cmp .In (.cst (.str [10])) (.var 0)) (.cons (.asg 0 true (.rpl (.var 0) 10 [38, 35, 120, 65, 59])) .nil) .nil) (.cons (.ite (.cmp .In (.cst (.str [13])) (.var 0)) (.cons (.asg 0 true (.rpl (.var 0) 13 [38, 35, 120, 68, 59])) .nil) .nil) (.cons (.ret (.var 0)) .nil)))))))) .nil)⟩
noncomputable def p_law_written : Fn := ⟨2, 2, (.cons (.ite (.cmp .Eq (.var 0) (.cst (.int 0))) (.cons (.ret (.call 3 (.cons (.var 1) .nil))) .nil) .nil) (.cons (.ite (.cmp .Eq (.var 0) (.cst (.int 1))) (.cons (.ret (.call 4 (.cons (.var 1) .nil))) .nil) .nil) (.cons (.ite (.cmp .Eq (.var 0) (.cst (.int 2))) (.cons (.ret (.call 5 (.cons (.var 1) .nil))) .nil) .nil) (.cons (.ite (.cmp .Eq (.var 0) (.cst (.int 3))) (.cons (.ret (.call 6 (.cons (.var 1) .nil))) .nil) .nil) (.cons (.ret (.call 7 (.cons (.var 1) .nil))) .nil)))))⟩
end Mine
namespace Mine
open PySem

theorem replaceC_flatMap (s : List Nat) (f : Nat → List Nat) (c : Nat) (t : List Nat) : replaceC (s.flatMap f) c t = s.flatMap fun x => replaceC (f x) c t := by
  unfold replaceC
  rw [List.flatMap_assoc]
theorem replaceC_id {s : List Nat} {c : Nat} {t : List Nat} (h : s.contains c = false) : replaceC s c t = s := by
  induction s with
  | nil => rfl
  | cons x s ih =>
    rw [List.contains_cons, Bool.or_eq_false_iff] at h
    show (if x == c then t else [x]) ++ replaceC s c t = x :: s
    rw [ih h.2]
    have : (x == c) = false := by
      have := h.1
      simp at this ⊢
      exact fun e => this e.symm
    rw [this]; rfl

/-- one line of an escape: if the sign is in the text, it is replaced -/
noncomputable def stepS (c : Nat) (t : List Nat) : Mine.S := .ite (.cmp .In (.cst (.str [c])) (.var 0)) (.cons (.asg 0 true (.rpl (.var 0) c t)) .nil) .nil

theorem step_ok {C : Orc} {c : Nat} {t s : List Nat} (hz : szOk ((s.length + 1) * (t.length + 1)) = true) : ex C (stepS c t) [.v (.str s)] = some (.nxt [.v (.str (replaceC s c t))]) := by
  unfold stepS
  have hc : ev C (.cmp .In (.cst (.str [c])) (.var 0)) [.v (.str s)] = some (.bool (s.contains c)) := xv_cmp rfl rfl rfl
  cases h : s.contains c with
  | true =>
    rw [h] at hc
    exact (ex_iteT hc).trans (exs_one ((xx_asg (xv_rpl rfl hz)).trans rfl))
  | false =>
    rw [h] at hc
    rw [replaceC_id h]
    exact (ex_iteF hc).trans rfl
end Mine
namespace Mine
open PySem

noncomputable def rp : List (Nat × List Nat) → List Nat → List Nat
  | [], s => s
  | (c, t) :: r, s => rp r (replaceC s c t)
noncomputable def toSL : List (Nat × List Nat) → SL
  | [] => .cons (.ret (.var 0)) .nil
  | (c, t) :: r => .cons (stepS c t) (toSL r)
noncomputable def small : List (Nat × List Nat) → List Nat → Bool
  | [], s => Nat.ble s.length 6
  | (c, t) :: r, s => Nat.ble s.length 6 && (Nat.ble t.length 6 && small r (replaceC s c t))

theorem len_flatMap {s : List Nat} {f : Nat → List Nat} (h : ∀ x, (f x).length ≤ 6) : (s.flatMap f).length ≤ 6 * s.length := by
  induction s with
  | nil => simp
  | cons x s ih => rw [List.flatMap_cons, List.length_append, List.length_cons]; have := h x; omega
theorem small_le {l : List (Nat × List Nat)} {s : List Nat} (h : small l s = true) : s.length ≤ 6 := by
  cases l with
  | nil => exact Nat.le_of_ble_eq_true h
  | cons a r => obtain ⟨c, t⟩ := a; unfold small at h; rw [Bool.and_eq_true] at h; exact Nat.le_of_ble_eq_true h.1

theorem toSL_ok {C : Orc} {s : List Nat} (hs : s.length ≤ 10000) : ∀ {l : List (Nat × List Nat)} {f : Nat → List Nat}, (∀ x, small l (f x) = true) →
    exs C (toSL l) [.v (.str (s.flatMap f))] = some (.ret (.str (s.flatMap fun x => rp l (f x))))
  | [], f, h => by simp only [toSL, exs, ex, ev, List.getElem?_cons_zero, Sl.val, Option.map, rp]
  | (c, t) :: r, f, h => by
    have h6 : ∀ x, (f x).length ≤ 6 := fun x => small_le (h x)
    have ht : t.length ≤ 6 := by
      have := h 0; unfold small at this; rw [Bool.and_eq_true, Bool.and_eq_true] at this; exact Nat.le_of_ble_eq_true this.2.1
    have hr : ∀ x, small r (replaceC (f x) c t) = true := fun x => by
      have := h x; unfold small at this; rw [Bool.and_eq_true, Bool.and_eq_true] at this; exact this.2.2
    have hz : szOk (((s.flatMap f).length + 1) * (t.length + 1)) = true := szOk_of (by
      have h1 := len_flatMap (s := s) h6
      calc ((s.flatMap f).length + 1) * (t.length + 1) ≤ 60001 * 7 := Nat.mul_le_mul (by omega) (by omega)
        _ ≤ 1000000 := by decide)
    show exs C (.cons (stepS c t) (toSL r)) _ = _
    unfold exs
    rw [step_ok hz, replaceC_flatMap]
    exact toSL_ok hs hr

theorem rp_other : ∀ {l : List (Nat × List Nat)} {x : Nat}, (l.all fun p => !(p.1 == x)) = true → rp l [x] = [x]
  | [], _, _ => rfl
  | (c, t) :: r, x, h => by
    rw [List.all_cons, Bool.and_eq_true] at h
    have h1 : (c == x) = false := by simpa using h.1
    have : replaceC [x] c t = [x] := replaceC_id (by
      rw [List.contains_cons, h1]; rfl)
    unfold rp; rw [this]; exact rp_other h.2
theorem small_other : ∀ {l : List (Nat × List Nat)} {x : Nat}, (l.all fun p => !(p.1 == x)) = true → (l.all fun p => Nat.ble p.2.length 6) = true → small l [x] = true
  | [], _, _, _ => rfl
  | (c, t) :: r, x, h, h' => by
    rw [List.all_cons, Bool.and_eq_true] at h h'
    have h1 : (c == x) = false := by simpa using h.1
    have : replaceC [x] c t = [x] := replaceC_id (by
      rw [List.contains_cons, h1]; rfl)
    unfold small; rw [this, small_other h.2 h'.2, h'.1]; rfl

/-- the lines of the escapes -/
noncomputable def stepsOf : Nat → List (Nat × List Nat)
  | 0 => [(38, [38, 97, 109, 112, 59]), (60, [38, 108, 116, 59]), (62, [38, 103, 116, 59])]
  | 1 => [(38, [38, 97, 109, 112, 59]), (60, [38, 108, 116, 59]), (62, [38, 103, 116, 59]), (34, [38, 113, 117, 111, 116, 59]), (13, [38, 35, 49, 51, 59]), (10, [38, 35, 49, 48, 59]), (9, [38, 35, 48, 57, 59])]
  | 2 => [(38, [38, 97, 109, 112, 59]), (62, [38, 103, 116, 59]), (34, [38, 113, 117, 111, 116, 59])]
  | 3 => [(38, [38, 97, 109, 112, 59]), (60, [38, 108, 116, 59]), (62, [38, 103, 116, 59]), (13, [38, 35, 120, 68, 59])]
  | _ => [(38, [38, 97, 109, 112, 59]), (60, [38, 108, 116, 59]), (34, [38, 113, 117, 111, 116, 59]), (9, [38, 35, 120, 57, 59]), (10, [38, 35, 120, 65, 59]), (13, [38, 35, 120, 68, 59])]

noncomputable def lookT (x : Nat) : List (Nat × List Nat) → List Nat
  | [] => [x]
  | (c, t) :: r => match Nat.beq c x with | true => t | false => lookT x r
noncomputable def esc (k : Nat) (s : List Nat) : List Nat := s.flatMap fun x => lookT x (stepsOf k)

theorem lookT_other : ∀ {l : List (Nat × List Nat)} {x : Nat}, (l.all fun p => !(p.1 == x)) = true → lookT x l = [x]
  | [], _, _ => rfl
  | (c, t) :: r, x, h => by
    rw [List.all_cons, Bool.and_eq_true] at h
    have h1 : (c == x) = false := by simpa using h.1
    have h2 : Nat.beq c x = false := by
      cases hb : Nat.beq c x with
      | false => rfl
      | true => rw [Nat.eq_of_beq_eq_true hb] at h1; simp at h1
    unfold lookT; rw [h2]; exact lookT_other h.2

/-- each sign by itself -/
theorem lines_ok (l : List (Nat × List Nat)) (h : (l.all fun p => small l [p.1] && rp l [p.1] == lookT p.1 l) = true) (h' : (l.all fun p => Nat.ble p.2.length 6) = true) (x : Nat) : small l [x] = true ∧ rp l [x] = lookT x l := by
  cases hb : (l.all fun p => !(p.1 == x)) with
  | true => exact ⟨small_other hb h', by rw [rp_other hb, lookT_other hb]⟩
  | false =>
    have : ¬ (∀ p ∈ l, !(p.1 == x)) := by
      intro hh; rw [List.all_eq_true.mpr hh] at hb; cases hb
    have : ∃ p ∈ l, p.1 = x := by
      refine Classical.byContradiction fun hn => this fun p hp => ?_
      simp only [Bool.not_eq_true', beq_eq_false_iff_ne, ne_eq]
      exact fun e => hn ⟨p, hp, e⟩
    obtain ⟨p, hp, rfl⟩ := this
    have := List.all_eq_true.mp h p hp
    rw [Bool.and_eq_true] at this
    exact ⟨this.1, eq_of_beq this.2⟩

theorem lines_run {C : Orc} {s : List Nat} (hs : s.length ≤ 10000) (l : List (Nat × List Nat)) (h : (l.all fun p => small l [p.1] && rp l [p.1] == lookT p.1 l) = true) (h' : (l.all fun p => Nat.ble p.2.length 6) = true) :
    run C ⟨1, 1, .cons (.tr (toSL l)) .nil⟩ [.str s] = some (.str (s.flatMap fun x => lookT x l)) := by
  have e := toSL_ok (C := C) hs (l := l) (f := fun x => [x]) fun x => (lines_ok l h h' x).1
  have e1 : (s.flatMap fun x => [x]) = s := by simp
  rw [e1] at e
  have e2 : (s.flatMap fun x => rp l [x]) = s.flatMap fun x => lookT x l := by
    congr 1; funext x; exact (lines_ok l h h' x).2
  rw [e2] at e
  unfold run
  simp only [List.length_cons, List.length_nil, beq_self_eq_true, if_true, List.map, Nat.sub_self, List.replicate, List.append_nil, exs, ex, e]

theorem esc_len (k : Nat) (s : List Nat) : (esc k s).length ≤ 6 * s.length := by
  refine len_flatMap fun x => ?_
  match k with
  | 0 => have := lines_ok (stepsOf 0) (by decide) (by decide) x; rw [← this.2]; exact rpl _ this.1
  | 1 => have := lines_ok (stepsOf 1) (by decide) (by decide) x; rw [← this.2]; exact rpl _ this.1
  | 2 => have := lines_ok (stepsOf 2) (by decide) (by decide) x; rw [← this.2]; exact rpl _ this.1
  | 3 => have := lines_ok (stepsOf 3) (by decide) (by decide) x; rw [← this.2]; exact rpl _ this.1
  | k + 4 => have := lines_ok (stepsOf 4) (by decide) (by decide) x; show (lookT x (stepsOf 4)).length ≤ 6; rw [← this.2]; exact rpl _ this.1
where rpl : ∀ (l : List (Nat × List Nat)) {s : List Nat}, small l s = true → (rp l s).length ≤ 6
  | [], _, h => small_le h
  | (c, t) :: r, s, h => by
    unfold small at h; rw [Bool.and_eq_true, Bool.and_eq_true] at h; exact rpl r h.2.2

/-- which text the escape at f is of -/
noncomputable def escAt : Nat → Option Nat
  | 3 => some 0
  | 4 => some 1
  | 5 => some 2
  | 6 => some 3
  | 7 => some 4
  | _ => none
noncomputable def escFn : Nat → Option Fn
  | 3 => some p_escape_cdata
  | 4 => some p_escape_attrib
  | 5 => some p_escape_attrib_html
  | 6 => some p_escape_cdata_c14n
  | 7 => some p_escape_attrib_c14n
  | _ => none
theorem esc_run {C : Orc} {s : List Nat} (hs : s.length ≤ 10000) : ∀ {f k : Nat} {fn : Fn}, escAt f = some k → escFn f = some fn → run C fn [.str s] = some (.str (esc k s))
  | 3, _, _, rfl, rfl => lines_run hs (stepsOf 0) (by decide) (by decide)
  | 4, _, _, rfl, rfl => lines_run hs (stepsOf 1) (by decide) (by decide)
  | 5, _, _, rfl, rfl => lines_run hs (stepsOf 2) (by decide) (by decide)
  | 6, _, _, rfl, rfl => lines_run hs (stepsOf 3) (by decide) (by decide)
  | 7, _, _, rfl, rfl => lines_run hs (stepsOf 4) (by decide) (by decide)

theorem written_run {k : Nat} (hk : k < 5) {s : List Nat} {C : Orc} (hC : ∀ f k, escAt f = some k → C f [.str s] = some (.str (esc k s))) : run C p_law_written [.int k, .str s] = some (.str (esc k s)) := by
  have no : ∀ (k c : Nat) (b l : SL), Nat.beq k c = false → exs C (.cons (.ite (.cmp .Eq (.var 0) (.cst (.int c))) b .nil) l) [.v (.int k), .v (.str s)] = exs C l [.v (.int k), .v (.str s)] := fun k c b l h => exs_nxt ((ex_iteF (xv_cmp rfl rfl ((eqN k c).trans (by rw [h])))).trans rfl)
  have yes : ∀ (k c f j : Nat) (l : SL), Nat.beq k c = true → escAt f = some j → exs C (.cons (.ite (.cmp .Eq (.var 0) (.cst (.int c))) (.cons (.ret (.call f (.cons (.var 1) .nil))) .nil) .nil) l) [.v (.int k), .v (.str s)] = some (.ret (.str (esc j s))) := fun k c f j l h hj => exs_ret ((ex_iteT (xv_cmp rfl rfl ((eqN k c).trans (by rw [h])))).trans (exs_one (xx_ret (xv_call (evL1 rfl) (hC f j hj)))))
  match k, hk with
  | 0, _ => exact run_of rfl (yes 0 0 3 0 _ rfl rfl)
  | 1, _ => exact run_of rfl ((no 1 0 _ _ rfl).trans (yes 1 1 4 1 _ rfl rfl))
  | 2, _ => exact run_of rfl ((no 2 0 _ _ rfl).trans ((no 2 1 _ _ rfl).trans (yes 2 2 5 2 _ rfl rfl)))
  | 3, _ => exact run_of rfl ((no 3 0 _ _ rfl).trans ((no 3 1 _ _ rfl).trans ((no 3 2 _ _ rfl).trans (yes 3 3 6 3 _ rfl rfl))))
  | 4, _ => exact run_of rfl ((no 4 0 _ _ rfl).trans ((no 4 1 _ _ rfl).trans ((no 4 2 _ _ rfl).trans ((no 4 3 _ _ rfl).trans (exs_one (xx_ret (xv_call (evL1 rfl) (hC 7 4 rfl))))))))
end Mine
namespace Mine
open PySem

noncomputable def natsV (l : List Nat) : PV := .list (l.map fun (n : Nat) => PV.int n)
theorem addS {a b : List Nat} (h : a.length + b.length ≤ 1000000) : binop .Add (.str a) (.str b) = some (.str (a ++ b)) := by
  simp only [binop]; rw [if_pos (szOk_of h)]
theorem addL {a b : List PV} (h : a.length + b.length ≤ 1000000) : binop .Add (.list a) (.list b) = some (.list (a ++ b)) := by
  simp only [binop]; rw [if_pos (szOk_of h)]
theorem mulS {a : List Nat} {n : Nat} (hn : n ≤ 1000) (h : a.length * n ≤ 1000000) : binop .Mult (.str a) (.int n) = some (.str (rep a n)) := by
  simp only [binop]
  rw [if_pos (by rw [Bool.and_eq_true]; exact ⟨Nat.ble_eq_true_of_le (by simpa using hn), szOk_of (by simpa using h)⟩)]
  rfl
theorem rep_len {α : Type} {l : List α} : ∀ {n : Nat}, (rep l n).length = l.length * n
  | 0 => rfl
  | n + 1 => by rw [rep, List.length_append, rep_len, Nat.mul_succ]; omega
theorem ev_lst3 {C : Orc} {a b c : Mine.X} {ρ : Ρ} {x y z : PV} (h1 : ev C a ρ = some x) (h2 : ev C b ρ = some y) (h3 : ev C c ρ = some z) : ev C (.lst (.cons a (.cons b (.cons c .nil)))) ρ = some (.list [x, y, z]) := by
  rw [ev, evL3 h1 h2 h3]; rfl
theorem ev_tup2 {C : Orc} {a b : Mine.X} {ρ : Ρ} {x y : PV} (h1 : ev C a ρ = some x) (h2 : ev C b ρ = some y) : ev C (.tup (.cons a (.cons b .nil))) ρ = some (.tup [x, y]) := by
  rw [ev, evL2 h1 h2]; rfl
theorem ev_tup3 {C : Orc} {a b c : Mine.X} {ρ : Ρ} {x y z : PV} (h1 : ev C a ρ = some x) (h2 : ev C b ρ = some y) (h3 : ev C c ρ = some z) : ev C (.tup (.cons a (.cons b (.cons c .nil)))) ρ = some (.tup [x, y, z]) := by
  rw [ev, evL3 h1 h2 h3]; rfl
theorem xx_app {C : Orc} {i : Nat} {e : Mine.X} {ρ : Ρ} {v : PV} {l : List PV} (h : ev C e ρ = some v) (h2 : (dropFor ρ e v)[i]? = some (.o (.list l))) (h3 : l.length ≤ 1000000) : ex C (.app i e) ρ = (setAt (dropFor ρ e v) i (.o (.list (l ++ [v])))).map .nxt := by
  rw [ex, h]; dsimp only; rw [h2]; dsimp only; rw [if_pos (szOk_of h3)]
theorem xv_not {C : Orc} {a : Mine.X} {ρ : Ρ} {b : Bool} (h : ev C a ρ = some (.bool b)) : ev C (.not a) ρ = some (.bool (!b)) := by
  rw [ev, h]; rfl
theorem ev_or2F {C : Orc} {a b : Mine.X} {ρ : Ρ} {v : PV} (h : ev C a ρ = some (.bool false)) (h2 : ev C b ρ = some v) : ev C (.bop false (.cons a (.cons b .nil))) ρ = some v := by
  rw [ev, evB, h]; dsimp only [truth]; rw [if_pos (by decide), evB, h2]
theorem ev_and2T {C : Orc} {a b : Mine.X} {ρ : Ρ} {v : PV} (h : ev C a ρ = some (.bool true)) (h2 : ev C b ρ = some v) : ev C (.bop true (.cons a (.cons b .nil))) ρ = some v := by
  rw [ev, evB, h]; dsimp only [truth]; rw [if_pos (by decide), evB, h2]
theorem ev_and2F {C : Orc} {a b : Mine.X} {ρ : Ρ} (h : ev C a ρ = some (.bool false)) : ev C (.bop true (.cons a (.cons b .nil))) ρ = some (.bool false) := by
  rw [ev, evB, h]; dsimp only [truth]; rw [if_neg (by decide)]
theorem itemsL {l : List PV} (h : l.length ≤ 1000000) : itemsOf (.list l) = some l := by
  simp only [itemsOf]; rw [if_pos (szOk_of h)]
theorem itemsS {l : List Nat} (h : l.length ≤ 1000000) : itemsOf (.str l) = some (l.map fun c => PV.str [c]) := by
  simp only [itemsOf]; rw [if_pos (szOk_of h)]
theorem items_rng {n : Nat} (h : n ≤ 100000) : itemsOf (.rng (n : Int)) = some ((List.range' 0 n).map fun (k : Nat) => PV.int (k : Int)) := by
  simp only [itemsOf, upto, List.range_eq_range', Int.toNat_natCast, Int.natAbs_natCast]
  rw [if_pos (Nat.ble_eq_true_of_le h)]
theorem rng_nat {n : Nat} (h : n ≤ 4294967296) : blt .range [.int (n : Int)] = some (.rng n) := by
  show ifz (smallInt (n : Int)) _ = _
  rw [show smallInt (n : Int) = true from Nat.ble_eq_true_of_le (by simpa using h)]; rfl
theorem intsOf_map : ∀ {ns : List Int}, intsOf (ns.map PV.int) = some ns
  | [] => rfl
  | n :: r => by rw [List.map_cons, intsOf, intsOf_map]; rfl
theorem sum_ints {ns : List Int} (h : ns.length ≤ 1000000) : blt .sum [.list (ns.map PV.int)] = some (.int ns.sum) := by
  show ifz (szOk (ns.map PV.int).length) (obind (intsOf (ns.map PV.int)) _) = _
  rw [szOk_of (by rw [List.length_map]; exact h), intsOf_map]; rfl
theorem list_dict {l : List (List Nat × PV)} (h : l.length ≤ 1000000) : blt .list [.dict l] = some (.list (l.map fun p => .str p.1)) := by
  show ifz (szOk l.length) _ = _
  rw [szOk_of h]; rfl
theorem lookT_pos {x : Nat} : ∀ {l : List (Nat × List Nat)}, (l.all fun p => Nat.ble 1 p.2.length) = true → 1 ≤ (lookT x l).length
  | [], _ => Nat.le_refl _
  | (c, t) :: r, h => by
    rw [List.all_cons, Bool.and_eq_true] at h
    unfold lookT
    split
    · exact Nat.le_of_ble_eq_true h.1
    · exact lookT_pos h.2
theorem lookT_one (k : Nat) (x : Nat) : 1 ≤ (lookT x (stepsOf k)).length := by
  refine lookT_pos ?_
  match k with
  | 0 => decide
  | 1 => decide
  | 2 => decide
  | 3 => decide
  | _ + 4 => show ((stepsOf 4).all _) = true; decide
theorem esc_ge (k : Nat) : ∀ (s : List Nat), s.length ≤ (esc k s).length
  | [] => Nat.zero_le _
  | x :: s => by
    have h1 := lookT_one k x
    have h2 := esc_ge k s
    unfold esc at h2 ⊢
    rw [List.flatMap_cons, List.length_append, List.length_cons]; omega
theorem esc_append (k : Nat) (a b : List Nat) : esc k (a ++ b) = esc k a ++ esc k b := by
  unfold esc; rw [List.flatMap_append]
/-! ### loops -/
noncomputable def fstep (C : Orc) (is : List Nat) (b : SL) (ρ : Ρ) (v : PV) : Option Res := match bindEach ρ is v with | some ρ' => exs C b ρ' | Option.none => Option.none
theorem fstep_of {C : Orc} {is : List Nat} {b : SL} {ρ ρ' : Ρ} {v : PV} (h : bindEach ρ is v = some ρ') : fstep C is b ρ v = exs C b ρ' := by
  unfold fstep; rw [h]
theorem xx_for {C : Orc} {is : List Nat} {iter : Mine.X} {b : SL} {ρ : Ρ} {x : PV} {items : List PV} (h1 : ev C iter ρ = some x) (h2 : itemsOf x = some items) :
    ex C (.fr is iter b) ρ = forEach (fstep C is b) items (dropAt ρ (al iter)) := ex_fr h1 h2
theorem forEach_nxt {step : Ρ → PV → Option Res} {x : PV} {r : List PV} {ρ ρ' : Ρ} (h : step ρ x = some (.nxt ρ')) : forEach step (x :: r) ρ = forEach step r ρ' := by
  rw [forEach, h]
theorem forEach_ret {step : Ρ → PV → Option Res} {x v : PV} {r : List PV} {ρ : Ρ} (h : step ρ x = some (.ret v)) : forEach step (x :: r) ρ = some (.ret v) := by
  rw [forEach, h]
theorem forEach3 {step : Ρ → PV → Option Res} {a b c : PV} {ρ0 ρ1 ρ2 ρ3 : Ρ} (h0 : step ρ0 a = some (.nxt ρ1)) (h1 : step ρ1 b = some (.nxt ρ2)) (h2 : step ρ2 c = some (.nxt ρ3)) : forEach step [a, b, c] ρ0 = some (.nxt ρ3) := by
  rw [forEach_nxt h0, forEach_nxt h1, forEach_nxt h2]; rfl
theorem perm_erase {s d : List Nat} {p : Nat} (h : p < d.length) : ((s ++ [d[p]]) ++ d.eraseIdx p).Perm (s ++ d) := by
  rw [List.append_assoc]
  refine List.Perm.append_left s ?_
  rw [List.eraseIdx_eq_take_drop_succ]
  have e : d = d.take p ++ d[p] :: d.drop (p + 1) := by rw [← List.drop_eq_getElem_cons h, List.take_append_drop]
  refine List.Perm.trans ?_ (List.Perm.of_eq e.symm)
  exact (List.perm_middle (l₁ := d.take p) (l₂ := d.drop (p + 1)) (a := d[p])).symm
end Mine
namespace Mine
open PySem PySem.W PyProof.Rows

theorem Runs.more {K : Cx} {ft : List Str} {n f : Nat} {args : List PV} {r : PV} (h : Runs K ft n f args r) : Runs K ft (n + 1) f args r :=
  fun name A s τ X vs fa h1 h2 hr h3 h4 h5 h6 R hR => h name A s τ X vs fa h1 h2 (hr.less (by omega)) h3 h4 h5 h6 R hR

theorem lvl_sound {K : Cx} {ft : List Str} (G : Glb K ft) {fs : Lv} {zp : Bool} (hz : zp = true → ∀ n, Sound K ft n (lvl fs n) → ZipOk K (lvl fs n) n) (D : ∀ f l fn, fs[f]? = some (some (l, fn)) → FnAt K ft zp f fn) : ∀ n, Sound K ft n (lvl fs n)
  | 0 => fun f args r h => by cases h
  | n + 1 => fun f args r h => by
    have ih := lvl_sound G hz D n
    unfold lvl at h
    split at h
    · rename_i l fn e
      split at h
      · exact fn_runs G ih (fun z => hz z n ih) (D f l fn e) h
      · exact (ih f args r h).more
    · cases h

/-- all the defs at once -/
theorem fnAt_lv {K : Cx} {zp : Bool} {fuel : Nat} {ft : List Str} {tab : List (Str × Option Fn)} {fs : Lv} (h : tabOf zp fuel ft K.p = tab) (hft : tab.map (·.1) = ft) (hfs : fs.map (·.map (·.2)) = tab.map (·.2)) : ∀ f l fn, fs[f]? = some (some (l, fn)) → FnAt K ft zp f fn := fun f l fn e => by
  have h1 : (fs.map (·.map (·.2)))[f]? = some (some fn) := by rw [List.getElem?_map, e]; rfl
  rw [hfs, List.getElem?_map, Option.map_eq_some_iff] at h1
  obtain ⟨⟨name, o⟩, h2, h3⟩ := h1
  cases h3
  exact fnAt_of h hft h2
end Mine
open PySem PySem.W PySem.W.X PyProof.Rows
set_option maxHeartbeats 8000000
namespace Mine
noncomputable def freeNames : List String := ["len", "sum", "int", "min", "max", "range", "list", "tuple", "sorted", "zip"]
theorem finish {p : Program} {loose : List Str} {mean : ExcName → Option Value} {mg mb : Str → Option Value} {prog : Program} {w : World} {s₁ : Shared} (T : Top p loose mean mg mb s₁.heap) (nb : NoneBooked s₁.heap) (tk : 0 < s₁.toks)
    {zp : Bool} {fuel : Nat} {tab : List (Str × Option Fn)} {fs : Lv} (ht : tabOf zp fuel (tab.map (·.1)) p = tab) (hfs : fs.map (·.map (·.2)) = tab.map (·.2))
    (hfree : freeNames.all (fun (x : String) => !(startupNames.contains (Str.ofString x)) && !(loose.contains (Str.ofString x)) && !(((recsOf p).map (·.name)).contains (Str.ofString x)) && !(((litsOf p).map (·.1)).contains (Str.ofString x)) && !(((clssOf p loose).map (·.name)).contains (Str.ofString x))) = true)
    (hdbg : (tab.map (·.1)).all (fun x => !(x == ("__debug__" : Str))) = true) (hz : zp = true → Glb ⟨prog, w, p, loose, mean, mg, mb⟩ (tab.map (·.1)) → ∀ n C, ZipOk ⟨prog, w, p, loose, mean, mg, mb⟩ C n)
    {f l : Nat} {fn : Fn} {name : Str} (hf : fs[f]? = some (some (l + 1, fn))) (hn : (tab.map (·.1))[f]? = some name) {fa a : Addr} {vs : List Value} {ns : List Int} (hm : mg name = some (.ref fa))
    (pl : s₁.heap.get? a = some { cls := .type "list", data := .seq vs.toArray }) (hI : IntsAre vs ns) (hr : run (lvl fs l) fn [.list (ns.map .int)] = some (.bool true)) (room : Room (l + 1) callerA) (hg : s₁.gens = #[])
    {c : ClaimW} {cl : Str → Option Addr} {mean' : ExcName → Option Value} {args : List WData} (h1 : ∀ cls, c.raises args cls = false) (h2 : c.post args (.bool true) args = true) {E : Value → Shared → Prop} :
    wpAny (model prog w) callerA (call (.ref fa) [.ref a]) (fun v s' => GoodWG c cl mean' args s₁ (.ok (.ret v)) s') E s₁ := by
  let K : Cx := ⟨prog, w, p, loose, mean, mg, mb⟩
  have G : Glb K (tab.map (·.1)) := glb_of (K := K) (h := s₁.heap) T ht rfl hfree hdbg
  have S := lvl_sound (K := K) G (fs := fs) (zp := zp) (fun z n _ => hz z G n _) (fnAt_lv ht rfl hfs)
  have hr' : lvl fs (l + 1) f [.list (ns.map .int)] = some (.bool true) := by rw [lvl_at hf (by omega)]; exact hr
  exact top_ok (K := K) ⟨T, nb⟩ tk pl hI (S (l + 1) f _ _ hr') hn hm room hg h1 h2
end Mine
namespace Mine
open PySem PySem.W PySem.W.X PyProof.Rows

/-! ## what is seen of the top's end -/
noncomputable def isDef : Stmt → Bool
  | .FunctionDef .. => true
  | _ => false
noncomputable def viewOf (p : Program) : Program := { p with main := { p.main with body := p.main.body.filter isDef } }
noncomputable def obsM (s : Shared) : Bool := match s.heap.isNs cStatics with
  | true => match s.heap.nsMap cStatics sharingNotToldKey with
    | none => Nat.blt 0 s.toks
    | some _ => false
  | false => false
theorem obs_ok {R : WRecords} {w : World} {s₀ s₁ : Shared} {ns : List Int} {a : Addr} {as : List Addr} (y : obsM s₀ = true) (L : Laid R w s₀ s₁ [ofPy (PyData.list (ns.map PyData.int))] [.ref a] as) : NoneBooked s₁.heap ∧ 0 < s₁.toks := by
  unfold obsM at y
  cases h1 : s₀.heap.isNs cStatics with
  | false => rw [h1] at y; cases y
  | true =>
    rw [h1] at y
    dsimp only at y
    cases h2 : s₀.heap.nsMap cStatics sharingNotToldKey with
    | some v => rw [h2] at y; cases y
    | none =>
      rw [h2] at y
      exact ⟨⟨_, (Heap.Ns.of_isNs h1).keeps L.keeps, h2⟩, Nat.lt_of_lt_of_le (Nat.le_of_ble_eq_true y) (script_toks L rfl)⟩
end Mine
namespace Mine
open PySem PySem.SeqAt PyProof.Rows

/-! ## zip of a plain text and a list -/
abbrev zt1 (h : Heap) (x : Str) (t : Tok) : Heap := h.push { cls := .type "str_ascii_iterator", data := .fields #[.str x t, .int 0 0] }
abbrev zt2 (h : Heap) (x : Str) (t : Tok) (l : Addr) : Heap := (zt1 h x t).push { cls := .type "list_iterator", data := .fields #[.ref l, .int 0 0] }
abbrev zt3 (h : Heap) (x : Str) (t : Tok) (l : Addr) : Heap := (zt2 h x t l).push { cls := .type "tuple", data := .seq #[.ref h.objs.size, .ref (zt1 h x t).objs.size] }
abbrev zt4 (h : Heap) (x : Str) (t : Tok) (l : Addr) : Heap := (zt3 h x t l).push { cls := .type "tuple", data := .seq #[.none, .none] }
abbrev zt5 (h : Heap) (x : Str) (t : Tok) (l : Addr) : Heap := (zt4 h x t l).push { cls := .type "zip", data := .fields #[.none, .bool false, .bool false, .ref (zt2 h x t l).objs.size, .ref (zt3 h x t l).objs.size] }

set_option maxHeartbeats 4000000 in
theorem zt_new (x : Str) (t : Tok) (l : Addr) (ys : Array Value) (ha : x.cps.all (· < 128) = true) :
    Meets (Builtin.«zip.__new__» ⟨[.type "zip", .str x t, .ref l], []⟩) (fun _ R s => s.heap.IsList l ys ∧ R (.ok (.ret (.ref (zt4 s.heap x t l).objs.size))) { s with heap := zt5 s.heap x t l }) :=
  .of_wp fun prog w A R s h => by
    obtain ⟨hp, g, d, tk, os⟩ := s; obtain ⟨hl, h⟩ := h
    have hsub := sub_zip
    have hL : Heap.IsList (Shared.heap ⟨hp.push { cls := .type "str_ascii_iterator", data := .fields #[.str x t, .int 0 0] }, g, d, tk, os⟩) l ys := Heap.IsList.push hl _
    wp_walk using wpAny_pyIter_ascii ha, wpAny_pyIter_list hL
    exact ⟨_, rfl, h⟩
end Mine
namespace Mine
open PySem PySem.SeqAt PyProof.Rows

section
variable {prog : Program} {w : World} {A : Around} {E : Value → Shared → Prop} {s : Shared}

theorem strIter_at {h h' : Heap} {a : Addr} {ty : String} {x : Str} {t : Tok} {i : Nat} (y : h.IsStrIter a ty x t i) (hk : ∀ o, h.get? a = some o → h'.get? a = some o) : h'.IsStrIter a ty x t i := let ⟨o, ho, r⟩ := y; ⟨o, hk o ho, r⟩

/-- what stands where, while a text is zipped with a list -/
structure ZtAt (h : Heap) (z TI TO i1 i2 l : Addr) (x : Str) (t : Tok) (k : Nat) (ys : Array Value) : Prop where
  hz : IsZip h z TI TO .none
  hTI : IsPair h TI (.ref i1) (.ref i2)
  hTO : ∃ a b, IsPair h TO a b
  h1 : h.IsStrIter i1 "str_ascii_iterator" x t k
  h2 : h.IsListIter i2 l k
  hl : h.IsList l ys
theorem ZtAt.up {h h' : Heap} {z TI TO i1 i2 l : Addr} {x : Str} {t : Tok} {k : Nat} {ys : Array Value} (Z : ZtAt h z TI TO i1 i2 l x t k ys) (hk : ∀ b ∈ [z, TI, TO, i1, i2, l], ∀ o, h.get? b = some o → h'.get? b = some o) : ZtAt h' z TI TO i1 i2 l x t k ys where
  hz := hk z (by simp) _ Z.hz
  hTI := hk TI (by simp) _ Z.hTI
  hTO := let ⟨a, b, e⟩ := Z.hTO; ⟨a, b, hk TO (by simp) _ e⟩
  h1 := strIter_at Z.h1 fun o e => hk i1 (by simp) o e
  h2 := Z.h2.at fun o e => hk i2 (by simp) o e
  hl := Z.hl.at fun o e => hk l (by simp) o e

theorem zt_item {z TI TO i1 i2 l : Addr} {x : Str} {t : Tok} {k c : Nat} {ys : Array Value} {y : Value} (D : ZipApart z TI TO i1 i2 l l) (Z : ZtAt s.heap z TI TO i1 i2 l x t k ys) (hx : x.cps[k]? = some c) (hy : ys[k]? = some y) {Q : Value → Shared → Prop}
    (hQ : ∀ h', IsZip h' z TI TO (rawInt s.heap.objs.size) → IsPair h' TO (.str ⟨#[c]⟩ s.toks) y → h'.IsStrIter i1 "str_ascii_iterator" x t (k + 1) → h'.IsListIter i2 l (k + 1) → IsPair h' s.heap.objs.size (.str ⟨#[c]⟩ s.toks) y →
      (∀ c o, c ≠ z → c ≠ TO → c ≠ i1 → c ≠ i2 → s.heap.get? c = some o → h'.get? c = some o) → Q (.ref s.heap.objs.size) { s with heap := h', toks := s.toks + 1 }) :
    wpAny (model prog w) A (Builtin.«zip.__next__» ⟨[.ref z], []⟩) (fun fin s' => ∃ v, fin = .done (.ret v) ∧ Q v s') E s := by
  obtain ⟨hz, hTI, ⟨a, b, hTO⟩, h1, h2, hl⟩ := Z
  show wpAny _ _ (field (.ref z) 2 >>= _) _ _ _
  refine wpAny_bind (wpAny_field hz rfl (x := .bool false) rfl ?_)
  show wpAny _ _ (field (.ref z) 3 >>= _) _ _ _
  refine wpAny_bind (wpAny_field hz rfl (x := .ref TI) rfl (wpAny_bind (wpAny_seqItems hTI rfl ?_)))
  show wpAny _ _ (Builtin.SmallTypes.ownedTupleIsFree (.ref z) >>= _) _ _ _
  unfold Builtin.SmallTypes.ownedTupleIsFree
  refine wpAny_bind (wpAny_bind (wpAny_field hz rfl (x := .none) rfl (wpAny_pure ?_)))
  simp only [if_true]
  refine wpAny_bind (wpAny_rule (wpAny_bind (wpAny_field hz rfl (x := .ref TO) rfl (wpAny_bind (wpAny_setField_rec hz (by simp) fun g₁ hz₁ e₁ => ?_)))))
  replace hz₁ : IsZip g₁ z TI TO .ellipsis := hz₁
  refine wpAny_bind ?_
  simp only [List.zipIdx_cons, List.zipIdx_nil, List.forIn_cons, List.forIn_nil]
  refine wpAny_bind (wpAny_bind (wpAny_onRaise ?_))
  show wpAny _ _ (Builtin.SmallTypes.nextOf (.ref i1) >>= _) _ _ _
  refine wpAny_bind (wpAny_nextOf_ascii_item (h1.extBut e₁.extBut D.i1z) hx fun g₂ h1₂ e₂ => wpAny_pure ?_)
  have hTO₂ : IsPair g₂ TO a b := e₂.extBut _ _ D.TOi1 (e₁.extBut _ _ D.TOz hTO)
  refine wpAny_bind (wpAny_seqItems hTO₂ rfl (wpAny_bind (wpAny_updateSeq_pair hTO₂ fun g₃ hTO₃ e₃ => ?_)))
  replace hTO₃ : IsPair g₃ TO (.str ⟨#[c]⟩ s.toks) b := hTO₃
  refine wpAny_bind (wpAny_letGo (wpAny_pure (wpAny_bind (wpAny_bind (wpAny_onRaise ?_)))))
  show wpAny _ _ (Builtin.SmallTypes.nextOf (.ref i2) >>= _) _ _ _
  refine wpAny_bind (wpAny_nextOf_list_item (((h2.extBut e₁.extBut D.i2z).extBut e₂.extBut D.i12.symm).extBut e₃.extBut D.TOi2.symm) (((hl.extBut e₁.extBut D.l2z).extBut e₂.extBut D.l2i1).extBut e₃.extBut D.l2TO) hy fun g₄ h2₄ e₄ => wpAny_pure ?_)
  have hTO₄ : IsPair g₄ TO (.str ⟨#[c]⟩ s.toks) b := e₄.extBut _ _ D.TOi2 hTO₃
  refine wpAny_bind (wpAny_seqItems hTO₄ rfl (wpAny_bind (wpAny_updateSeq_pair hTO₄ fun g₅ hTO₅ e₅ => ?_)))
  replace hTO₅ : IsPair g₅ TO (.str ⟨#[c]⟩ s.toks) y := hTO₅
  refine wpAny_bind (wpAny_letGo (wpAny_pure (wpAny_pure (wpAny_bind (wpAny_seqItems hTO₅ rfl (wpAny_bind (wpAny_newTuple ?_)))))))
  have hsz : g₅.objs.size = s.heap.objs.size := by rw [e₅.1, e₄.1, e₃.1, e₂.1, e₁.1]
  have kp : ∀ c o, c ≠ z → c ≠ TO → c ≠ i1 → c ≠ i2 → s.heap.get? c = some o → g₅.get? c = some o := fun c o c1 c2 c3 c4 e =>
    e₅.extBut _ _ c2 (e₄.extBut _ _ c4 (e₃.extBut _ _ c2 (e₂.extBut _ _ c3 (e₁.extBut _ _ c1 e))))
  have hz₅ : IsZip g₅ z TI TO .ellipsis := e₅.extBut _ _ D.TOz.symm (e₄.extBut _ _ D.i2z.symm (e₃.extBut _ _ D.TOz.symm (e₂.extBut _ _ D.i1z.symm hz₁)))
  have h1₅ : g₅.IsStrIter i1 "str_ascii_iterator" x t (k + 1) := ((h1₂.extBut e₃.extBut D.TOi1.symm).extBut e₄.extBut D.i12).extBut e₅.extBut D.TOi1.symm
  have h2₅ : g₅.IsListIter i2 l (k + 1) := h2₄.extBut e₅.extBut D.TOi2.symm
  show wpAny _ _ (Builtin.SmallTypes.ownedTupleHandOut (.ref z) (.ref g₅.objs.size) >>= _) _ _ _
  unfold Builtin.SmallTypes.ownedTupleHandOut
  refine wpAny_bind (wpAny_bind (wpAny_setField_rec (Heap.get?_push_of_some _ hz₅) (by simp) fun g₇ hz₇ e₇ => wpAny_setField_rec hz₇ (by simp) fun g₈ hz₈ e₈ => wpAny_pure ⟨_, rfl, ?_⟩))
  replace hz₈ : IsZip g₈ z TI TO (rawInt g₅.objs.size) := hz₈
  have up : ∀ c o, c ≠ z → g₅.get? c = some o → g₈.get? c = some o := fun c o c1 e => e₈.extBut _ _ c1 (e₇.extBut _ _ c1 (Heap.get?_push_of_some _ e))
  have hT₈ : IsPair g₈ g₅.objs.size (.str ⟨#[c]⟩ s.toks) y := e₈.extBut _ _ (Nat.ne_of_gt (Heap.lt_size hz₅)) (e₇.extBut _ _ (Nat.ne_of_gt (Heap.lt_size hz₅)) (Heap.get?_push_size _ rfl))
  show Q (.ref g₅.objs.size) _
  rw [hsz] at hz₈ hT₈ ⊢
  exact hQ g₈ hz₈ (up _ _ D.TOz hTO₅) (strIter_at h1₅ fun o e => up _ o D.i1z e) (h2₅.at fun o e => up _ o D.i2z e) hT₈ fun c o c1 c2 c3 c4 e => up c o c1 (kp c o c1 c2 c3 c4 e)

theorem zt_end {z TI TO i1 i2 l : Addr} {x : Str} {t : Tok} {k : Nat} {ys : Array Value} (hh : A.handled = none) (D : ZipApart z TI TO i1 i2 l l) (Z : ZtAt s.heap z TI TO i1 i2 l x t k ys) (hend : x.cps[k]? = none ∨ ys[k]? = none) {Q : Fin → Shared → Prop}
    (hE : ∀ h' tk e, s.toks ≤ tk → (∀ c o, c ≠ z → c ≠ TO → c ≠ i1 → c ≠ i2 → s.heap.get? c = some o → h'.get? c = some o) → (∃ o, h'.get? e = some o ∧ o.cls = .type "StopIteration") → E (.ref e) { s with heap := h', toks := tk }) :
    wpAny (model prog w) A (Builtin.«zip.__next__» ⟨[.ref z], []⟩) Q E s := by
  obtain ⟨hz, hTI, ⟨a, b, hTO⟩, h1, h2, hl⟩ := Z
  show wpAny _ _ (field (.ref z) 2 >>= _) _ _ _
  refine wpAny_bind (wpAny_field hz rfl (x := .bool false) rfl ?_)
  show wpAny _ _ (field (.ref z) 3 >>= _) _ _ _
  refine wpAny_bind (wpAny_field hz rfl (x := .ref TI) rfl (wpAny_bind (wpAny_seqItems hTI rfl ?_)))
  show wpAny _ _ (Builtin.SmallTypes.ownedTupleIsFree (.ref z) >>= _) _ _ _
  unfold Builtin.SmallTypes.ownedTupleIsFree
  refine wpAny_bind (wpAny_bind (wpAny_field hz rfl (x := .none) rfl (wpAny_pure ?_)))
  simp only [if_true]
  refine wpAny_bind (wpAny_rule (wpAny_bind (wpAny_field hz rfl (x := .ref TO) rfl (wpAny_bind (wpAny_setField_rec hz (by simp) fun g₁ hz₁ e₁ => ?_)))))
  replace hz₁ : IsZip g₁ z TI TO .ellipsis := hz₁
  refine wpAny_bind ?_
  simp only [List.zipIdx_cons, List.zipIdx_nil, List.forIn_cons, List.forIn_nil]
  refine wpAny_bind (wpAny_bind (wpAny_onRaise ?_))
  show wpAny _ _ (Builtin.SmallTypes.nextOf (.ref i1) >>= _) _ _ _
  have stop : ∀ (g : Heap) (tk : Nat) (e : Addr), s.toks ≤ tk → IsZip g z TI TO .ellipsis → (∃ o, g.get? e = some o ∧ o.cls = .type "StopIteration") → (∀ c o, c ≠ z → c ≠ TO → c ≠ i1 → c ≠ i2 → s.heap.get? c = some o → g.get? c = some o) →
      wpAny (model prog w) A (setField (.ref z) 0 .none) (fun _ s' => E (.ref e) s') E { s with heap := g, toks := tk } := fun g tk e ht hg ⟨oe, hoe, hce⟩ hk => by
    have hez : e ≠ z := fun q => by subst q; rw [hg] at hoe; cases hoe; simp at hce
    exact wpAny_setField_rec hg (by simp) fun g' _ e' => hE g' tk e ht (fun c o c1 c2 c3 c4 q => e'.extBut _ _ c1 (hk c o c1 c2 c3 c4 q)) ⟨oe, e'.extBut _ _ hez hoe, hce⟩
  cases hx : x.cps[k]? with
  | none =>
    exact wpAny_bind (wpAny_nextOf_ascii_end hh (h1.extBut e₁.extBut D.i1z) hx fun g₂ e e₂ he => stop g₂ s.toks e (Nat.le_refl _) (e₂ _ _ D.i1z.symm hz₁) he fun c o c1 _ c3 _ q => e₂ _ _ c3 (e₁.extBut _ _ c1 q))
  | some c =>
    have hy : ys[k]? = none := by rcases hend with h | h; rw [hx] at h; cases h; exact h
    refine wpAny_bind (wpAny_nextOf_ascii_item (h1.extBut e₁.extBut D.i1z) hx fun g₂ h1₂ e₂ => wpAny_pure ?_)
    have hTO₂ : IsPair g₂ TO a b := e₂.extBut _ _ D.TOi1 (e₁.extBut _ _ D.TOz hTO)
    refine wpAny_bind (wpAny_seqItems hTO₂ rfl (wpAny_bind (wpAny_updateSeq_pair hTO₂ fun g₃ hTO₃ e₃ => ?_)))
    refine wpAny_bind (wpAny_letGo (wpAny_pure (wpAny_bind (wpAny_bind (wpAny_onRaise ?_)))))
    show wpAny _ _ (Builtin.SmallTypes.nextOf (.ref i2) >>= _) _ _ _
    exact wpAny_bind (wpAny_nextOf_list_end hh (((h2.extBut e₁.extBut D.i2z).extBut e₂.extBut D.i12.symm).extBut e₃.extBut D.TOi2.symm) (((hl.extBut e₁.extBut D.l2z).extBut e₂.extBut D.l2i1).extBut e₃.extBut D.l2TO) hy fun g₄ e e₄ he =>
      stop g₄ (s.toks + 1) e (Nat.le_succ _) (e₄ _ _ D.i2z.symm (e₃.extBut _ _ D.TOz.symm (e₂.extBut _ _ D.i1z.symm hz₁))) he fun c o c1 c2 c3 c4 q => e₄ _ _ c4 (e₃.extBut _ _ c2 (e₂.extBut _ _ c3 (e₁.extBut _ _ c1 q))))

theorem zt_next {z TI TO i1 i2 l : Addr} {x : Str} {t : Tok} {k c : Nat} {ys : Array Value} {y : Value} (D : ZipApart z TI TO i1 i2 l l) (Z : ZtAt s.heap z TI TO i1 i2 l x t k ys) (hx : x.cps[k]? = some c) (hy : ys[k]? = some y) {Q : Option Value → Shared → Prop}
    (hQ : ∀ h', IsZip h' z TI TO (rawInt s.heap.objs.size) → IsPair h' TO (.str ⟨#[c]⟩ s.toks) y → h'.IsStrIter i1 "str_ascii_iterator" x t (k + 1) → h'.IsListIter i2 l (k + 1) → IsPair h' s.heap.objs.size (.str ⟨#[c]⟩ s.toks) y →
      (∀ c o, c ≠ z → c ≠ TO → c ≠ i1 → c ≠ i2 → s.heap.get? c = some o → h'.get? c = some o) → Q (some (.ref s.heap.objs.size)) { s with heap := h', toks := s.toks + 1 }) :
    wpAny (model prog w) A (pyNext (.ref z)) Q E s := by
  have hT : s.TypeIs (.ref z) "zip" := ⟨_, Z.hz, rfl⟩
  unfold pyNext
  exact wpAny_bind (wpAny_attempt (wpAny_callSpecial?_slot (name := Str.ofString "__next__") hT F.slot_zip_next
    (wpAny_call_entry F.slot_zip_next hT F.entry_zip_next (zt_item D Z hx hy fun h' a1 a2 a3 a4 a5 a6 => wpAny_pure (hQ h' a1 a2 a3 a4 a5 a6)) (F.args_zip_next_1 _))))
theorem zt_done {z TI TO i1 i2 l : Addr} {x : Str} {t : Tok} {k : Nat} {ys : Array Value} (hh : A.handled = none) (D : ZipApart z TI TO i1 i2 l l) (Z : ZtAt s.heap z TI TO i1 i2 l x t k ys) (hend : x.cps[k]? = none ∨ ys[k]? = none) {Q : Option Value → Shared → Prop}
    (hQ : ∀ h' tk, s.toks ≤ tk → (∀ c o, c ≠ z → c ≠ TO → c ≠ i1 → c ≠ i2 → s.heap.get? c = some o → h'.get? c = some o) → Q none { s with heap := h', toks := tk }) : wpAny (model prog w) A (pyNext (.ref z)) Q E s := by
  have hT : s.TypeIs (.ref z) "zip" := ⟨_, Z.hz, rfl⟩
  unfold pyNext
  refine wpAny_bind (wpAny_attempt (wpAny_callSpecial?_slot (name := Str.ofString "__next__") hT F.slot_zip_next
    (wpAny_call_entry F.slot_zip_next hT F.entry_zip_next (zt_end (A := A.in1) hh D Z hend fun h' tk e ht hk he => ?_) (F.args_zip_next_1 _))))
  obtain ⟨o, ho, hc⟩ := he
  exact wpAny_bind (wpAny_isInstance (T := "StopIteration") (b := true) ⟨o, ho, hc⟩ isSubtype_stop (wpAny_pure (hQ _ _ ht hk)))

theorem zt_call {x : Str} {t : Tok} {l : Addr} {ys : Array Value} (ha : x.cps.all (· < 128) = true) {Q : Value → Shared → Prop} (hl : s.heap.IsList l ys)
    (h : ∀ h', ZtAt h' (s.heap.objs.size + 4) (s.heap.objs.size + 2) (s.heap.objs.size + 3) s.heap.objs.size (s.heap.objs.size + 1) l x t 0 ys → h'.objs.size = s.heap.objs.size + 5 → (∀ c o, s.heap.get? c = some o → h'.get? c = some o) → Q (.ref (s.heap.objs.size + 4)) { s with heap := h' }) :
    wpAny (model prog w) A (call (.type "zip") [.str x t, .ref l]) Q E s := by
  refine callType_new F.called_zip (by decide) (F.typeCall_zip_2 _ _) (F.newCall_zip_2 _ _) (fun obj => F.args_object_init_3 obj _ _) F.entry_zip_new (zt_new x t l ys ha) ⟨hl, ?_⟩
  have z1 : (zt1 s.heap x t).objs.size = s.heap.objs.size + 1 := Heap.size_push ..
  have z2 : (zt2 s.heap x t l).objs.size = s.heap.objs.size + 2 := by rw [Heap.size_push, z1]
  have z3 : (zt3 s.heap x t l).objs.size = s.heap.objs.size + 3 := by rw [Heap.size_push, z2]
  have z4 : (zt4 s.heap x t l).objs.size = s.heap.objs.size + 4 := by rw [Heap.size_push, z3]
  have z5 : (zt5 s.heap x t l).objs.size = s.heap.objs.size + 5 := by rw [Heap.size_push, z4]
  have u1 : ∀ c o, (zt1 s.heap x t).get? c = some o → (zt5 s.heap x t l).get? c = some o := fun c o e => Heap.get?_push_of_some _ (Heap.get?_push_of_some _ (Heap.get?_push_of_some _ (Heap.get?_push_of_some _ e)))
  have g5 : (zt5 s.heap x t l).get? (zt4 s.heap x t l).objs.size = some _ := Heap.get?_push_size _ rfl
  have g4 : (zt5 s.heap x t l).get? (zt3 s.heap x t l).objs.size = some _ := Heap.get?_push_of_some _ (Heap.get?_push_size _ rfl)
  have g3 : (zt5 s.heap x t l).get? (zt2 s.heap x t l).objs.size = some _ := Heap.get?_push_of_some _ (Heap.get?_push_of_some _ (Heap.get?_push_size _ rfl))
  have g2 : (zt5 s.heap x t l).get? (zt1 s.heap x t).objs.size = some _ := Heap.get?_push_of_some _ (Heap.get?_push_of_some _ (Heap.get?_push_of_some _ (Heap.get?_push_size _ rfl)))
  have g1 : (zt5 s.heap x t l).get? s.heap.objs.size = some _ := u1 _ _ (Heap.get?_push_size _ rfl)
  show _ ∧ _
  rw [z2, z3, z4] at g5
  rw [z1, z2] at g3
  rw [z3] at g4
  rw [z1] at g2
  rw [z4]
  have kp : ∀ c o, s.heap.get? c = some o → (zt5 s.heap x t l).get? c = some o := fun c o e => u1 c o (Heap.get?_push_of_some _ e)
  exact ⟨⟨_, g5, rfl⟩, h _ ⟨g5, g3, ⟨_, _, g4⟩, ⟨_, g1, rfl, rfl⟩, ⟨_, g2, rfl, rfl⟩, hl.at fun o e => kp _ o e⟩ z5 kp⟩
end
end Mine
namespace Mine
open PySem PySem.SeqAt PyProof.Rows

section
variable {K : Cx} {C : Orc} {m : Nat} {sc : Scope} {vars : List Str} {A : Around} {env : Env} {s₀ : Shared} {τ₀ : Tk} {X₀ : Addr → Prop} {own : Nat → Option Addr} {ρ : Ρ}

theorem zipV_get {cs : List Nat} {ys : List PV} {j : Nat} (h : j < (zipV (cs.map fun c => PV.str [c]) ys).length) : ∃ c y, cs[j]? = some c ∧ ys[j]? = some y ∧ (zipV (cs.map fun c => PV.str [c]) ys)[j]? = some (.tup [.str [c], y]) := by
  induction cs generalizing ys j with
  | nil => cases h
  | cons c cs ih =>
    cases ys with
    | nil => cases h
    | cons y ys =>
      cases j with
      | zero => exact ⟨c, y, rfl, rfl, rfl⟩
      | succ j => exact ih (Nat.lt_of_succ_lt_succ h)
theorem zipV_end {cs : List Nat} {ys : List PV} : cs[(zipV (cs.map fun c => PV.str [c]) ys).length]? = none ∨ ys[(zipV (cs.map fun c => PV.str [c]) ys).length]? = none := by
  induction cs generalizing ys with
  | nil => exact .inl rfl
  | cons c cs ih =>
    cases ys with
    | nil => exact .inr rfl
    | cons y ys => exact ih (ys := ys)

theorem zip_loop {ts : List Expr} {k : Nat} {tp : Pos} {b : List Stmt} {body : SL} {i j : Nat} {X : Addr → Prop} (hn : namesOf sc vars ts = some [i, j]) (ihb : ExsAt K C m sc vars b body) {s₁ s₂ : Shared} {τ₁ : Tk} {cs : List Nat} {l : List PV} {vs : List Value} {z TI TO i1 i2 la : Addr} {tk : Tok}
    (F : Fr K m sc vars A env s₀ τ₀ X₀ s₁ τ₁ own ρ) (hX : ∀ b, XO X₀ env own b → X b) (D : ZipApart z TI TO i1 i2 la la) (hst0 : ZtAt s₂.heap z TI TO i1 i2 la (sOf cs) tk 0 vs.toArray) (hla : ¬ X la) (hla1 : ∃ o, s₁.heap.get? la = some o)
    (hnew : ∀ b ∈ [z, TI, TO, i1, i2], s₁.heap.get? b = none) (x2 : Ext s₁ τ₁ s₂ τ₁) (hrd : RdL K ⟨s₁.heap, τ₁⟩ X vs l) {r : Res}
    (he : forEach (fun ρ v => match bindEach ρ [i, j] v with | some ρ' => exs C body ρ' | Option.none => Option.none) (zipV (cs.map fun c => PV.str [c]) l) ρ = some r) {Q : Flow → Shared → Prop} {R : Result → Shared → Prop} (hR : ∀ f s', Q f s' → R (.ok f) s')
    (hQ : Ends K m sc vars A env s₀ τ₀ X₀ s₁ τ₁ own r Q) : Cp K.M A (.forLoop (.Tuple ts k tp) (.ref z) b [] env) R s₂ := by
  have hh := F.room.handled
  let Z : Addr → Prop := fun b => b ∈ [z, TI, TO, i1, i2]
  have hZ1 : ∀ b, Z b → s₁.heap.get? b = none := hnew
  have hZ0 : ∀ b, Z b → s₀.heap.get? b = none := fun b z => by
    cases e : s₀.heap.get? b with
    | none => rfl
    | some o => have := F.ext.keep b o e; rw [hZ1 b z] at this; cases this
  have live : ∀ (h : Heap) (n : Nat), ZtAt h z TI TO i1 i2 la (sOf cs) tk n vs.toArray → ∀ b, Z b → ∃ o, h.get? b = some o := fun h n H b hb => by
    simp only [Z, List.mem_cons, List.not_mem_nil, or_false] at hb
    rcases hb with rfl | rfl | rfl | rfl | rfl
    · exact ⟨_, H.hz⟩
    · exact ⟨_, H.hTI⟩
    · obtain ⟨a, c, e⟩ := H.hTO; exact ⟨_, e⟩
    · obtain ⟨o, e, _⟩ := H.h1; exact ⟨o, e⟩
    · obtain ⟨o, e, _⟩ := H.h2; exact ⟨o, e⟩
  have nz : ∀ c, ¬ Z c → c ≠ z ∧ c ≠ TO ∧ c ≠ i1 ∧ c ≠ i2 := fun c hc => ⟨fun q => hc (by simp [Z, q]), fun q => hc (by simp [Z, q]), fun q => hc (by simp [Z, q]), fun q => hc (by simp [Z, q])⟩
  have F₂ : Fr K m sc vars A env s₀ τ₀ (fun b => X₀ b ∨ Z b) s₂ τ₁ own ρ := F.addX x2 hZ1 (fun b hb => live _ _ hst0 b hb)
  generalize hitems : zipV (cs.map fun c => PV.str [c]) l = items at he
  have hget : ∀ j, j < items.length → ∃ c y, cs[j]? = some c ∧ l[j]? = some y ∧ items[j]? = some (.tup [.str [c], y]) := fun j hj => by subst hitems; exact zipV_get hj
  have hend : cs[items.length]? = none ∨ l[items.length]? = none := by subst hitems; exact zipV_end
  refine ⟨codeAny_forLoop_any (fun k s' => ∃ τ' own' ρ' j, k = items.length + 1 - j ∧ j ≤ items.length ∧ Fr K m sc vars A env s₀ τ₀ (fun b => X₀ b ∨ Z b) s' τ' own' ρ' ∧ ZtAt s'.heap z TI TO i1 i2 la (sOf cs) tk j vs.toArray ∧ StpW Z env s₁ τ₁ own s' τ' own' ∧
    forEach (fun ρ v => match bindEach ρ [i, _] v with | some ρ' => exs C body ρ' | Option.none => Option.none) (items.drop j) ρ' = some r) ?_ (items.length + 1)
    ⟨τ₁, own, ρ, 0, rfl, Nat.zero_le _, F₂, hst0, ⟨fun b o e _ _ _ => x2.keep b o e, fun j b h _ => .inl ⟨j, h⟩, fun _ _ e => e⟩, by simpa using he⟩⟩
  rintro k' s' ⟨τ', own', ρ', jj, rfl, hj, F', hst, sw, hfe⟩
  by_cases hlt : jj < items.length
  · obtain ⟨c, q, hc, hq, hit⟩ := hget jj hlt
    obtain ⟨y, hy, hyr⟩ := RdL.get hrd hq
    have hcx : (sOf cs).cps[jj]? = some c := by simpa using hc
    have hyx : vs.toArray[jj]? = some y := by simpa using hy
    refine zt_next D hst hcx hyx fun h₁ a1 a2 a3 a4 a5 hk₁ => ?_
    have hTz : s'.heap.objs.size ≠ z := Nat.ne_of_gt (Heap.lt_size hst.hz)
    refine wpAny_letOwnedTupleGo_zip (s := { s' with heap := h₁, toks := s'.toks + 1 }) a1 fun h₂ b1 b2 => ?_
    have hk₂ : ∀ b o, ¬ Z b → s'.heap.get? b = some o → h₂.get? b = some o := fun b o hb e => by
      obtain ⟨n1, n2, n3, n4⟩ := nz b hb
      exact b2.extBut _ _ n1 (hk₁ b o n1 n2 n3 n4 e)
    have st₂ : ZtAt h₂ z TI TO i1 i2 la (sOf cs) tk (jj + 1) vs.toArray :=
      ⟨b1, b2.extBut _ _ D.TIz (hk₁ _ _ D.TIz D.TITO D.TIi1 D.TIi2 hst.hTI), ⟨_, _, b2.extBut _ _ D.TOz a2⟩, a3.extBut b2.extBut D.i1z, a4.extBut b2.extBut D.i2z,
        hst.hl.at fun o e => b2.extBut _ _ D.l1z (hk₁ _ o D.l1z D.l1TO D.l1i1 D.l1i2 e)⟩
    have hT₂ : IsPair h₂ s'.heap.objs.size (.str ⟨#[c]⟩ s'.toks) y := b2.extBut _ _ hTz a5
    have F₁ := F'.shift (Z := Z) (Y₀ := fun b => X₀ b ∨ Z b) (h' := h₂) (tk := s'.toks + 1) (fun _ h => h) (fun b hz => .inr hz) hZ0 (fun b o hb e => hk₂ b o hb e) (fun b _ hz => live _ _ st₂ b hz) (Nat.le_succ _)
    have sw₁ : StpW Z env s₁ τ₁ own { s' with heap := h₂, toks := s'.toks + 1 } τ' own' := ⟨fun b o e h1 h2 hz => hk₂ b o hz (sw.keep b o e h1 h2 hz), sw.own, sw.sub⟩
    have hdrop : items.drop jj = .tup [.str [c], q] :: items.drop (jj + 1) := by
      rw [List.getElem?_eq_getElem hlt] at hit
      rw [List.drop_eq_getElem_cons hlt, Option.some.inj hit]
    rw [hdrop] at hfe
    unfold forEach at hfe
    dsimp only [bindEach, seqOf] at hfe
    cases hset : setEach ρ' false [i, j] [.str [c], q] with
    | none => rw [hset] at hfe; cases hfe
    | some ρ₁ =>
      rw [hset] at hfe
      dsimp only at hfe
      have hv : Rd K ⟨h₂, τ'⟩ (XO (fun b => X₀ b ∨ Z b) env own') y q := Rd.stpW (s' := { s' with heap := h₂, toks := s'.toks + 1 }) (fun j b h => (F'.fresh j b h).2) sw₁ hZ1 (hyr.less hX)
      obtain ⟨xs, g1, g2, g3, g4⟩ := namesOf_ok K A env hn
      refine wpAny_assign_Tuple hh (items := #[.str ⟨#[c]⟩ s'.toks, y]) (PT.isTuple (vs := [.str ⟨#[c]⟩ s'.toks, y]) ⟨_, hT₂⟩) g4 g3 fun h₃ hx₃ => ?_
      have e3 : Ext { s' with heap := h₂, toks := s'.toks + 1 } τ' { s' with heap := h₃, toks := s'.toks + 1 } τ' := .but0 F₁.ext.ok hx₃
      have hrl : RdL K ⟨h₂, τ'⟩ (XO (fun b => X₀ b ∨ Z b) env own') [.str ⟨#[c]⟩ s'.toks, y] [.str [c], q] := ⟨_, _, rfl, ⟨_, rfl⟩, _, _, rfl, hv, rfl⟩
      refine (stores_ok g2 g1 (F₁.step e3) (hrl.ext e3) hset fun s₃ own₃ F₃ st₃ => ?_).out
      cases hb : exs C body ρ₁ with
      | none => rw [hb] at hfe; cases hfe
      | some r₁ =>
        rw [hb] at hfe
        refine (ihb A env s₀ τ₀ _ s₃ τ' own₃ ρ₁ r₁ F₃ hb _ _ ⟨fun ρ₂ hr s₄ τ₄ own₄ F₄ st₄ => ?_, fun p hr u s₄ τ₄ x₄ rd₄ => ?_⟩).out
        · subst hr
          have st₃' : Stp env { s' with heap := h₂, toks := s'.toks + 1 } τ' own' s₃ τ' own₃ := (Stp.ext e3).trans st₃
          have sw₄ := (sw₁.go st₃').go st₄
          refine ⟨items.length + 1 - (jj + 1), by omega, τ₄, own₄, ρ₂, jj + 1, rfl, hlt, F₄, ?_, sw₄, hfe⟩
          have st₃₄ := st₃'.trans st₄
          refine st₂.up fun b hb o e => st₃₄.keep b o e ?_ ?_
          · intro hL
            by_cases hz : Z b
            · exact F'.x0n b hL (.inr hz)
            · have : b = la := by
                simp only [Z, List.mem_cons, List.not_mem_nil, or_false] at hb hz
                rcases hb with h | h | h | h | h | h
                · exact absurd (.inl h) hz
                · exact absurd (.inr (.inl h)) hz
                · exact absurd (.inr (.inr (.inl h))) hz
                · exact absurd (.inr (.inr (.inr (.inl h)))) hz
                · exact absurd (.inr (.inr (.inr (.inr h)))) hz
                · exact h
              subst this
              exact hla (hX b (.inr (.inl hL)))
          · intro q' hq'
            by_cases hz : Z b
            · exact F'.x0o q' b hq' (.inr hz)
            · have : b = la := by
                simp only [Z, List.mem_cons, List.not_mem_nil, or_false] at hb hz
                rcases hb with h | h | h | h | h | h
                · exact absurd (.inl h) hz
                · exact absurd (.inr (.inl h)) hz
                · exact absurd (.inr (.inr (.inl h))) hz
                · exact absurd (.inr (.inr (.inr (.inl h)))) hz
                · exact absurd (.inr (.inr (.inr (.inr h)))) hz
                · exact h
              subst this
              obtain ⟨o', ho'⟩ := hla1
              rcases sw₁.own q' b hq' (F'.fresh q' b hq').2 with ⟨i', hi'⟩ | hn' | hz'
              · exact hla (hX b (.inr (.inr ⟨i', hi'⟩)))
              · rw [hn'] at ho'; cases ho'
              · exact hz hz'
        · subst hr
          cases hfe
          exact hR _ _ (hQ.ret p rfl u s₄ τ₄ x₄ (rd₄.less fun b hb => .inl hb))
  · have hje : jj = items.length := Nat.le_antisymm hj (Nat.not_lt.mp hlt)
    subst hje
    have hlen := hrd.length
    refine zt_done hh D hst (hend.imp (fun h => by simpa using h) fun h => ?_) fun h₁ tk₁ hle₁ hk₁ => ?_
    · rw [List.getElem?_eq_none_iff] at h
      simpa [hlen] using h
    · have hk₂ : ∀ b o, ¬ Z b → s'.heap.get? b = some o → h₁.get? b = some o := fun b o hb e => by
        obtain ⟨n1, n2, n3, n4⟩ := nz b hb
        exact hk₁ b o n1 n2 n3 n4 e
      rw [List.drop_length] at hfe
      unfold forEach at hfe
      cases hfe
      have F₁ := F'.shift (Y₀ := X₀) (Z := Z) (h' := h₁) (tk := tk₁) (fun _ h => .inl h) (fun b hz => .inr hz) hZ0 (fun b o hb e => hk₂ b o hb e) (fun b hb hz => by
        obtain ⟨o, ho⟩ := F.x0l b hb
        rw [hZ1 b hz] at ho; cases ho) hle₁
      have sw₁ : StpW Z env s₁ τ₁ own { s' with heap := h₁, toks := tk₁ } τ' own' := ⟨fun b o e h1 h2 hz => hk₂ b o hz (sw.keep b o e h1 h2 hz), sw.own, sw.sub⟩
      exact wpAny_execs_nil (hR _ _ (hQ.nxt _ rfl _ _ _ F₁ (sw₁.stp hZ1)))
end
end Mine
namespace Mine
open PySem PySem.SeqAt PyProof.Rows

section
variable {K : Cx} {C : Orc} {m : Nat} {sc : Scope} {vars : List Str} {ft : List Str}

theorem isZip_inv {it e1 e2 : Expr} (h : isZip it = some (e1, e2)) : ∃ np p, it = .Call (.Name ("zip" : Str) np) [e1, e2] [] p := by
  have hv := viewE_ok it
  unfold isZip at h
  generalize viewE it = v at hv h
  cases hv with
  | call f q as p =>
    dsimp only at h
    cases hf : f == ("zip" : Str) with
    | false => rw [hf] at h; cases h
    | true =>
      rw [hf] at h
      have hf := eq_of_beq hf
      subst hf
      rcases as with _ | ⟨a, _ | ⟨b, _ | ⟨c, r⟩⟩⟩
      · cases h
      · cases h
      · cases h; exact ⟨q, p, rfl⟩
      · cases h
  | _ => cases h

theorem zipItems_inv {x y : PV} {items : List PV} (h : zipItems x y = some items) : ∃ cs l, x = .str cs ∧ y = .list l ∧ (cs.all fun c => Nat.blt c 128) = true ∧ items = zipV (cs.map fun c => PV.str [c]) l := by
  obtain ⟨cs, h1, e1⟩ := obind_inv h
  obtain ⟨l, h2, e2⟩ := obind_inv e1
  obtain ⟨ha, e3⟩ := ifz_inv e2
  obtain ⟨_, e4⟩ := ifz_inv e3
  obtain ⟨_, e5⟩ := ifz_inv e4
  cases e5
  exact ⟨cs, l, asS_inv h1, asL_inv h2, ha, rfl⟩

theorem zip_ok (G : Glb K ft) : ZipOk K C m := by
  intro sc vars ts k tp pos it e1 e2 b i j x y body hg hn hz hL hb A env s₀ τ₀ X₀ s τ own ρ r F he Q E hQ
  obtain ⟨np, p, rfl⟩ := isZip_inv hz
  simp only [ex] at he
  cases hx : ev C x ρ with
  | none => rw [hx] at he; cases he
  | some px =>
    rw [hx] at he
    dsimp only at he
    cases hy : ev C y ρ with
    | none => rw [hy] at he; cases he
    | some py =>
      rw [hy] at he
      dsimp only at he
      cases hit : zipItems px py with
      | none => rw [hit] at he; cases he
      | some items =>
        rw [hit] at he
        dsimp only at he
        obtain ⟨cs, l, rfl, rfl, ha, rfl⟩ := zipItems_inv hit
        have hkind : env.kindOf ("zip" : Str) = some .globalImplicit := by
          show env.scope.names.lookup ("zip" : Str) = _
          rw [F.frm.env.scope]
          unfold isGlobK at hg
          split at hg
          · assumption
          · cases hg
        have hl : evL C (.cons x (.cons y .nil)) ρ = some [.str cs, .list l] := by
          rw [evL, hx]; dsimp only; rw [evL, hy]; rfl
        refine ⟨wpAny_For (iter := .Call (.Name ("zip" : Str) np) [e1, e2] [] p) ?_ (fun _ => rfl)⟩
        show wpAny K.M A (eval (.Name ("zip" : Str) np) env >>= fun f => callWith p f [] (backTo p (starEach [e1, e2] env)) (backToKw p (keywordEach [] env))) _ E s
        refine wpAny_bind (Calls.Name_function_global (by rw [F.frm.env.scope]; exact F.frm.env.kind) hkind (Calls.loadGlobal_builtin (by rw [F.frm.env.globals]; exact F.frm.top.top.g) G.zip.1 (by rw [F.frm.env.builtins]; exact F.frm.top.top.b) G.zip.2 ?_) (by decide))
        refine PySem.callWith_type hL.plain ((args_ok hL F.frm hl (fun vs s₁ τ₁ k1 k2 => ?_)).out)
        obtain ⟨v1, r1, rfl, ⟨t, rfl⟩, v2, r2, rfl, ⟨la, ws, rfl, hxl, p1, hrd⟩, h3⟩ := k2
        cases h3
        have F₁ := (F.drop (alL (.cons x (.cons y .nil)))).step k1
        have hac : (sOf cs).cps.all (· < 128) = true := by
          have : (sOf cs).cps.toList = cs := rfl
          rw [← Array.all_toList, this, List.all_eq_true]
          intro c hc
          have := List.all_eq_true.mp ha c hc
          exact decide_eq_true (Nat.le_of_ble_eq_true this)
        obtain ⟨na, hla⟩ := id p1
        have hlt := Heap.lt_size hla
        refine zt_call hac p1.isList fun h' Z hsz hk => ?_
        have D : ZipApart (s₁.heap.objs.size + 4) (s₁.heap.objs.size + 2) (s₁.heap.objs.size + 3) s₁.heap.objs.size (s₁.heap.objs.size + 1) la la :=
          PyProof.Rows.zipApart_new hlt hlt
        refine wpAny_pyIter_zip (s := { s₁ with heap := h' }) Z.hz ?_
        have x2 : Ext s₁ τ₁ { s₁ with heap := h' } τ₁ := .heap k1.ok fun b o e => hk b o e
        have fresh : ∀ n, s₁.heap.objs.size ≤ n → s₁.heap.get? n = none := fun n hn => Heap.get?_none_of_le hn
        exact (zip_loop (s₂ := { s₁ with heap := h' }) hn hb F₁ (fun b hb => F.offDrop _ hb) D Z hxl ⟨_, hla⟩ (fun b hb => by
            simp only [List.mem_cons, List.not_mem_nil, or_false] at hb
            rcases hb with rfl | rfl | rfl | rfl | rfl
            · exact fresh _ (Nat.le_add_right ..)
            · exact fresh _ (Nat.le_add_right ..)
            · exact fresh _ (Nat.le_add_right ..)
            · exact fresh _ (Nat.le_refl _)
            · exact fresh _ (Nat.le_add_right ..)) x2 hrd he (fun f s' q => q) (hQ.go ((Stp.drop _).trans (.ext k1)))).out
end
end Mine
namespace Mine
open PySem
noncomputable def p_law_names : Fn := ⟨1, 6, (.cons (.asg 1 true (.sub (.tup (.cons (.cst (.str [38, 60, 62])) (.cons (.cst (.str [38, 60, 62, 34, 13, 10, 9])) (.cons (.cst (.str [38, 62, 34])) (.cons (.cst (.str [38, 60, 62, 13])) (.cons (.cst (.str [38, 60, 34, 13, 10, 9])) .nil)))))) (.var 0))) (.cons (.asg 2 true (.bin .Add (.lst (.cons (.cst (.str [97, 109, 112, 59])) (.cons (.cst (.str [108, 116, 59])) (.cons (.cst (.str [103, 116, 59])) (.cons (.cst (.str [113, 117, 111, 116, 59])) .nil))))) (.ite (.cmp .Eq (.var 0) (.cst (.int 1))) (.lst (.cons (.cst (.str [35, 49, 51, 59])) (.cons (.cst (.str [35, 49, 48, 59])) (.cons (.cst (.str [35, 48, 57, 59])) .nil)))) (.lst (.cons (.cst (.str [35, 120, 68, 59])) (.cons (.cst (.str [35, 120, 65, 59])) (.cons (.cst (.str [35, 120, 57, 59])) .nil))))))) (.cons (.asg 3 true (.dic .nil)) (.cons (.frz 4 5 (.cst (.str [38, 60, 62, 34, 13, 10, 9])) (.var 2) (.cons (.ite (.cmp .In (.var 4) (.var 1)) (.cons (.setI 3 (.var 4) (.var 5)) .nil) .nil) .nil)) (.cons (.ret (.var 3)) .nil)))))⟩
noncomputable def p_law_spelled : Fn := ⟨3, 3, (.cons (.ret (.mth .join (.cst (.str [])) (.cons (.comp (.ite (.cmp .In (.var 0) (.var 2)) (.bin .Add (.bin .Add (.cst (.str [38])) (.bin .Mult (.cst (.str [97, 109, 112, 59])) (.var 3))) (.sub (.var 2) (.var 0))) (.var 0)) (.var 0) (.cst (.bool true))) .nil))) .nil)⟩
noncomputable def p_law_rows : Fn := ⟨3, 6, (.cons (.asg 3 true (.lst .nil)) (.cons (.asg 4 true (.var 0)) (.cons (.fr [5] (.blt .range (.cons (.cst (.int 3)) .nil)) (.cons (.asg 4 true (.comp (.call 8 (.cons (.bin .Mod (.bin .FloorDiv (.var 3) (.bin .Pow (.cst (.int 5)) (.var 6))) (.cst (.int 5))) (.cons (.var 0) .nil))) (.var 4) (.cst (.bool true)))) (.cons (.ite (.cmp .NotEq (.var 4) (.comp (.call 10 (.cons (.var 0) (.cons (.var 2) (.cons (.var 6) .nil)))) (.var 0) (.cst (.bool true)))) (.cons (.ret (.lst .nil)) .nil) .nil) (.cons (.app 3 (.comp (.blt .len (.cons (.var 0) .nil)) (.var 4) (.cst (.bool true)))) .nil)))) (.cons (.ret (.var 3)) .nil))))⟩
noncomputable def p_law_mix : Fn := ⟨3, 8, (.cons (.unp [3, 4, 5] false (.tup (.cons (.cst (.flt 0)) (.cons (.cst (.flt 0)) (.cons (.cst (.flt 0)) .nil))))) (.cons (.fr [6] (.blt .range (.cons (.cst (.int 9)) .nil)) (.cons (.asg 7 true (.call 1 (.cons (.bin .Div (.bin .Sub (.sub (.var 0) (.var 6)) (.sub (.var 1) (.bin .Mod (.bin .Add (.var 6) (.var 2)) (.cst (.int 9))))) (.cst (.int 3))) (.cons (.cst (.flt 4607182418800017408)) (.cons (.bin .Div (.cst (.int 1)) (.cst (.int 16))) .nil))))) (.cons (.unp [3, 4, 5] false (.tup (.cons (.bin .Add (.var 3) (.sub (.var 7) (.cst (.int 0)))) (.cons (.bin .Add (.var 4) (.sub (.var 7) (.cst (.int 1)))) (.cons (.bin .Add (.var 5) (.sub (.var 7) (.cst (.int 2)))) .nil))))) .nil))) (.cons (.ret (.tup (.cons (.var 3) (.cons (.var 4) (.cons (.var 5) .nil))))) .nil)))⟩
noncomputable def p_law_due : Fn := ⟨5, 7, (.cons (.asg 5 true (.lst (.cons (.cst (.int 0)) (.cons (.cst (.int 0)) (.cons (.cst (.int 0)) .nil))))) (.cons (.fr [6] (.blt .range (.cons (.cst (.int 3)) .nil)) (.cons (.ite (.cmp .Eq (.bin .Mod (.bin .Sub (.sub (.var 2) (.var 6)) (.sub (.var 3) (.bin .Mod (.bin .Add (.var 6) (.var 4)) (.cst (.int 3))))) (.cst (.int 3))) (.cst (.int 0))) (.cons (.augI 5 (.bin .Mod (.bin .Sub (.sub (.var 0) (.var 6)) (.sub (.var 1) (.bin .Mod (.bin .Add (.var 6) (.var 4)) (.cst (.int 9))))) (.cst (.int 3))) .Add (.cst (.int 3))) .nil) (.cons (.asg 5 true (.comp (.bin .Add (.var 0) (.cst (.int 1))) (.var 5) (.cst (.bool true)))) .nil)) .nil)) (.cons (.ret (.blt .tuple (.cons (.comp (.bin .Div (.var 0) (.cst (.int 16))) (.var 5) (.cst (.bool true))) .nil))) .nil)))⟩
noncomputable def p_law : Fn := ⟨1, 18, (.cons (.asg 1 true (.blt .sum (.cons (.var 0) .nil))) (.cons (.asg 2 true (.call 9 (.cons (.bin .Mod (.var 1) (.cst (.int 5))) .nil))) (.cons (.asg 3 true (.bin .Add (.mth .join (.cst (.str [])) (.cons (.blt .list (.cons (.var 2) .nil)) .nil)) (.cst (.str [101, 111])))) (.cons (.asg 4 true (.lst (.cons (.cst (.str [101])) (.cons (.cst (.str [38, 111])) (.cons (.cst (.str [38, 38])) .nil))))) (.cons (.fr [5] (.blt .range (.cons (.blt .min (.cons (.blt .len (.cons (.var 0) .nil)) (.cons (.cst (.int 12)) .nil))) .nil)) (.cons (.asg 6 true (.sub (.var 3) (.bin .Mod (.sub (.var 0) (.var 5)) (.blt .len (.cons (.var 3) .nil))))) (.cons (.asg 4 true (.comp (.ite (.cmp .Eq (.var 0) (.bin .Mod (.var 6) (.cst (.int 3)))) (.bin .Add (.sub (.var 5) (.var 0)) (.var 7)) (.sub (.var 5) (.var 0))) (.blt .range (.cons (.cst (.int 3)) .nil)) (.cst (.bool true)))) .nil))) (.cons (.asg 7 true (.comp (.blt .len (.cons (.comp (.var 0) (.var 0) (.cmp .In (.var 0) (.var 4))) .nil)) (.var 4) (.cst (.bool true)))) (.cons (.asg 8 true (.call 11 (.cons (.var 4) (.cons (.var 2) (.cons (.var 1) .nil))))) (.cons (.ite (.cmp .Eq (.var 8) (.lst .nil)) (.cons (.ret (.cst (.bool false))) .nil) .nil) (.cons (.asg 9 true (.bin .Add (.bin .Add (.sub (.var 8) (.cst (.int 0))) (.sub (.var 8) (.cst (.int 1)))) (.sub (.var 8) (.cst (.int 2))))) (.cons (.asg 10 true (.bin .Add (.bin .Add (.slc (.sub (.var 8) (.cst (.int 0))) (.cst .none) (.cst .none) (.neg (.cst (.int 1)))) (.slc (.sub (.var 8) (.cst (.int 1))) (.cst .none) (.cst .none) (.neg (.cst (.int 1))))) (.slc (.sub (.var 8) (.cst (.int 2))) (.cst .none) (.cst .none) (.neg (.cst (.int 1)))))) (.cons (.asg 11 true (.comp (.call 12 (.cons (.var 10) (.cons (.var 10) (.cons (.var 0) .nil)))) (.blt .range (.cons (.cst (.int 9)) .nil)) (.cst (.bool true)))) (.cons (.asg 12 true (.comp (.call 12 (.cons (.var 10) (.cons (.var 11) (.cons (.var 0) .nil)))) (.blt .range (.cons (.cst (.int 9)) .nil)) (.cst (.bool true)))) (.cons (.ite (.cmp .NotEq (.var 11) (.comp (.call 13 (.cons (.var 10) (.cons (.var 10) (.cons (.var 8) (.cons (.var 8) (.cons (.var 0) .nil)))))) (.blt .range (.cons (.cst (.int 9)) .nil)) (.cst (.bool true)))) (.cons (.ret (.cst (.bool false))) .nil) .nil) (.cons (.ite (.cmp .NotEq (.var 12) (.comp (.call 13 (.cons (.var 10) (.cons (.var 11) (.cons (.var 8) (.cons (.slc (.var 8) (.cst .none) (.cst .none) (.neg (.cst (.int 1)))) (.cons (.var 0) .nil)))))) (.blt .range (.cons (.cst (.int 9)) .nil)) (.cst (.bool true)))) (.cons (.ret (.cst (.bool false))) .nil) .nil) (.cons (.fr [13] (.bin .Add (.var 11) (.var 12)) (.cons (.unp [14, 15, 16] false (.call 0 (.cons (.sub (.var 13) (.cst (.int 0))) (.cons (.sub (.var 13) (.cst (.int 1))) (.cons (.sub (.var 13) (.cst (.int 2))) .nil))))) (.cons (.ite (.cmp .NotEq (.comp (.blt .int (.cons (.bin .Add (.bin .Mult (.cst (.int 16)) (.var 0)) (.cst (.flt 4602678819172646912))) .nil)) (.call 1 (.cons (.var 14) (.cons (.var 15) (.cons (.var 16) .nil)))) (.cst (.bool true))) (.comp (.blt .int (.cons (.bin .Mult (.cst (.int 16)) (.var 0)) .nil)) (.var 13) (.cst (.bool true)))) (.cons (.ret (.cst (.bool false))) .nil) .nil) .nil))) (.cons (.asg 17 true (.cmp .Eq (.blt .sorted (.cons (.comp (.bin .Mod (.var 0) (.cst (.int 3))) (.var 7) (.cst (.bool true))) .nil)) (.lst (.cons (.cst (.int 0)) (.cons (.cst (.int 1)) (.cons (.cst (.int 2)) .nil)))))) (.cons (.ite (.cmp .NotEq (.cmp .Eq (.comp (.call 0 (.cons (.sub (.var 0) (.cst (.int 0))) (.cons (.sub (.var 0) (.cst (.int 1))) (.cons (.sub (.var 0) (.cst (.int 2))) .nil)))) (.slc (.var 11) (.cst (.int 1)) (.cst .none) (.cst .none)) (.cst (.bool true))) (.bin .Mult (.lst (.cons (.tup (.cons (.cst (.flt 0)) (.cons (.cst (.flt 0)) (.cons (.bin .Div (.cst (.int 3)) (.cst (.int 16))) .nil)))) .nil)) (.cst (.int 8)))) (.var 17)) (.cons (.ret (.cst (.bool false))) .nil) .nil) (.cons (.fr [13] (.ite (.var 17) (.var 12) (.lst .nil)) (.cons (.unp [14, 15, 16] false (.call 0 (.cons (.sub (.var 13) (.cst (.int 0))) (.cons (.sub (.var 13) (.cst (.int 1))) (.cons (.sub (.var 13) (.cst (.int 2))) .nil))))) (.cons (.ite (.bop false (.cons (.cmp .NotIn (.var 14) (.tup (.cons (.cst (.flt 0)) (.cons (.bin .Div (.cst (.int 1)) (.cst (.int 3))) (.cons (.bin .Div (.cst (.int 2)) (.cst (.int 3))) .nil))))) (.cons (.cmp .NotEq (.tup (.cons (.var 15) (.cons (.var 16) .nil))) (.tup (.cons (.bin .Div (.cst (.int 3)) (.cst (.int 5))) (.cons (.bin .Div (.cst (.int 5)) (.cst (.int 16))) .nil)))) .nil))) (.cons (.ret (.cst (.bool false))) .nil) .nil) .nil))) (.cons (.ret (.cst (.bool true))) .nil)))))))))))))))))))⟩
noncomputable def p_tab : List (Str × Option Fn) := [(Str.ofString "rgb_to_hsv", some p_rgb_to_hsv), (Str.ofString "hsv_to_rgb", some p_hsv_to_rgb), (Str.ofString "_raise_serialization_error", none), (Str.ofString "_escape_cdata", some p_escape_cdata), (Str.ofString "_escape_attrib", some p_escape_attrib), (Str.ofString "_escape_attrib_html", some p_escape_attrib_html), (Str.ofString "_escape_cdata_c14n", some p_escape_cdata_c14n), (Str.ofString "_escape_attrib_c14n", some p_escape_attrib_c14n), (Str.ofString "_law_written", some p_law_written), (Str.ofString "_law_names", some p_law_names), (Str.ofString "_law_spelled", some p_law_spelled), (Str.ofString "_law_rows", some p_law_rows), (Str.ofString "_law_mix", some p_law_mix), (Str.ofString "_law_due", some p_law_due), (Str.ofString "law", some p_law), ]
noncomputable def fs1 : Lv := [some (1, p_rgb_to_hsv), some (1, p_hsv_to_rgb), none, some (1, p_escape_cdata), some (1, p_escape_attrib), some (1, p_escape_attrib_html), some (1, p_escape_cdata_c14n), some (1, p_escape_attrib_c14n), some (2, p_law_written), some (1, p_law_names), some (1, p_law_spelled), some (3, p_law_rows), some (2, p_law_mix), some (1, p_law_due), some (4, p_law)]
end Mine
namespace Mine
open PySem

noncomputable def f16 : Nat → UInt64
  | 0 => 0
  | 1 => 4589168020290535424
  | 2 => 4593671619917905920
  | 3 => 4595923419731591168
  | 4 => 4598175219545276416
  | 5 => 4599301119452119040
  | 6 => 4600427019358961664
  | 7 => 4601552919265804288
  | 8 => 4602678819172646912
  | _ => 4603241769126068224
noncomputable def s16 (n : Nat) : PV := .flt (f16 n)
noncomputable def isN (d c : Nat) : Nat := match Nat.beq d c with | true => 1 | false => 0
noncomputable def hotV (d : Nat) : PV := .tup [s16 (isN d 0), s16 (isN d 1), s16 (isN d 2)]
noncomputable def triV (t : Nat × Nat × Nat) : PV := .tup [s16 t.1, s16 t.2.1, s16 t.2.2]
/-- the remainder by 3 of a difference -/
noncomputable def dres (a b : Nat) : Nat := (a % 3 + 3 - b % 3) % 3
noncomputable def allN (f : Nat → Bool) : Nat → Bool
  | 0 => true
  | n + 1 => match f n with | true => allN f n | false => false
theorem allN_at {f : Nat → Bool} : ∀ {n : Nat}, allN f n = true → ∀ x, x < n → f x = true
  | n + 1, h, x, hx => by
    unfold allN at h
    split at h
    · rename_i e
      rcases Nat.lt_or_ge x n with h' | h'
      · exact allN_at h x h'
      · have : x = n := by omega
        subst this; exact e
    · cases h
noncomputable def trips : List (Nat × Nat × Nat) := [(9, 0, 0), (0, 9, 0), (0, 0, 9), (6, 3, 0), (6, 0, 3), (3, 6, 0), (0, 6, 3), (3, 0, 6), (0, 3, 6), (3, 3, 3), (7, 1, 1), (1, 7, 1), (1, 1, 7), (4, 4, 1), (4, 1, 4), (1, 4, 4), (5, 2, 2), (2, 5, 2), (2, 2, 5)]
noncomputable def as3 : PV → Option (PV × PV × PV)
  | .tup [a, b, c] => some (a, b, c)
  | _ => none
noncomputable def half : PV := .flt 4602678819172646912
noncomputable def upF (x : PV) : Option PV := obind (binop .Mult (.int 16) x) fun y => obind (binop .Add y half) fun z => blt .int [z]
noncomputable def dnF (x : PV) : Option PV := obind (binop .Mult (.int 16) x) fun y => blt .int [y]
noncomputable def is333 (t : Nat × Nat × Nat) : Bool := Nat.beq t.1 3 && (Nat.beq t.2.1 3 && Nat.beq t.2.2 3)
noncomputable def greyV : PV := .tup [.flt 0, .flt 0, s16 3]
noncomputable def telF (t : Nat × Nat × Nat) : Option PV := obind (run (lvl fs1 0) p_rgb_to_hsv [s16 t.1, s16 t.2.1, s16 t.2.2]) fun r => obind (as3 r) fun h => obind (run (lvl fs1 0) p_hsv_to_rgb [h.1, h.2.1, h.2.2]) fun k => obind (as3 k) fun b =>
  obind (upF b.1) fun i => obind (upF b.2.1) fun j => obind (upF b.2.2) fun k => obind (dnF (s16 t.1)) fun i' => obind (dnF (s16 t.2.1)) fun j' => obind (dnF (s16 t.2.2)) fun k' => obind (pyEqN 7 (.tup [h.1, h.2.1, h.2.2]) greyV) fun g => some (.list [i, j, k, i', j', k', .bool g])
noncomputable def telV (t : Nat × Nat × Nat) : PV := .list [.int (t.1 : Nat), .int (t.2.1 : Nat), .int (t.2.2 : Nat), .int (t.1 : Nat), .int (t.2.1 : Nat), .int (t.2.2 : Nat), .bool (is333 t)]
noncomputable def fiveF (t : Nat × Nat × Nat) : Option PV := obind (run (lvl fs1 0) p_rgb_to_hsv [s16 t.1, s16 t.2.1, s16 t.2.2]) fun r => obind (as3 r) fun h => obind (binop .Div (.int 1) (.int 3)) fun p => obind (binop .Div (.int 2) (.int 3)) fun q => obind (binop .Div (.int 3) (.int 5)) fun u => obind (binop .Div (.int 5) (.int 16)) fun v =>
  obind (pyIn h.1 (.tup [.flt 0, p, q])) fun a => obind (pyEq (.tup [h.2.1, h.2.2]) (.tup [u, v])) fun b => some (.list [.bool a, .bool b])
theorem hsv_all : (List.range' 0 169).map (fun (p : Nat) => obind (binop .Div (.int ((p : Int) - 84)) (.int 3)) fun h => run (lvl fs1 0) p_hsv_to_rgb [h, .flt 4607182418800017408, s16 1]) = (List.range' 0 169).map fun p => some (hotV (dres p 84)) := by kernel_rfl
theorem add_all : (List.range' 0 9).map (fun n => [0, 1].map fun d => binop .Add (s16 n) (s16 d)) = (List.range' 0 9).map fun n => [0, 1].map fun d => some (s16 (n + d)) := by kernel_rfl
theorem div_all : (List.range' 0 10).map (fun (n : Nat) => binop .Div (.int n) (.int 16)) = (List.range' 0 10).map fun n => some (s16 n) := by kernel_rfl
theorem rgb_all : trips.map telF = trips.map fun t => some (telV t) := by kernel_rfl
theorem five_all : [(5, 2, 2), (2, 5, 2), (2, 2, 5)].map fiveF = [(5, 2, 2), (2, 5, 2), (2, 2, 5)].map fun _ => some (.list [.bool true, .bool true]) := by kernel_rfl
theorem self_all : (List.range' 0 10).map (fun n => pyEqN 6 (s16 n) (s16 n)) = (List.range' 0 10).map fun _ => some true := by kernel_rfl
theorem mem_rng' {x n : Nat} (h : x < n) : x ∈ List.range' 0 n := List.mem_range'.mpr ⟨x, h, by rw [Nat.zero_add, Nat.one_mul]⟩
theorem as3_inv {x : PV} {p : PV × PV × PV} (h : as3 x = some p) : x = .tup [p.1, p.2.1, p.2.2] := by
  cases x <;> first | (cases h; done) | skip
  rename_i l
  rcases l with _ | ⟨a, _ | ⟨b, _ | ⟨c, _ | ⟨d, q⟩⟩⟩⟩
  · cases h
  · cases h
  · cases h
  · cases h; rfl
  · cases h
end Mine
namespace Mine
open PySem

noncomputable def signsOf : Nat → List Nat
  | 0 => [38, 60, 62]
  | 1 => [38, 60, 62, 34, 13, 10, 9]
  | 2 => [38, 62, 34]
  | 3 => [38, 60, 62, 13]
  | _ => [38, 60, 34, 13, 10, 9]
noncomputable def tailT (k s : Nat) : List Nat := (lookT s (stepsOf k)).drop 1
noncomputable def ampT : List Nat := [97, 109, 112, 59]
noncomputable def pairsD (k : Nat) : List (List Nat × PV) := (signsOf k).map fun s => ([s], .str (tailT k s))
/-- a sign, written age + 1 times -/
noncomputable def sp (k age x : Nat) : List Nat := match (signsOf k).contains x with
  | true => [38] ++ rep ampT age ++ tailT k x
  | false => [x]
noncomputable def wr (k age : Nat) (p : List Nat) : List Nat := p.flatMap (sp k age)

theorem names_run {C : Orc} {k : Nat} (hk : k < 5) : run C p_law_names [.int k] = some (.dict (pairsD k)) := by
  match k, hk with
  | 0, _ => rfl
  | 1, _ => rfl
  | 2, _ => rfl
  | 3, _ => rfl
  | 4, _ => rfl

theorem look_map {k x : Nat} : look [x] (pairsD k) = if (signsOf k).contains x then some (.str (tailT k x)) else none := by
  unfold pairsD
  induction signsOf k with
  | nil => rfl
  | cons y r ih =>
    rw [List.map_cons, look, ih, List.contains_cons]
    by_cases h : y = x
    · subst h; simp
    · have h1 : ([y] == [x]) = false := by simp [h]
      have h2 : (x == y) = false := by simp; exact fun e => h e.symm
      rw [h1, h2, Bool.false_or]; rfl
theorem in_names {k x : Nat} : cmpop .In (.str [x]) (.dict (pairsD k)) = some ((signsOf k).contains x) := by
  show some (look [x] (pairsD k)).isSome = _
  rw [look_map]
  cases (signsOf k).contains x <;> rfl

theorem tail_len {k x : Nat} : (tailT k x).length ≤ 5 := by
  have := esc_len k [x]
  unfold esc at this
  simp at this
  unfold tailT
  rw [List.length_drop]; omega
theorem sp_len {k age x : Nat} : (sp k age x).length ≤ 6 + 4 * age := by
  unfold sp
  split
  · have := tail_len (k := k) (x := x)
    simp only [List.length_append, rep_len, List.length_cons, List.length_nil, ampT]; omega
  · simp; omega

noncomputable def spStr (k age : Nat) : PV → PV
  | .str [x] => .str (sp k age x)
  | _ => .none
noncomputable def spX : Mine.X := .ite (.cmp .In (.var 0) (.var 2)) (.bin .Add (.bin .Add (.cst (.str [38])) (.bin .Mult (.cst (.str [97, 109, 112, 59])) (.var 3))) (.sub (.var 2) (.var 0))) (.var 0)
theorem sp_ev {C : Orc} {k age x : Nat} (ha : age ≤ 2) {P : Sl} : ev C spX [.v (.str [x]), P, .v (.dict (pairsD k)), .v (.int (age : Nat))] = some (.str (sp k age x)) := by
  unfold sp
  cases h : (signsOf k).contains x with
  | false => exact xv_iteF' h
  | true =>
    have := tail_len (k := k) (x := x)
    refine ev_iteT (xv_cmp rfl rfl (in_names.trans (by rw [h]))) (xv_bin (xv_bin rfl (xv_bin rfl rfl (mulS (by omega) (by simp; omega))) (addS ?_)) (xv_sub rfl rfl (r := .str (tailT k x)) ?_) (addS ?_))
    · rw [rep_len]; simp; omega
    · show look [x] (pairsD k) = _
      rw [look_map, h]; rfl
    · rw [List.length_append, rep_len]; simp; omega
where xv_iteF' {C : Orc} {k age x : Nat} {P : Sl} (h : (signsOf k).contains x = false) : ev C spX [.v (.str [x]), P, .v (.dict (pairsD k)), .v (.int (age : Nat))] = some (.str [x]) :=
  ev_iteF (xv_cmp rfl rfl (in_names.trans (by rw [h]))) rfl

theorem strsOf_map {f : Nat → List Nat} : ∀ {l : List Nat}, strsOf (l.map fun x => PV.str (f x)) = some (l.map f)
  | [] => rfl
  | x :: r => by rw [List.map_cons, strsOf, strsOf_map]; rfl
theorem join_ok {l : List Nat} {f : Nat → List Nat} (h : (l.flatMap f).length ≤ 1000000) : mth .join (.str []) [.list (l.map fun x => PV.str (f x))] = some (.str (l.flatMap f)) := by
  show obind (strsOf (l.map fun x => PV.str (f x))) (fun ss => ifz (szOk ss.flatten.length) (some (PV.str ss.flatten))) = _
  rw [strsOf_map]
  show ifz (szOk (l.map f).flatten.length) (some (PV.str (l.map f).flatten)) = _
  rw [← List.flatMap_def, szOk_of h]; rfl
theorem xv_mth1 {C : Orc} {m : Mth} {o a : Mine.X} {ρ : Ρ} {x y r : PV} (h1 : ev C o ρ = some x) (h2 : ev C a ρ = some y) (h : mth m x [y] = some r) : ev C (.mth m o (.cons a .nil)) ρ = some r := by
  rw [ev, h1]; dsimp only; rw [evL1 h2]; exact h
theorem flat_len {f : Nat → List Nat} {m : Nat} (h : ∀ x, (f x).length ≤ m) : ∀ {l : List Nat}, (l.flatMap f).length ≤ m * l.length
  | [] => by simp
  | x :: r => by
    have h1 := h x
    have h2 := flat_len h (l := r)
    rw [List.flatMap_cons, List.length_append, List.length_cons, Nat.mul_succ]; omega

theorem spelled_run {C : Orc} {k age : Nat} (ha : age ≤ 2) {p : List Nat} (hp : p.length ≤ 1000) : run C p_law_spelled [.str p, .dict (pairsD k), .int age] = some (.str (wr k age p)) := by
  refine run_of rfl (exs_one (xx_ret (xv_mth1 rfl (ev_comp_all (items := p.map fun c => PV.str [c]) (g := spStr k age) (elt := spX) rfl (itemsS (by omega)) ?_) ?_)))
  · intro v hv
    obtain ⟨x, _, rfl⟩ := List.mem_map.mp hv
    exact sp_ev ha
  · rw [List.map_map]
    refine join_ok (f := sp k age) ?_
    have := flat_len (f := sp k age) (m := 14) (fun x => Nat.le_trans sp_len (by omega)) (l := p)
    omega

/-! ### a further escape -/
noncomputable def mine (k : Nat) : List Nat := signsOf k ++ [101, 111]
theorem esc_all : [0, 1, 2, 3, 4].map (fun k => (mine k).map fun x => (lookT x (stepsOf k), [0, 1, 2, 3, 4].map fun e => (esc e (sp k 0 x), esc e (sp k 1 x)))) = [0, 1, 2, 3, 4].map fun k => (mine k).map fun x => (sp k 0 x, [0, 1, 2, 3, 4].map fun _ => (sp k 1 x, sp k 2 x)) := by kernel_rfl
theorem flat_congr {f g : Nat → List Nat} : ∀ {l : List Nat}, (∀ x ∈ l, f x = g x) → l.flatMap f = l.flatMap g
  | [], _ => rfl
  | x :: r, h => by rw [List.flatMap_cons, List.flatMap_cons, h x (List.mem_cons_self ..), flat_congr fun y hy => h y (List.mem_cons_of_mem _ hy)]
theorem mem5 {k : Nat} (hk : k < 5) : k ∈ [0, 1, 2, 3, 4] := by simp; omega
theorem esc_first {k : Nat} (hk : k < 5) {p : List Nat} (hp : ∀ x ∈ p, x ∈ mine k) : esc k p = wr k 0 p := by
  refine flat_congr fun x hx => ?_
  exact congrArg Prod.fst (List.map_inj_left.mp (List.map_inj_left.mp esc_all k (mem5 hk)) x (hp x hx))
theorem esc_flat (e : Nat) (f : Nat → List Nat) : ∀ (l : List Nat), esc e (l.flatMap f) = l.flatMap fun x => esc e (f x)
  | [] => rfl
  | x :: r => by rw [List.flatMap_cons, List.flatMap_cons, esc_append, esc_flat e f r]
theorem esc_next {k e : Nat} (hk : k < 5) (he : e < 5) {p : List Nat} (hp : ∀ x ∈ p, x ∈ mine k) : esc e (wr k 0 p) = wr k 1 p ∧ esc e (wr k 1 p) = wr k 2 p := by
  have h : ∀ x ∈ p, (esc e (sp k 0 x), esc e (sp k 1 x)) = (sp k 1 x, sp k 2 x) := fun x hx =>
    List.map_inj_left.mp (show [0, 1, 2, 3, 4].map (fun e => (esc e (sp k 0 x), esc e (sp k 1 x))) = [0, 1, 2, 3, 4].map fun _ => (sp k 1 x, sp k 2 x) from congrArg Prod.snd (List.map_inj_left.mp (List.map_inj_left.mp esc_all k (mem5 hk)) x (hp x hx))) e (mem5 he)
  unfold wr
  rw [esc_flat, esc_flat]
  exact ⟨flat_congr fun x hx => congrArg Prod.fst (h x hx), flat_congr fun x hx => congrArg Prod.snd (h x hx)⟩

/-! ### lengths -/
noncomputable def cnt (k : Nat) (p : List Nat) : Nat := (p.filter fun x => (signsOf k).contains x).length
theorem wr_length (k age : Nat) : ∀ (p : List Nat), (wr k age p).length = (wr k 0 p).length + 4 * age * cnt k p
  | [] => by simp [wr, cnt]
  | x :: r => by
    have ih := wr_length k age r
    have e : ∀ a, wr k a (x :: r) = sp k a x ++ wr k a r := fun a => by unfold wr; rw [List.flatMap_cons]
    rw [e, e, List.length_append, List.length_append, ih]
    unfold cnt sp
    rw [List.filter_cons]
    cases (signsOf k).contains x with
    | false => rw [if_neg (by decide)]; dsimp only; omega
    | true =>
      rw [if_pos rfl]
      dsimp only
      simp only [List.length_append, rep_len, List.length_cons, List.length_nil, ampT]
      rw [Nat.mul_succ]; omega
theorem wr_le (k : Nat) {age : Nat} (ha : age ≤ 2) (p : List Nat) : (wr k age p).length ≤ 14 * p.length :=
  flat_len (fun x => Nat.le_trans sp_len (by omega))

/-! ### the escapes, at their levels -/
theorem esc_lvl (f k : Nat) (s : List Nat) (hs : s.length ≤ 10000) (h : escAt f = some k) {n : Nat} (hn : 0 < n) : lvl fs1 n f [.str s] = some (.str (esc k s)) := by
  have go : ∀ fn, fs1[f]? = some (some (0 + 1, fn)) → escFn f = some fn → lvl fs1 n f [.str s] = some (.str (esc k s)) := fun fn h1 h2 => by
    rw [lvl_at h1 hn]
    exact esc_run hs h h2
  match f, h with
  | 3, rfl => exact go _ rfl rfl
  | 4, rfl => exact go _ rfl rfl
  | 5, rfl => exact go _ rfl rfl
  | 6, rfl => exact go _ rfl rfl
  | 7, rfl => exact go _ rfl rfl
theorem written_lvl {e : Nat} (he : e < 5) {s : List Nat} (hs : s.length ≤ 10000) {n : Nat} (hn : 1 < n) : lvl fs1 n 8 [.int e, .str s] = some (.str (esc e s)) := by
  rw [lvl_at (l := 1) (fn := p_law_written) rfl hn]
  exact written_run he fun f k h => esc_lvl f k s hs h (by omega)
end Mine
namespace Mine
open PySem

noncomputable def str3 (a b c : List Nat) : PV := .list [.str a, .str b, .str c]
theorem ne_strs3 {a b c : List Nat} : cmpop .NotEq (str3 a b c) (str3 a b c) = some false := by
  have e : ∀ x : List Nat, pyEqN 7 (.str x) (.str x) = some true := fun x => by
    show some (x == x) = _
    rw [beq_self_eq_true]
  show (pyEqs (pyEqN 7) [PV.str a, .str b, .str c] [PV.str a, .str b, .str c]).map (!·) = some false
  rw [pyEqs, e]
  dsimp only
  rw [pyEqs, e]
  dsimp only
  rw [pyEqs, e]
  rfl
noncomputable def escG (e : Nat) : PV → PV
  | .str q => .str (esc e q)
  | _ => .none
noncomputable def wrG (k age : Nat) : PV → PV
  | .str q => .str (wr k age q)
  | _ => .none
noncomputable def lenG : PV → PV
  | .str q => .int q.length
  | _ => .none

noncomputable def rowsBody : SL := .cons (.asg 4 true (.comp (.call 8 (.cons (.bin .Mod (.bin .FloorDiv (.var 3) (.bin .Pow (.cst (.int 5)) (.var 6))) (.cst (.int 5))) (.cons (.var 0) .nil))) (.var 4) (.cst (.bool true))))
  (.cons (.ite (.cmp .NotEq (.var 4) (.comp (.call 10 (.cons (.var 0) (.cons (.var 2) (.cons (.var 6) .nil)))) (.var 0) (.cst (.bool true)))) (.cons (.ret (.lst .nil)) .nil) .nil)
  (.cons (.app 3 (.comp (.blt .len (.cons (.var 0) .nil)) (.var 4) (.cst (.bool true)))) .nil))

theorem rows_step {C : Orc} {k a e : Nat} {total P d : Int} {p0 p1 p2 q0 q1 q2 : List Nat} (ha : a ≤ 2) (hp : binop .Pow (.int 5) (.int (a : Nat)) = some (.int P)) (hd : binop .FloorDiv (.int total) (.int P) = some (.int d)) (hm : binop .Mod (.int d) (.int 5) = some (.int (e : Nat)))
    (h8 : ∀ q ∈ [q0, q1, q2], C 8 [.int e, .str q] = some (.str (esc e q))) (h10 : ∀ p ∈ [p0, p1, p2], C 10 [.str p, .dict (pairsD k), .int a] = some (.str (wr k a p)))
    (e0 : esc e q0 = wr k a p0) (e1 : esc e q1 = wr k a p1) (e2 : esc e q2 = wr k a p2) (hl : ∀ p ∈ [p0, p1, p2], p.length ≤ 100) {R : List PV} (hR : R.length ≤ 10) {x4 x5 : Sl} (hx : x4.val = some (str3 q0 q1 q2)) :
    fstep C [5] rowsBody [.v (str3 p0 p1 p2), .v (.dict (pairsD k)), .v (.int total), .o (.list R), x4, x5] (.int (a : Nat))
      = some (.nxt [.v (str3 p0 p1 p2), .v (.dict (pairsD k)), .v (.int total), .o (.list (R ++ [natsV [(wr k a p0).length, (wr k a p1).length, (wr k a p2).length]])), .v (str3 (wr k a p0) (wr k a p1) (wr k a p2)), .v (.int (a : Nat))]) := by
  have e5 : bindEach [.v (str3 p0 p1 p2), .v (.dict (pairsD k)), .v (.int total), .o (.list R), x4, x5] [5] (.int (a : Nat)) = some [.v (str3 p0 p1 p2), .v (.dict (pairsD k)), .v (.int total), .o (.list R), x4, .v (.int (a : Nat))] := rfl
  rw [fstep_of e5]
  unfold rowsBody
  refine (exs_nxt (ρ' := [.v (str3 p0 p1 p2), .v (.dict (pairsD k)), .v (.int total), .o (.list R), .o (str3 (wr k a p0) (wr k a p1) (wr k a p2)), .v (.int (a : Nat))]) ?_).trans ?_
  · refine (xx_asg (v := str3 (wr k a p0) (wr k a p1) (wr k a p2)) ?_).trans ?_
    · have hx' : ev C (.var 4) [.v (str3 p0 p1 p2), .v (.dict (pairsD k)), .v (.int total), .o (.list R), x4, .v (.int (a : Nat))] = some (str3 q0 q1 q2) := hx
      refine (ev_comp_all (items := [.str q0, .str q1, .str q2]) (g := escG e) hx' (itemsL (by simp)) ?_).trans ?_
      · intro v hv
        have go : ∀ q ∈ [q0, q1, q2], ev C (.call 8 (.cons (.bin .Mod (.bin .FloorDiv (.var 3) (.bin .Pow (.cst (.int 5)) (.var 6))) (.cst (.int 5))) (.cons (.var 0) .nil))) (.v (.str q) :: [.v (str3 p0 p1 p2), .v (.dict (pairsD k)), .v (.int total), .o (.list R), x4, .v (.int (a : Nat))]) = some (.str (esc e q)) := fun q hq =>
          xv_call (evL2 (xv_bin (xv_bin rfl (xv_bin rfl rfl hp) hd) rfl hm) rfl) (h8 q hq)
        simp only [List.mem_cons, List.not_mem_nil, or_false] at hv
        rcases hv with rfl | rfl | rfl
        · exact go q0 (by simp)
        · exact go q1 (by simp)
        · exact go q2 (by simp)
      · rw [← e0, ← e1, ← e2]; rfl
    · rfl
  refine (exs_nxt (ρ' := [.v (str3 p0 p1 p2), .v (.dict (pairsD k)), .v (.int total), .o (.list R), .o (str3 (wr k a p0) (wr k a p1) (wr k a p2)), .v (.int (a : Nat))]) ?_).trans ?_
  · refine (ex_iteF (xv_cmp rfl (ev_comp_all (items := [.str p0, .str p1, .str p2]) (g := wrG k a) rfl (itemsL (by simp)) ?_) ?_)).trans rfl
    · intro v hv
      have go : ∀ p ∈ [p0, p1, p2], ev C (.call 10 (.cons (.var 0) (.cons (.var 2) (.cons (.var 6) .nil)))) (.v (.str p) :: [.v (str3 p0 p1 p2), .v (.dict (pairsD k)), .v (.int total), .o (.list R), .o (str3 (wr k a p0) (wr k a p1) (wr k a p2)), .v (.int (a : Nat))]) = some (.str (wr k a p)) := fun p hp =>
        xv_call (evL3 rfl rfl rfl) (h10 p hp)
      simp only [List.mem_cons, List.not_mem_nil, or_false] at hv
      rcases hv with rfl | rfl | rfl
      · exact go p0 (by simp)
      · exact go p1 (by simp)
      · exact go p2 (by simp)
    · exact ne_strs3
  refine exs_one (r := .nxt _) ?_
  refine (xx_app (v := natsV [(wr k a p0).length, (wr k a p1).length, (wr k a p2).length]) (l := R) ?_ rfl (by omega)).trans rfl
  refine (ev_comp_all (items := [.str (wr k a p0), .str (wr k a p1), .str (wr k a p2)]) (g := lenG) rfl (itemsL (by simp)) ?_).trans rfl
  intro v hv
  have go : ∀ p ∈ [p0, p1, p2], ev C (.blt .len (.cons (.var 0) .nil)) (.v (.str (wr k a p)) :: [.v (str3 p0 p1 p2), .v (.dict (pairsD k)), .v (.int total), .o (.list R), .o (str3 (wr k a p0) (wr k a p1) (wr k a p2)), .v (.int (a : Nat))]) = some (.int (wr k a p).length) := fun p hp =>
    ev_blt1 rfl (lenS (by have := wr_le k ha p; have := hl p hp; omega))
  simp only [List.mem_cons, List.not_mem_nil, or_false] at hv
  rcases hv with rfl | rfl | rfl
  · exact go p0 (by simp)
  · exact go p1 (by simp)
  · exact go p2 (by simp)

noncomputable def lens (k a : Nat) (p0 p1 p2 : List Nat) : List Nat := [(wr k a p0).length, (wr k a p1).length, (wr k a p2).length]

theorem rows_run {total : Int} {k : Nat} (hk : k = rem total 5) {p0 p1 p2 : List Nat} (hl : ∀ p ∈ [p0, p1, p2], p.length ≤ 100) (hc : ∀ p ∈ [p0, p1, p2], ∀ x ∈ p, x ∈ mine k) :
    run (lvl fs1 2) p_law_rows [str3 p0 p1 p2, .dict (pairsD k), .int total] = some (.list [natsV (lens k 0 p0 p1 p2), natsV (lens k 1 p0 p1 p2), natsV (lens k 2 p0 p1 p2)]) := by
  have hk5 : k < 5 := hk ▸ rem_lt (by omega)
  refine run_of rfl ?_
  have h8 : ∀ e q, e < 5 → q.length ≤ 10000 → lvl fs1 2 8 [.int (e : Nat), .str q] = some (.str (esc e q)) := fun e q he hq => written_lvl he hq (by omega)
  have h10 : ∀ a p, a ≤ 2 → p.length ≤ 100 → lvl fs1 2 10 [.str p, .dict (pairsD k), .int (a : Nat)] = some (.str (wr k a p)) := fun a p ha hp => by
    rw [lvl_at (l := 0) (fn := p_law_spelled) rfl (by omega)]
    exact spelled_run ha (by omega)
  refine (exs_nxt (ρ' := [.v (str3 p0 p1 p2), .v (.dict (pairsD k)), .v (.int total), .o (.list []), .no, .no]) ?_).trans ?_
  · exact (xx_asg (v := .list []) rfl).trans rfl
  refine (exs_nxt (ρ' := [.v (str3 p0 p1 p2), .v (.dict (pairsD k)), .v (.int total), .o (.list []), .v (str3 p0 p1 p2), .no]) ?_).trans ?_
  · exact (xx_asg (v := str3 p0 p1 p2) rfl).trans rfl
  have r1 : rem (total.fdiv ((5 : Nat) : Int)) 5 < 5 := rem_lt (by omega)
  have r2 : rem (total.fdiv ((25 : Nat) : Int)) 5 < 5 := rem_lt (by omega)
  have n0 := fun p (hp : p ∈ [p0, p1, p2]) => esc_next hk5 r1 (hc p hp)
  have n1 := fun p (hp : p ∈ [p0, p1, p2]) => esc_next hk5 r2 (hc p hp)
  have w := fun a (ha : a ≤ 2) p (hp : p ∈ [p0, p1, p2]) => Nat.le_trans (wr_le k ha p) (show 14 * p.length ≤ 10000 by have := hl p hp; omega)
  have m0 : p0 ∈ [p0, p1, p2] := by simp
  have m1 : p1 ∈ [p0, p1, p2] := by simp
  have m2 : p2 ∈ [p0, p1, p2] := by simp
  have wq : ∀ a, a ≤ 2 → ∀ q ∈ [wr k a p0, wr k a p1, wr k a p2], q.length ≤ 10000 := fun a ha q hq => by
    simp only [List.mem_cons, List.not_mem_nil, or_false] at hq
    rcases hq with rfl | rfl | rfl
    · exact w a ha p0 m0
    · exact w a ha p1 m1
    · exact w a ha p2 m2
  refine (exs_nxt (ρ' := [.v (str3 p0 p1 p2), .v (.dict (pairsD k)), .v (.int total), .o (.list [natsV (lens k 0 p0 p1 p2), natsV (lens k 1 p0 p1 p2), natsV (lens k 2 p0 p1 p2)]), .v (str3 (wr k 2 p0) (wr k 2 p1) (wr k 2 p2)), .v (.int ((2 : Nat) : Int))]) ?_).trans rfl
  refine (xx_for (b := rowsBody) (x := .rng 3) (items := [.int ((0 : Nat) : Int), .int ((1 : Nat) : Int), .int ((2 : Nat) : Int)]) rfl rfl).trans ?_
  refine forEach3
    (rows_step (a := 0) (e := k) (P := 1) (d := total) (q0 := p0) (q1 := p1) (q2 := p2) (by omega) rfl ?_ ?_ (fun q hq => h8 k q hk5 (by have := hl q hq; omega)) (fun p hp => h10 0 p (by omega) (hl p hp)) (esc_first hk5 (hc p0 m0)) (esc_first hk5 (hc p1 m1)) (esc_first hk5 (hc p2 m2)) hl (by simp) rfl)
    (rows_step (a := 1) (e := rem (total.fdiv ((5 : Nat) : Int)) 5) (P := 5) (d := total.fdiv ((5 : Nat) : Int)) (q0 := wr k 0 p0) (q1 := wr k 0 p1) (q2 := wr k 0 p2) (by omega) rfl (divI total 5 (by omega) (by omega)) (modI _ 5 (by omega)) (fun q hq => h8 _ q r1 (wq 0 (by omega) q hq)) (fun p hp => h10 1 p (by omega) (hl p hp)) (n0 p0 m0).1 (n0 p1 m1).1 (n0 p2 m2).1 hl (by simp) rfl)
    (rows_step (a := 2) (e := rem (total.fdiv ((25 : Nat) : Int)) 5) (P := 25) (d := total.fdiv ((25 : Nat) : Int)) (q0 := wr k 1 p0) (q1 := wr k 1 p1) (q2 := wr k 1 p2) (by omega) rfl (divI total 25 (by omega) (by omega)) (modI _ 5 (by omega)) (fun q hq => h8 _ q r2 (wq 1 (by omega) q hq)) (fun p hp => h10 2 p (by omega) (hl p hp)) (n1 p0 m0).2 (n1 p1 m1).2 (n1 p2 m2).2 hl (by simp) rfl)
  · have := divI total 1 (by omega) (by omega)
    rw [show ((1 : Nat) : Int) = 1 from rfl, Int.fdiv_one] at this
    exact this
  · rw [hk]; exact modI total 5 (by omega)
end Mine
namespace Mine
open PySem

abbrev N3 := Nat × Nat × Nat
noncomputable def bump (n : N3) (d : Nat) : N3 := (n.1 + isN d 0, n.2.1 + isN d 1, n.2.2 + isN d 2)
noncomputable def mixF (one other : List Nat) (t : Nat) : Nat → Nat → N3 → N3
  | 0, _, n => n
  | m + 1, i, n => mixF one other t m (i + 1) (bump n (dres (one.getD i 0) (other.getD ((i + t) % 9) 0)))

theorem subN (a b : Nat) : binop .Sub (.int a) (.int b) = some (.int ((a : Int) - b)) := by
  simp only [binop, binI]
theorem rem_dres (a b : Nat) : rem ((a : Int) - b) 3 = dres a b := by
  unfold rem dres
  rw [Int.fmod_eq_emod_of_nonneg _ (by omega)]
  omega
theorem modD (a b : Nat) : binop .Mod (.int ((a : Int) - b)) (.int ((3 : Nat) : Int)) = some (.int ((dres a b : Nat) : Int)) := by
  rw [modI _ 3 (by omega), rem_dres]
theorem dres_lt (a b : Nat) : dres a b < 3 := Nat.mod_lt _ (by omega)
theorem div16 {n : Nat} (h : n ≤ 9) : binop .Div (.int n) (.int 16) = some (s16 n) := List.map_inj_left.mp div_all n (mem_rng' (Nat.lt_succ_of_le h))
theorem isN_mem (d c : Nat) : isN d c ∈ [0, 1] := by
  unfold isN
  cases Nat.beq d c with
  | false => exact List.mem_cons_self ..
  | true => exact List.mem_cons_of_mem _ (List.mem_cons_self ..)
theorem add16 {n d c : Nat} (h : n ≤ 8) : binop .Add (s16 n) (s16 (isN d c)) = some (s16 (n + isN d c)) := List.map_inj_left.mp (List.map_inj_left.mp add_all n (mem_rng' (Nat.lt_succ_of_le h))) _ (isN_mem d c)
theorem hsv_at {a b : Nat} (ha : a ≤ 84) (hb : b ≤ 84) : ∃ h, binop .Div (.int ((a : Int) - b)) (.int 3) = some h ∧ run (lvl fs1 0) p_hsv_to_rgb [h, .flt 4607182418800017408, s16 1] = some (hotV (dres a b)) := by
  have := List.map_inj_left.mp hsv_all (a + 84 - b) (mem_rng' (by omega))
  have e : (((a + 84 - b : Nat) : Int) - 84) = (a : Int) - b := by omega
  have e2 : dres (a + 84 - b) 84 = dres a b := by
    unfold dres
    rw [show a + 84 - b = a + (84 - b) from Nat.add_sub_assoc hb a]
    omega
  rw [e, e2] at this
  exact obind_inv this
theorem nats_get {l : List Nat} {i : Nat} (hi : i < l.length) (h : l.length ≤ 1000000) : getI (natsV l) (.int (i : Nat)) = some (.int ((l.getD i 0 : Nat) : Int)) := by
  refine getN (by rw [List.length_map]; exact h) ?_
  rw [List.getElem?_map, List.getD_eq_getElem?_getD, List.getElem?_eq_getElem hi]; rfl
theorem getD_le {l : List Nat} {m : Nat} (h : ∀ x ∈ l, x ≤ m) (i : Nat) : l.getD i 0 ≤ m := by
  rw [List.getD_eq_getElem?_getD]
  rcases Nat.lt_or_ge i l.length with hi | hi
  · rw [List.getElem?_eq_getElem hi]; exact h _ (List.getElem_mem hi)
  · rw [List.getElem?_eq_none hi]; exact Nat.zero_le _

noncomputable def mixBody : SL := .cons (.asg 7 true (.call 1 (.cons (.bin .Div (.bin .Sub (.sub (.var 0) (.var 6)) (.sub (.var 1) (.bin .Mod (.bin .Add (.var 6) (.var 2)) (.cst (.int 9))))) (.cst (.int 3))) (.cons (.cst (.flt 4607182418800017408)) (.cons (.bin .Div (.cst (.int 1)) (.cst (.int 16))) .nil)))))
  (.cons (.unp [3, 4, 5] false (.tup (.cons (.bin .Add (.var 3) (.sub (.var 7) (.cst (.int 0)))) (.cons (.bin .Add (.var 4) (.sub (.var 7) (.cst (.int 1)))) (.cons (.bin .Add (.var 5) (.sub (.var 7) (.cst (.int 2)))) .nil))))) .nil)

theorem mix_step {C : Orc} (h1 : ∀ h, C 1 [h, .flt 4607182418800017408, s16 1] = run (lvl fs1 0) p_hsv_to_rgb [h, .flt 4607182418800017408, s16 1]) {one other : List Nat} {t i : Nat} (l1 : one.length = 9) (l2 : other.length = 9) (b1 : ∀ x ∈ one, x ≤ 84) (b2 : ∀ x ∈ other, x ≤ 84) (hi : i < 9) {n : N3} (hn : n.1 + n.2.1 + n.2.2 ≤ 8) {x6 x7 : Sl} :
    fstep C [6] mixBody [.v (natsV one), .v (natsV other), .v (.int (t : Nat)), .v (s16 n.1), .v (s16 n.2.1), .v (s16 n.2.2), x6, x7] (.int (i : Nat))
      = some (.nxt [.v (natsV one), .v (natsV other), .v (.int (t : Nat)), .v (s16 (bump n (dres (one.getD i 0) (other.getD ((i + t) % 9) 0))).1), .v (s16 (bump n (dres (one.getD i 0) (other.getD ((i + t) % 9) 0))).2.1), .v (s16 (bump n (dres (one.getD i 0) (other.getD ((i + t) % 9) 0))).2.2), .v (.int (i : Nat)), .v (hotV (dres (one.getD i 0) (other.getD ((i + t) % 9) 0)))]) := by
  have e0 : bindEach [.v (natsV one), .v (natsV other), .v (.int (t : Nat)), .v (s16 n.1), .v (s16 n.2.1), .v (s16 n.2.2), x6, x7] [6] (.int (i : Nat)) = some [.v (natsV one), .v (natsV other), .v (.int (t : Nat)), .v (s16 n.1), .v (s16 n.2.1), .v (s16 n.2.2), .v (.int (i : Nat)), x7] := rfl
  rw [fstep_of e0]
  have hm : (i + t) % 9 < 9 := Nat.mod_lt _ (by omega)
  obtain ⟨h, e1, e2⟩ := hsv_at (getD_le b1 i) (getD_le b2 ((i + t) % 9))
  have g1 := nats_get (l := one) (i := i) (by omega) (by omega)
  have g2 := nats_get (l := other) (i := (i + t) % 9) (by omega) (by omega)
  have am := modN (i + t) 9 (by omega)
  generalize hd : dres (one.getD i 0) (other.getD ((i + t) % 9) 0) = d at e2 ⊢
  unfold mixBody
  refine (exs_nxt (ρ' := [.v (natsV one), .v (natsV other), .v (.int (t : Nat)), .v (s16 n.1), .v (s16 n.2.1), .v (s16 n.2.2), .v (.int (i : Nat)), .v (hotV d)]) ?_).trans ?_
  · exact (xx_asg (v := hotV d) (xv_call (evL3 (xv_bin (xv_bin (xv_sub rfl rfl g1) (xv_sub rfl (xv_bin (xv_bin rfl rfl (addN i t)) rfl am) g2) (subN _ _)) rfl e1) rfl (xv_bin rfl rfl (div16 (n := 1) (by omega)))) ((h1 h).trans e2))).trans rfl
  exact exs_one (r := .nxt _) ((xx_unp (ev_tup3 (xv_bin rfl (xv_sub rfl rfl rfl) (add16 (d := d) (c := 0) (by omega))) (xv_bin rfl (xv_sub rfl rfl rfl) (add16 (d := d) (c := 1) (by omega))) (xv_bin rfl (xv_sub rfl rfl rfl) (add16 (d := d) (c := 2) (by omega))))).trans rfl)

theorem isN_sum {d : Nat} (h : d < 3) : isN d 0 + isN d 1 + isN d 2 = 1 := by
  match d, h with
  | 0, _ => rfl
  | 1, _ => rfl
  | 2, _ => rfl
theorem mix_loop {C : Orc} (h1 : ∀ h, C 1 [h, .flt 4607182418800017408, s16 1] = run (lvl fs1 0) p_hsv_to_rgb [h, .flt 4607182418800017408, s16 1]) {one other : List Nat} {t : Nat} (l1 : one.length = 9) (l2 : other.length = 9) (b1 : ∀ x ∈ one, x ≤ 84) (b2 : ∀ x ∈ other, x ≤ 84) : ∀ (m i : Nat) {n : N3} {x6 x7 : Sl}, i + m = 9 → n.1 + n.2.1 + n.2.2 = i →
    ∃ y6 y7, forEach (fstep C [6] mixBody) ((List.range' i m).map fun (k : Nat) => PV.int k) [.v (natsV one), .v (natsV other), .v (.int (t : Nat)), .v (s16 n.1), .v (s16 n.2.1), .v (s16 n.2.2), x6, x7]
      = some (.nxt [.v (natsV one), .v (natsV other), .v (.int (t : Nat)), .v (s16 (mixF one other t m i n).1), .v (s16 (mixF one other t m i n).2.1), .v (s16 (mixF one other t m i n).2.2), y6, y7])
  | 0, i, n, x6, x7, _, _ => ⟨x6, x7, rfl⟩
  | m + 1, i, n, x6, x7, hi, hn => by
    have e := mix_step h1 (t := t) l1 l2 b1 b2 (i := i) (by omega) (n := n) (by omega) (x6 := x6) (x7 := x7)
    obtain ⟨y6, y7, e'⟩ := mix_loop h1 (t := t) l1 l2 b1 b2 m (i + 1) (n := bump n (dres (one.getD i 0) (other.getD ((i + t) % 9) 0))) (x6 := .v (.int (i : Nat))) (x7 := .v (hotV (dres (one.getD i 0) (other.getD ((i + t) % 9) 0)))) (by omega) (by
      have := isN_sum (dres_lt (one.getD i 0) (other.getD ((i + t) % 9) 0))
      unfold bump; dsimp only; omega)
    refine ⟨y6, y7, ?_⟩
    rw [List.range'_succ, List.map_cons]
    exact (forEach_nxt e).trans e'

theorem mix_run {C : Orc} (h1 : ∀ h, C 1 [h, .flt 4607182418800017408, s16 1] = run (lvl fs1 0) p_hsv_to_rgb [h, .flt 4607182418800017408, s16 1]) {one other : List Nat} {t : Nat} (l1 : one.length = 9) (l2 : other.length = 9) (b1 : ∀ x ∈ one, x ≤ 84) (b2 : ∀ x ∈ other, x ≤ 84) :
    run C p_law_mix [natsV one, natsV other, .int t] = some (triV (mixF one other t 9 0 (0, 0, 0))) := by
  obtain ⟨y6, y7, e⟩ := mix_loop h1 (t := t) l1 l2 b1 b2 9 0 (n := (0, 0, 0)) (x6 := .no) (x7 := .no) rfl rfl
  refine run_of rfl ?_
  refine (exs_nxt (ρ' := [.v (natsV one), .v (natsV other), .v (.int (t : Nat)), .v (s16 0), .v (s16 0), .v (s16 0), .no, .no]) ?_).trans ?_
  · exact (xx_unp (ev_tup3 rfl rfl rfl)).trans rfl
  refine (exs_nxt ((xx_for (b := mixBody) (x := .rng ((9 : Nat) : Int)) rfl (items_rng (by omega))).trans e)).trans ?_
  exact exs_one (xx_ret (ev_tup3 rfl rfl rfl))

/-! ### what is due -/
noncomputable def three (n : N3) (d : Nat) : N3 := (n.1 + 3 * isN d 0, n.2.1 + 3 * isN d 1, n.2.2 + 3 * isN d 2)
noncomputable def dueStep (one other cs os : List Nat) (t j : Nat) (n : N3) : N3 := match Nat.beq (dres (cs.getD j 0) (os.getD ((j + t) % 3) 0)) 0 with
  | true => three n (dres (one.getD j 0) (other.getD ((j + t) % 9) 0))
  | false => (n.1 + 1, n.2.1 + 1, n.2.2 + 1)
noncomputable def dueF (one other cs os : List Nat) (t : Nat) : N3 := dueStep one other cs os t 2 (dueStep one other cs os t 1 (dueStep one other cs os t 0 (0, 0, 0)))
noncomputable def intV (n : N3) : PV := natsV [n.1, n.2.1, n.2.2]
noncomputable def incG : PV → PV
  | .int i => .int (i + 1)
  | _ => .none
noncomputable def dueBody : SL := .cons (.ite (.cmp .Eq (.bin .Mod (.bin .Sub (.sub (.var 2) (.var 6)) (.sub (.var 3) (.bin .Mod (.bin .Add (.var 6) (.var 4)) (.cst (.int 3))))) (.cst (.int 3))) (.cst (.int 0)))
  (.cons (.augI 5 (.bin .Mod (.bin .Sub (.sub (.var 0) (.var 6)) (.sub (.var 1) (.bin .Mod (.bin .Add (.var 6) (.var 4)) (.cst (.int 9))))) (.cst (.int 3))) .Add (.cst (.int 3))) .nil)
  (.cons (.asg 5 true (.comp (.bin .Add (.var 0) (.cst (.int 1))) (.var 5) (.cst (.bool true)))) .nil)) .nil

theorem due_step {C : Orc} {one other cs os : List Nat} {t j : Nat} (l1 : one.length = 9) (l2 : other.length = 9) (l3 : cs.length = 3) (l4 : os.length = 3) (hj : j < 3) {n : N3} {x6 : Sl} :
    fstep C [6] dueBody [.v (natsV one), .v (natsV other), .v (natsV cs), .v (natsV os), .v (.int (t : Nat)), .o (intV n), x6] (.int (j : Nat))
      = some (.nxt [.v (natsV one), .v (natsV other), .v (natsV cs), .v (natsV os), .v (.int (t : Nat)), .o (intV (dueStep one other cs os t j n)), .v (.int (j : Nat))]) := by
  have e0 : bindEach [.v (natsV one), .v (natsV other), .v (natsV cs), .v (natsV os), .v (.int (t : Nat)), .o (intV n), x6] [6] (.int (j : Nat)) = some [.v (natsV one), .v (natsV other), .v (natsV cs), .v (natsV os), .v (.int (t : Nat)), .o (intV n), .v (.int (j : Nat))] := rfl
  rw [fstep_of e0]
  have hm9 : (j + t) % 9 < 9 := Nat.mod_lt _ (by omega)
  have hm3 : (j + t) % 3 < 3 := Nat.mod_lt _ (by omega)
  have g1 := nats_get (l := one) (i := j) (by omega) (by omega)
  have g2 := nats_get (l := other) (i := (j + t) % 9) (by omega) (by omega)
  have g3 := nats_get (l := cs) (i := j) (by omega) (by omega)
  have g4 := nats_get (l := os) (i := (j + t) % 3) (by omega) (by omega)
  have hc : ev C (.cmp .Eq (.bin .Mod (.bin .Sub (.sub (.var 2) (.var 6)) (.sub (.var 3) (.bin .Mod (.bin .Add (.var 6) (.var 4)) (.cst (.int 3))))) (.cst (.int 3))) (.cst (.int 0))) [.v (natsV one), .v (natsV other), .v (natsV cs), .v (natsV os), .v (.int (t : Nat)), .o (intV n), .v (.int (j : Nat))] = some (.bool (Nat.beq (dres (cs.getD j 0) (os.getD ((j + t) % 3) 0)) 0)) :=
    xv_cmp (xv_bin (xv_bin (xv_sub rfl rfl g3) (xv_sub rfl (xv_bin (xv_bin rfl rfl (addN j t)) rfl (modN _ 3 (by omega))) g4) (subN _ _)) rfl (modD _ _)) rfl (eqN _ 0)
  unfold dueBody dueStep
  refine exs_one (r := .nxt _) ?_
  cases hb : Nat.beq (dres (cs.getD j 0) (os.getD ((j + t) % 3) 0)) 0 with
  | true =>
    rw [hb] at hc
    rw [ex_iteT hc]
    refine exs_one (r := .nxt _) ?_
    have hk : ev C (.bin .Mod (.bin .Sub (.sub (.var 0) (.var 6)) (.sub (.var 1) (.bin .Mod (.bin .Add (.var 6) (.var 4)) (.cst (.int 9))))) (.cst (.int 3))) [.v (natsV one), .v (natsV other), .v (natsV cs), .v (natsV os), .v (.int (t : Nat)), .o (intV n), .v (.int (j : Nat))] = some (.int ((dres (one.getD j 0) (other.getD ((j + t) % 9) 0) : Nat) : Int)) :=
      xv_bin (xv_bin (xv_sub rfl rfl g1) (xv_sub rfl (xv_bin (xv_bin rfl rfl (addN j t)) rfl (modN _ 9 (by omega))) g2) (subN _ _)) rfl (modD _ _)
    have hd := dres_lt (one.getD j 0) (other.getD ((j + t) % 9) 0)
    rw [ex]
    dsimp only [List.getElem?_cons_succ, List.getElem?_cons_zero]
    rw [hk]
    generalize dres (one.getD j 0) (other.getD ((j + t) % 9) 0) = d at hd ⊢
    match d, hd with
    | 0, _ => rfl
    | 1, _ => rfl
    | 2, _ => rfl
  | false =>
    rw [hb] at hc
    rw [ex_iteF hc]
    refine exs_one (r := .nxt _) ?_
    refine (xx_asg (v := intV (n.1 + 1, n.2.1 + 1, n.2.2 + 1)) ?_).trans rfl
    refine (ev_comp_all (items := [.int (n.1 : Nat), .int (n.2.1 : Nat), .int (n.2.2 : Nat)]) (g := incG) rfl rfl ?_).trans rfl
    intro v hv
    simp only [List.mem_cons, List.not_mem_nil, or_false] at hv
    rcases hv with rfl | rfl | rfl <;> rfl

noncomputable def sixG : PV → PV
  | .int (.ofNat n) => s16 n
  | _ => .none
theorem due_le {one other cs os : List Nat} {t j : Nat} {n : N3} {m : Nat} (h : n.1 ≤ m ∧ n.2.1 ≤ m ∧ n.2.2 ≤ m) : (dueStep one other cs os t j n).1 ≤ m + 3 ∧ (dueStep one other cs os t j n).2.1 ≤ m + 3 ∧ (dueStep one other cs os t j n).2.2 ≤ m + 3 := by
  have hi : ∀ d c, isN d c ≤ 1 := fun d c => by unfold isN; split <;> omega
  unfold dueStep
  split
  · unfold three
    have h0 := hi (dres (one.getD j 0) (other.getD ((j + t) % 9) 0)) 0
    have h1 := hi (dres (one.getD j 0) (other.getD ((j + t) % 9) 0)) 1
    have h2 := hi (dres (one.getD j 0) (other.getD ((j + t) % 9) 0)) 2
    dsimp only
    omega
  · dsimp only; omega

theorem due_run {C : Orc} {one other cs os : List Nat} {t : Nat} (l1 : one.length = 9) (l2 : other.length = 9) (l3 : cs.length = 3) (l4 : os.length = 3) :
    run C p_law_due [natsV one, natsV other, natsV cs, natsV os, .int t] = some (triV (dueF one other cs os t)) := by
  refine run_of rfl ?_
  refine (exs_nxt (ρ' := [.v (natsV one), .v (natsV other), .v (natsV cs), .v (natsV os), .v (.int (t : Nat)), .o (intV (0, 0, 0)), .no]) ?_).trans ?_
  · exact (xx_asg (v := intV (0, 0, 0)) rfl).trans rfl
  refine (exs_nxt (ρ' := [.v (natsV one), .v (natsV other), .v (natsV cs), .v (natsV os), .v (.int (t : Nat)), .o (intV (dueF one other cs os t)), .v (.int ((2 : Nat) : Int))]) ?_).trans ?_
  · refine (xx_for (b := dueBody) (x := .rng 3) (items := [.int ((0 : Nat) : Int), .int ((1 : Nat) : Int), .int ((2 : Nat) : Int)]) rfl rfl).trans ?_
    exact forEach3 (due_step l1 l2 l3 l4 (by omega)) (due_step l1 l2 l3 l4 (by omega)) (due_step l1 l2 l3 l4 (by omega))
  have hle : (dueF one other cs os t).1 ≤ 9 ∧ (dueF one other cs os t).2.1 ≤ 9 ∧ (dueF one other cs os t).2.2 ≤ 9 := due_le (due_le (due_le ⟨Nat.le_refl 0, Nat.le_refl 0, Nat.le_refl 0⟩))
  generalize dueF one other cs os t = n at hle ⊢
  refine exs_one (xx_ret (ev_blt1 (x := .list [s16 n.1, s16 n.2.1, s16 n.2.2]) ?_ rfl))
  refine (ev_comp_all (items := [.int (n.1 : Nat), .int (n.2.1 : Nat), .int (n.2.2 : Nat)]) (g := sixG) rfl rfl ?_).trans rfl
  intro v hv
  simp only [List.mem_cons, List.not_mem_nil, or_false] at hv
  rcases hv with rfl | rfl | rfl
  · exact xv_bin rfl rfl (div16 hle.1)
  · exact xv_bin rfl rfl (div16 hle.2.1)
  · exact xv_bin rfl rfl (div16 hle.2.2)
end Mine
namespace Mine
open PySem

/-! ### triples as one number -/
noncomputable def code (n : N3) : Nat := n.1 + 16 * n.2.1 + 256 * n.2.2
noncomputable def small3 (n : N3) : Prop := n.1 ≤ 9 ∧ n.2.1 ≤ 9 ∧ n.2.2 ≤ 9
theorem code_inj {a b : N3} (ha : small3 a) (hb : small3 b) (h : code a = code b) : a = b := by
  obtain ⟨a0, a1, a2⟩ := a
  obtain ⟨b0, b1, b2⟩ := b
  obtain ⟨h1, h2, h3⟩ := ha
  obtain ⟨h4, h5, h6⟩ := hb
  dsimp only [code] at *
  have : a0 = b0 ∧ a1 = b1 ∧ a2 = b2 := by omega
  rw [this.1, this.2.1, this.2.2]
noncomputable def mixQ : List Nat → List Nat → N3 → N3
  | x :: xs, y :: ys, n => mixQ xs ys (bump n (dres x y))
  | _, _, n => n
noncomputable def mixC : List Nat → List Nat → Nat → Nat
  | x :: xs, y :: ys, n => mixC xs ys (n + Nat.pow 16 (Nat.mod (Nat.sub (x + 3) y) 3))
  | _, _, n => n
noncomputable def rotl (t : Nat) (l : List Nat) : List Nat := match t, l with
  | 0, l => l
  | t + 1, x :: r => rotl t (r ++ [x])
  | _ + 1, [] => []
theorem bump_code {n : N3} {d : Nat} (h : d < 3) : code (bump n d) = code n + Nat.pow 16 d := by
  match d, h with
  | 0, _ => show n.1 + 1 + 16 * (n.2.1 + 0) + 256 * (n.2.2 + 0) = n.1 + 16 * n.2.1 + 256 * n.2.2 + 1; omega
  | 1, _ => show n.1 + 0 + 16 * (n.2.1 + 1) + 256 * (n.2.2 + 0) = n.1 + 16 * n.2.1 + 256 * n.2.2 + 16; omega
  | 2, _ => show n.1 + 0 + 16 * (n.2.1 + 0) + 256 * (n.2.2 + 1) = n.1 + 16 * n.2.1 + 256 * n.2.2 + 256; omega
theorem mixQ_code : ∀ {xs ys : List Nat} {n : N3}, (∀ x ∈ xs, x < 3) → (∀ y ∈ ys, y < 3) → code (mixQ xs ys n) = mixC xs ys (code n)
  | [], _, _, _, _ => by unfold mixQ mixC; rfl
  | _ :: _, [], _, _, _ => by unfold mixQ mixC; rfl
  | x :: xs, y :: ys, n, h1, h2 => by
    unfold mixQ mixC
    rw [mixQ_code (fun x hx => h1 x (List.mem_cons_of_mem _ hx)) (fun x hx => h2 x (List.mem_cons_of_mem _ hx)), bump_code (dres_lt _ _)]
    have a := h1 x (List.mem_cons_self ..)
    have b := h2 y (List.mem_cons_self ..)
    rw [show dres x y = Nat.mod (Nat.sub (x + 3) y) 3 from by
      show (x % 3 + 3 - y % 3) % 3 = (x + 3 - y) % 3
      rw [Nat.mod_eq_of_lt a, Nat.mod_eq_of_lt b]]
theorem mixQ_sum : ∀ {xs ys : List Nat} {n : N3}, xs.length = ys.length → (mixQ xs ys n).1 + (mixQ xs ys n).2.1 + (mixQ xs ys n).2.2 = n.1 + n.2.1 + n.2.2 + xs.length
  | [], _, _, _ => by unfold mixQ; rfl
  | x :: xs, [], _, h => by cases h
  | x :: xs, y :: ys, n, h => by
    unfold mixQ
    rw [mixQ_sum (by simpa using h), List.length_cons]
    have := isN_sum (dres_lt x y)
    unfold bump; dsimp only; omega
theorem mixF_mixQ {a0 a1 a2 a3 a4 a5 a6 a7 a8 b0 b1 b2 b3 b4 b5 b6 b7 b8 t : Nat} (ht : t < 9) (n : N3) :
    mixF [a0, a1, a2, a3, a4, a5, a6, a7, a8] [b0, b1, b2, b3, b4, b5, b6, b7, b8] t 9 0 n = mixQ [a0, a1, a2, a3, a4, a5, a6, a7, a8] (rotl t [b0, b1, b2, b3, b4, b5, b6, b7, b8]) n := by
  match t, ht with
  | 0, _ => rfl
  | 1, _ => rfl
  | 2, _ => rfl
  | 3, _ => rfl
  | 4, _ => rfl
  | 5, _ => rfl
  | 6, _ => rfl
  | 7, _ => rfl
  | 8, _ => rfl
theorem rotl_mem : ∀ {t : Nat} {l : List Nat} {x : Nat}, x ∈ rotl t l → x ∈ l
  | 0, _, _, h => by unfold rotl at h; exact h
  | t + 1, [], _, h => by unfold rotl at h; exact h
  | t + 1, y :: r, x, h => by
    unfold rotl at h
    have := rotl_mem h
    rw [List.mem_append, List.mem_singleton] at this
    rcases this with h | rfl
    · exact List.mem_cons_of_mem _ h
    · exact List.mem_cons_self ..
theorem rotl_len : ∀ {t : Nat} {l : List Nat}, (rotl t l).length = l.length
  | 0, _ => by unfold rotl; rfl
  | t + 1, [] => by unfold rotl; rfl
  | t + 1, y :: r => by unfold rotl; rw [rotl_len]; simp

noncomputable def dueC (r k c d : List Nat) (t j n : Nat) : Nat := match Nat.beq (dres (c.getD j 0) (d.getD ((j + t) % 3) 0)) 0 with
  | true => n + 3 * Nat.pow 16 (dres (r.getD j 0) (k.getD ((j + t) % 9) 0))
  | false => n + 273
theorem dueC_ok {r k c d : List Nat} {t j : Nat} {n : N3} : code (dueStep r k c d t j n) = dueC r k c d t j (code n) := by
  unfold dueStep dueC
  cases Nat.beq (dres (c.getD j 0) (d.getD ((j + t) % 3) 0)) 0 with
  | true =>
    have h := dres_lt (r.getD j 0) (k.getD ((j + t) % 9) 0)
    dsimp only
    generalize dres (r.getD j 0) (k.getD ((j + t) % 9) 0) = e at h ⊢
    match e, h with
    | 0, _ => show n.1 + 3 + 16 * (n.2.1 + 0) + 256 * (n.2.2 + 0) = n.1 + 16 * n.2.1 + 256 * n.2.2 + 3; omega
    | 1, _ => show n.1 + 0 + 16 * (n.2.1 + 3) + 256 * (n.2.2 + 0) = n.1 + 16 * n.2.1 + 256 * n.2.2 + 48; omega
    | 2, _ => show n.1 + 0 + 16 * (n.2.1 + 0) + 256 * (n.2.2 + 3) = n.1 + 16 * n.2.1 + 256 * n.2.2 + 768; omega
  | false => unfold code; dsimp only; omega

noncomputable def ringR (b0 b1 b2 c0 c1 c2 : Nat) : List Nat := [b0 % 3, b1 % 3, b2 % 3, (b0 + c0) % 3, (b1 + c1) % 3, (b2 + c2) % 3, (b0 + 2 * c0) % 3, (b1 + 2 * c1) % 3, (b2 + 2 * c2) % 3]
noncomputable def backR (b0 b1 b2 c0 c1 c2 : Nat) : List Nat := [b2 % 3, b1 % 3, b0 % 3, (b2 + c2) % 3, (b1 + c1) % 3, (b0 + c0) % 3, (b2 + 2 * c2) % 3, (b1 + 2 * c1) % 3, (b0 + 2 * c0) % 3]
noncomputable def perf (c0 c1 c2 : Nat) : Bool := !(Nat.beq c0 c1) && (!(Nat.beq c0 c2) && !(Nat.beq c1 c2))
noncomputable def fives : List N3 := [(5, 2, 2), (2, 5, 2), (2, 2, 5)]
noncomputable def memN (x : Nat) : List Nat → Bool
  | [] => false
  | y :: r => match Nat.beq x y with | true => true | false => memN x r
noncomputable def tripC : List Nat := trips.map code
noncomputable def fiveC : List Nat := fives.map code
noncomputable def chkT (r k c d : List Nat) (t : Nat) : Bool := Nat.beq (mixC r (rotl t k) 0) (dueC r k c d t 2 (dueC r k c d t 1 (dueC r k c d t 0 0)))
noncomputable def chkM (r k : List Nat) (t : Nat) : Bool := memN (mixC r (rotl t k) 0) tripC
noncomputable def chkP (r k : List Nat) (p : Bool) : Bool := match p with
  | true => allN (fun t => Nat.beq (mixC r (rotl (t + 1) r) 0) 819) 8 && allN (fun t => memN (mixC r (rotl t k) 0) fiveC) 9
  | false => !(allN (fun t => Nat.beq (mixC r (rotl (t + 1) r) 0) 819) 8)
noncomputable def chkRes (b0 b1 b2 c0 c1 c2 : Nat) : Bool := match ringR b0 b1 b2 c0 c1 c2, backR b0 b1 b2 c0 c1 c2 with
  | r, k => allN (fun t => chkT r r [c0, c1, c2] [c0, c1, c2] t && (chkM r r t && (chkT r k [c0, c1, c2] [c2, c1, c0] t && chkM r k t))) 9 && chkP r k (perf c0 c1 c2)
noncomputable def resAt (b0 b1 : Nat) : Bool := allN (fun b2 => allN (fun c0 => allN (fun c1 => allN (fun c2 => chkRes b0 b1 b2 c0 c1 c2) 3) 3) 3) 3
theorem res00 : resAt 0 0 = true := by decide +kernel
theorem res01 : resAt 0 1 = true := by decide +kernel
theorem res02 : resAt 0 2 = true := by decide +kernel
theorem res10 : resAt 1 0 = true := by decide +kernel
theorem res11 : resAt 1 1 = true := by decide +kernel
theorem res12 : resAt 1 2 = true := by decide +kernel
theorem res20 : resAt 2 0 = true := by decide +kernel
theorem res21 : resAt 2 1 = true := by decide +kernel
theorem res22 : resAt 2 2 = true := by decide +kernel
theorem res_all {b0 b1 : Nat} (h0 : b0 < 3) (h1 : b1 < 3) : resAt b0 b1 = true := by
  rcases b0 with _ | _ | _ | b0
  · rcases b1 with _ | _ | _ | b1
    · exact res00
    · exact res01
    · exact res02
    · exact absurd h1 (Nat.not_lt.mpr (Nat.le_add_left 3 b1))
  · rcases b1 with _ | _ | _ | b1
    · exact res10
    · exact res11
    · exact res12
    · exact absurd h1 (Nat.not_lt.mpr (Nat.le_add_left 3 b1))
  · rcases b1 with _ | _ | _ | b1
    · exact res20
    · exact res21
    · exact res22
    · exact absurd h1 (Nat.not_lt.mpr (Nat.le_add_left 3 b1))
  · exact absurd h0 (Nat.not_lt.mpr (Nat.le_add_left 3 b0))

theorem small_of {xs ys : List Nat} (h : xs.length = ys.length) (hl : xs.length = 9) : small3 (mixQ xs ys (0, 0, 0)) := by
  have := mixQ_sum (n := (0, 0, 0)) h
  dsimp only at this
  unfold small3; omega
theorem mem_tripC {n : N3} {l : List N3} (hn : small3 n) (hl : ∀ m ∈ l, small3 m) (h : memN (code n) (l.map code) = true) : n ∈ l := by
  induction l with
  | nil => cases h
  | cons m r ih =>
    rw [List.map_cons] at h
    unfold memN at h
    cases hb : Nat.beq (code n) (code m) with
    | true => rw [code_inj hn (hl m (List.mem_cons_self ..)) (Nat.eq_of_beq_eq_true hb)]; exact List.mem_cons_self ..
    | false =>
      rw [hb] at h
      exact List.mem_cons_of_mem _ (ih (fun m hm => hl m (List.mem_cons_of_mem _ hm)) h)
theorem small_trips : ∀ m ∈ trips, small3 m := by
  intro m hm
  have : trips.all (fun m => decide (m.1 ≤ 9) && (decide (m.2.1 ≤ 9) && decide (m.2.2 ≤ 9))) = true := by decide +kernel
  have := List.all_eq_true.mp this m hm
  simp only [Bool.and_eq_true, decide_eq_true_eq] at this
  exact ⟨this.1, this.2.1, this.2.2⟩
theorem small_fives : ∀ m ∈ fives, small3 m := by
  intro m hm
  simp only [fives, List.mem_cons, List.not_mem_nil, or_false] at hm
  rcases hm with rfl | rfl | rfl <;> exact ⟨by decide, by decide, by decide⟩

/-- what holds of the ring, by remainders -/
structure ResOk (r k : List Nat) (c0 c1 c2 : Nat) : Prop where
  own : ∀ t, t < 9 → mixF r r t 9 0 (0, 0, 0) = dueF r r [c0, c1, c2] [c0, c1, c2] t ∧ mixF r r t 9 0 (0, 0, 0) ∈ trips
  far : ∀ t, t < 9 → mixF r k t 9 0 (0, 0, 0) = dueF r k [c0, c1, c2] [c2, c1, c0] t ∧ mixF r k t 9 0 (0, 0, 0) ∈ trips
  grey : allN (fun t => is333 (mixF r r (t + 1) 9 0 (0, 0, 0))) 8 = perf c0 c1 c2
  five : perf c0 c1 c2 = true → ∀ t, t < 9 → mixF r k t 9 0 (0, 0, 0) ∈ fives

theorem allN_congr {f g : Nat → Bool} : ∀ {n : Nat}, (∀ x, x < n → f x = g x) → allN f n = allN g n
  | 0, _ => rfl
  | n + 1, h => by unfold allN; rw [h n (by omega), allN_congr fun x hx => h x (by omega)]
theorem is333_code {n : N3} (h : small3 n) : is333 n = Nat.beq (code n) 819 := by
  cases hb : Nat.beq (code n) 819 with
  | true =>
    have : n = (3, 3, 3) := code_inj h ⟨by decide, by decide, by decide⟩ (Nat.eq_of_beq_eq_true hb)
    rw [this]; rfl
  | false =>
    cases hi : is333 n with
    | false => rfl
    | true =>
      unfold is333 at hi
      simp only [Bool.and_eq_true] at hi
      have h0 := Nat.eq_of_beq_eq_true hi.1
      have h1 := Nat.eq_of_beq_eq_true hi.2.1
      have h2 := Nat.eq_of_beq_eq_true hi.2.2
      have : code n = 819 := by unfold code; omega
      rw [this] at hb; cases hb

theorem due_small {r k c d : List Nat} {t : Nat} : small3 (dueF r k c d t) := due_le (due_le (due_le ⟨Nat.le_refl 0, Nat.le_refl 0, Nat.le_refl 0⟩))

theorem res_ok {b0 b1 b2 c0 c1 c2 : Nat} (h0 : b0 < 3) (h1 : b1 < 3) (h2 : b2 < 3) (g0 : c0 < 3) (g1 : c1 < 3) (g2 : c2 < 3) : ResOk (ringR b0 b1 b2 c0 c1 c2) (backR b0 b1 b2 c0 c1 c2) c0 c1 c2 := by
  have h := allN_at (allN_at (allN_at (allN_at (res_all h0 h1) b2 h2) c0 g0) c1 g1) c2 g2
  have h : (allN (fun t => chkT (ringR b0 b1 b2 c0 c1 c2) (ringR b0 b1 b2 c0 c1 c2) [c0, c1, c2] [c0, c1, c2] t && (chkM (ringR b0 b1 b2 c0 c1 c2) (ringR b0 b1 b2 c0 c1 c2) t && (chkT (ringR b0 b1 b2 c0 c1 c2) (backR b0 b1 b2 c0 c1 c2) [c0, c1, c2] [c2, c1, c0] t && chkM (ringR b0 b1 b2 c0 c1 c2) (backR b0 b1 b2 c0 c1 c2) t))) 9 && chkP (ringR b0 b1 b2 c0 c1 c2) (backR b0 b1 b2 c0 c1 c2) (perf c0 c1 c2)) = true := h
  rw [Bool.and_eq_true] at h
  have hr : ∀ x ∈ ringR b0 b1 b2 c0 c1 c2, x < 3 := by
    intro x hx
    simp only [ringR, List.mem_cons, List.not_mem_nil, or_false] at hx
    rcases hx with rfl | rfl | rfl | rfl | rfl | rfl | rfl | rfl | rfl <;> exact Nat.mod_lt _ (by omega)
  have hk : ∀ x ∈ backR b0 b1 b2 c0 c1 c2, x < 3 := by
    intro x hx
    simp only [backR, List.mem_cons, List.not_mem_nil, or_false] at hx
    rcases hx with rfl | rfl | rfl | rfl | rfl | rfl | rfl | rfl | rfl <;> exact Nat.mod_lt _ (by omega)
  have er : ∀ t, t < 9 → mixF (ringR b0 b1 b2 c0 c1 c2) (ringR b0 b1 b2 c0 c1 c2) t 9 0 (0, 0, 0) = mixQ (ringR b0 b1 b2 c0 c1 c2) (rotl t (ringR b0 b1 b2 c0 c1 c2)) (0, 0, 0) := fun t ht => mixF_mixQ ht _
  have ek : ∀ t, t < 9 → mixF (ringR b0 b1 b2 c0 c1 c2) (backR b0 b1 b2 c0 c1 c2) t 9 0 (0, 0, 0) = mixQ (ringR b0 b1 b2 c0 c1 c2) (rotl t (backR b0 b1 b2 c0 c1 c2)) (0, 0, 0) := fun t ht => mixF_mixQ ht _
  have lr : (ringR b0 b1 b2 c0 c1 c2).length = 9 := rfl
  have lk : (backR b0 b1 b2 c0 c1 c2).length = 9 := rfl
  generalize ringR b0 b1 b2 c0 c1 c2 = r at *
  generalize backR b0 b1 b2 c0 c1 c2 = k at *
  have cr : ∀ t, code (mixQ r (rotl t r) (0, 0, 0)) = mixC r (rotl t r) 0 := fun t => mixQ_code hr fun y hy => hr y (rotl_mem hy)
  have ck : ∀ t, code (mixQ r (rotl t k) (0, 0, 0)) = mixC r (rotl t k) 0 := fun t => mixQ_code hr fun y hy => hk y (rotl_mem hy)
  have sr : ∀ t, small3 (mixQ r (rotl t r) (0, 0, 0)) := fun t => small_of (by rw [rotl_len]) lr
  have sk : ∀ t, small3 (mixQ r (rotl t k) (0, 0, 0)) := fun t => small_of (by rw [rotl_len, lr, lk]) lr
  have ed : ∀ k c d t, code (dueF r k c d t) = dueC r k c d t 2 (dueC r k c d t 1 (dueC r k c d t 0 0)) := fun k c d t => by
    unfold dueF; rw [dueC_ok, dueC_ok, dueC_ok]; rfl
  refine ⟨fun t ht => ?_, fun t ht => ?_, ?_, fun hp t ht => ?_⟩
  · have := allN_at h.1 t ht
    simp only [Bool.and_eq_true] at this
    rw [er t ht]
    refine ⟨code_inj (sr t) due_small ?_, mem_tripC (sr t) small_trips ?_⟩
    · rw [cr, ed]; exact Nat.eq_of_beq_eq_true this.1
    · rw [cr]; exact this.2.1
  · have := allN_at h.1 t ht
    simp only [Bool.and_eq_true] at this
    rw [ek t ht]
    refine ⟨code_inj (sk t) due_small ?_, mem_tripC (sk t) small_trips ?_⟩
    · rw [ck, ed]; exact Nat.eq_of_beq_eq_true this.2.2.1
    · rw [ck]; exact this.2.2.2
  · have hc : allN (fun t => is333 (mixF r r (t + 1) 9 0 (0, 0, 0))) 8 = allN (fun t => Nat.beq (mixC r (rotl (t + 1) r) 0) 819) 8 := allN_congr fun x hx => by
      rw [er (x + 1) (by omega), is333_code (sr _), cr]
    rw [hc]
    have h2 := h.2
    unfold chkP at h2
    cases hp : perf c0 c1 c2 with
    | true => rw [hp] at h2; dsimp only at h2; rw [Bool.and_eq_true] at h2; exact h2.1
    | false => rw [hp] at h2; simpa using h2
  · have h2 := h.2
    rw [hp] at h2
    unfold chkP at h2
    dsimp only at h2
    rw [Bool.and_eq_true] at h2
    have := allN_at h2.2 t ht
    rw [ek t ht]
    exact mem_tripC (sk t) small_fives (by rw [ck]; exact this)
end Mine
namespace Mine
open PySem

/-! ### by remainders -/
theorem dres_mod (a b : Nat) : dres (a % 3) (b % 3) = dres a b := by unfold dres; omega
theorem getD_mod (l : List Nat) (i : Nat) : (l.map (· % 3)).getD i 0 = l.getD i 0 % 3 := by
  rw [List.getD_eq_getElem?_getD, List.getD_eq_getElem?_getD, List.getElem?_map]
  cases l[i]? <;> rfl
theorem mixF_mod {one other : List Nat} {t : Nat} : ∀ (m i : Nat) (n : N3), mixF (one.map (· % 3)) (other.map (· % 3)) t m i n = mixF one other t m i n
  | 0, _, _ => rfl
  | m + 1, i, n => by unfold mixF; rw [getD_mod, getD_mod, dres_mod, mixF_mod m]
theorem dueStep_mod {one other cs os : List Nat} {t j : Nat} {n : N3} : dueStep (one.map (· % 3)) (other.map (· % 3)) (cs.map (· % 3)) (os.map (· % 3)) t j n = dueStep one other cs os t j n := by
  unfold dueStep; rw [getD_mod, getD_mod, getD_mod, getD_mod, dres_mod, dres_mod]
theorem dueF_mod {one other cs os : List Nat} {t : Nat} : dueF (one.map (· % 3)) (other.map (· % 3)) (cs.map (· % 3)) (os.map (· % 3)) t = dueF one other cs os t := by
  unfold dueF; rw [dueStep_mod, dueStep_mod, dueStep_mod]

noncomputable def ringOf (k : Nat) (p0 p1 p2 : List Nat) : List Nat := lens k 0 p0 p1 p2 ++ lens k 1 p0 p1 p2 ++ lens k 2 p0 p1 p2
noncomputable def backOf (k : Nat) (p0 p1 p2 : List Nat) : List Nat := (lens k 0 p0 p1 p2).reverse ++ (lens k 1 p0 p1 p2).reverse ++ (lens k 2 p0 p1 p2).reverse
noncomputable def cntsOf (k : Nat) (p0 p1 p2 : List Nat) : List Nat := [cnt k p0, cnt k p1, cnt k p2]
noncomputable def bas (k : Nat) (p : List Nat) : Nat := (wr k 0 p).length % 3
noncomputable def cn3 (k : Nat) (p : List Nat) : Nat := cnt k p % 3
theorem ring_mod (k : Nat) (p0 p1 p2 : List Nat) : (ringOf k p0 p1 p2).map (· % 3) = ringR (bas k p0) (bas k p1) (bas k p2) (cn3 k p0) (cn3 k p1) (cn3 k p2) := by
  show [(wr k 0 p0).length % 3, (wr k 0 p1).length % 3, (wr k 0 p2).length % 3, (wr k 1 p0).length % 3, (wr k 1 p1).length % 3, (wr k 1 p2).length % 3, (wr k 2 p0).length % 3, (wr k 2 p1).length % 3, (wr k 2 p2).length % 3] = _
  rw [wr_length k 1 p0, wr_length k 1 p1, wr_length k 1 p2, wr_length k 2 p0, wr_length k 2 p1, wr_length k 2 p2]
  unfold ringR bas cn3
  congr 1 <;> (try omega)
  congr 1 <;> (try omega)
  congr 1 <;> (try omega)
  congr 1 <;> (try omega)
  congr 1 <;> (try omega)
  congr 1 <;> (try omega)
  congr 1 <;> (try omega)
  congr 1 <;> (try omega)
  congr 1 <;> (try omega)
theorem back_mod (k : Nat) (p0 p1 p2 : List Nat) : (backOf k p0 p1 p2).map (· % 3) = backR (bas k p0) (bas k p1) (bas k p2) (cn3 k p0) (cn3 k p1) (cn3 k p2) := by
  show [(wr k 0 p2).length % 3, (wr k 0 p1).length % 3, (wr k 0 p0).length % 3, (wr k 1 p2).length % 3, (wr k 1 p1).length % 3, (wr k 1 p0).length % 3, (wr k 2 p2).length % 3, (wr k 2 p1).length % 3, (wr k 2 p0).length % 3] = _
  rw [wr_length k 1 p0, wr_length k 1 p1, wr_length k 1 p2, wr_length k 2 p0, wr_length k 2 p1, wr_length k 2 p2]
  unfold backR bas cn3
  congr 1 <;> (try omega)
  congr 1 <;> (try omega)
  congr 1 <;> (try omega)
  congr 1 <;> (try omega)
  congr 1 <;> (try omega)
  congr 1 <;> (try omega)
  congr 1 <;> (try omega)
  congr 1 <;> (try omega)
  congr 1 <;> (try omega)

noncomputable def mixN (one other : List Nat) (t : Nat) : N3 := mixF one other t 9 0 (0, 0, 0)
noncomputable def mixL (one other : List Nat) : List N3 := (List.range' 0 9).map (mixN one other)

structure Told (k : Nat) (p0 p1 p2 : List Nat) : Prop where
  own : ∀ t, t < 9 → mixN (ringOf k p0 p1 p2) (ringOf k p0 p1 p2) t = dueF (ringOf k p0 p1 p2) (ringOf k p0 p1 p2) (cntsOf k p0 p1 p2) (cntsOf k p0 p1 p2) t
  far : ∀ t, t < 9 → mixN (ringOf k p0 p1 p2) (backOf k p0 p1 p2) t = dueF (ringOf k p0 p1 p2) (backOf k p0 p1 p2) (cntsOf k p0 p1 p2) (cntsOf k p0 p1 p2).reverse t
  trips : ∀ n ∈ mixL (ringOf k p0 p1 p2) (ringOf k p0 p1 p2) ++ mixL (ringOf k p0 p1 p2) (backOf k p0 p1 p2), n ∈ trips
  grey : ((mixL (ringOf k p0 p1 p2) (ringOf k p0 p1 p2)).drop 1).all is333 = perf (cn3 k p0) (cn3 k p1) (cn3 k p2)
  five : perf (cn3 k p0) (cn3 k p1) (cn3 k p2) = true → ∀ n ∈ mixL (ringOf k p0 p1 p2) (backOf k p0 p1 p2), n ∈ fives

theorem allN_range {f : Nat → Bool} : ∀ {n a : Nat}, ((List.range' a n).all f) = true ↔ ∀ x, x < n → f (a + x) = true := by
  intro n a
  rw [List.all_eq_true]
  constructor
  · intro h x hx
    exact h _ (by rw [List.mem_range']; exact ⟨x, hx, by omega⟩)
  · intro h y hy
    rw [List.mem_range'] at hy
    obtain ⟨i, hi, rfl⟩ := hy
    have := h i hi
    rwa [show a + 1 * i = a + i by omega]
theorem allN_iff {f : Nat → Bool} : ∀ {n : Nat}, (∀ x, x < n → f x = true) → allN f n = true
  | 0, _ => rfl
  | n + 1, h => by unfold allN; rw [h n (by omega)]; exact allN_iff fun x hx => h x (by omega)

theorem told (k : Nat) (p0 p1 p2 : List Nat) : Told k p0 p1 p2 := by
  have m3 : ∀ x : Nat, x % 3 < 3 := fun x => Nat.mod_lt _ (by omega)
  have h := res_ok (b0 := bas k p0) (b1 := bas k p1) (b2 := bas k p2) (c0 := cn3 k p0) (c1 := cn3 k p1) (c2 := cn3 k p2) (m3 _) (m3 _) (m3 _) (m3 _) (m3 _) (m3 _)
  rw [← ring_mod, ← back_mod] at h
  have e1 : ∀ t, mixF ((ringOf k p0 p1 p2).map (· % 3)) ((ringOf k p0 p1 p2).map (· % 3)) t 9 0 (0, 0, 0) = mixN (ringOf k p0 p1 p2) (ringOf k p0 p1 p2) t := fun t => mixF_mod ..
  have e2 : ∀ t, mixF ((ringOf k p0 p1 p2).map (· % 3)) ((backOf k p0 p1 p2).map (· % 3)) t 9 0 (0, 0, 0) = mixN (ringOf k p0 p1 p2) (backOf k p0 p1 p2) t := fun t => mixF_mod ..
  have c1 : [cn3 k p0, cn3 k p1, cn3 k p2] = (cntsOf k p0 p1 p2).map (· % 3) := rfl
  have c2 : [cn3 k p2, cn3 k p1, cn3 k p0] = (cntsOf k p0 p1 p2).reverse.map (· % 3) := rfl
  have mem : ∀ {o : List Nat} {n : N3}, n ∈ mixL (ringOf k p0 p1 p2) o → ∃ t, t < 9 ∧ n = mixN (ringOf k p0 p1 p2) o t := fun {o n} hn => by
    obtain ⟨t, ht, rfl⟩ := List.mem_map.mp hn
    rw [List.mem_range'] at ht
    obtain ⟨i, hi, rfl⟩ := ht
    exact ⟨_, by omega, rfl⟩
  refine ⟨fun t ht => ?_, fun t ht => ?_, fun n hn => ?_, ?_, fun hp n hn => ?_⟩
  · have := (h.own t ht).1
    rw [e1, c1, dueF_mod] at this
    exact this
  · have := (h.far t ht).1
    rw [e2, c1, c2, dueF_mod] at this
    exact this
  · rcases List.mem_append.mp hn with hn | hn
    · obtain ⟨t, ht, rfl⟩ := mem hn
      rw [← e1]; exact (h.own t ht).2
    · obtain ⟨t, ht, rfl⟩ := mem hn
      rw [← e2]; exact (h.far t ht).2
  · have hg := h.grey
    rw [show (mixL (ringOf k p0 p1 p2) (ringOf k p0 p1 p2)).drop 1 = (List.range' 1 8).map (mixN (ringOf k p0 p1 p2) (ringOf k p0 p1 p2)) from rfl, List.all_map, ← hg]
    refine Bool.eq_iff_iff.mpr (allN_range.trans ⟨fun h => allN_iff fun x hx => ?_, fun h x hx => ?_⟩)
    · have := h x hx
      rw [e1, Nat.add_comm]; exact this
    · have := allN_at h x hx
      rw [e1, Nat.add_comm] at this; exact this
  · obtain ⟨t, ht, rfl⟩ := mem hn
    rw [← e2]; exact h.five hp t ht

/-! ### what the colours tell -/
noncomputable def rgbV (n : N3) : PV := (run (lvl fs1 0) p_rgb_to_hsv [s16 n.1, s16 n.2.1, s16 n.2.2]).getD .none
structure Rgb (n : N3) (h s v a b c : PV) : Prop where
  rgb : run (lvl fs1 0) p_rgb_to_hsv [s16 n.1, s16 n.2.1, s16 n.2.2] = some (.tup [h, s, v])
  hsv : run (lvl fs1 0) p_hsv_to_rgb [h, s, v] = some (.tup [a, b, c])
  ua : upF a = some (.int (n.1 : Nat))
  ub : upF b = some (.int (n.2.1 : Nat))
  uc : upF c = some (.int (n.2.2 : Nat))
  da : dnF (s16 n.1) = some (.int (n.1 : Nat))
  db : dnF (s16 n.2.1) = some (.int (n.2.1 : Nat))
  dc : dnF (s16 n.2.2) = some (.int (n.2.2 : Nat))
  grey : pyEqN 7 (.tup [h, s, v]) greyV = some (is333 n)
theorem rgb_at {n : N3} (hn : n ∈ trips) : ∃ h s v a b c, Rgb n h s v a b c := by
  have h := List.map_inj_left.mp rgb_all n hn
  obtain ⟨rr, h1, e1⟩ := obind_inv h
  obtain ⟨hh, h2, e2⟩ := obind_inv e1
  obtain ⟨kk, h3, e3⟩ := obind_inv e2
  obtain ⟨b, h4, e4⟩ := obind_inv e3
  obtain ⟨i, h5, e5⟩ := obind_inv e4
  obtain ⟨j, h6, e6⟩ := obind_inv e5
  obtain ⟨k, h7, e7⟩ := obind_inv e6
  obtain ⟨i', h8, e8⟩ := obind_inv e7
  obtain ⟨j', h9, e9⟩ := obind_inv e8
  obtain ⟨k', h10, e10⟩ := obind_inv e9
  obtain ⟨g, h11, e11⟩ := obind_inv e10
  cases as3_inv h2
  cases as3_inv h4
  have q0 := List.cons.inj (PV.list.inj (Option.some.inj e11))
  have q1 := List.cons.inj q0.2
  have q2 := List.cons.inj q1.2
  have q3 := List.cons.inj q2.2
  have q4 := List.cons.inj q3.2
  have q5 := List.cons.inj q4.2
  have q6 := PV.bool.inj (List.cons.inj q5.2).1
  exact ⟨hh.1, hh.2.1, hh.2.2, b.1, b.2.1, b.2.2, h1, h3, h5.trans (congrArg some q0.1), h6.trans (congrArg some q1.1), h7.trans (congrArg some q2.1), h8.trans (congrArg some q3.1), h9.trans (congrArg some q4.1), h10.trans (congrArg some q5.1), h11.trans (congrArg some q6)⟩
structure Five (n : N3) (h s v : PV) : Prop where
  rgb : run (lvl fs1 0) p_rgb_to_hsv [s16 n.1, s16 n.2.1, s16 n.2.2] = some (.tup [h, s, v])
  thirds : ∃ p q, binop .Div (.int 1) (.int 3) = some p ∧ binop .Div (.int 2) (.int 3) = some q ∧ pyIn h (.tup [.flt 0, p, q]) = some true
  rest : ∃ p q, binop .Div (.int 3) (.int 5) = some p ∧ binop .Div (.int 5) (.int 16) = some q ∧ pyEq (.tup [s, v]) (.tup [p, q]) = some true
theorem five_at {n : N3} (hn : n ∈ fives) : ∃ h s v, Five n h s v := by
  have h := List.map_inj_left.mp five_all n hn
  obtain ⟨rr, h1, e1⟩ := obind_inv h
  obtain ⟨hh, h2, e2⟩ := obind_inv e1
  obtain ⟨p, h3, e3⟩ := obind_inv e2
  obtain ⟨q, h4, e4⟩ := obind_inv e3
  obtain ⟨u, h5, e5⟩ := obind_inv e4
  obtain ⟨v, h6, e6⟩ := obind_inv e5
  obtain ⟨a, h7, e7⟩ := obind_inv e6
  obtain ⟨b, h8, e8⟩ := obind_inv e7
  cases as3_inv h2
  have e9 := PV.list.inj (Option.some.inj e8)
  obtain ⟨e10, e9⟩ := List.cons.inj e9
  have e10 := PV.bool.inj e10
  have e11 := PV.bool.inj (List.cons.inj e9).1
  exact ⟨hh.1, hh.2.1, hh.2.2, h1, ⟨p, q, h3, h4, e10 ▸ h7⟩, u, v, h5, h6, e11 ▸ h8⟩

/-! ### equal lists -/
theorem pyEqs_refl {f : PV → PV → Option Bool} : ∀ {l : List PV}, (∀ x ∈ l, f x x = some true) → pyEqs f l l = some true
  | [], _ => rfl
  | x :: r, h => by
    rw [pyEqs, h x (List.mem_cons_self ..)]
    dsimp only
    rw [pyEqs_refl fun y hy => h y (List.mem_cons_of_mem _ hy)]; rfl
theorem tri_refl {n : N3} (h : small3 n) : pyEqN 7 (triV n) (triV n) = some true := by
  have e := fun x (hx : x ≤ 9) => List.map_inj_left.mp self_all x (mem_rng' (Nat.lt_succ_of_le hx))
  show pyEqs (pyEqN 6) [s16 n.1, s16 n.2.1, s16 n.2.2] [s16 n.1, s16 n.2.1, s16 n.2.2] = some true
  refine pyEqs_refl fun x hx => ?_
  simp only [List.mem_cons, List.not_mem_nil, or_false] at hx
  rcases hx with rfl | rfl | rfl
  · exact e _ h.1
  · exact e _ h.2.1
  · exact e _ h.2.2
theorem ne_tris {l : List N3} (h : ∀ n ∈ l, small3 n) : cmpop .NotEq (.list (l.map triV)) (.list (l.map triV)) = some false := by
  have : pyEq (.list (l.map triV)) (.list (l.map triV)) = some true := by
    show (if (l.map triV).length == (l.map triV).length then pyEqs (pyEqN 7) (l.map triV) (l.map triV) else some false) = some true
    rw [if_pos (by simp)]
    refine pyEqs_refl fun x hx => ?_
    obtain ⟨n, hn, rfl⟩ := List.mem_map.mp hx
    exact tri_refl (h n hn)
  show (pyEq _ _).map (!·) = _
  rw [this]; rfl
theorem mix_small (one other : List Nat) (h : one.length = 9) (t : Nat) (hs : ∀ m i (n : N3), n.1 + n.2.1 + n.2.2 = i → (mixF one other t m i n).1 + (mixF one other t m i n).2.1 + (mixF one other t m i n).2.2 = i + m) : small3 (mixN one other t) := by
  have := hs 9 0 (0, 0, 0) rfl
  unfold small3 mixN; omega
theorem mixF_sum (one other : List Nat) (t : Nat) : ∀ (m i : Nat) (n : N3), n.1 + n.2.1 + n.2.2 = i → (mixF one other t m i n).1 + (mixF one other t m i n).2.1 + (mixF one other t m i n).2.2 = i + m
  | 0, _, _, h => h
  | m + 1, i, n, h => by
    unfold mixF
    have := isN_sum (dres_lt (one.getD i 0) (other.getD ((i + t) % 9) 0))
    rw [mixF_sum one other t m (i + 1) _ (by unfold bump; dsimp only; omega)]; omega
theorem mixL_small {one other : List Nat} : ∀ n ∈ mixL one other, small3 n := fun n hn => by
  obtain ⟨t, _, rfl⟩ := List.mem_map.mp hn
  have := mixF_sum one other t 9 0 (0, 0, 0) rfl
  unfold small3 mixN; omega

/-! ### a loop that goes on -/
theorem forEach_all {step : Ρ → PV → Option Res} {I : Ρ → Prop} : ∀ {items : List PV}, (∀ v ∈ items, ∀ ρ, I ρ → ∃ ρ', I ρ' ∧ step ρ v = some (.nxt ρ')) → ∀ ρ, I ρ → ∃ ρ', I ρ' ∧ forEach step items ρ = some (.nxt ρ')
  | [], _, ρ, hI => ⟨ρ, hI, rfl⟩
  | x :: r, h, ρ, hI => by
    obtain ⟨ρ', h1, h2⟩ := h x (List.mem_cons_self ..) ρ hI
    obtain ⟨ρ'', h3, h4⟩ := forEach_all (items := r) (fun v hv => h v (List.mem_cons_of_mem _ hv)) ρ' h1
    exact ⟨ρ'', h3, (forEach_nxt h2).trans h4⟩
end Mine
namespace Mine
open PySem

/-! ### the pieces -/
def plBody : SL := (.cons (.asg 6 true (.sub (.var 3) (.bin .Mod (.sub (.var 0) (.var 5)) (.blt .len (.cons (.var 3) .nil))))) (.cons (.asg 4 true (.comp (.ite (.cmp .Eq (.var 0) (.bin .Mod (.var 6) (.cst (.int 3)))) (.bin .Add (.sub (.var 5) (.var 0)) (.var 7)) (.sub (.var 5) (.var 0))) (.blt .range (.cons (.cst (.int 3)) .nil)) (.cst (.bool true)))) .nil))
theorem mine_len {k : Nat} (hk : k < 5) : 0 < (mine k).length ∧ (mine k).length ≤ 9 := by
  match k, hk with
  | 0, _ => decide
  | 1, _ => decide
  | 2, _ => decide
  | 3, _ => decide
  | 4, _ => decide
def grow (b : Bool) (p : List Nat) (x : Nat) : List Nat := match b with
  | true => p ++ [x]
  | false => p
theorem grow_len {b : Bool} {p : List Nat} {x : Nat} : (grow b p x).length = p.length + (match b with | true => 1 | false => 0) := by
  cases b <;> simp [grow]

theorem pl_step {C : Orc} {ns : List Int} {T : Int} {k : Nat} (hk : k < 5) {p0 p1 p2 : List Nat} (hl : p0.length ≤ 100 ∧ p1.length ≤ 100 ∧ p2.length ≤ 100) (hn : ns.length ≤ 63) {q : Nat} (hq : q < ns.length) {x5 x6 : Sl} :
    ∃ x, x ∈ mine k ∧ fstep C [5] plBody [.v (.list (ns.map PV.int)), .v (.int T), .v (.dict (pairsD k)), .v (.str (mine k)), .o (str3 p0 p1 p2), x5, x6, .no, .no, .no, .no, .no, .no, .no, .no, .no, .no, .no] (.int (q : Nat)) = some (.nxt [.v (.list (ns.map PV.int)), .v (.int T), .v (.dict (pairsD k)), .v (.str (mine k)), .o (str3 (grow (Nat.beq 0 (q % 3)) p0 x) (grow (Nat.beq 1 (q % 3)) p1 x) (grow (Nat.beq 2 (q % 3)) p2 x)), .v (.int (q : Nat)), .v (.str [x]), .no, .no, .no, .no, .no, .no, .no, .no, .no, .no, .no]) := by
  obtain ⟨m1, m2⟩ := mine_len hk
  obtain ⟨r, hr, er⟩ : ∃ r : Nat, r < (mine k).length ∧ binop .Mod (.int ns[q]) (.int (mine k).length) = some (.int (r : Nat)) := ⟨rem ns[q] (mine k).length, rem_lt m1, modI _ _ m1⟩
  refine ⟨(mine k)[r], List.getElem_mem hr, ?_⟩
  have e0 : bindEach [.v (.list (ns.map PV.int)), .v (.int T), .v (.dict (pairsD k)), .v (.str (mine k)), .o (str3 p0 p1 p2), x5, x6, .no, .no, .no, .no, .no, .no, .no, .no, .no, .no, .no] [5] (.int (q : Nat)) = some [.v (.list (ns.map PV.int)), .v (.int T), .v (.dict (pairsD k)), .v (.str (mine k)), .o (str3 p0 p1 p2), .v (.int (q : Nat)), x6, .no, .no, .no, .no, .no, .no, .no, .no, .no, .no, .no] := rfl
  rw [fstep_of e0]
  have gx : getI (.str (mine k)) (.int (r : Nat)) = some (.str [(mine k)[r]]) := by
    have : idx (r : Int) (mine k).length = some r := by
      unfold idx
      rw [if_pos (szOk_of (by omega)), if_neg (by omega), if_pos (by omega)]
      simp
    simp only [getI, this, List.getElem?_eq_getElem hr, Option.map]
  generalize (mine k)[r] = x at gx ⊢
  unfold plBody
  refine (exs_nxt (ρ' := [.v (.list (ns.map PV.int)), .v (.int T), .v (.dict (pairsD k)), .v (.str (mine k)), .o (str3 p0 p1 p2), .v (.int (q : Nat)), .v (.str [x]), .no, .no, .no, .no, .no, .no, .no, .no, .no, .no, .no]) ?_).trans ?_
  · exact (xx_asg (v := .str [x]) (xv_sub rfl (xv_bin (xv_sub rfl rfl (getN (v := .int ns[q]) (by rw [List.length_map]; omega) (by rw [List.getElem?_map, List.getElem?_eq_getElem hq]; rfl))) (ev_blt1 rfl (lenS (by omega))) er) gx)).trans rfl
  refine exs_one (r := .nxt _) ?_
  have elt : ∀ (j : Nat) (p : List Nat), p.length ≤ 100 → getI (str3 p0 p1 p2) (.int (j : Nat)) = some (.str p) → ev C (.ite (.cmp .Eq (.var 0) (.bin .Mod (.var 6) (.cst (.int 3)))) (.bin .Add (.sub (.var 5) (.var 0)) (.var 7)) (.sub (.var 5) (.var 0))) (.v (.int (j : Nat)) :: [.v (.list (ns.map PV.int)), .v (.int T), .v (.dict (pairsD k)), .v (.str (mine k)), .o (str3 p0 p1 p2), .v (.int (q : Nat)), .v (.str [x]), .no, .no, .no, .no, .no, .no, .no, .no, .no, .no, .no]) = some (.str (grow (Nat.beq j (q % 3)) p x)) := fun j p hp hg => by
    have hc : ev C (.cmp .Eq (.var 0) (.bin .Mod (.var 6) (.cst (.int 3)))) (.v (.int (j : Nat)) :: [.v (.list (ns.map PV.int)), .v (.int T), .v (.dict (pairsD k)), .v (.str (mine k)), .o (str3 p0 p1 p2), .v (.int (q : Nat)), .v (.str [x]), .no, .no, .no, .no, .no, .no, .no, .no, .no, .no, .no]) = some (.bool (Nat.beq j (q % 3))) := xv_cmp rfl (xv_bin rfl rfl (modN q 3 (by omega))) (eqN _ _)
    cases hb : Nat.beq j (q % 3) with
    | true =>
      rw [hb] at hc
      exact ev_iteT hc (xv_bin (xv_sub rfl rfl hg) rfl (addS (by simp; omega)))
    | false =>
      rw [hb] at hc
      exact ev_iteF hc (xv_sub rfl rfl hg)
  exact (xx_asg (ev_comp3 (elt 0 p0 hl.1 rfl) (elt 1 p1 hl.2.1 rfl) (elt 2 p2 hl.2.2 rfl))).trans rfl

theorem pl_loop {C : Orc} {ns : List Int} {T : Int} {k : Nat} (hk : k < 5) (hn : ns.length ≤ 63) : ∀ (m q : Nat) {p0 p1 p2 : List Nat} {x5 x6 : Sl}, q + m ≤ 12 → q + m ≤ ns.length → (∀ p ∈ [p0, p1, p2], ∀ x ∈ p, x ∈ mine k) → 3 * p0.length ≤ 3 + q + 2 → 3 * p1.length ≤ 6 + q + 1 → 3 * p2.length ≤ 6 + q →
    ∃ r0 r1 r2 y5 y6, (∀ p ∈ [r0, r1, r2], ∀ x ∈ p, x ∈ mine k) ∧ (∀ p ∈ [r0, r1, r2], p.length ≤ 6) ∧
      forEach (fstep C [5] plBody) ((List.range' q m).map fun (i : Nat) => PV.int i) [.v (.list (ns.map PV.int)), .v (.int T), .v (.dict (pairsD k)), .v (.str (mine k)), .o (str3 p0 p1 p2), x5, x6, .no, .no, .no, .no, .no, .no, .no, .no, .no, .no, .no] = some (.nxt [.v (.list (ns.map PV.int)), .v (.int T), .v (.dict (pairsD k)), .v (.str (mine k)), .o (str3 r0 r1 r2), y5, y6, .no, .no, .no, .no, .no, .no, .no, .no, .no, .no, .no])
  | 0, q, p0, p1, p2, x5, x6, h1, h2, hm, l0, l1, l2 => ⟨p0, p1, p2, x5, x6, hm, by
      intro p hp
      simp only [List.mem_cons, List.not_mem_nil, or_false] at hp
      rcases hp with rfl | rfl | rfl <;> omega, rfl⟩
  | m + 1, q, p0, p1, p2, x5, x6, h1, h2, hm, l0, l1, l2 => by
    obtain ⟨x, hx, e⟩ := pl_step (C := C) (ns := ns) (T := T) hk (p0 := p0) (p1 := p1) (p2 := p2) (by omega) hn (q := q) (by omega) (x5 := x5) (x6 := x6)
    have hg : ∀ b p, p ∈ [p0, p1, p2] → ∀ y ∈ grow b p x, y ∈ mine k := fun b p hp y hy => by
      cases b with
      | false => exact hm p hp y hy
      | true =>
        rcases List.mem_append.mp hy with hy | hy
        · exact hm p hp y hy
        · rw [List.mem_singleton.mp hy]; exact hx
    have hb : ∀ j, (match Nat.beq j (q % 3) with | true => 1 | false => 0) = (if j = q % 3 then 1 else 0) := fun j => by
      cases hbj : Nat.beq j (q % 3) with
      | true => rw [if_pos (Nat.eq_of_beq_eq_true hbj)]
      | false => rw [if_neg (fun e => by rw [e, Nat.beq_refl] at hbj; cases hbj)]
    obtain ⟨r0, r1, r2, y5, y6, g1, g2, g3⟩ := pl_loop (C := C) (T := T) hk hn m (q + 1) (p0 := grow (Nat.beq 0 (q % 3)) p0 x) (p1 := grow (Nat.beq 1 (q % 3)) p1 x) (p2 := grow (Nat.beq 2 (q % 3)) p2 x) (x5 := .v (.int (q : Nat))) (x6 := .v (.str [x])) (by omega) (by omega)
      (fun p hp => by
        simp only [List.mem_cons, List.not_mem_nil, or_false] at hp
        rcases hp with rfl | rfl | rfl
        · exact hg _ _ (by simp)
        · exact hg _ _ (by simp)
        · exact hg _ _ (by simp))
      (by rw [grow_len, hb]; split <;> omega) (by rw [grow_len, hb]; split <;> omega) (by rw [grow_len, hb]; split <;> omega)
    refine ⟨r0, r1, r2, y5, y6, g1, g2, ?_⟩
    rw [List.range'_succ, List.map_cons]
    exact (forEach_nxt e).trans g3

/-! ### the counts -/
theorem cnt_ev {C : Orc} {ρ : Ρ} {k : Nat} {p : List Nat} (hp : p.length ≤ 1000) (h0 : ∀ v w, ev C (.var 4) (v :: w :: ρ) = some (.dict (pairsD k))) : ev C (.blt .len (.cons (.comp (.var 0) (.var 0) (.cmp .In (.var 0) (.var 4))) .nil)) (.v (.str p) :: ρ) = some (.int (cnt k p)) := by
  have hm : ∀ v ∈ (p.map fun c => PV.str [c]), ∃ x, v = .str [x] := fun v hv => by
    obtain ⟨x, _, rfl⟩ := List.mem_map.mp hv; exact ⟨x, rfl⟩
  have e := ev_comp_if (C := C) (elt := .var 0) (iter := .var 0) (cond := .cmp .In (.var 0) (.var 4)) (ρ := .v (.str p) :: ρ) (x := .str p) (items := p.map fun c => PV.str [c]) (p := fun v => match v with | .str [x] => (signsOf k).contains x | _ => false) (g := id) rfl (itemsS (by omega))
    (fun v hv => by
      obtain ⟨x, rfl⟩ := hm v hv
      exact xv_cmp rfl (h0 _ _) in_names)
    (fun v _ _ => rfl)
  refine ev_blt1 e ((lenL ?_).trans ?_)
  · rw [List.length_map]; exact Nat.le_trans (List.length_filter_le ..) (by rw [List.length_map]; omega)
  · rw [List.length_map, List.filter_map, List.length_map]; rfl

/-! ### the colours' loops -/
def lkBody : SL := (.cons (.unp [14, 15, 16] false (.call 0 (.cons (.sub (.var 13) (.cst (.int 0))) (.cons (.sub (.var 13) (.cst (.int 1))) (.cons (.sub (.var 13) (.cst (.int 2))) .nil))))) (.cons (.ite (.cmp .NotEq (.comp (.blt .int (.cons (.bin .Add (.bin .Mult (.cst (.int 16)) (.var 0)) (.cst (.flt 4602678819172646912))) .nil)) (.call 1 (.cons (.var 14) (.cons (.var 15) (.cons (.var 16) .nil)))) (.cst (.bool true))) (.comp (.blt .int (.cons (.bin .Mult (.cst (.int 16)) (.var 0)) .nil)) (.var 13) (.cst (.bool true)))) (.cons (.ret (.cst (.bool false))) .nil) .nil) .nil))
def fvBody : SL := (.cons (.unp [14, 15, 16] false (.call 0 (.cons (.sub (.var 13) (.cst (.int 0))) (.cons (.sub (.var 13) (.cst (.int 1))) (.cons (.sub (.var 13) (.cst (.int 2))) .nil))))) (.cons (.ite (.bop false (.cons (.cmp .NotIn (.var 14) (.tup (.cons (.cst (.flt 0)) (.cons (.bin .Div (.cst (.int 1)) (.cst (.int 3))) (.cons (.bin .Div (.cst (.int 2)) (.cst (.int 3))) .nil))))) (.cons (.cmp .NotEq (.tup (.cons (.var 15) (.cons (.var 16) .nil))) (.tup (.cons (.bin .Div (.cst (.int 3)) (.cst (.int 5))) (.cons (.bin .Div (.cst (.int 5)) (.cst (.int 16))) .nil)))) .nil))) (.cons (.ret (.cst (.bool false))) .nil) .nil) .nil))
noncomputable def famC (x0 x1 x2 x3 x4 x5 x6 x7 x8 x9 x10 x11 x12 x17 : Sl) (ρ : Ρ) : Prop := ∃ x13 x14 x15 x16, ρ = [x0, x1, x2, x3, x4, x5, x6, x7, x8, x9, x10, x11, x12, x13, x14, x15, x16, x17]

theorem ne_ints3 {a b c : Int} : cmpop .NotEq (.list [.int a, .int b, .int c]) (.list [.int a, .int b, .int c]) = some false := by
  have e : ∀ x : Int, pyEqN 7 (.int x) (.int x) = some true := fun x => by
    show some (x == x) = _
    rw [beq_self_eq_true]
  show (pyEqs (pyEqN 7) [PV.int a, .int b, .int c] [PV.int a, .int b, .int c]).map (!·) = some false
  rw [pyEqs, e]
  dsimp only
  rw [pyEqs, e]
  dsimp only
  rw [pyEqs, e]
  rfl
theorem up_ev {C : Orc} {ρ : Ρ} {x r : PV} (h : upF x = some r) : ev C (.blt .int (.cons (.bin .Add (.bin .Mult (.cst (.int 16)) (.var 0)) (.cst (.flt 4602678819172646912))) .nil)) (.v x :: ρ) = some r := by
  obtain ⟨y, h1, e1⟩ := obind_inv h
  obtain ⟨z, h2, e2⟩ := obind_inv e1
  exact ev_blt1 (xv_bin (xv_bin rfl rfl h1) rfl h2) e2
theorem dn_ev {C : Orc} {ρ : Ρ} {x r : PV} (h : dnF x = some r) : ev C (.blt .int (.cons (.bin .Mult (.cst (.int 16)) (.var 0)) .nil)) (.v x :: ρ) = some r := by
  obtain ⟨y, h1, e1⟩ := obind_inv h
  exact ev_blt1 (xv_bin rfl rfl h1) e1
theorem ev_comp_tup3 {C : Orc} {elt iter : Mine.X} {ρ : Ρ} {a b c x y z : PV} (h : ev C iter ρ = some (.tup [a, b, c])) (h0 : ev C elt (.v a :: ρ) = some x) (h1 : ev C elt (.v b :: ρ) = some y) (h2 : ev C elt (.v c :: ρ) = some z) :
    ev C (.comp elt iter (.cst (.bool true))) ρ = some (.list [x, y, z]) := by
  have h4 : itemsOf (.tup [a, b, c]) = some [a, b, c] := rfl
  rw [ev, h]
  dsimp only
  rw [h4]
  simp only [mapC, h0, h1, h2, Option.map]
  simp only [ev, truth]

section
variable {C : Orc} (c0 : ∀ args, C 0 args = run (lvl fs1 0) p_rgb_to_hsv args) (c1 : ∀ args, C 1 args = run (lvl fs1 0) p_hsv_to_rgb args) {x0 x1 x2 x3 x4 x5 x6 x7 x8 x9 x10 x11 x12 x17 : Sl}
include c0 c1
theorem lk_step {n : N3} (hn : n ∈ trips) (ρ : Ρ) (hI : famC x0 x1 x2 x3 x4 x5 x6 x7 x8 x9 x10 x11 x12 x17 ρ) : ∃ ρ', famC x0 x1 x2 x3 x4 x5 x6 x7 x8 x9 x10 x11 x12 x17 ρ' ∧ fstep C [13] lkBody ρ (triV n) = some (.nxt ρ') := by
  obtain ⟨x13, x14, x15, x16, rfl⟩ := hI
  obtain ⟨h, s, v, a, b, c, F⟩ := rgb_at hn
  refine ⟨[x0, x1, x2, x3, x4, x5, x6, x7, x8, x9, x10, x11, x12, .v (triV n), .v h, .v s, .v v, x17], ⟨_, _, _, _, rfl⟩, ?_⟩
  have e0 : bindEach [x0, x1, x2, x3, x4, x5, x6, x7, x8, x9, x10, x11, x12, x13, x14, x15, x16, x17] [13] (triV n) = some [x0, x1, x2, x3, x4, x5, x6, x7, x8, x9, x10, x11, x12, .v (triV n), x14, x15, x16, x17] := rfl
  rw [fstep_of e0]
  unfold lkBody
  refine (exs_nxt (ρ' := [x0, x1, x2, x3, x4, x5, x6, x7, x8, x9, x10, x11, x12, .v (triV n), .v h, .v s, .v v, x17]) ?_).trans ?_
  · exact (xx_unp (xv_call (evL3 (xv_sub rfl rfl rfl) (xv_sub rfl rfl rfl) (xv_sub rfl rfl rfl)) ((c0 _).trans F.rgb))).trans rfl
  refine exs_one (r := .nxt _) ((ex_iteF (xv_cmp (ev_comp_tup3 (xv_call (evL3 rfl rfl rfl) ((c1 _).trans F.hsv)) (up_ev F.ua) (up_ev F.ub) (up_ev F.uc)) (ev_comp_tup3 rfl (dn_ev F.da) (dn_ev F.db) (dn_ev F.dc)) ne_ints3)).trans rfl)

theorem fv_step {n : N3} (hn : n ∈ fives) (ρ : Ρ) (hI : famC x0 x1 x2 x3 x4 x5 x6 x7 x8 x9 x10 x11 x12 x17 ρ) : ∃ ρ', famC x0 x1 x2 x3 x4 x5 x6 x7 x8 x9 x10 x11 x12 x17 ρ' ∧ fstep C [13] fvBody ρ (triV n) = some (.nxt ρ') := by
  obtain ⟨x13, x14, x15, x16, rfl⟩ := hI
  obtain ⟨h, s, v, F⟩ := five_at hn
  obtain ⟨p, q, t1, t2, t3⟩ := F.thirds
  obtain ⟨p', q', r1, r2, r3⟩ := F.rest
  refine ⟨[x0, x1, x2, x3, x4, x5, x6, x7, x8, x9, x10, x11, x12, .v (triV n), .v h, .v s, .v v, x17], ⟨_, _, _, _, rfl⟩, ?_⟩
  have e0 : bindEach [x0, x1, x2, x3, x4, x5, x6, x7, x8, x9, x10, x11, x12, x13, x14, x15, x16, x17] [13] (triV n) = some [x0, x1, x2, x3, x4, x5, x6, x7, x8, x9, x10, x11, x12, .v (triV n), x14, x15, x16, x17] := rfl
  rw [fstep_of e0]
  unfold fvBody
  refine (exs_nxt (ρ' := [x0, x1, x2, x3, x4, x5, x6, x7, x8, x9, x10, x11, x12, .v (triV n), .v h, .v s, .v v, x17]) ?_).trans ?_
  · exact (xx_unp (xv_call (evL3 (xv_sub rfl rfl rfl) (xv_sub rfl rfl rfl) (xv_sub rfl rfl rfl)) ((c0 _).trans F.rgb))).trans rfl
  have n1 : cmpop .NotIn h (.tup [.flt 0, p, q]) = some false := by
    show (pyIn _ _).map (!·) = _
    rw [t3]; rfl
  have n2 : cmpop .NotEq (.tup [s, v]) (.tup [p', q']) = some false := by
    show (pyEq _ _).map (!·) = _
    rw [r3]; rfl
  exact exs_one (r := .nxt _) ((ex_iteF (ev_or2F (xv_cmp rfl (ev_tup3 rfl (xv_bin rfl rfl t1) (xv_bin rfl rfl t2)) n1) (xv_cmp (ev_tup2 rfl rfl) (ev_tup2 (xv_bin rfl rfl r1) (xv_bin rfl rfl r2)) n2))).trans rfl)
end

/-! ### perfect -/
theorem sorted_all : [0, 1, 2].map (fun (a : Nat) => [0, 1, 2].map fun (b : Nat) => [0, 1, 2].map fun (c : Nat) => pyEq (.list ((isort [(a : Int), (b : Int), (c : Int)]).map .int)) (natsV [0, 1, 2])) = [0, 1, 2].map fun a => [0, 1, 2].map fun b => [0, 1, 2].map fun c => some (perf a b c) := by kernel_rfl
theorem mem012 : ∀ {x : Nat}, x < 3 → x ∈ [0, 1, 2]
  | 0, _ => List.mem_cons_self ..
  | 1, _ => List.mem_cons_of_mem _ (List.mem_cons_self ..)
  | 2, _ => List.mem_cons_of_mem _ (List.mem_cons_of_mem _ (List.mem_cons_self ..))
  | n + 3, h => absurd h (Nat.not_lt.mpr (Nat.le_add_left ..))
theorem sorted_at {a b c : Nat} (ha : a < 3) (hb : b < 3) (hc : c < 3) : pyEq (.list ((isort [(a : Int), (b : Int), (c : Int)]).map .int)) (natsV [0, 1, 2]) = some (perf a b c) :=
  List.map_inj_left.mp (List.map_inj_left.mp (List.map_inj_left.mp sorted_all a (mem012 ha)) b (mem012 hb)) c (mem012 hc)

theorem grey_eqs {R : N3 → PV} : ∀ {l : List N3}, (∀ n ∈ l, pyEqN 7 (R n) greyV = some (is333 n)) → pyEqs (pyEqN 7) (l.map R) (rep [greyV] l.length) = some (l.all is333)
  | [], _ => rfl
  | n :: r, h => by
    rw [List.map_cons, List.length_cons, rep]
    show pyEqs (pyEqN 7) (R n :: r.map R) (greyV :: rep [greyV] r.length) = _
    rw [pyEqs, h n (List.mem_cons_self ..)]
    dsimp only
    rw [grey_eqs fun m hm => h m (List.mem_cons_of_mem _ hm)]
    rfl

noncomputable def mixG (one other : List Nat) : PV → PV
  | .int (.ofNat t) => triV (mixN one other t)
  | _ => .none
noncomputable def rgbG : PV → PV
  | .tup [a, b, c] => (run (lvl fs1 0) p_rgb_to_hsv [a, b, c]).getD .none
  | _ => .none
theorem rgbG_tri (n : N3) : rgbG (triV n) = rgbV n := rfl

theorem mix_lvl {one other : List Nat} {t : Nat} (l1 : one.length = 9) (l2 : other.length = 9) (b1 : ∀ x ∈ one, x ≤ 84) (b2 : ∀ x ∈ other, x ≤ 84) : lvl fs1 3 12 [natsV one, natsV other, .int t] = some (triV (mixN one other t)) := by
  rw [lvl_at (l := 1) (fn := p_law_mix) rfl (by omega)]
  exact mix_run (fun h => lvl_at (l := 0) rfl (by omega)) l1 l2 b1 b2
theorem due_lvl {one other cs os : List Nat} {t : Nat} (l1 : one.length = 9) (l2 : other.length = 9) (l3 : cs.length = 3) (l4 : os.length = 3) : lvl fs1 3 13 [natsV one, natsV other, natsV cs, natsV os, .int t] = some (triV (dueF one other cs os t)) := by
  rw [lvl_at (l := 0) (fn := p_law_due) rfl (by omega)]
  exact due_run l1 l2 l3 l4
theorem comp9 {C : Orc} {elt : Mine.X} {ρ : Ρ} {f : Nat → N3} (h : ∀ t : Nat, t < 9 → ev C elt (.v (.int (t : Nat)) :: ρ) = some (triV (f t))) : ev C (.comp elt (.blt .range (.cons (.cst (.int 9)) .nil)) (.cst (.bool true))) ρ = some (.list (((List.range' 0 9).map f).map triV)) := by
  refine (ev_comp_all (x := .rng ((9 : Nat) : Int)) (items := (List.range' 0 9).map fun (i : Nat) => PV.int i) (g := fun v => match v with | .int (.ofNat t) => triV (f t) | _ => .none) rfl (items_rng (by omega)) ?_).trans ?_
  · intro v hv
    obtain ⟨t, ht, rfl⟩ := List.mem_map.mp hv
    rw [List.mem_range'] at ht
    obtain ⟨i, hi, rfl⟩ := ht
    exact h _ (by omega)
  · rw [List.map_map, List.map_map]; rfl

end Mine
namespace Mine
open PySem

theorem ev_blt1' {C : Orc} {b : Blt} {a c : Mine.X} {ρ : Ρ} {x y r : PV} (_ : True = True) (h1 : ev C a ρ = some x) (h : blt b [x, y] = some r) (h2 : ev C c ρ = some y := by rfl) : ev C (.blt b (.cons a (.cons c .nil))) ρ = some r := by
  rw [ev, evL2 h1 h2]; exact h
theorem evL5 {C : Orc} {a b c d e : Mine.X} {ρ : Ρ} {x y z u w : PV} (h1 : ev C a ρ = some x) (h2 : ev C b ρ = some y) (h3 : ev C c ρ = some z) (h4 : ev C d ρ = some u) (h5 : ev C e ρ = some w) : evL C (.cons a (.cons b (.cons c (.cons d (.cons e .nil))))) ρ = some [x, y, z, u, w] := by
  rw [evL, h1]; dsimp only; rw [evL, h2]; dsimp only; rw [evL3 h3 h4 h5]

theorem law_run {ns : List Int} (hn : ns.length ≤ 63) : run (lvl fs1 3) p_law [.list (ns.map PV.int)] = some (.bool true) := by
  refine run_of rfl ?_
  obtain ⟨k, hk, hk5⟩ : ∃ k, k = rem ns.sum 5 ∧ k < 5 := ⟨_, rfl, rem_lt (by omega)⟩
  have m9 := mine_len hk5
  refine (exs_nxt (ρ' := [.v (.list (ns.map PV.int)), .v (.int ns.sum), .no, .no, .no, .no, .no, .no, .no, .no, .no, .no, .no, .no, .no, .no, .no, .no]) ?_).trans ?_
  · refine (xx_asg (v := .int ns.sum) (ev_blt1 rfl (sum_ints (by omega)))).trans rfl
  refine (exs_nxt (ρ' := [.v (.list (ns.map PV.int)), .v (.int ns.sum), .v (.dict (pairsD k)), .no, .no, .no, .no, .no, .no, .no, .no, .no, .no, .no, .no, .no, .no, .no]) ?_).trans ?_
  · refine (xx_asg (v := .dict (pairsD k)) (xv_call (evL1 (xv_bin rfl rfl (modI ns.sum 5 (by omega)))) ?_)).trans rfl
    rw [lvl_at (l := 0) (fn := p_law_names) rfl (by omega), ← hk]
    exact names_run hk5
  refine (exs_nxt (ρ' := [.v (.list (ns.map PV.int)), .v (.int ns.sum), .v (.dict (pairsD k)), .v (.str (mine k)), .no, .no, .no, .no, .no, .no, .no, .no, .no, .no, .no, .no, .no, .no]) ?_).trans ?_
  · refine (xx_asg (v := .str (mine k)) (xv_bin (xv_mth1 rfl (ev_blt1 (x := .dict (pairsD k)) (r := .list ((signsOf k).map fun x => PV.str [x])) rfl ?_) (join_ok (l := signsOf k) (f := fun x => [x]) ?_)) rfl ?_)).trans rfl
    · have hl : (pairsD k).length ≤ 9 := by unfold pairsD; rw [List.length_map]; have := m9.2; unfold mine at this; rw [List.length_append] at this; omega
      rw [list_dict (by omega)]
      unfold pairsD
      rw [List.map_map]; rfl
    · rw [List.flatMap_singleton']; have := m9.2; unfold mine at this; rw [List.length_append] at this; omega
    · rw [List.flatMap_singleton', addS (by have := m9.2; unfold mine at this; rw [List.length_append] at this; simp at this ⊢; omega)]; rfl
  refine (exs_nxt (ρ' := [.v (.list (ns.map PV.int)), .v (.int ns.sum), .v (.dict (pairsD k)), .v (.str (mine k)), .o (str3 [101] [38, 111] [38, 38]), .no, .no, .no, .no, .no, .no, .no, .no, .no, .no, .no, .no, .no]) ?_).trans ?_
  · exact (xx_asg (v := str3 [101] [38, 111] [38, 38]) rfl).trans rfl
  obtain ⟨m, hm, hm12, hmn⟩ : ∃ m : Nat, blt .min [.int (ns.length : Nat), .int ((12 : Nat) : Int)] = some (.int (m : Nat)) ∧ m ≤ 12 ∧ m ≤ ns.length := by
    rcases Nat.lt_or_ge 12 ns.length with h | h
    · refine ⟨12, ?_, Nat.le_refl _, by omega⟩
      show some (PV.int (if ((12 : Nat) : Int) < (ns.length : Int) then _ else _)) = _
      rw [if_pos (by omega)]
    · refine ⟨ns.length, ?_, h, Nat.le_refl _⟩
      show some (PV.int (if ((12 : Nat) : Int) < (ns.length : Int) then _ else _)) = _
      rw [if_neg (by omega)]
  have hm' : blt .min [.int ((ns.map PV.int).length : Nat), .int 12] = some (.int (m : Nat)) := by rw [List.length_map]; exact hm
  have h38 : 38 ∈ mine k := by
    match k, hk5 with
    | 0, _ => decide
    | 1, _ => decide
    | 2, _ => decide
    | 3, _ => decide
    | 4, _ => decide
  have heo : 101 ∈ mine k ∧ 111 ∈ mine k := by unfold mine; simp
  obtain ⟨p0, p1, p2, x5, x6, hc, hl, hloop⟩ := pl_loop (C := lvl fs1 3) (ns := ns) (T := ns.sum) hk5 hn m 0 (p0 := [101]) (p1 := [38, 111]) (p2 := [38, 38]) (x5 := .no) (x6 := .no) (by omega) (by omega)
    (by
      intro p hp x hx
      simp only [List.mem_cons, List.not_mem_nil, or_false] at hp
      rcases hp with rfl | rfl | rfl <;> simp only [List.mem_cons, List.not_mem_nil, or_false] at hx
      · subst hx; exact heo.1
      · rcases hx with rfl | rfl
        · exact h38
        · exact heo.2
      · rcases hx with rfl | rfl <;> exact h38)
    (by simp) (by simp) (by simp)
  refine (exs_nxt (ρ' := [.v (.list (ns.map PV.int)), .v (.int ns.sum), .v (.dict (pairsD k)), .v (.str (mine k)), .o (str3 p0 p1 p2), x5, x6, .no, .no, .no, .no, .no, .no, .no, .no, .no, .no, .no]) ?_).trans ?_
  · exact (xx_for (b := plBody) (x := .rng (m : Int)) (items := (List.range' 0 m).map fun (i : Nat) => PV.int i) (ev_blt1 (ev_blt1' rfl (ev_blt1 rfl (lenL (by rw [List.length_map]; omega))) hm') (rng_nat (by omega))) (items_rng (by omega))).trans hloop
  have l0 := hl p0 (by simp)
  have l1 := hl p1 (by simp)
  have l2 := hl p2 (by simp)
  refine (exs_nxt (ρ' := [.v (.list (ns.map PV.int)), .v (.int ns.sum), .v (.dict (pairsD k)), .v (.str (mine k)), .v (str3 p0 p1 p2), x5, x6, .o (natsV (cntsOf k p0 p1 p2)), .no, .no, .no, .no, .no, .no, .no, .no, .no, .no]) ?_).trans ?_
  · refine (xx_asg (v := natsV (cntsOf k p0 p1 p2)) ?_).trans rfl
    refine (ev_comp_all (items := [.str p0, .str p1, .str p2]) (g := fun v => match v with | .str p => .int (cnt k p) | _ => .none) rfl rfl ?_).trans rfl
    intro v hv
    simp only [List.mem_cons, List.not_mem_nil, or_false] at hv
    rcases hv with rfl | rfl | rfl
    · exact cnt_ev (by omega) fun _ _ => rfl
    · exact cnt_ev (by omega) fun _ _ => rfl
    · exact cnt_ev (by omega) fun _ _ => rfl
  refine (exs_nxt (ρ' := [.v (.list (ns.map PV.int)), .v (.int ns.sum), .v (.dict (pairsD k)), .v (.str (mine k)), .v (str3 p0 p1 p2), x5, x6, .o (natsV (cntsOf k p0 p1 p2)), .v (.list [natsV (lens k 0 p0 p1 p2), natsV (lens k 1 p0 p1 p2), natsV (lens k 2 p0 p1 p2)]), .no, .no, .no, .no, .no, .no, .no, .no, .no]) ?_).trans ?_
  · refine (xx_asg (v := (.list [natsV (lens k 0 p0 p1 p2), natsV (lens k 1 p0 p1 p2), natsV (lens k 2 p0 p1 p2)])) (xv_call (evL3 rfl rfl rfl) ?_)).trans rfl
    rw [lvl_at (l := 2) (fn := p_law_rows) rfl (by omega)]
    exact rows_run hk (fun p hp => by have := hl p hp; omega) hc
  refine (exs_nxt (ρ' := [.v (.list (ns.map PV.int)), .v (.int ns.sum), .v (.dict (pairsD k)), .v (.str (mine k)), .v (str3 p0 p1 p2), x5, x6, .o (natsV (cntsOf k p0 p1 p2)), .v (.list [natsV (lens k 0 p0 p1 p2), natsV (lens k 1 p0 p1 p2), natsV (lens k 2 p0 p1 p2)]), .no, .no, .no, .no, .no, .no, .no, .no, .no]) ?_).trans ?_
  · exact (ex_iteF (xv_cmp (r := false) rfl rfl rfl)).trans rfl
  have r0 : getI (.list [natsV (lens k 0 p0 p1 p2), natsV (lens k 1 p0 p1 p2), natsV (lens k 2 p0 p1 p2)]) (.int ((0 : Nat) : Int)) = some (natsV (lens k 0 p0 p1 p2)) := rfl
  have r1 : getI (.list [natsV (lens k 0 p0 p1 p2), natsV (lens k 1 p0 p1 p2), natsV (lens k 2 p0 p1 p2)]) (.int ((1 : Nat) : Int)) = some (natsV (lens k 1 p0 p1 p2)) := rfl
  have r2 : getI (.list [natsV (lens k 0 p0 p1 p2), natsV (lens k 1 p0 p1 p2), natsV (lens k 2 p0 p1 p2)]) (.int ((2 : Nat) : Int)) = some (natsV (lens k 2 p0 p1 p2)) := rfl
  refine (exs_nxt (ρ' := [.v (.list (ns.map PV.int)), .v (.int ns.sum), .v (.dict (pairsD k)), .v (.str (mine k)), .v (str3 p0 p1 p2), x5, x6, .o (natsV (cntsOf k p0 p1 p2)), .v (.list [natsV (lens k 0 p0 p1 p2), natsV (lens k 1 p0 p1 p2), natsV (lens k 2 p0 p1 p2)]), .v (natsV (ringOf k p0 p1 p2)), .no, .no, .no, .no, .no, .no, .no, .no]) ?_).trans ?_
  · refine (xx_asg (v := natsV (ringOf k p0 p1 p2)) (xv_bin (xv_bin (xv_sub rfl rfl r0) (xv_sub rfl rfl r1) (addL (by simp [lens]))) (xv_sub rfl rfl r2) ((addL (by simp [lens])).trans ?_))).trans rfl
    rfl
  refine (exs_nxt (ρ' := [.v (.list (ns.map PV.int)), .v (.int ns.sum), .v (.dict (pairsD k)), .v (.str (mine k)), .v (str3 p0 p1 p2), x5, x6, .o (natsV (cntsOf k p0 p1 p2)), .v (.list [natsV (lens k 0 p0 p1 p2), natsV (lens k 1 p0 p1 p2), natsV (lens k 2 p0 p1 p2)]), .v (natsV (ringOf k p0 p1 p2)), .v (natsV (backOf k p0 p1 p2)), .no, .no, .no, .no, .no, .no, .no]) ?_).trans ?_
  · refine (xx_asg (v := natsV (backOf k p0 p1 p2)) (xv_bin (xv_bin (xv_slc (xv_sub rfl rfl r0) rfl rfl rfl rfl) (xv_slc (xv_sub rfl rfl r1) rfl rfl rfl rfl) (addL (by simp [lens]))) (xv_slc (xv_sub rfl rfl r2) rfl rfl rfl rfl) ((addL (by simp [lens])).trans ?_))).trans rfl
    rfl
  have hlen : ∀ a, a ≤ 2 → ∀ x ∈ lens k a p0 p1 p2, x ≤ 84 := fun a ha x hx => by
    have w0 := wr_le k ha p0
    have w1 := wr_le k ha p1
    have w2 := wr_le k ha p2
    simp only [lens, List.mem_cons, List.not_mem_nil, or_false] at hx
    rcases hx with rfl | rfl | rfl <;> omega
  have bR : ∀ x ∈ (ringOf k p0 p1 p2), x ≤ 84 := fun x hx => by
    unfold ringOf at hx
    rcases List.mem_append.mp hx with hx | hx
    · rcases List.mem_append.mp hx with hx | hx
      · exact hlen 0 (by omega) x hx
      · exact hlen 1 (by omega) x hx
    · exact hlen 2 (by omega) x hx
  have bB : ∀ x ∈ (backOf k p0 p1 p2), x ≤ 84 := fun x hx => by
    unfold backOf at hx
    rcases List.mem_append.mp hx with hx | hx
    · rcases List.mem_append.mp hx with hx | hx
      · exact hlen 0 (by omega) x (List.mem_reverse.mp hx)
      · exact hlen 1 (by omega) x (List.mem_reverse.mp hx)
    · exact hlen 2 (by omega) x (List.mem_reverse.mp hx)
  have tl := told k p0 p1 p2
  refine (exs_nxt (ρ' := [.v (.list (ns.map PV.int)), .v (.int ns.sum), .v (.dict (pairsD k)), .v (.str (mine k)), .v (str3 p0 p1 p2), x5, x6, .o (natsV (cntsOf k p0 p1 p2)), .v (.list [natsV (lens k 0 p0 p1 p2), natsV (lens k 1 p0 p1 p2), natsV (lens k 2 p0 p1 p2)]), .v (natsV (ringOf k p0 p1 p2)), .v (natsV (backOf k p0 p1 p2)), .o (.list ((mixL (ringOf k p0 p1 p2) (ringOf k p0 p1 p2)).map triV)), .no, .no, .no, .no, .no, .no]) ?_).trans ?_
  · exact (xx_asg (v := (.list ((mixL (ringOf k p0 p1 p2) (ringOf k p0 p1 p2)).map triV))) (comp9 (f := mixN (ringOf k p0 p1 p2) (ringOf k p0 p1 p2)) fun t ht => xv_call (evL3 rfl rfl rfl) (mix_lvl rfl rfl bR bR))).trans rfl
  refine (exs_nxt (ρ' := [.v (.list (ns.map PV.int)), .v (.int ns.sum), .v (.dict (pairsD k)), .v (.str (mine k)), .v (str3 p0 p1 p2), x5, x6, .o (natsV (cntsOf k p0 p1 p2)), .v (.list [natsV (lens k 0 p0 p1 p2), natsV (lens k 1 p0 p1 p2), natsV (lens k 2 p0 p1 p2)]), .v (natsV (ringOf k p0 p1 p2)), .v (natsV (backOf k p0 p1 p2)), .o (.list ((mixL (ringOf k p0 p1 p2) (ringOf k p0 p1 p2)).map triV)), .o (.list ((mixL (ringOf k p0 p1 p2) (backOf k p0 p1 p2)).map triV)), .no, .no, .no, .no, .no]) ?_).trans ?_
  · exact (xx_asg (v := (.list ((mixL (ringOf k p0 p1 p2) (backOf k p0 p1 p2)).map triV))) (comp9 (f := mixN (ringOf k p0 p1 p2) (backOf k p0 p1 p2)) fun t ht => xv_call (evL3 rfl rfl rfl) (mix_lvl rfl rfl bR bB))).trans rfl
  have d1 : (List.range' 0 9).map (dueF (ringOf k p0 p1 p2) (ringOf k p0 p1 p2) (cntsOf k p0 p1 p2) (cntsOf k p0 p1 p2)) = mixL (ringOf k p0 p1 p2) (ringOf k p0 p1 p2) := by
    refine List.map_congr_left fun t ht => ?_
    rw [List.mem_range'] at ht
    obtain ⟨i, hi, rfl⟩ := ht
    exact (tl.own _ (by omega)).symm
  have d2 : (List.range' 0 9).map (dueF (ringOf k p0 p1 p2) (backOf k p0 p1 p2) (cntsOf k p0 p1 p2) (cntsOf k p0 p1 p2).reverse) = mixL (ringOf k p0 p1 p2) (backOf k p0 p1 p2) := by
    refine List.map_congr_left fun t ht => ?_
    rw [List.mem_range'] at ht
    obtain ⟨i, hi, rfl⟩ := ht
    exact (tl.far _ (by omega)).symm
  refine (exs_nxt (ρ' := [.v (.list (ns.map PV.int)), .v (.int ns.sum), .v (.dict (pairsD k)), .v (.str (mine k)), .v (str3 p0 p1 p2), x5, x6, .o (natsV (cntsOf k p0 p1 p2)), .v (.list [natsV (lens k 0 p0 p1 p2), natsV (lens k 1 p0 p1 p2), natsV (lens k 2 p0 p1 p2)]), .v (natsV (ringOf k p0 p1 p2)), .v (natsV (backOf k p0 p1 p2)), .o (.list ((mixL (ringOf k p0 p1 p2) (ringOf k p0 p1 p2)).map triV)), .o (.list ((mixL (ringOf k p0 p1 p2) (backOf k p0 p1 p2)).map triV)), .no, .no, .no, .no, .no]) ?_).trans ?_
  · refine (ex_iteF (xv_cmp (y := (.list ((mixL (ringOf k p0 p1 p2) (ringOf k p0 p1 p2)).map triV))) rfl ((comp9 (f := dueF (ringOf k p0 p1 p2) (ringOf k p0 p1 p2) (cntsOf k p0 p1 p2) (cntsOf k p0 p1 p2)) fun t ht => xv_call (evL5 rfl rfl rfl rfl rfl) (due_lvl rfl rfl rfl rfl)).trans (by rw [d1])) (ne_tris mixL_small))).trans rfl
  refine (exs_nxt (ρ' := [.v (.list (ns.map PV.int)), .v (.int ns.sum), .v (.dict (pairsD k)), .v (.str (mine k)), .v (str3 p0 p1 p2), x5, x6, .o (natsV (cntsOf k p0 p1 p2)), .v (.list [natsV (lens k 0 p0 p1 p2), natsV (lens k 1 p0 p1 p2), natsV (lens k 2 p0 p1 p2)]), .v (natsV (ringOf k p0 p1 p2)), .v (natsV (backOf k p0 p1 p2)), .o (.list ((mixL (ringOf k p0 p1 p2) (ringOf k p0 p1 p2)).map triV)), .o (.list ((mixL (ringOf k p0 p1 p2) (backOf k p0 p1 p2)).map triV)), .no, .no, .no, .no, .no]) ?_).trans ?_
  · refine (ex_iteF (xv_cmp (y := (.list ((mixL (ringOf k p0 p1 p2) (backOf k p0 p1 p2)).map triV))) rfl ((comp9 (f := dueF (ringOf k p0 p1 p2) (backOf k p0 p1 p2) (cntsOf k p0 p1 p2) (cntsOf k p0 p1 p2).reverse) fun t ht => xv_call (evL5 rfl rfl rfl (xv_slc rfl rfl rfl rfl rfl) rfl) (due_lvl rfl rfl rfl rfl)).trans (by rw [d2])) (ne_tris mixL_small))).trans rfl
  have c0 : ∀ args, lvl fs1 3 0 args = run (lvl fs1 0) p_rgb_to_hsv args := fun args => lvl_at (l := 0) rfl (by omega)
  have c1 : ∀ args, lvl fs1 3 1 args = run (lvl fs1 0) p_hsv_to_rgb args := fun args => lvl_at (l := 0) rfl (by omega)
  obtain ⟨ρ', ⟨y13, y14, y15, y16, rfl⟩, hlk⟩ := forEach_all (step := fstep (lvl fs1 3) [13] lkBody) (I := famC (.v (.list (ns.map PV.int))) (.v (.int ns.sum)) (.v (.dict (pairsD k))) (.v (.str (mine k))) (.v (str3 p0 p1 p2)) (x5) (x6) (.o (natsV (cntsOf k p0 p1 p2))) (.v (.list [natsV (lens k 0 p0 p1 p2), natsV (lens k 1 p0 p1 p2), natsV (lens k 2 p0 p1 p2)])) (.v (natsV (ringOf k p0 p1 p2))) (.v (natsV (backOf k p0 p1 p2))) (.v (.list ((mixL (ringOf k p0 p1 p2) (ringOf k p0 p1 p2)).map triV))) (.v (.list ((mixL (ringOf k p0 p1 p2) (backOf k p0 p1 p2)).map triV))) .no) (items := (mixL (ringOf k p0 p1 p2) (ringOf k p0 p1 p2) ++ mixL (ringOf k p0 p1 p2) (backOf k p0 p1 p2)).map triV) (fun v hv ρ hI => by
    obtain ⟨n, hn, rfl⟩ := List.mem_map.mp hv
    exact lk_step c0 c1 (tl.trips n hn) ρ hI) [.v (.list (ns.map PV.int)), .v (.int ns.sum), .v (.dict (pairsD k)), .v (.str (mine k)), .v (str3 p0 p1 p2), x5, x6, .o (natsV (cntsOf k p0 p1 p2)), .v (.list [natsV (lens k 0 p0 p1 p2), natsV (lens k 1 p0 p1 p2), natsV (lens k 2 p0 p1 p2)]), .v (natsV (ringOf k p0 p1 p2)), .v (natsV (backOf k p0 p1 p2)), (.v (.list ((mixL (ringOf k p0 p1 p2) (ringOf k p0 p1 p2)).map triV))), (.v (.list ((mixL (ringOf k p0 p1 p2) (backOf k p0 p1 p2)).map triV))), .no, .no, .no, .no, .no] ⟨_, _, _, _, rfl⟩
  refine (exs_nxt (ρ' := [.v (.list (ns.map PV.int)), .v (.int ns.sum), .v (.dict (pairsD k)), .v (.str (mine k)), .v (str3 p0 p1 p2), x5, x6, .o (natsV (cntsOf k p0 p1 p2)), .v (.list [natsV (lens k 0 p0 p1 p2), natsV (lens k 1 p0 p1 p2), natsV (lens k 2 p0 p1 p2)]), .v (natsV (ringOf k p0 p1 p2)), .v (natsV (backOf k p0 p1 p2)), .v (.list ((mixL (ringOf k p0 p1 p2) (ringOf k p0 p1 p2)).map triV)), .v (.list ((mixL (ringOf k p0 p1 p2) (backOf k p0 p1 p2)).map triV)), y13, y14, y15, y16, .no]) ?_).trans ?_
  · refine (xx_for (b := lkBody) (x := .list ((mixL (ringOf k p0 p1 p2) (ringOf k p0 p1 p2) ++ mixL (ringOf k p0 p1 p2) (backOf k p0 p1 p2)).map triV)) (items := (mixL (ringOf k p0 p1 p2) (ringOf k p0 p1 p2) ++ mixL (ringOf k p0 p1 p2) (backOf k p0 p1 p2)).map triV) (xv_bin rfl rfl ?_) (itemsL (by simp [mixL]))).trans hlk
    rw [addL (by simp [mixL]), List.map_append]
  refine (exs_nxt (ρ' := [.v (.list (ns.map PV.int)), .v (.int ns.sum), .v (.dict (pairsD k)), .v (.str (mine k)), .v (str3 p0 p1 p2), x5, x6, .o (natsV (cntsOf k p0 p1 p2)), .v (.list [natsV (lens k 0 p0 p1 p2), natsV (lens k 1 p0 p1 p2), natsV (lens k 2 p0 p1 p2)]), .v (natsV (ringOf k p0 p1 p2)), .v (natsV (backOf k p0 p1 p2)), .v (.list ((mixL (ringOf k p0 p1 p2) (ringOf k p0 p1 p2)).map triV)), .v (.list ((mixL (ringOf k p0 p1 p2) (backOf k p0 p1 p2)).map triV)), y13, y14, y15, y16, .v (.bool (perf (cn3 k p0) (cn3 k p1) (cn3 k p2)))]) ?_).trans ?_
  · refine (xx_asg (v := .bool (perf (cn3 k p0) (cn3 k p1) (cn3 k p2))) (xv_cmp (y := natsV [0, 1, 2]) (ev_blt1 (x := natsV [cn3 k p0, cn3 k p1, cn3 k p2]) (r := .list ((isort [(cn3 k p0 : Int), (cn3 k p1 : Int), (cn3 k p2 : Int)]).map .int)) ?_ rfl) rfl (show cmpop .Eq _ _ = _ from sorted_at (a := cn3 k p0) (b := cn3 k p1) (c := cn3 k p2) (Nat.mod_lt _ (by omega)) (Nat.mod_lt _ (by omega)) (Nat.mod_lt _ (by omega))))).trans rfl
    refine (ev_comp_all (items := [.int (cnt k p0 : Nat), .int (cnt k p1 : Nat), .int (cnt k p2 : Nat)]) (g := fun v => match v with | .int (.ofNat n) => .int ((n % 3 : Nat) : Int) | _ => .none) rfl rfl ?_).trans rfl
    intro v hv
    simp only [List.mem_cons, List.not_mem_nil, or_false] at hv
    rcases hv with rfl | rfl | rfl
    · exact xv_bin rfl rfl (modN _ 3 (by omega))
    · exact xv_bin rfl rfl (modN _ 3 (by omega))
    · exact xv_bin rfl rfl (modN _ 3 (by omega))
  have hrgb : ∀ n ∈ (mixL (ringOf k p0 p1 p2) (ringOf k p0 p1 p2)).drop 1, run (lvl fs1 0) p_rgb_to_hsv [s16 n.1, s16 n.2.1, s16 n.2.2] = some (rgbV n) ∧ pyEqN 7 (rgbV n) greyV = some (is333 n) := fun n hn => by
    obtain ⟨h, s, v, a, b, c, F⟩ := rgb_at (tl.trips n (List.mem_append_left _ (List.mem_of_mem_drop hn)))
    have e : rgbV n = .tup [h, s, v] := by unfold rgbV; rw [F.rgb]; rfl
    rw [e]
    exact ⟨F.rgb, F.grey⟩
  have gr : pyEq (.list (((mixL (ringOf k p0 p1 p2) (ringOf k p0 p1 p2)).drop 1).map rgbV)) (.list (rep [greyV] 8)) = some (perf (cn3 k p0) (cn3 k p1) (cn3 k p2)) := by
    rw [← tl.grey]
    show (if (((mixL (ringOf k p0 p1 p2) (ringOf k p0 p1 p2)).drop 1).map rgbV).length == (rep [greyV] 8).length then pyEqs (pyEqN 7) (((mixL (ringOf k p0 p1 p2) (ringOf k p0 p1 p2)).drop 1).map rgbV) (rep [greyV] ((mixL (ringOf k p0 p1 p2) (ringOf k p0 p1 p2)).drop 1).length) else some false) = _
    exact (if_pos rfl).trans (grey_eqs fun n hn => (hrgb n hn).2)
  refine (exs_nxt (ρ' := [.v (.list (ns.map PV.int)), .v (.int ns.sum), .v (.dict (pairsD k)), .v (.str (mine k)), .v (str3 p0 p1 p2), x5, x6, .o (natsV (cntsOf k p0 p1 p2)), .v (.list [natsV (lens k 0 p0 p1 p2), natsV (lens k 1 p0 p1 p2), natsV (lens k 2 p0 p1 p2)]), .v (natsV (ringOf k p0 p1 p2)), .v (natsV (backOf k p0 p1 p2)), .v (.list ((mixL (ringOf k p0 p1 p2) (ringOf k p0 p1 p2)).map triV)), .v (.list ((mixL (ringOf k p0 p1 p2) (backOf k p0 p1 p2)).map triV)), y13, y14, y15, y16, .v (.bool (perf (cn3 k p0) (cn3 k p1) (cn3 k p2)))]) ?_).trans ?_
  · refine (ex_iteF (xv_cmp (r := false) (xv_cmp (x := .list (((mixL (ringOf k p0 p1 p2) (ringOf k p0 p1 p2)).drop 1).map rgbV)) (y := .list (rep [greyV] 8)) ?_ ?_ (show cmpop .Eq _ _ = _ from gr)) rfl ?_)).trans rfl
    · refine (ev_comp_all (x := .list (((mixL (ringOf k p0 p1 p2) (ringOf k p0 p1 p2)).drop 1).map triV)) (items := ((mixL (ringOf k p0 p1 p2) (ringOf k p0 p1 p2)).drop 1).map triV) (g := rgbG) (xv_slc rfl rfl rfl rfl ((slc_from (n := 1) (by simp [mixL])).trans (by rw [List.map_drop]))) (itemsL (by simp [mixL])) ?_).trans ?_
      · intro v hv
        obtain ⟨n, hn, rfl⟩ := List.mem_map.mp hv
        exact xv_call (evL3 (xv_sub rfl rfl rfl) (xv_sub rfl rfl rfl) (xv_sub rfl rfl rfl)) ((c0 _).trans (hrgb n hn).1)
      · rw [List.map_map]; rfl
    · refine xv_bin (x := .list [greyV]) (y := .int ((8 : Nat) : Int)) ?_ rfl rfl
      rw [ev, evL1 (ev_tup3 rfl rfl (xv_bin rfl rfl (div16 (n := 3) (by omega))))]; rfl
    · cases (perf (cn3 k p0) (cn3 k p1) (cn3 k p2)) <;> rfl
  cases hp : (perf (cn3 k p0) (cn3 k p1) (cn3 k p2)) with
  | false =>
    refine (exs_nxt ((xx_for (b := fvBody) (x := .list []) (items := []) (ev_iteF rfl rfl) rfl).trans rfl)).trans ?_
    exact exs_one (xx_ret rfl)
  | true =>
    obtain ⟨ρ', ⟨z13, z14, z15, z16, rfl⟩, hfv⟩ := forEach_all (step := fstep (lvl fs1 3) [13] fvBody) (I := famC (.v (.list (ns.map PV.int))) (.v (.int ns.sum)) (.v (.dict (pairsD k))) (.v (.str (mine k))) (.v (str3 p0 p1 p2)) (x5) (x6) (.o (natsV (cntsOf k p0 p1 p2))) (.v (.list [natsV (lens k 0 p0 p1 p2), natsV (lens k 1 p0 p1 p2), natsV (lens k 2 p0 p1 p2)])) (.v (natsV (ringOf k p0 p1 p2))) (.v (natsV (backOf k p0 p1 p2))) (.v (.list ((mixL (ringOf k p0 p1 p2) (ringOf k p0 p1 p2)).map triV))) (.v (.list ((mixL (ringOf k p0 p1 p2) (backOf k p0 p1 p2)).map triV))) (.v (.bool true))) (items := (mixL (ringOf k p0 p1 p2) (backOf k p0 p1 p2)).map triV) (fun v hv ρ hI => by
      obtain ⟨n, hn, rfl⟩ := List.mem_map.mp hv
      exact fv_step c0 c1 (tl.five hp n hn) ρ hI) [.v (.list (ns.map PV.int)), .v (.int ns.sum), .v (.dict (pairsD k)), .v (.str (mine k)), .v (str3 p0 p1 p2), x5, x6, .o (natsV (cntsOf k p0 p1 p2)), .v (.list [natsV (lens k 0 p0 p1 p2), natsV (lens k 1 p0 p1 p2), natsV (lens k 2 p0 p1 p2)]), .v (natsV (ringOf k p0 p1 p2)), .v (natsV (backOf k p0 p1 p2)), (.v (.list ((mixL (ringOf k p0 p1 p2) (ringOf k p0 p1 p2)).map triV))), (.v (.list ((mixL (ringOf k p0 p1 p2) (backOf k p0 p1 p2)).map triV))), y13, y14, y15, y16, .v (.bool true)] ⟨_, _, _, _, rfl⟩
    refine (exs_nxt ((xx_for (b := fvBody) (x := (.list ((mixL (ringOf k p0 p1 p2) (backOf k p0 p1 p2)).map triV))) (items := (mixL (ringOf k p0 p1 p2) (backOf k p0 p1 p2)).map triV) (ev_iteT rfl rfl) (itemsL (by simp [mixL]))).trans hfv)).trans ?_
    exact exs_one (xx_ret rfl)
end Mine
open PySem PySem.W PySem.W.X PyProof.Rows
set_option maxHeartbeats 8000000 in
theorem PySem.Challenge.cw_ph0102_01_holds : PySem.Challenge.rw_ph0102_01.Holds := by
  w_on
  refine holds_law (by kernel_rfl) fun said => ?_
  refine holds_openX (q := Mine.viewOf PySem.Challenge.pw_ph0102_01) (loose := []) (Xt := fun s => xlAt (Mine.viewOf PySem.Challenge.pw_ph0102_01) [] s && recOk (RowW.records PySem.Challenge.rw_ph0102_01.row.toRowW) s) (XP := XL (Mine.viewOf PySem.Challenge.pw_ph0102_01) []) (Yf := Mine.obsM) (Ya := fun _ => true) (N := 1600) ?hl (fun s e => xl_of s (Bool.and_eq_true_iff.mp e).1) XL.keeps (by rfl) (by rfl) (by rfl) (fun s e => recFacts_of (Bool.and_eq_true_iff.mp e).2) (by rfl) (by first | assumption | decide +kernel) (by decide +kernel) ⟨rfl, rfl, rfl, rfl, rfl, by decide +kernel⟩ ?hw ?hc
  case hl =>
    intro w
    kernel_rfl
  case hw => w_witness2
  intro w s₀ s₁ mg mb G y fa o pm cd doc dV kV ho hd hcd hD hmg hg args vals as L hpre hlay hrd hwl hlo
  refine Ground.open G ?_
  intro T B D TE TW
  wrow_args hpre hlay hrd hwl hlo
  obtain ⟨nb, tk⟩ := Mine.obs_ok y L
  refine Mine.finish (zp := true) (fuel := 60) (tab := Mine.p_tab) (fs := Mine.fs1) T nb tk (by kernel_rfl) rfl (by decide +kernel) (by decide +kernel) (fun _ G n C => Mine.zip_ok G) (f := 14) (l := 3) rfl rfl hmg (script_obj L (by assumption)) (by assumption) (Mine.law_run ?_) ⟨rfl, by decide, by decide⟩ hg (fun _ => rfl) ?_
  · omega
  · first | rfl | wrow_post
