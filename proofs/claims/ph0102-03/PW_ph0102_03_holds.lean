import PyProof.Rows.All
import Wide.All
import OpenK.AllK
import Wide.FinOn
import PySem.Challenge.RW_ph0102_03
set_option Elab.async false
set_option maxRecDepth 100000
set_option genSizeOf false
set_option genSizeOfSpec false
namespace Mine
open PySem

/-! ## plain values -/
inductive PV where
  | none
  | bool (b : Bool)
  | int (i : Int)
  | flt (x : UInt64)
  | str (s : List Nat)
  | list (l : List PV)
  | tup (l : List PV)
  | dict (l : List (List Nat × PV))
  | rng (n : Int)

noncomputable def szOk (n : Nat) : Bool := Nat.ble n 1000000

-- == on plain values, where it is told
noncomputable def pyEqs (f : PV → PV → Option Bool) : List PV → List PV → Option Bool
  | [], [] => some true
  | a :: r, b :: q => match f a b with
    | some x => match pyEqs f r q with
      | some y => some (x && y)
      | Option.none => Option.none
    | Option.none => Option.none
  | _, _ => Option.none
noncomputable def pyEqN : Nat → PV → PV → Option Bool
  | 0, _, _ => Option.none
  | n + 1, x, y => match x, y with
    | .int a, .int b => some (a == b)
    | .flt a, .flt b => if Float64.isNaN a || Float64.isNaN b then Option.none else some (Float64.cmp a b == some .eq)
    | .int a, .flt b => some (Float64.cmpInt b a == some .eq)
    | .flt a, .int b => some (Float64.cmpInt a b == some .eq)
    | .str a, .str b => some (a == b)
    | .bool a, .bool b => some (a == b)
    | .list a, .list b => if a.length == b.length then pyEqs (pyEqN n) a b else some false
    | .tup a, .tup b => if a.length == b.length then pyEqs (pyEqN n) a b else Option.none
    | .list _, .tup _ => some false
    | .tup _, .list _ => some false
    | _, _ => Option.none
noncomputable def pyEq (x y : PV) : Option Bool := pyEqN 8 x y

noncomputable def truth : PV → Option Bool
  | .bool b => some b
  | .int i => some (i != 0)
  | .str s => if szOk s.length then some (!s.isEmpty) else Option.none
  | .list l => if szOk l.length then some (!l.isEmpty) else Option.none
  | _ => Option.none

noncomputable def smallInt (i : Int) : Bool := Nat.ble i.natAbs 4294967296

/-- numbers as floats, where one of them is one -/
noncomputable def fltOf : PV → Option UInt64
  | .flt x => some x
  | .int n => if smallInt n then (if Float64.isInf (Float64.ofInt n) then Option.none else some (Float64.ofInt n)) else Option.none
  | _ => Option.none

noncomputable def rep {α : Type} (l : List α) : Nat → List α
  | 0 => []
  | n + 1 => l ++ rep l n

noncomputable def binF (op : Operator) (a b : UInt64) : Option PV :=
  match op with
  | .Add => some (.flt (Float64.add a b))
  | .Sub => some (.flt (Float64.sub a b))
  | .Mult => some (.flt (Float64.mul a b))
  | .Div => if Float64.isZero b then Option.none else some (.flt (Float64.div a b))
  | .Mod => if Float64.isZero b then Option.none else some (.flt (Float64.divmod a b).2)
  | _ => Option.none

noncomputable def binI (op : Operator) (a b : Int) : Option PV :=
  match op with
  | .Add => some (.int (a + b))
  | .Sub => some (.int (a - b))
  | .Mult => if smallInt a && smallInt b then some (.int (a * b)) else Option.none
  | .FloorDiv => if b != 0 && smallInt b then some (.int (a.fdiv b)) else Option.none
  | .Mod => if b != 0 then some (.int (a.fmod b)) else Option.none
  | .Pow => if Nat.ble a.natAbs 100 && (Nat.ble b.natAbs 100 && decide (0 ≤ b)) && decide (2 ≤ a) then some (.int (a ^ b.toNat)) else Option.none
  | .Div => if b != 0 && smallInt a && smallInt b then
      (if Float64.isInf (Float64.ofFrac (decide (a < 0) != decide (b < 0)) a.natAbs b.natAbs) then Option.none else some (.flt (Float64.ofFrac (decide (a < 0) != decide (b < 0)) a.natAbs b.natAbs)))
      else Option.none
  | _ => Option.none

noncomputable def binop (op : Operator) : PV → PV → Option PV
  | .int a, .int b => binI op a b
  | .flt a, .flt b => binF op a b
  | .flt a, .int b => match fltOf (.int b) with | some b' => binF op a b' | Option.none => Option.none
  | .int a, .flt b => match fltOf (.int a) with | some a' => binF op a' b | Option.none => Option.none
  | .str a, .str b => match op with | .Add => if szOk (a.length + b.length) then some (.str (a ++ b)) else Option.none | _ => Option.none
  | .str a, .int n => match op with | .Mult => if Nat.ble n.natAbs 1000 && szOk (a.length * n.toNat) then some (.str (rep a n.toNat)) else Option.none | _ => Option.none
  | .list a, .list b => match op with | .Add => if szOk (a.length + b.length) then some (.list (a ++ b)) else Option.none | _ => Option.none
  | .list a, .int n => match op with | .Mult => if Nat.ble n.natAbs 1000 && szOk (a.length * n.toNat) then some (.list (rep a n.toNat)) else Option.none | _ => Option.none
  | _, _ => Option.none

noncomputable def anyEq (x : PV) : List PV → Option Bool
  | [] => some false
  | y :: r => match pyEq y x, anyEq x r with
    | some a, some b => some (a || b)
    | _, _ => Option.none

noncomputable def look (k : List Nat) : List (List Nat × PV) → Option PV
  | [] => Option.none
  | (k', v) :: r => if k' == k then some v else look k r

noncomputable def pyIn : PV → PV → Option Bool
  | .str a, .str b => match a with | [c] => some (b.contains c) | _ => Option.none
  | .str k, .dict l => some (look k l).isSome
  | x, .list l => anyEq x l
  | x, .tup l => anyEq x l
  | _, _ => Option.none

noncomputable def cmpop (op : CmpOp) (a b : PV) : Option Bool :=
  match op with
  | .Eq => pyEq a b
  | .NotEq => (pyEq a b).map (!·)
  | .In => pyIn a b
  | .NotIn => (pyIn a b).map (!·)
  | .Lt => match a, b with | .int a, .int b => some (decide (a < b)) | _, _ => Option.none
  | .Gt => match a, b with | .int a, .int b => some (decide (b < a)) | _, _ => Option.none
  | _ => Option.none

/-! ## subscripts -/
noncomputable def idx (i : Int) (n : Nat) : Option Nat :=
  if szOk n then (if i < 0 then (if -(n : Int) ≤ i then some (i + n).toNat else Option.none) else (if i < n then some i.toNat else Option.none)) else Option.none

noncomputable def getI : PV → PV → Option PV
  | .list l, .int i => match idx i l.length with | some j => l[j]? | Option.none => Option.none
  | .tup l, .int i => match idx i l.length with | some j => l[j]? | Option.none => Option.none
  | .str s, .int i => match idx i s.length with | some j => (s[j]?).map fun c => .str [c] | Option.none => Option.none
  | .dict l, .str k => look k l
  | _, _ => Option.none

/-- a bound of a slice with step 1 -/
noncomputable def clip (d : Nat) (n : Nat) : PV → Option Nat
  | .none => some d
  | .int i => some (if i < 0 then (i + n).toNat else if i < n then i.toNat else n)
  | _ => Option.none

noncomputable def sliceL {α : Type} (l : List α) (lo hi st : PV) : Option (List α) :=
  match st with
  | .none => match clip 0 l.length lo, clip l.length l.length hi with
    | some a, some b => some ((l.drop a).take (b - a))
    | _, _ => Option.none
  | .int i => match lo, hi with
    | .none, .none => if i == -1 then some l.reverse else Option.none
    | _, _ => Option.none
  | _ => Option.none

noncomputable def slice (v lo hi st : PV) : Option PV :=
  match v with
  | .list l => if szOk l.length then (sliceL l lo hi st).map .list else Option.none
  | .str s => match st with | .none => if szOk s.length then (sliceL s lo hi st).map .str else Option.none | _ => Option.none
  | _ => Option.none

/-! ## built-ins -/
inductive Blt where
  | len | sum | int | min | max | range | list | tuple | sorted
inductive Mth where
  | join | index | rstrip

noncomputable def intsOf : List PV → Option (List Int)
  | [] => some []
  | .int i :: r => (intsOf r).map (i :: ·)
  | _ => Option.none
noncomputable def strsOf : List PV → Option (List (List Nat))
  | [] => some []
  | .str i :: r => (strsOf r).map (i :: ·)
  | _ => Option.none

noncomputable def fmax (a b : UInt64) : UInt64 := if Float64.cmp b a == some .gt then b else a
noncomputable def fmin (a b : UInt64) : UInt64 := if Float64.cmp b a == some .lt then b else a

noncomputable def upto (n : Nat) : List PV := (List.range n).map fun (k : Nat) => PV.int (k : Int)

noncomputable def itemsOf : PV → Option (List PV)
  | .list l => if szOk l.length then some l else Option.none
  | .tup l => if szOk l.length then some l else Option.none
  | .str s => if szOk s.length then some (s.map fun c => .str [c]) else Option.none
  | .rng n => if Nat.ble n.natAbs 100000 then some (upto n.toNat) else Option.none
  | .dict l => if szOk l.length then some (l.map fun p => .str p.1) else Option.none
  | _ => Option.none

noncomputable def ifz {α : Type} (c : Bool) (o : Option α) : Option α := match c with
  | true => o
  | false => Option.none
noncomputable def asI : PV → Option Int
  | .int i => some i
  | _ => Option.none
noncomputable def asF : PV → Option UInt64
  | .flt i => some i
  | _ => Option.none
noncomputable def asL : PV → Option (List PV)
  | .list i => some i
  | _ => Option.none
noncomputable def asS : PV → Option (List Nat)
  | .str i => some i
  | _ => Option.none
noncomputable def obind {α β : Type} (o : Option α) (f : α → Option β) : Option β := match o with
  | some a => f a
  | Option.none => Option.none
noncomputable def bLen : PV → Option PV
  | .str s => ifz (szOk s.length) (some (.int s.length))
  | .list s => ifz (szOk s.length) (some (.int s.length))
  | _ => Option.none
noncomputable def bSum (x : PV) : Option PV := obind (asL x) fun l => ifz (szOk l.length) (obind (intsOf l) fun is => some (.int is.sum))
noncomputable def bDec : Float64.Num → Option PV
  | .fin sg m e => some (.int (Float64.truncOf sg m e))
  | _ => Option.none
noncomputable def bInt (x : PV) : Option PV := obind (asF x) fun x => bDec (Float64.decode x)
noncomputable def bRange (x : PV) : Option PV := obind (asI x) fun n => ifz (smallInt n) (some (.rng n))
noncomputable def bList : PV → Option PV
  | .rng n => ifz (Nat.ble n.natAbs 100000) (some (.list (upto n.toNat)))
  | _ => Option.none
noncomputable def bMinF (x y : PV) : Option PV := obind (asF x) fun a => obind (asF y) fun b => some (.flt (fmin a b))
noncomputable def bFl3 (f : UInt64 → UInt64 → UInt64) (x y z : PV) : Option PV := obind (asF x) fun a => obind (asF y) fun b => obind (asF z) fun c => some (.flt (f (f a b) c))
noncomputable def blt1 (b : Blt) (x : PV) : Option PV := match b with
  | .len => bLen x
  | .sum => bSum x
  | .int => bInt x
  | .min => Option.none
  | .max => Option.none
  | .range => bRange x
  | .list => bList x
  | .tuple => Option.none
  | .sorted => Option.none
noncomputable def isMin : Blt → Bool
  | .min => true
  | _ => false
noncomputable def isMax : Blt → Bool
  | .max => true
  | _ => false
noncomputable def blt2 (b : Blt) (x y : PV) : Option PV := ifz (isMin b) (bMinF x y)
noncomputable def blt3 (b : Blt) (x y z : PV) : Option PV := match isMin b with
  | true => bFl3 fmin x y z
  | false => ifz (isMax b) (bFl3 fmax x y z)
noncomputable def blt (b : Blt) (args : List PV) : Option PV := match args with
  | [x] => blt1 b x
  | [x, y] => blt2 b x y
  | [x, y, z] => blt3 b x y z
  | _ => Option.none

inductive BltIs : Blt → List PV → PV → Prop where
  | lenS (l : List Nat) (hz : szOk l.length = true) : BltIs .len [.str l] (.int l.length)
  | lenL (l : List PV) (hz : szOk l.length = true) : BltIs .len [.list l] (.int l.length)
  | sum (l : List PV) (is : List Int) (hz : szOk l.length = true) (hi : intsOf l = some is) : BltIs .sum [.list l] (.int is.sum)
  | int (x : UInt64) (sg : Bool) (m : Nat) (e : Int) (hd : Float64.decode x = .fin sg m e) : BltIs .int [.flt x] (.int (Float64.truncOf sg m e))
  | minF (a b : UInt64) : BltIs .min [.flt a, .flt b] (.flt (fmin a b))
  | min3 (a b c : UInt64) : BltIs .min [.flt a, .flt b, .flt c] (.flt (fmin (fmin a b) c))
  | max3 (a b c : UInt64) : BltIs .max [.flt a, .flt b, .flt c] (.flt (fmax (fmax a b) c))
  | range (n : Int) (h : smallInt n = true) : BltIs .range [.int n] (.rng n)
  | listR (n : Int) (hz : Nat.ble n.natAbs 100000 = true) : BltIs .list [.rng n] (.list (upto n.toNat))
theorem ifz_inv {α : Type} {c : Bool} {o : Option α} {x : α} (h : ifz c o = some x) : c = true ∧ o = some x := by
  cases c with
  | true => exact ⟨rfl, h⟩
  | false => cases h
theorem obind_inv {α β : Type} {o : Option α} {f : α → Option β} {x : β} (h : obind o f = some x) : ∃ a, o = some a ∧ f a = some x := by
  cases o with
  | none => cases h
  | some a => exact ⟨a, rfl, h⟩
theorem asI_inv {x : PV} {i : Int} (h : asI x = some i) : x = .int i := by cases x <;> first | (cases h; rfl) | (cases h; done)
theorem asF_inv {x : PV} {i : UInt64} (h : asF x = some i) : x = .flt i := by cases x <;> first | (cases h; rfl) | (cases h; done)
theorem asL_inv {x : PV} {i : List PV} (h : asL x = some i) : x = .list i := by cases x <;> first | (cases h; rfl) | (cases h; done)
theorem asS_inv {x : PV} {i : List Nat} (h : asS x = some i) : x = .str i := by cases x <;> first | (cases h; rfl) | (cases h; done)
theorem bLen_is {x r : PV} (e : bLen x = some r) : BltIs .len [x] r := by
  cases x <;> first | (cases e; done) | skip
  · obtain ⟨hz, e⟩ := ifz_inv e
    cases e; exact .lenS _ hz
  · obtain ⟨hz, e⟩ := ifz_inv e
    cases e; exact .lenL _ hz
theorem bSum_is {x r : PV} (e : bSum x = some r) : BltIs .sum [x] r := by
  obtain ⟨l, h, e1⟩ := obind_inv e
  obtain ⟨hz, e2⟩ := ifz_inv e1
  obtain ⟨is, hi, e3⟩ := obind_inv e2
  cases asL_inv h; cases e3; exact .sum _ _ hz hi
theorem bInt_is {x r : PV} (e : bInt x = some r) : BltIs .int [x] r := by
  obtain ⟨l, h, e1⟩ := obind_inv e
  cases asF_inv h
  cases hd : Float64.decode l with
  | nan => rw [hd] at e1; cases e1
  | inf g => rw [hd] at e1; cases e1
  | fin sg m ex => rw [hd] at e1; cases e1; exact .int _ _ _ _ hd
theorem bRange_is {x r : PV} (e : bRange x = some r) : BltIs .range [x] r := by
  obtain ⟨l, h, e1⟩ := obind_inv e
  obtain ⟨hz, e2⟩ := ifz_inv e1
  cases asI_inv h; cases e2; exact .range _ hz
theorem bList_is {x r : PV} (e : bList x = some r) : BltIs .list [x] r := by
  cases x <;> first | (cases e; done) | skip
  · obtain ⟨hz, e⟩ := ifz_inv e
    cases e; exact .listR _ hz
theorem blt2_is {b : Blt} {x y r : PV} (e : blt2 b x y = some r) : BltIs b [x, y] r := by
  obtain ⟨hb, e1⟩ := ifz_inv e
  have hb : b = .min := by cases b <;> first | rfl | (cases hb; done)
  subst hb
  obtain ⟨a, h1, e4⟩ := obind_inv e1
  obtain ⟨c, h2, e5⟩ := obind_inv e4
  cases asF_inv h1; cases asF_inv h2; cases e5; exact .minF _ _
theorem bFl3_is {f : UInt64 → UInt64 → UInt64} {x y z r : PV} (e : bFl3 f x y z = some r) : ∃ a b c, x = .flt a ∧ y = .flt b ∧ z = .flt c ∧ r = .flt (f (f a b) c) := by
  obtain ⟨a, h1, e1⟩ := obind_inv e
  obtain ⟨b, h2, e2⟩ := obind_inv e1
  obtain ⟨c, h3, e3⟩ := obind_inv e2
  cases e3
  exact ⟨a, b, c, asF_inv h1, asF_inv h2, asF_inv h3, rfl⟩
theorem blt3_is {b : Blt} {x y z r : PV} (e : blt3 b x y z = some r) : BltIs b [x, y, z] r := by
  unfold blt3 at e
  cases hm : isMin b with
  | true =>
    have hb : b = .min := by cases b <;> first | rfl | (cases hm; done)
    subst hb
    rw [hm] at e
    obtain ⟨a, b, c, rfl, rfl, rfl, rfl⟩ := bFl3_is e
    exact .min3 _ _ _
  | false =>
    rw [hm] at e
    obtain ⟨hb, e1⟩ := ifz_inv e
    have hb : b = .max := by cases b <;> first | rfl | (cases hb; done)
    subst hb
    obtain ⟨a, b, c, rfl, rfl, rfl, rfl⟩ := bFl3_is e1
    exact .max3 _ _ _
theorem blt_is {b : Blt} {args : List PV} {r : PV} (e : blt b args = some r) : BltIs b args r := by
  rcases args with _ | ⟨x, _ | ⟨y, _ | ⟨z, _ | ⟨u, q⟩⟩⟩⟩
  · cases e
  · cases b <;> first | exact bLen_is e | exact bSum_is e | exact bInt_is e | exact bRange_is e | exact bList_is e | (cases e; done)
  · exact blt2_is e
  · exact blt3_is e
  · cases e

noncomputable def mthId : Mth → String
  | .join => "str.join"
  | .index => "str.index"
  | .rstrip => "str.rstrip"

noncomputable def replaceC (s : List Nat) (c : Nat) (t : List Nat) : List Nat := s.flatMap fun x => if x == c then t else [x]
noncomputable def idxOf? (c : Nat) : List Nat → Option Nat
  | [] => Option.none
  | x :: r => if x == c then some 0 else (idxOf? c r).map (· + 1)
noncomputable def rstripC (c : Nat) (s : List Nat) : List Nat := (s.reverse.dropWhile (· == c)).reverse

noncomputable def mJoin (s : List Nat) (a : PV) : Option PV := match s with
  | [] => obind (asL a) fun l => obind (strsOf l) fun ss => ifz (szOk ss.flatten.length) (some (.str ss.flatten))
  | _ => Option.none
noncomputable def one1 : List Nat → Option Nat
  | [c] => some c
  | _ => Option.none
noncomputable def mIndex (s : List Nat) (a : PV) : Option PV := obind (asS a) fun t => obind (one1 t) fun c => obind (idxOf? c s) fun k => some (.int ((k : Nat) : Int))
noncomputable def mStrip (s : List Nat) (a : PV) : Option PV := obind (asS a) fun t => obind (one1 t) fun c => ifz (szOk s.length) (some (.str (rstripC c s)))
noncomputable def mth1 (m : Mth) (s : List Nat) (a : PV) : Option PV := match m with
  | .join => mJoin s a
  | .index => mIndex s a
  | .rstrip => mStrip s a
noncomputable def mth (m : Mth) (o : PV) (args : List PV) : Option PV := match args with
  | [a] => obind (asS o) fun s => mth1 m s a
  | _ => Option.none
inductive MthIs : Mth → PV → List PV → PV → Prop where
  | join (l : List PV) (ss : List (List Nat)) (hs : strsOf l = some ss) (hz : szOk ss.flatten.length = true) : MthIs .join (.str []) [.list l] (.str ss.flatten)
  | index (l : List Nat) (c k : Nat) (hk : idxOf? c l = some k) : MthIs .index (.str l) [.str [c]] (.int ((k : Nat) : Int))
  | rstrip (l : List Nat) (c : Nat) (hz : szOk l.length = true) : MthIs .rstrip (.str l) [.str [c]] (.str (rstripC c l))
theorem one1_inv {t : List Nat} {c : Nat} (h : one1 t = some c) : t = [c] := by
  rcases t with _ | ⟨d, _ | _⟩ <;> first | (cases h; rfl) | (cases h; done)
theorem mth_is {m : Mth} {o r : PV} {args : List PV} (e : mth m o args = some r) : MthIs m o args r := by
  rcases args with _ | ⟨a, _ | ⟨b, q⟩⟩
  · cases e
  · obtain ⟨s, h1, e1⟩ := obind_inv e
    cases asS_inv h1
    cases m with
    | join =>
      cases s with
      | cons _ _ => cases e1
      | nil =>
        obtain ⟨l, h2, e2⟩ := obind_inv e1
        obtain ⟨ss, h3, e3⟩ := obind_inv e2
        obtain ⟨hz, e4⟩ := ifz_inv e3
        cases asL_inv h2; cases e4; exact .join _ _ h3 hz
    | index =>
      obtain ⟨t, h2, e2⟩ := obind_inv e1
      obtain ⟨c, h3, e3⟩ := obind_inv e2
      obtain ⟨k, h4, e4⟩ := obind_inv e3
      cases asS_inv h2; cases one1_inv h3; cases e4; exact .index _ _ _ h4
    | rstrip =>
      obtain ⟨t, h2, e2⟩ := obind_inv e1
      obtain ⟨c, h3, e3⟩ := obind_inv e2
      obtain ⟨hz, e4⟩ := ifz_inv e3
      cases asS_inv h2; cases one1_inv h3; cases e4; exact .rstrip _ _ hz
  · cases e

/-! ## the terms -/
set_option genInjectivity false
mutual
inductive X where
  | cst (v : PV)
  | var (i : Nat)
  | neg (a : X)
  | bin (op : Operator) (a b : X)
  | cmp (op : CmpOp) (a b : X)
  | bop (isAnd : Bool) (l : XL)
  | not (a : X)
  | ite (c a b : X)
  | lst (l : XL)
  | tup (l : XL)
  | dic (l : XL)
  | sub (a i : X)
  | slc (a lo hi st : X)
  | call (f : Nat) (l : XL)
  | blt (b : Blt) (l : XL)
  | mth (m : Mth) (o : X) (l : XL)
  | rpl (o : X) (c : Nat) (t : List Nat)
  | comp (elt iter cond : X)
inductive XL where
  | nil
  | cons (a : X) (l : XL)
end

set_option genInjectivity true
inductive Sl where
  | no
  | v (p : PV)
  | o (p : PV)
noncomputable def Sl.val : Sl → Option PV
  | .no => Option.none
  | .v p => some p
  | .o p => some p
noncomputable def Sl.drop : Sl → Sl
  | .o p => .v p
  | x => x

abbrev Ρ := List Sl

set_option genInjectivity false
mutual
inductive S where
  | asg (i : Nat) (own : Bool) (e : X)
  | unp (is : List Nat) (own : Bool) (e : X)
  | aug (i : Nat) (op : Operator) (e : X)
  | setI (i : Nat) (k e : X)
  | augI (i : Nat) (k : X) (op : Operator) (e : X)
  | app (i : Nat) (e : X)
  | ret (e : X)
  | ite (c : X) (a b : SL)
  | fr (is : List Nat) (iter : X) (b : SL)
  | frz (i j : Nat) (a b : X) (body : SL)
  | whl (c : X) (b : SL)
  | tr (b : SL)
inductive SL where
  | nil
  | cons (a : S) (l : SL)
end

set_option genInjectivity true
abbrev Orc := Nat → List PV → Option PV

noncomputable def mapC (f : PV → Option Bool) (g : PV → Option PV) : List PV → Option (List PV)
  | [] => some []
  | x :: r => match f x with
    | some true => match g x with
      | some y => match mapC f g r with
        | some ys => some (y :: ys)
        | Option.none => Option.none
      | Option.none => Option.none
    | some false => mapC f g r
    | Option.none => Option.none

noncomputable def pairsOf : List PV → Option (List (List Nat × PV))
  | [] => some []
  | [.str k, v] => some [(k, v)]
  | _ => Option.none

mutual
noncomputable def ev (C : Orc) : X → Ρ → Option PV
  | .cst v, _ => some v
  | .var i, ρ => match ρ[i]? with | some s => s.val | Option.none => Option.none
  | .neg a, ρ => match ev C a ρ with | some (.int i) => some (.int (-i)) | _ => Option.none
  | .bin op a b, ρ => match ev C a ρ with
    | some x => match ev C b ρ with | some y => binop op x y | Option.none => Option.none
    | Option.none => Option.none
  | .cmp op a b, ρ => match ev C a ρ with
    | some x => match ev C b ρ with | some y => (cmpop op x y).map .bool | Option.none => Option.none
    | Option.none => Option.none
  | .bop isAnd l, ρ => evB C isAnd l ρ
  | .not a, ρ => match ev C a ρ with | some x => (truth x).map fun b => .bool (!b) | Option.none => Option.none
  | .ite c a b, ρ => match ev C c ρ with
    | some x => match truth x with
      | some true => ev C a ρ
      | some false => ev C b ρ
      | Option.none => Option.none
    | Option.none => Option.none
  | .lst l, ρ => match evL C l ρ with | some vs => if szOk vs.length then some (.list vs) else Option.none | Option.none => Option.none
  | .tup l, ρ => match evL C l ρ with | some vs => if szOk vs.length then some (.tup vs) else Option.none | Option.none => Option.none
  | .dic l, ρ => match evL C l ρ with | some vs => (pairsOf vs).map .dict | Option.none => Option.none
  | .sub a i, ρ => match ev C a ρ with
    | some x => match ev C i ρ with | some y => getI x y | Option.none => Option.none
    | Option.none => Option.none
  | .slc a lo hi st, ρ => match ev C a ρ with
    | some x => match ev C lo ρ with
      | some l => match ev C hi ρ with
        | some h => match ev C st ρ with
          | some t => slice x l h t
          | Option.none => Option.none
        | Option.none => Option.none
      | Option.none => Option.none
    | Option.none => Option.none
  | .call f l, ρ => match evL C l ρ with | some vs => C f vs | Option.none => Option.none
  | .blt b l, ρ => match evL C l ρ with | some vs => blt b vs | Option.none => Option.none
  | .mth m o l, ρ => match ev C o ρ with
    | some x => match evL C l ρ with | some vs => mth m x vs | Option.none => Option.none
    | Option.none => Option.none
  | .rpl o c t, ρ => match ev C o ρ with
    | some (.str s) => if szOk ((s.length + 1) * (t.length + 1)) then some (.str (replaceC s c t)) else Option.none
    | _ => Option.none
  | .comp elt iter cond, ρ => match ev C iter ρ with
    | some x => match itemsOf x with
      | some items => (mapC (fun v => match ev C cond (.v v :: ρ) with | some c => truth c | Option.none => Option.none) (fun v => ev C elt (.v v :: ρ)) items).map .list
      | Option.none => Option.none
    | Option.none => Option.none
noncomputable def evL (C : Orc) : XL → Ρ → Option (List PV)
  | .nil, _ => some []
  | .cons a l, ρ => match ev C a ρ with
    | some x => match evL C l ρ with | some r => some (x :: r) | Option.none => Option.none
    | Option.none => Option.none
noncomputable def evB (C : Orc) (isAnd : Bool) : XL → Ρ → Option PV
  | .nil, _ => Option.none
  | .cons a l, ρ => match ev C a ρ with
    | some x => match l with
      | .nil => some x
      | .cons _ _ => match truth x with
        | some b => if b == isAnd then evB C isAnd l ρ else some x
        | Option.none => Option.none
    | Option.none => Option.none
end

/-! ## which names may an answer share -/
noncomputable def scalar : PV → Bool
  | .none => true
  | .bool _ => true
  | .int _ => true
  | .flt _ => true
  | .str _ => true
  | _ => false
noncomputable def mixes : Operator → Bool
  | .Add => true
  | .Mult => true
  | _ => false
noncomputable def hands : Blt → Bool
  | .list => true
  | .tuple => true
  | .sorted => true
  | _ => false
mutual
noncomputable def al : X → List Nat
  | .var i => [i]
  | .bop _ l => alL l
  | .ite _ a b => al a ++ al b
  | .lst l => alL l
  | .tup l => alL l
  | .dic l => alL l
  | .sub a _ => al a
  | .slc a _ _ _ => al a
  | .bin op a b => if mixes op then al a ++ al b else []
  | .call _ l => alL l
  | .blt b l => if hands b then alL l else []
  | .comp elt iter _ => al iter ++ ((al elt).filterMap fun i => match i with | 0 => Option.none | k + 1 => some k)
  | .cst _ => []
  | .neg _ => []
  | .cmp _ _ _ => []
  | .not _ => []
  | .mth _ _ _ => []
  | .rpl _ _ _ => []
noncomputable def alL : XL → List Nat
  | .nil => []
  | .cons a l => al a ++ alL l
end

noncomputable def dropAt (ρ : Ρ) : List Nat → Ρ
  | [] => ρ
  | i :: r => dropAt (ρ.modify i Sl.drop) r

noncomputable def dropFor (ρ : Ρ) (e : X) (v : PV) : Ρ := if scalar v then ρ else dropAt ρ (al e)

noncomputable def setAt (ρ : Ρ) (i : Nat) (x : Sl) : Option Ρ := if Nat.blt i ρ.length then some (ρ.set i x) else Option.none

inductive Res where
  | nxt (ρ : Ρ)
  | ret (v : PV)

noncomputable def setEach (ρ : Ρ) (own : Bool) : List Nat → List PV → Option Ρ
  | [], [] => some ρ
  | i :: is, v :: vs => match setAt ρ i (if own then .o v else .v v) with
    | some ρ' => setEach ρ' own is vs
    | Option.none => Option.none
  | _, _ => Option.none

noncomputable def put (k : List Nat) (v : PV) : List (List Nat × PV) → List (List Nat × PV)
  | [] => [(k, v)]
  | (k', v') :: r => if k' == k then (k', v) :: r else (k', v') :: put k v r

noncomputable def storeI (c k v : PV) : Option PV :=
  match c, k with
  | .list l, .int i => if szOk l.length && (decide (0 ≤ i) && decide (i < l.length)) then some (.list (l.set i.toNat v)) else Option.none
  | .dict l, .str k => if szOk l.length then some (.dict (put k v l)) else Option.none
  | _, _ => Option.none

/-- x += y, of numbers and of texts -/
noncomputable def augop : Operator → PV → PV → Option PV
  | .Add, .int a, .int b => some (.int (a + b))
  | .Add, .str a, .str b => if szOk (a.length + b.length) then some (.str (a ++ b)) else Option.none
  | _, _, _ => Option.none

noncomputable def isTupOfNil : X → Bool
  | .tup (.cons (.lst .nil) (.cons (.lst .nil) .nil)) => true
  | _ => false

noncomputable def isFresh : X → Bool
  | .lst _ => true
  | .comp _ _ _ => true
  | .dic _ => true
  | .bin .Mult (.lst _) _ => true
  | _ => false

noncomputable def forEach (step : Ρ → PV → Option Res) : List PV → Ρ → Option Res
  | [], ρ => some (.nxt ρ)
  | x :: r, ρ => match step ρ x with
    | some (.nxt ρ') => forEach step r ρ'
    | o => o

noncomputable def whileN (test : Ρ → Option Bool) (step : Ρ → Option Res) : Nat → Ρ → Option Res
  | 0, _ => Option.none
  | n + 1, ρ => match test ρ with
    | some true => match step ρ with
      | some (.nxt ρ') => whileN test step n ρ'
      | o => o
    | some false => some (.nxt ρ)
    | Option.none => Option.none

noncomputable def seqOf : PV → Option (List PV)
  | .list l => some l
  | .tup l => some l
  | _ => Option.none

noncomputable def bindEach (ρ : Ρ) : List Nat → PV → Option Ρ
  | [i], v => setAt ρ i (.v v)
  | is, v => match seqOf v with | some vs => setEach ρ false is vs | Option.none => Option.none

noncomputable def zipV : List PV → List PV → List PV
  | a :: r, b :: q => .tup [a, b] :: zipV r q
  | _, _ => []

/-- a text of plain signs beside a list -/
noncomputable def zipItems (x y : PV) : Option (List PV) := obind (asS x) fun s => obind (asL y) fun l => ifz (s.all fun c => Nat.blt c 128) (ifz (szOk s.length) (ifz (szOk l.length) (some (zipV (s.map fun c => PV.str [c]) l))))
noncomputable def whileMost : Nat := 1000

mutual
noncomputable def ex (C : Orc) : S → Ρ → Option Res
  | .asg i own e, ρ => match ev C e ρ with
    | some v => (setAt (dropFor ρ e v) i (if own && isFresh e then .o v else .v v)).map .nxt
    | Option.none => Option.none
  | .unp is own e, ρ => match ev C e ρ with
    | some (.tup vs) => (setEach (dropAt ρ (al e)) (own && isTupOfNil e) is vs).map .nxt
    | _ => Option.none
  | .aug i op e, ρ => match ρ[i]? with
    | some s => match s.val with
      | some old => match ev C e ρ with
        | some v => match augop op old v with
          | some x => (setAt ρ i (.v x)).map .nxt
          | Option.none => Option.none
        | Option.none => Option.none
      | Option.none => Option.none
    | Option.none => Option.none
  | .setI i k e, ρ => match ev C e ρ with
    | some v => match ev C k ρ with
      | some kv => match (dropFor ρ e v)[i]? with
        | some (.o c) => match storeI c kv v with
          | some c' => (setAt (dropFor ρ e v) i (.o c')).map .nxt
          | Option.none => Option.none
        | _ => Option.none
      | Option.none => Option.none
    | Option.none => Option.none
  | .augI i k op e, ρ => match ρ[i]? with
    | some (.o c) => match ev C k ρ with
      | some kv => match getI c kv with
        | some old => match ev C e ρ with
          | some v => match augop op old v with
            | some x => match storeI c kv x with
              | some c' => (setAt ρ i (.o c')).map .nxt
              | Option.none => Option.none
            | Option.none => Option.none
          | Option.none => Option.none
        | Option.none => Option.none
      | Option.none => Option.none
    | _ => Option.none
  | .app i e, ρ => match ev C e ρ with
    | some v => match (dropFor ρ e v)[i]? with
      | some (.o (.list l)) => if szOk l.length then (setAt (dropFor ρ e v) i (.o (.list (l ++ [v])))).map .nxt else Option.none
      | _ => Option.none
    | Option.none => Option.none
  | .ret e, ρ => (ev C e ρ).map .ret
  | .ite c a b, ρ => match ev C c ρ with
    | some x => match truth x with
      | some true => exs C a ρ
      | some false => exs C b ρ
      | Option.none => Option.none
    | Option.none => Option.none
  | .fr is iter b, ρ => match ev C iter ρ with
    | some x => match itemsOf x with
      | some items => forEach (fun ρ v => match bindEach ρ is v with | some ρ' => exs C b ρ' | Option.none => Option.none) items (dropAt ρ (al iter))
      | Option.none => Option.none
    | Option.none => Option.none
  | .frz i j a b body, ρ => match ev C a ρ with
    | some x => match ev C b ρ with
      | some y => match zipItems x y with
        | some items => forEach (fun ρ v => match bindEach ρ [i, j] v with | some ρ' => exs C body ρ' | Option.none => Option.none) items (dropAt ρ (alL (.cons a (.cons b .nil))))
        | Option.none => Option.none
      | Option.none => Option.none
    | Option.none => Option.none
  | .whl c b, ρ => whileN (fun ρ => match ev C c ρ with | some x => truth x | Option.none => Option.none) (fun ρ => exs C b ρ) whileMost ρ
  | .tr b, ρ => exs C b ρ
noncomputable def exs (C : Orc) : SL → Ρ → Option Res
  | .nil, ρ => some (.nxt ρ)
  | .cons a l, ρ => match ex C a ρ with
    | some (.nxt ρ') => exs C l ρ'
    | o => o
end
end Mine
set_option genSizeOf false
set_option genSizeOfSpec false
namespace Mine
open PySem

/-! ## from the text to the terms -/
noncomputable def isVarK : Option NameKind → Bool
  | some .local => true
  | some .cell => true
  | _ => false
noncomputable def isGlobK : Option NameKind → Bool
  | some .globalImplicit => true
  | _ => false

noncomputable def varAt (sc : Scope) (vars : List Str) (x : Str) : Option Nat :=
  if isVarK (sc.names.lookup x) && !(x == ("__debug__" : Str)) && !(x == (".0" : Str)) then vars.findIdx? (· == x) else Option.none

noncomputable def cstOf : Const → Option PV
  | .none => some .none
  | .bool b => some (.bool b)
  | .int i => some (.int i)
  | .float x => some (.flt x)
  | .str s => some (.str s.cps.toList)
  | _ => Option.none

noncomputable def bltOf (f : Str) : Option Blt :=
  if f == ("len" : Str) then some .len
  else if f == ("sum" : Str) then some .sum
  else if f == ("int" : Str) then some .int
  else if f == ("min" : Str) then some .min
  else if f == ("max" : Str) then some .max
  else if f == ("range" : Str) then some .range
  else if f == ("list" : Str) then some .list
  else if f == ("tuple" : Str) then some .tuple
  else if f == ("sorted" : Str) then some .sorted
  else Option.none
noncomputable def mthOf (f : Str) : Option Mth :=
  if f == ("join" : Str) then some .join
  else if f == ("index" : Str) then some .index
  else if f == ("rstrip" : Str) then some .rstrip
  else Option.none

/-! ### views: what is behind a text, one step deep -/
set_option genInjectivity false
inductive EV where
  | cst (c : Const)
  | name (x : Str)
  | not (a : Expr)
  | neg (a : Expr)
  | bin (op : Operator) (a b : Expr)
  | cmp (op : CmpOp) (a b : Expr)
  | bop (op : BoolOp) (es : List Expr)
  | ite (c a b : Expr)
  | lst (es : List Expr)
  | tup (es : List Expr)
  | dic0
  | dic1 (k v : Expr)
  | slc (a : Expr) (lo hi st : Option Expr)
  | sub (a i : Expr)
  | meth (o : Expr) (m : Str) (as : List Expr)
  | call (f : Str) (as : List Expr)
  | comp (elt iter : Expr) (x : Str) (ifs : List Expr) (scope : Scope)
  | other

noncomputable def plainBase : Expr → Bool
  | .Name .. => true
  | .Constant .. => true
  | _ => false
inductive IsV : Expr → EV → Prop where
  | cst (c : Const) (k : Nat) (p : Pos) : IsV (.Constant c k p) (.cst c)
  | name (x : Str) (p : Pos) : IsV (.Name x p) (.name x)
  | not (a : Expr) (p : Pos) : IsV (.UnaryOp .Not a p) (.not a)
  | neg (a : Expr) (p : Pos) : IsV (.UnaryOp .USub a p) (.neg a)
  | bin (op : Operator) (a b : Expr) (p : Pos) : IsV (.BinOp a op b p) (.bin op a b)
  | cmp (op : CmpOp) (a b : Expr) (p : Pos) : IsV (.Compare a [op] [b] p) (.cmp op a b)
  | bop (op : BoolOp) (es : List Expr) (p : Pos) : IsV (.BoolOp op es p) (.bop op es)
  | ite (c a b : Expr) (p : Pos) : IsV (.IfExp c a b p) (.ite c a b)
  | lst (es : List Expr) (p : Pos) : IsV (.List es p) (.lst es)
  | tup (es : List Expr) (k : Nat) (p : Pos) : IsV (.Tuple es k p) (.tup es)
  | dic0 (p : Pos) : IsV (.Dict [] [] p) .dic0
  | dic1 (k v : Expr) (p : Pos) : IsV (.Dict [some k] [v] p) (.dic1 k v)
  | slc (a : Expr) (lo hi st : Option Expr) (q p : Pos) : IsV (.Subscript a (.Slice lo hi st q) p) (.slc a lo hi st)
  | sub (a i : Expr) (p : Pos) : IsV (.Subscript a i p) (.sub a i)
  | meth (o : Expr) (m : Str) (apos : Pos) (as : List Expr) (p : Pos) (h : plainBase o = true) (hl : (apos.endLine == p.line) = true) : IsV (.Call (.Attribute o m apos) as [] p) (.meth o m as)
  | call (f : Str) (q : Pos) (as : List Expr) (p : Pos) : IsV (.Call (.Name f q) as [] p) (.call f as)
  | comp (elt iter : Expr) (x : Str) (q : Pos) (ifs : List Expr) (scope : Scope) (p : Pos) : IsV (.ListComp elt [⟨.Name x q, iter, ifs, 0⟩] scope p) (.comp elt iter x ifs scope)
  | other (e : Expr) : IsV e .other

noncomputable def unV (op : UnaryOp) (a : Expr) : EV := match op with
  | .Not => .not a
  | .USub => .neg a
  | _ => .other
theorem unV_ok {op : UnaryOp} {a : Expr} {p : Pos} : IsV (.UnaryOp op a p) (unV op a) := by
  cases op <;> first | exact .not .. | exact .neg .. | exact .other _
noncomputable def cmpV (a : Expr) (ops : List CmpOp) (bs : List Expr) : EV := match ops with
  | [op] => match bs with
    | [b] => .cmp op a b
    | _ => .other
  | _ => .other
theorem cmpV_ok {a : Expr} {ops : List CmpOp} {bs : List Expr} {p : Pos} : IsV (.Compare a ops bs p) (cmpV a ops bs) := by
  rcases ops with _ | ⟨op, _ | _⟩ <;> first | exact .other _ | skip
  rcases bs with _ | ⟨b, _ | _⟩ <;> first | exact .other _ | exact .cmp ..
noncomputable def dicV (ks : List (Option Expr)) (vs : List Expr) : EV := match ks with
  | [] => match vs with
    | [] => .dic0
    | _ => .other
  | [some k] => match vs with
    | [v] => .dic1 k v
    | _ => .other
  | _ => .other
theorem dicV_ok {ks : List (Option Expr)} {vs : List Expr} {p : Pos} : IsV (.Dict ks vs p) (dicV ks vs) := by
  rcases ks with _ | ⟨_ | k, _ | _⟩ <;> rcases vs with _ | ⟨v, _ | _⟩ <;> first | exact .other _ | exact .dic0 .. | exact .dic1 ..
noncomputable def subV (a i : Expr) : EV := match i with
  | .Slice lo hi st _ => .slc a lo hi st
  | _ => .sub a i
theorem subV_ok {a i : Expr} {p : Pos} : IsV (.Subscript a i p) (subV a i) := by
  cases i <;> first | exact .slc .. | exact .sub ..
noncomputable def methV (b l : Bool) (o : Expr) (m : Str) (as : List Expr) : EV := match b with
  | true => match l with
    | true => .meth o m as
    | false => .other
  | false => .other
noncomputable def callV (f : Expr) (as : List Expr) (p : Pos) : EV := match f with
  | .Attribute o m apos => methV (plainBase o) (apos.endLine == p.line) o m as
  | .Name f _ => .call f as
  | _ => .other
theorem callV_ok {f : Expr} {as : List Expr} {p : Pos} : IsV (.Call f as [] p) (callV f as p) := by
  cases f <;> first | exact .call .. | exact .other _ | skip
  rename_i o m apos
  show IsV _ (methV (plainBase o) (apos.endLine == p.line) o m as)
  cases h : plainBase o <;> cases hl : (apos.endLine == p.line) <;> first | exact .other _ | exact .meth _ _ _ _ _ h hl
noncomputable def compV (elt : Expr) (gs : List Comprehension) (scope : Scope) : EV := match gs with
  | [⟨t, iter, ifs, n⟩] => match n with
    | .ofNat n => match n with
      | 0 => match t with
        | .Name x _ => .comp elt iter x ifs scope
        | _ => .other
      | _ => .other
    | _ => .other
  | _ => .other
theorem compV_ok {elt : Expr} {gs : List Comprehension} {scope : Scope} {p : Pos} : IsV (.ListComp elt gs scope p) (compV elt gs scope) := by
  rcases gs with _ | ⟨⟨t, iter, ifs, n⟩, _ | _⟩ <;> first | exact .other _ | skip
  rcases n with (_ | n) | n
  · cases t <;> first | exact .comp .. | exact .other _
  · exact .other _
  · exact .other _
noncomputable def viewE : Expr → EV
  | .Constant c _ _ => .cst c
  | .Name x _ => .name x
  | .UnaryOp op a _ => unV op a
  | .BinOp a op b _ => .bin op a b
  | .Compare a ops bs _ => cmpV a ops bs
  | .BoolOp op es _ => .bop op es
  | .IfExp c a b _ => .ite c a b
  | .List es _ => .lst es
  | .Tuple es _ _ => .tup es
  | .Dict ks vs _ => dicV ks vs
  | .Subscript a i _ => subV a i
  | .Call f as ks p => match ks with
    | [] => callV f as p
    | _ => .other
  | .ListComp elt gs scope _ => compV elt gs scope
  | _ => .other
theorem viewE_ok (e : Expr) : IsV e (viewE e) := by
  cases e <;> first | exact .other _ | exact .cst .. | exact .name .. | exact unV_ok | exact .bin .. | exact cmpV_ok | exact .bop .. | exact .ite .. | exact .lst .. | exact .tup .. | exact dicV_ok | exact subV_ok | exact compV_ok | skip
  rename_i f as ks p
  cases ks with
  | nil => exact callV_ok
  | cons _ _ => exact .other _

noncomputable def nameV : EV → Option Str
  | .name x => some x
  | _ => none
noncomputable def nameE (e : Expr) : Option Str := nameV (viewE e)
theorem nameE_inv {e : Expr} {x : Str} (h : nameE e = some x) : ∃ p, e = .Name x p := by
  have hv := viewE_ok e
  unfold nameE at h
  generalize viewE e = v at hv h
  cases hv <;> first | (cases h; exact ⟨_, rfl⟩) | (cases h; done)
noncomputable def strC : Const → Option Str
  | .str s => some s
  | _ => none
noncomputable def strV : EV → Option Str
  | .cst c => strC c
  | _ => none
noncomputable def strE (e : Expr) : Option Str := strV (viewE e)
theorem strE_inv {e : Expr} {x : Str} (h : strE e = some x) : ∃ k p, e = .Constant (.str x) k p := by
  have hv := viewE_ok e
  unfold strE at h
  generalize viewE e = v at hv h
  cases hv <;> first | (cases h; done) | skip
  rename_i c k p
  cases c <;> first | (cases h; exact ⟨_, _, rfl⟩) | (cases h; done)

noncomputable def rpl3 (a t : List Nat) : Option (Nat × List Nat) := match a with
  | [c] => match [c] == t with
    | true => none
    | false => some (c, t)
  | _ => none
noncomputable def rplOf (as : List Expr) : Option (Nat × List Nat) := match as with
  | [a, b] => match strE a with
    | some a => match strE b with
      | some b => rpl3 a.cps.toList b.cps.toList
      | none => none
    | none => none
  | _ => none

noncomputable def relab (scope sc : Scope) : Scope :=
  { scope with names := scope.names.map fun (n, k) => if (k == .free && sc.kind == .function && sc.names.lookup n == some .cell) then (n, .cell) else (n, k) }

noncomputable def compOk (scope sc : Scope) (x : Str) : Bool :=
  scope.kind == .function && sc.kind == .function &&
  scope.names.all (fun p => p.2 != .free || sc.names.lookup p.1 == some .cell) &&
  scope.names.all (fun p => scope.names.lookup p.1 == some p.2) &&
  isVarK (scope.names.lookup x) && !(x == (".0" : Str)) && !(x == ("__debug__" : Str)) &&
  scope.names.all (fun p => !(isVarK (some p.2)) || p.1 == x || p.1 == (".0" : Str)) &&
  (scope.names.lookup (".0" : Str) == some .local)

noncomputable def cxL (f : Expr → Option X) : List Expr → Option XL
  | [] => some .nil
  | e :: r => match f e, cxL f r with
    | some a, some l => some (.cons a l)
    | _, _ => Option.none

noncomputable def cxO (f : Expr → Option X) : Option Expr → Option X
  | Option.none => some (.cst .none)
  | some e => f e

noncomputable def cxSome (f : X → X) : Option X → Option X
  | some a => some (f a)
  | none => none
noncomputable def cxLs (f : XL → X) : Option XL → Option X
  | some a => some (f a)
  | none => none
noncomputable def cx2 (f : X → X → X) : Option X → Option X → Option X
  | some a, o => match o with
    | some b => some (f a b)
    | none => none
  | none, _ => none
noncomputable def cx3 (f : X → X → X → X) : Option X → Option X → Option X → Option X
  | some a, o, q => cx2 (f a) o q
  | none, _, _ => none
noncomputable def cx4 (f : X → X → X → X → X) : Option X → Option X → Option X → Option X → Option X
  | some a, o, q, r => cx3 (f a) o q r
  | none, _, _, _ => none
noncomputable def cxMeth (rec : Expr → Option X) (o : Expr) (m : Str) (as : List Expr) : Option X := match m == ("replace" : Str) with
  | true => match rec o with
    | some x => match rplOf as with
      | some (c, t) => some (.rpl x c t)
      | none => none
    | none => none
  | false => match mthOf m with
    | some m' => match rec o with
      | some x => match as with
        | [a] => match rec a with
          | some y => some (.mth m' x (.cons y .nil))
          | none => none
        | _ => none
      | none => none
    | none => none
noncomputable def cxCall (rec : Expr → Option X) (ft : List Str) (sc : Scope) (f : Str) (as : List Expr) : Option X := match isGlobK (sc.names.lookup f) with
  | true => match cxL rec as with
    | some l => match ft.findIdx? (· == f) with
      | some k => some (.call k l)
      | none => match bltOf f with
        | some b => some (.blt b l)
        | none => none
    | none => none
  | false => none
noncomputable def cxIfs (rec' : Expr → Option X) (i y : X) (ifs : List Expr) : Option X := match ifs with
  | [] => some (.comp y i (.cst (.bool true)))
  | [c] => obind (rec' c) fun z => some (.comp y i z)
  | _ => none
noncomputable def cxComp (rec : Expr → Option X) (rec' : Expr → Option X) (elt iter : Expr) (ifs : List Expr) : Option X := obind (rec iter) fun i => obind (rec' elt) fun y => cxIfs rec' i y ifs
noncomputable def cxCst : Option PV → Option X
  | some v => some (.cst v)
  | none => none
noncomputable def cxVar : Option Nat → Option X
  | some i => some (.var i)
  | none => none
noncomputable def cxV (rec : Scope → List Str → Expr → Option X) (ft : List Str) (sc : Scope) (vars : List Str) : EV → Option X
  | .cst c => cxCst (cstOf c)
  | .name x => cxVar (varAt sc vars x)
  | .not _ => none
  | .neg a => cxSome .neg (rec sc vars a)
  | .bin op a b => cx2 (.bin op) (rec sc vars a) (rec sc vars b)
  | .cmp op a b => cx2 (.cmp op) (rec sc vars a) (rec sc vars b)
  | .bop _ _ => none
  | .ite c a b => cx3 .ite (rec sc vars c) (rec sc vars a) (rec sc vars b)
  | .lst es => cxLs .lst (cxL (rec sc vars) es)
  | .tup es => cxLs .tup (cxL (rec sc vars) es)
  | .dic0 => some (.dic .nil)
  | .dic1 k v => cx2 (fun x y => .dic (.cons x (.cons y .nil))) (rec sc vars k) (rec sc vars v)
  | .slc a lo hi st => cx4 .slc (rec sc vars a) (cxO (rec sc vars) lo) (cxO (rec sc vars) hi) (cxO (rec sc vars) st)
  | .sub a i => cx2 .sub (rec sc vars a) (rec sc vars i)
  | .meth o m as => cxMeth (rec sc vars) o m as
  | .call f as => cxCall (rec sc vars) ft sc f as
  | .comp elt iter x ifs scope => ifz (compOk scope sc x) (cxComp (rec sc vars) (rec (relab scope sc) (x :: vars)) elt iter ifs)
  | .other => none
noncomputable def cx : Nat → List Str → Scope → List Str → Expr → Option X
  | 0, _, _, _, _ => none
  | n + 1, ft, sc, vars, e => cxV (cx n ft) ft sc vars (viewE e)

noncomputable def namesOf (sc : Scope) (vars : List Str) : List Expr → Option (List Nat)
  | [] => some []
  | e :: r => match nameE e with
    | some x => match varAt sc vars x with
      | some i => match namesOf sc vars r with
        | some l => some (i :: l)
        | none => none
      | none => none
    | none => none

noncomputable def csL (f : Stmt → Option S) : List Stmt → Option SL
  | [] => some .nil
  | e :: r => match f e, csL f r with
    | some a, some l => some (.cons a l)
    | _, _ => Option.none

noncomputable def isZip (e : Expr) : Option (Expr × Expr) := match viewE e with
  | .call f as => match f == ("zip" : Str) with
    | true => match as with
      | [a, b] => some (a, b)
      | _ => none
    | false => none
  | _ => none

noncomputable def isNilL (e : Expr) : Bool := match viewE e with
  | .lst es => match es with
    | [] => true
    | _ => false
  | _ => false
noncomputable def nilTwo : List Expr → Bool
  | [a, b] => isNilL a && isNilL b
  | _ => false
noncomputable def nilPair (v : Expr) : Bool := match viewE v with
  | .tup es => nilTwo es
  | _ => false
/-- a tuple whose stores the model can order -/
noncomputable def plainSwap : Expr → Bool
  | .Tuple vs _ _ => vs.all (foldedForSure 8) || !vs.all (constantsAlone 8)
  | .ListComp .. => false
  | _ => true

inductive SV where
  | asgN (y : Str) (v : Expr)
  | asgT (ts : List Expr) (v : Expr)
  | asgI (o : Str) (k v : Expr)
  | augN (y : Str) (op : Operator) (v : Expr)
  | augI (o : Str) (k : Expr) (op : Operator) (v : Expr)
  | app (o : Str) (a : Expr)
  | ret (v : Expr)
  | ite (c : Expr) (a b : List Stmt)
  | forN (y : Str) (it : Expr) (b : List Stmt)
  | forT (ts : List Expr) (it : Expr) (b : List Stmt)
  | whl (c : Expr) (b : List Stmt)
  | tr (b : List Stmt)
  | other
inductive IsS : Stmt → SV → Prop where
  | asgN (y : Str) (q : Pos) (v : Expr) (p : Pos) : IsS (.Assign [.Name y q] v p) (.asgN y v)
  | asgT (ts : List Expr) (k : Nat) (q : Pos) (v : Expr) (p : Pos) : IsS (.Assign [.Tuple ts k q] v p) (.asgT ts v)
  | asgI (o : Str) (q : Pos) (k : Expr) (r : Pos) (v : Expr) (p : Pos) : IsS (.Assign [.Subscript (.Name o q) k r] v p) (.asgI o k v)
  | augN (y : Str) (q : Pos) (op : Operator) (v : Expr) (p : Pos) : IsS (.AugAssign (.Name y q) op v p) (.augN y op v)
  | augI (o : Str) (q : Pos) (k : Expr) (r : Pos) (op : Operator) (v : Expr) (p : Pos) : IsS (.AugAssign (.Subscript (.Name o q) k r) op v p) (.augI o k op v)
  | app (o : Str) (q apos : Pos) (a : Expr) (cpos p : Pos) (hl : (apos.endLine == cpos.line) = true) : IsS (.Expr (.Call (.Attribute (.Name o q) "append" apos) [a] [] cpos) p) (.app o a)
  | ret (v : Expr) (p : Pos) : IsS (.Return (some v) p) (.ret v)
  | ite (c : Expr) (a b : List Stmt) (p : Pos) : IsS (.If c a b p) (.ite c a b)
  | forN (y : Str) (q : Pos) (it : Expr) (b : List Stmt) (p : Pos) : IsS (.For (.Name y q) it b [] p) (.forN y it b)
  | forT (ts : List Expr) (k : Nat) (q : Pos) (it : Expr) (b : List Stmt) (p : Pos) : IsS (.For (.Tuple ts k q) it b [] p) (.forT ts it b)
  | whl (c : Expr) (b : List Stmt) (p : Pos) : IsS (.While c b [] p) (.whl c b)
  | tr (b : List Stmt) (h : ExceptHandler) (hs : List ExceptHandler) (p : Pos) : IsS (.Try b (h :: hs) [] [] p) (.tr b)
  | other (s : Stmt) : IsS s .other

/-- a target -/
inductive TV where
  | name (y : Str)
  | tup (ts : List Expr)
  | item (o : Str) (k : Expr)
  | other
inductive IsT : Expr → TV → Prop where
  | name (y : Str) (q : Pos) : IsT (.Name y q) (.name y)
  | tup (ts : List Expr) (k : Nat) (q : Pos) : IsT (.Tuple ts k q) (.tup ts)
  | item (o : Str) (q : Pos) (k : Expr) (r : Pos) : IsT (.Subscript (.Name o q) k r) (.item o k)
  | other (e : Expr) : IsT e .other
noncomputable def itemT (o : Option Str) (k : Expr) : TV := match o with
  | some o => .item o k
  | none => .other
noncomputable def viewT : Expr → TV
  | .Name y _ => .name y
  | .Tuple ts _ _ => .tup ts
  | .Subscript o k _ => itemT (nameE o) k
  | _ => .other
theorem viewT_ok (e : Expr) : IsT e (viewT e) := by
  cases e <;> first | exact .other _ | exact .name .. | exact .tup .. | skip
  rename_i o k r
  show IsT _ (itemT (nameE o) k)
  cases h : nameE o with
  | none => exact .other _
  | some x => obtain ⟨q, rfl⟩ := nameE_inv h; exact .item ..
noncomputable def asg1 (v : Expr) : TV → SV
  | .name y => .asgN y v
  | .tup ts => .asgT ts v
  | .item o k => .asgI o k v
  | .other => .other
noncomputable def asgV (ts : List Expr) (v : Expr) : SV := match ts with
  | [t] => asg1 v (viewT t)
  | _ => .other
theorem asgV_ok {ts : List Expr} {v : Expr} {p : Pos} : IsS (.Assign ts v p) (asgV ts v) := by
  rcases ts with _ | ⟨t, _ | _⟩ <;> first | exact .other _ | skip
  have h := viewT_ok t
  show IsS _ (asg1 v (viewT t))
  generalize viewT t = w at h ⊢
  cases h <;> first | exact .asgN .. | exact .asgT .. | exact .asgI .. | exact .other _
noncomputable def aug1 (op : Operator) (v : Expr) : TV → SV
  | .name y => .augN y op v
  | .item o k => .augI o k op v
  | _ => .other
noncomputable def augV (t : Expr) (op : Operator) (v : Expr) : SV := aug1 op v (viewT t)
theorem augV_ok {t : Expr} {op : Operator} {v : Expr} {p : Pos} : IsS (.AugAssign t op v p) (augV t op v) := by
  have h := viewT_ok t
  unfold augV
  generalize viewT t = w at h ⊢
  cases h <;> first | exact .augN .. | exact .augI .. | exact .other _
noncomputable def for1 (it : Expr) (b : List Stmt) : TV → SV
  | .name y => .forN y it b
  | .tup ts => .forT ts it b
  | _ => .other
noncomputable def forV (t it : Expr) (b els : List Stmt) : SV := match els with
  | [] => for1 it b (viewT t)
  | _ => .other
theorem forV_ok {t it : Expr} {b els : List Stmt} {p : Pos} : IsS (.For t it b els p) (forV t it b els) := by
  cases els with
  | cons _ _ => exact .other _
  | nil =>
    have h := viewT_ok t
    show IsS _ (for1 it b (viewT t))
    generalize viewT t = w at h ⊢
    cases h <;> first | exact .forN .. | exact .forT .. | exact .other _
noncomputable def appV (o : Option Str) (m : Str) (l : Bool) (as : List Expr) : SV := match o with
  | some o => match m == ("append" : Str) with
    | true => match l with
      | true => match as with
        | [a] => .app o a
        | _ => .other
      | false => .other
    | false => .other
  | none => .other
noncomputable def appF (f : Expr) (as : List Expr) (cpos : Pos) : SV := match f with
  | .Attribute o m apos => appV (nameE o) m (apos.endLine == cpos.line) as
  | _ => .other
noncomputable def exprV (e : Expr) : SV := match e with
  | .Call f as ks cpos => match ks with
    | [] => appF f as cpos
    | _ => .other
  | _ => .other
theorem exprV_ok {e : Expr} {p : Pos} : IsS (.Expr e p) (exprV e) := by
  cases e <;> first | exact .other _ | skip
  rename_i f as ks cpos
  cases ks with
  | cons _ _ => exact .other _
  | nil =>
    cases f <;> first | exact .other _ | skip
    rename_i o m apos
    show IsS _ (appV (nameE o) m (apos.endLine == cpos.line) as)
    cases h : nameE o with
    | none => exact .other _
    | some x =>
      obtain ⟨q, rfl⟩ := nameE_inv h
      unfold appV
      dsimp only
      cases hm : m == ("append" : Str) with
      | false => exact .other _
      | true =>
        have hm := eq_of_beq hm
        subst hm
        cases hl : apos.endLine == cpos.line with
        | false => exact .other _
        | true => rcases as with _ | ⟨a, _ | _⟩ <;> first | exact .other _ | exact .app _ _ _ _ _ _ hl
noncomputable def retV : Option Expr → SV
  | some v => .ret v
  | none => .other
noncomputable def whlV (c : Expr) (b els : List Stmt) : SV := match els with
  | [] => .whl c b
  | _ => .other
noncomputable def trV (b : List Stmt) (hs : List ExceptHandler) (els fin : List Stmt) : SV := match hs with
  | _ :: _ => match els with
    | [] => match fin with
      | [] => .tr b
      | _ => .other
    | _ => .other
  | [] => .other
noncomputable def viewS : Stmt → SV
  | .Assign ts v _ => asgV ts v
  | .AugAssign t op v _ => augV t op v
  | .Expr e _ => exprV e
  | .Return v _ => retV v
  | .If c a b _ => .ite c a b
  | .For t it b els _ => forV t it b els
  | .While c b els _ => whlV c b els
  | .Try b hs els fin _ => trV b hs els fin
  | _ => .other
theorem viewS_ok (s : Stmt) : IsS s (viewS s) := by
  cases s <;> first | exact .other _ | exact asgV_ok | exact augV_ok | exact exprV_ok | exact .ite .. | exact forV_ok | skip
  · rename_i v p
    cases v with
    | none => exact .other _
    | some v => exact .ret ..
  · rename_i c b els p
    cases els with
    | nil => exact .whl ..
    | cons _ _ => exact .other _
  · rename_i b hs els fin p
    rcases hs with _ | ⟨h, hs⟩ <;> rcases els with _ | ⟨_, _⟩ <;> rcases fin with _ | ⟨_, _⟩ <;> first | exact .other _ | exact .tr ..

noncomputable def s1 (f : X → S) : Option X → Option S
  | some a => some (f a)
  | none => none
noncomputable def s2 (f : X → X → S) : Option X → Option X → Option S
  | some a, o => s1 (f a) o
  | none, _ => none
noncomputable def sAt (o : Option Nat) (f : Nat → Option S) : Option S := match o with
  | some i => f i
  | none => none
noncomputable def sIs (o : Option (List Nat)) (f : List Nat → Option S) : Option S := match o with
  | some i => f i
  | none => none
noncomputable def sL (f : SL → S) : Option SL → Option S
  | some a => some (f a)
  | none => none
noncomputable def sX (o : Option X) (f : X → Option S) : Option S := match o with
  | some i => f i
  | none => none
noncomputable def sLL (o : Option SL) (f : SL → Option S) : Option S := match o with
  | some i => f i
  | none => none
noncomputable def sIf (b : Bool) (o : Option S) : Option S := match b with
  | true => o
  | false => none
noncomputable def zipS (ce : Expr → Option X) (is : List Nat) (p : Option (Expr × Expr)) (body : SL) : Option S := match is with
  | [i, j] => match p with
    | some (e1, e2) => s2 (fun x y => .frz i j x y body) (ce e1) (ce e2)
    | none => none
  | _ => none
noncomputable def csV (zp : Bool) (rec : Stmt → Option S) (ce : Expr → Option X) (sc : Scope) (vars : List Str) : SV → Option S
  | .asgN y v => sAt (varAt sc vars y) fun i => s1 (.asg i true) (ce v)
  | .asgT ts v => sIf (!(nilPair v) && (plainSwap v && (Nat.ble 2 ts.length && Nat.ble ts.length 3))) (sIs (namesOf sc vars ts) fun is => s1 (.unp is false) (ce v))
  | .asgI o k v => sAt (varAt sc vars o) fun i => s2 (.setI i) (ce k) (ce v)
  | .augN _ _ _ => none
  | .augI o k op v => sAt (varAt sc vars o) fun i => s2 (fun a e => .augI i a op e) (ce k) (ce v)
  | .app o a => sAt (varAt sc vars o) fun i => s1 (.app i) (ce a)
  | .ret v => s1 .ret (ce v)
  | .ite c a b => sX (ce c) fun x => sLL (csL rec a) fun y => sL (.ite x y) (csL rec b)
  | .forN y it b => sAt (varAt sc vars y) fun i => sX (ce it) fun e => sL (.fr [i] e) (csL rec b)
  | .forT ts it b => sIf (zp && isGlobK (sc.names.lookup ("zip" : Str))) (sIs (namesOf sc vars ts) fun is => sLL (csL rec b) fun body => zipS ce is (isZip it) body)
  | .whl c b => sX (ce c) fun x => sL (.whl x) (csL rec b)
  | .tr b => sL .tr (csL rec b)
  | .other => none
noncomputable def cs (zp : Bool) : Nat → List Str → Scope → List Str → Stmt → Option S
  | 0, _, _, _, _ => none
  | n + 1, ft, sc, vars, st => csV zp (cs zp n ft sc vars) (cx n ft sc vars) sc vars (viewS st)

structure Fn where
  np : Nat
  nv : Nat
  body : SL

noncomputable def varsOf (ps : List Str) (sc : Scope) : List Str := ps ++ ((sc.names.filter fun p => isVarK (some p.2) && !(ps.contains p.1)).map (·.1))

noncomputable def paramsOf : Arguments → Option (List Str)
  | ⟨[], as, Option.none, [], [], Option.none, []⟩ => some (as.map (·.arg))
  | _ => Option.none

noncomputable def run (C : Orc) (f : Fn) (args : List PV) : Option PV :=
  if args.length == f.np then
    match exs C f.body (args.map .v ++ List.replicate (f.nv - f.np) .no) with
    | some (.ret v) => some v
    | _ => Option.none
  else Option.none

end Mine
namespace Mine
open PySem PyProof.Rows

/-- the fixed part: the program, the world, the top's names -/
structure Cx where
  prog : Program
  w : World
  p : Program
  loose : List Str
  mean : ExcName → Option Value
  mg : Str → Option Value
  mb : Str → Option Value

abbrev Cx.M (K : Cx) : Model := model K.prog K.w
structure Cx.T (K : Cx) (h : Heap) : Prop where
  top : Top K.p K.loose K.mean K.mg K.mb h
  nb : PySem.NoneBooked h
theorem Cx.T.keep {K : Cx} {h h' : Heap} (e : K.T h) (hk : ∀ b o, h.get? b = some o → h'.get? b = some o) : K.T h' :=
  ⟨e.top.keeps hk, let ⟨mc, a, b⟩ := e.nb; ⟨mc, a.keeps hk, b⟩⟩

/-- which float a token stands for -/
abbrev Tk := Tok → UInt64 → Prop
structure TokOk (s : Shared) (τ : Tk) : Prop where
  pos : 0 < s.toks
  bound : ∀ t x, τ t x → 0 < t ∧ t < s.toks
  inj : ∀ t x y, τ t x → τ t y → x = y
/-- heap and tokens -/
structure Hp where
  h : Heap
  τ : Tk

/-- wpAny, shut: so that no elaborator looks into it -/
structure Wp {α : Type} (M : Model) (A : Around) (t : Sem α) (Q : α → Shared → Prop) (E : Value → Shared → Prop) (s : Shared) : Prop where
  out : wpAny M A t Q E s
structure Cp (M : Model) (A : Around) (c : Code) (R : Result → Shared → Prop) (s : Shared) : Prop where
  out : codeAny M A c R s

noncomputable def PL (h : Heap) (a : Addr) (vs : List Value) : Prop := ∃ n, h.get? a = some { cls := .type "list", data := .seq vs.toArray n }
noncomputable def PT (h : Heap) (a : Addr) (vs : List Value) : Prop := ∃ n, h.get? a = some { cls := .type "tuple", data := .seq vs.toArray n }

abbrev sOf (l : List Nat) : Str := ⟨l.toArray⟩

noncomputable def PD (K : Cx) (h : Heap) (a : Addr) (kvs : List (Str × Value)) : Prop := h.DictOf (PySem.strKind K.prog K.w) a kvs ∧ (a == sysModules) = false

mutual
noncomputable def Rd (K : Cx) (g : Hp) (X : Addr → Prop) : Value → PV → Prop
  | v, .none => v = .none
  | v, .bool b => v = .bool b
  | v, .int i => ∃ t, v = .int i t
  | v, .flt x => ∃ t, v = .float x t ∧ g.τ t x
  | v, .str l => ∃ t, v = .str (sOf l) t
  | v, .list l => ∃ a vs, v = .ref a ∧ ¬ X a ∧ PL g.h a vs ∧ RdL K g X vs l
  | v, .tup l => ∃ a vs, v = .ref a ∧ ¬ X a ∧ PT g.h a vs ∧ RdL K g X vs l
  | v, .dict l => ∃ a kvs, v = .ref a ∧ ¬ X a ∧ PD K g.h a kvs ∧ RdD K g X kvs l
  | v, .rng n => ∃ a t u r, v = .ref a ∧ ¬ X a ∧ PySem.IsRange g.h a 0 n 1 t u r
noncomputable def RdL (K : Cx) (g : Hp) (X : Addr → Prop) : List Value → List PV → Prop
  | vs, [] => vs = []
  | vs, p :: l => ∃ v r, vs = v :: r ∧ Rd K g X v p ∧ RdL K g X r l
noncomputable def RdD (K : Cx) (g : Hp) (X : Addr → Prop) : List (Str × Value) → List (List Nat × PV) → Prop
  | vs, [] => vs = []
  | vs, (k, p) :: l => ∃ v r, vs = (sOf k, v) :: r ∧ Rd K g X v p ∧ RdD K g X r l
end

/-- the same of a name's own object: its items keep off X, it itself may be in it -/
noncomputable def RdTop (K : Cx) (g : Hp) (X : Addr → Prop) (a : Addr) : PV → Prop
  | .list l => ∃ vs, PL g.h a vs ∧ RdL K g X vs l
  | .dict l => ∃ kvs, PD K g.h a kvs ∧ RdD K g X kvs l
  | _ => False

/-- the state grows -/
structure Ext (s : Shared) (τ : Tk) (s' : Shared) (τ' : Tk) : Prop where
  gens : s'.gens = s.gens
  os : s'.os = s.os
  keep : ∀ b o, s.heap.get? b = some o → s'.heap.get? b = some o
  sub : ∀ t x, τ t x → τ' t x
  ok : TokOk s' τ'

theorem TokOk.le {s s' : Shared} {τ : Tk} (e : TokOk s τ) (h : s.toks ≤ s'.toks) : TokOk s' τ := ⟨Nat.lt_of_lt_of_le e.pos h, fun t x q => ⟨(e.bound t x q).1, Nat.lt_of_lt_of_le (e.bound t x q).2 h⟩, e.inj⟩
theorem Ext.refl {s : Shared} {τ : Tk} (h : TokOk s τ) : Ext s τ s τ := ⟨rfl, rfl, fun _ _ e => e, fun _ _ e => e, h⟩
theorem Ext.trans {s s' s'' : Shared} {τ τ' τ'' : Tk} (a : Ext s τ s' τ') (b : Ext s' τ' s'' τ'') : Ext s τ s'' τ'' :=
  ⟨b.gens.trans a.gens, b.os.trans a.os, fun x o e => b.keep x o (a.keep x o e), fun t x e => b.sub t x (a.sub t x e), b.ok⟩
theorem Ext.of {s : Shared} {τ : Tk} {h : Heap} {t : Nat} (k : ∀ b o, s.heap.get? b = some o → h.get? b = some o) (T : TokOk s τ) (hle : s.toks ≤ t) : Ext s τ { s with heap := h, toks := t } τ :=
  ⟨rfl, rfl, k, fun _ _ e => e, T.le hle⟩
theorem Ext.tok {s : Shared} {τ : Tk} (T : TokOk s τ) {t : Nat} (hle : s.toks ≤ t) : Ext s τ { s with toks := t } τ := ⟨rfl, rfl, fun _ _ e => e, fun _ _ e => e, T.le hle⟩
theorem Ext.tok1 {s : Shared} {τ : Tk} (T : TokOk s τ) : Ext s τ { s with toks := s.toks + 1 } τ := .tok T (Nat.le_succ _)
theorem Ext.push {s : Shared} {τ : Tk} {o : Obj} (T : TokOk s τ) : Ext s τ { s with heap := s.heap.push o } τ := ⟨rfl, rfl, fun _ _ e => Heap.get?_push_of_some _ e, fun _ _ e => e, T.le (Nat.le_refl _)⟩
theorem Ext.heap {s : Shared} {τ : Tk} {h : Heap} (T : TokOk s τ) (k : ∀ b o, s.heap.get? b = some o → h.get? b = some o) : Ext s τ { s with heap := h } τ := ⟨rfl, rfl, k, fun _ _ e => e, T.le (Nat.le_refl _)⟩
/-- a new float -/
noncomputable def addTk (τ : Tk) (t : Tok) (x : UInt64) : Tk := fun u y => τ u y ∨ (u = t ∧ y = x)
theorem Ext.flt {s : Shared} {τ : Tk} (T : TokOk s τ) (x : UInt64) : Ext s τ { s with toks := s.toks + 1 } (addTk τ s.toks x) :=
  ⟨rfl, rfl, fun _ _ e => e, fun _ _ e => .inl e, ⟨Nat.succ_pos _, fun t y q => q.elim (fun q => ⟨(T.bound t y q).1, Nat.lt_succ_of_lt (T.bound t y q).2⟩) (fun q => by rw [q.1]; exact ⟨T.pos, Nat.lt_succ_self _⟩),
    fun t y z q r => by
      rcases q with q | ⟨e1, e2⟩
      · rcases r with r | ⟨e3, e4⟩
        · exact T.inj t y z q r
        · exact absurd (e3 ▸ (T.bound t y q).2) (Nat.lt_irrefl _)
      · rcases r with r | ⟨e3, e4⟩
        · exact absurd (e1 ▸ (T.bound t z r).2) (Nat.lt_irrefl _)
        · rw [e2, e4]⟩⟩

section
variable {α β : Type} {M : Model} {A : Around} {E : Value → Shared → Prop} {s : Shared}
theorem Wp.bind {m : Sem α} {f : α → Sem β} {Q : β → Shared → Prop} (h : Wp M A m (fun a s' => Wp M A (f a) Q E s') E s) : Wp M A (m >>= f) Q E s :=
  ⟨wpAny_bind (wpAny_mono h.out (fun _ _ x => x.out) fun _ _ x => x)⟩
theorem Wp.pure {a : α} {Q : α → Shared → Prop} (h : Q a s) : Wp M A (Pure.pure a) Q E s := ⟨wpAny_pure h⟩
theorem Wp.stand {pos : Pos} {Q : Unit → Shared → Prop} (h : Q () s) : Wp M A (standAt pos) Q E s := ⟨wpAny_standAt h⟩
theorem Wp.holding {vs : List Value} {m : Sem α} {Q : α → Shared → Prop} (h : Wp M A m Q E s) : Wp M A (PySem.holding vs m) Q E s := ⟨wpAny_holding h.out⟩
theorem Wp.of_eq {t : Sem α} {a : α} {Q : α → Shared → Prop} (e : t = Pure.pure a) (h : Q a s) : Wp M A t Q E s := by rw [e]; exact .pure h
theorem Wp.untok {t : Sem α} {Q : α → Shared → Prop} (h : Wp M A t (fun a s' => s.toks ≤ s'.toks → Q a s') E s) : Wp M A t Q E s :=
  ⟨wpAny_mono (wpAny_toks_of (Nat.le_refl _) h.out) (fun _ _ x => x.2 x.1) fun _ _ x => x.2⟩
theorem Wp.operate {vs : List Value} {m : Sem Value} {Q : Value → Shared → Prop} (h : Wp M A m Q E s) : Wp M A (PySem.operate vs m) Q E s := ⟨wpAny_operating h.out⟩
end

section
variable {K : Cx} {g g' : Hp} {X Y : Addr → Prop}

-- keeping, and keeping off less
mutual
theorem Rd.mono (hk : ∀ b o, ¬ Y b → g.h.get? b = some o → g'.h.get? b = some o) (ht : ∀ t x, g.τ t x → g'.τ t x) (hY : ∀ a, Y a → X a) : ∀ {p : PV} {v : Value}, Rd K g X v p → Rd K g' Y v p
  | .none, _, e => e
  | .bool _, _, e => e
  | .int _, _, e => e
  | .flt _, _, e => let ⟨t, a, b⟩ := e; ⟨t, a, ht _ _ b⟩
  | .str _, _, e => e
  | .list l, _, e => by
    obtain ⟨a, vs, rfl, hx, ⟨n, hp⟩, hl⟩ := e
    exact ⟨a, vs, rfl, fun y => hx (hY a y), ⟨n, hk _ _ (fun y => hx (hY a y)) hp⟩, RdL.mono hk ht hY hl⟩
  | .tup l, _, e => by
    obtain ⟨a, vs, rfl, hx, ⟨n, hp⟩, hl⟩ := e
    exact ⟨a, vs, rfl, fun y => hx (hY a y), ⟨n, hk _ _ (fun y => hx (hY a y)) hp⟩, RdL.mono hk ht hY hl⟩
  | .dict l, _, e => by
    obtain ⟨a, kvs, rfl, hx, ⟨⟨o, es, ep, ho, r⟩, hs⟩, hl⟩ := e
    exact ⟨a, kvs, rfl, fun y => hx (hY a y), ⟨⟨o, es, ep, hk _ _ (fun y => hx (hY a y)) ho, r⟩, hs⟩, RdD.mono hk ht hY hl⟩
  | .rng n, _, e => by
    obtain ⟨a, t, u, r, rfl, hx, ho⟩ := e
    exact ⟨a, t, u, r, rfl, fun y => hx (hY a y), hk _ _ (fun y => hx (hY a y)) ho⟩
theorem RdL.mono (hk : ∀ b o, ¬ Y b → g.h.get? b = some o → g'.h.get? b = some o) (ht : ∀ t x, g.τ t x → g'.τ t x) (hY : ∀ a, Y a → X a) : ∀ {l : List PV} {vs : List Value}, RdL K g X vs l → RdL K g' Y vs l
  | [], _, e => e
  | p :: l, _, e => by
    obtain ⟨v, r, rfl, h1, h2⟩ := e
    exact ⟨v, r, rfl, Rd.mono hk ht hY h1, RdL.mono hk ht hY h2⟩
theorem RdD.mono (hk : ∀ b o, ¬ Y b → g.h.get? b = some o → g'.h.get? b = some o) (ht : ∀ t x, g.τ t x → g'.τ t x) (hY : ∀ a, Y a → X a) : ∀ {l : List (List Nat × PV)} {vs : List (Str × Value)}, RdD K g X vs l → RdD K g' Y vs l
  | [], _, e => e
  | (k, p) :: l, _, e => by
    obtain ⟨v, r, rfl, h1, h2⟩ := e
    exact ⟨v, r, rfl, Rd.mono hk ht hY h1, RdD.mono hk ht hY h2⟩
end

-- keeping off one more that is not there
mutual
theorem Rd.more {N : Addr → Prop} (ha : ∀ a, N a → g.h.get? a = none) : ∀ {p : PV} {v : Value}, Rd K g X v p → Rd K g (fun b => X b ∨ N b) v p
  | .none, _, e => e
  | .bool _, _, e => e
  | .int _, _, e => e
  | .flt _, _, e => e
  | .str _, _, e => e
  | .list l, _, e => by
    obtain ⟨b, vs, rfl, hx, ⟨n, hp⟩, hl⟩ := e
    exact ⟨b, vs, rfl, fun y => Or.elim y hx (fun y => by rw [ha b y] at hp; cases hp), ⟨n, hp⟩, RdL.more ha hl⟩
  | .tup l, _, e => by
    obtain ⟨b, vs, rfl, hx, ⟨n, hp⟩, hl⟩ := e
    exact ⟨b, vs, rfl, fun y => Or.elim y hx (fun y => by rw [ha b y] at hp; cases hp), ⟨n, hp⟩, RdL.more ha hl⟩
  | .dict l, _, e => by
    obtain ⟨b, kvs, rfl, hx, ⟨⟨o, es, ep, ho, r⟩, hs⟩, hl⟩ := e
    exact ⟨b, kvs, rfl, fun y => Or.elim y hx (fun y => by rw [ha b y] at ho; cases ho), ⟨⟨o, es, ep, ho, r⟩, hs⟩, RdD.more ha hl⟩
  | .rng n, _, e => by
    obtain ⟨b, t, u, r, rfl, hx, ho⟩ := e
    exact ⟨b, t, u, r, rfl, fun y => Or.elim y hx (fun y => by unfold PySem.IsRange at ho; rw [ha b y] at ho; cases ho), ho⟩
theorem RdL.more {N : Addr → Prop} (ha : ∀ a, N a → g.h.get? a = none) : ∀ {l : List PV} {vs : List Value}, RdL K g X vs l → RdL K g (fun b => X b ∨ N b) vs l
  | [], _, e => e
  | p :: l, _, e => by
    obtain ⟨v, r, rfl, h1, h2⟩ := e
    exact ⟨v, r, rfl, Rd.more ha h1, RdL.more ha h2⟩
theorem RdD.more {N : Addr → Prop} (ha : ∀ a, N a → g.h.get? a = none) : ∀ {l : List (List Nat × PV)} {vs : List (Str × Value)}, RdD K g X vs l → RdD K g (fun b => X b ∨ N b) vs l
  | [], _, e => e
  | (k, p) :: l, _, e => by
    obtain ⟨v, r, rfl, h1, h2⟩ := e
    exact ⟨v, r, rfl, Rd.more ha h1, RdD.more ha h2⟩
end

theorem Rd.keep (hk : ∀ b o, g.h.get? b = some o → g'.h.get? b = some o) (ht : ∀ t x, g.τ t x → g'.τ t x) {p : PV} {v : Value} (e : Rd K g X v p) : Rd K g' X v p := Rd.mono (fun b o _ => hk b o) ht (fun _ y => y) e
theorem RdL.keep (hk : ∀ b o, g.h.get? b = some o → g'.h.get? b = some o) (ht : ∀ t x, g.τ t x → g'.τ t x) {p : List PV} {v : List Value} (e : RdL K g X v p) : RdL K g' X v p := RdL.mono (fun b o _ => hk b o) ht (fun _ y => y) e
theorem Rd.less (hY : ∀ a, Y a → X a) {p : PV} {v : Value} (e : Rd K g X v p) : Rd K g Y v p := Rd.mono (fun _ _ _ x => x) (fun _ _ x => x) hY e
theorem RdL.less (hY : ∀ a, Y a → X a) {p : List PV} {v : List Value} (e : RdL K g X v p) : RdL K g Y v p := RdL.mono (fun _ _ _ x => x) (fun _ _ x => x) hY e
theorem RdD.less (hY : ∀ a, Y a → X a) {p : List (List Nat × PV)} {v : List (Str × Value)} (e : RdD K g X v p) : RdD K g Y v p := RdD.mono (fun _ _ _ x => x) (fun _ _ x => x) hY e

theorem RdL.length : ∀ {l : List PV} {vs : List Value}, RdL K g X vs l → vs.length = l.length
  | [], _, e => by cases e; rfl
  | p :: l, _, e => by
    obtain ⟨v, r, rfl, _, h2⟩ := e
    simp [RdL.length h2]
theorem RdL.get : ∀ {l : List PV} {vs : List Value} {i : Nat} {p : PV}, RdL K g X vs l → l[i]? = some p → ∃ v, vs[i]? = some v ∧ Rd K g X v p
  | [], _, _, _, _, e => by simp at e
  | q :: l, _, 0, p, e, g => by
    obtain ⟨v, r, rfl, h1, _⟩ := e
    simp at g; subst g
    exact ⟨v, by simp, h1⟩
  | q :: l, _, i + 1, p, e, g => by
    obtain ⟨v, r, rfl, _, h2⟩ := e
    simp at g
    obtain ⟨v', e1, e2⟩ := RdL.get h2 g
    exact ⟨v', by simpa using e1, e2⟩
theorem RdL.get' : ∀ {l : List PV} {vs : List Value} {i : Nat} {v : Value}, RdL K g X vs l → vs[i]? = some v → ∃ p, l[i]? = some p ∧ Rd K g X v p
  | [], _, _, _, e, g => by cases e; simp at g
  | q :: l, _, 0, p, e, g => by
    obtain ⟨v, r, rfl, h1, _⟩ := e
    simp at g; subst g
    exact ⟨q, by simp, h1⟩
  | q :: l, _, i + 1, p, e, g => by
    obtain ⟨v, r, rfl, _, h2⟩ := e
    simp at g
    obtain ⟨v', e1, e2⟩ := RdL.get' h2 g
    exact ⟨v', by simpa using e1, e2⟩
theorem RdL.append : ∀ {l m : List PV} {vs ws : List Value}, RdL K g X vs l → RdL K g X ws m → RdL K g X (vs ++ ws) (l ++ m)
  | [], _, _, _, e, f => by cases e; exact f
  | p :: l, m, _, ws, e, f => by
    obtain ⟨v, r, rfl, h1, h2⟩ := e
    exact ⟨v, r ++ ws, rfl, h1, RdL.append h2 f⟩
theorem RdL.take : ∀ {l : List PV} {vs : List Value} (k : Nat), RdL K g X vs l → RdL K g X (vs.take k) (l.take k)
  | _, _, 0, _ => by simp [RdL]
  | [], _, _ + 1, e => by cases e; simp [RdL]
  | p :: l, _, k + 1, e => by
    obtain ⟨v, r, rfl, h1, h2⟩ := e
    exact ⟨v, r.take k, rfl, h1, RdL.take k h2⟩
theorem RdL.drop : ∀ {l : List PV} {vs : List Value} (k : Nat), RdL K g X vs l → RdL K g X (vs.drop k) (l.drop k)
  | _, _, 0, e => by simpa using e
  | [], _, _ + 1, e => by cases e; simp [RdL]
  | p :: l, _, k + 1, e => by
    obtain ⟨v, r, rfl, h1, h2⟩ := e
    simpa using RdL.drop k h2
theorem RdL.single {v : Value} {p : PV} (e : Rd K g X v p) : RdL K g X [v] [p] := ⟨v, [], rfl, e, rfl⟩
theorem RdL.reverse : ∀ {l : List PV} {vs : List Value}, RdL K g X vs l → RdL K g X vs.reverse l.reverse
  | [], _, e => by cases e; simp [RdL]
  | p :: l, _, e => by
    obtain ⟨v, r, rfl, h1, h2⟩ := e
    rw [List.reverse_cons, List.reverse_cons]
    exact RdL.append (RdL.reverse h2) (RdL.single h1)
theorem RdL.set : ∀ {l : List PV} {vs : List Value} (i : Nat) {v : Value} {p : PV}, RdL K g X vs l → Rd K g X v p → RdL K g X (vs.set i v) (l.set i p)
  | [], _, _, _, _, e, _ => by cases e; simp [RdL]
  | q :: l, _, 0, w, p, e, f => by
    obtain ⟨v, r, rfl, h1, h2⟩ := e
    exact ⟨w, r, rfl, f, h2⟩
  | q :: l, _, i + 1, w, p, e, f => by
    obtain ⟨v, r, rfl, h1, h2⟩ := e
    exact ⟨v, r.set i w, rfl, h1, RdL.set i h2 f⟩
theorem RdL.rep : ∀ {l : List PV} {vs : List Value} (k : Nat), RdL K g X vs l → RdL K g X (Mine.rep vs k) (Mine.rep l k)
  | _, _, 0, _ => rfl
  | _, _, k + 1, e => RdL.append e (RdL.rep k e)

theorem RdL.of_get : ∀ {l : List PV} {vs : List Value}, vs.length = l.length → (∀ (i : Nat) v p, vs[i]? = some v → l[i]? = some p → Rd K g X v p) → RdL K g X vs l
  | [], [], _, _ => rfl
  | p :: l, v :: vs, hn, h => ⟨v, vs, rfl, h 0 v p rfl rfl, RdL.of_get (by simpa using hn) fun i v' p' h1 h2 => h (i + 1) v' p' (by simpa using h1) (by simpa using h2)⟩

theorem PL.isList {h : Heap} {a : Addr} {vs : List Value} (e : PL h a vs) : h.IsList a vs.toArray := let ⟨n, x⟩ := e; ⟨_, x, rfl, n, rfl⟩
theorem PT.isTuple {h : Heap} {a : Addr} {vs : List Value} (e : PT h a vs) : h.IsTuple a vs.toArray := let ⟨n, x⟩ := e; ⟨_, x, rfl, n, rfl⟩
theorem PL.keep {h h' : Heap} {a : Addr} {vs : List Value} (e : PL h a vs) (hk : ∀ b o, h.get? b = some o → h'.get? b = some o) : PL h' a vs := let ⟨n, x⟩ := e; ⟨n, hk _ _ x⟩
theorem RdTop.mono {a : Addr} (hk : ∀ b o, ¬ Y b ∨ b = a → g.h.get? b = some o → g'.h.get? b = some o) (ht : ∀ t x, g.τ t x → g'.τ t x) (hY : ∀ a, Y a → X a) : ∀ {p : PV}, RdTop K g X a p → RdTop K g' Y a p
  | .list l, e => by
    obtain ⟨vs, ⟨n, hp⟩, hl⟩ := e
    exact ⟨vs, ⟨n, hk _ _ (.inr rfl) hp⟩, RdL.mono (fun b o hb => hk b o (.inl hb)) ht hY hl⟩
  | .dict l, e => by
    obtain ⟨kvs, ⟨⟨o, es, ep, ho, r⟩, hs⟩, hl⟩ := e
    exact ⟨kvs, ⟨⟨o, es, ep, hk _ _ (.inr rfl) ho, r⟩, hs⟩, RdD.mono (fun b o hb => hk b o (.inl hb)) ht hY hl⟩
theorem RdTop.keep {a : Addr} (hk : ∀ b o, g.h.get? b = some o → g'.h.get? b = some o) (ht : ∀ t x, g.τ t x → g'.τ t x) {p : PV} (e : RdTop K g X a p) : RdTop K g' X a p := RdTop.mono (fun b o _ => hk b o) ht (fun _ y => y) e
theorem RdTop.more {a : Addr} {N : Addr → Prop} (hc : ∀ a, N a → g.h.get? a = none) : ∀ {p : PV}, RdTop K g X a p → RdTop K g (fun b => X b ∨ N b) a p
  | .list l, e => by
    obtain ⟨vs, hp, hl⟩ := e
    exact ⟨vs, hp, RdL.more hc hl⟩
  | .dict l, e => by
    obtain ⟨kvs, hp, hl⟩ := e
    exact ⟨kvs, hp, RdD.more hc hl⟩
theorem RdTop.rd {a : Addr} (hY : ∀ a, Y a → X a) (ha : ¬ Y a) : ∀ {p : PV}, RdTop K g X a p → Rd K g Y (.ref a) p
  | .list l, e => by
    obtain ⟨vs, hp, hl⟩ := e
    exact ⟨a, vs, rfl, ha, hp, RdL.less hY hl⟩
  | .dict l, e => by
    obtain ⟨kvs, hp, hl⟩ := e
    exact ⟨a, kvs, rfl, ha, hp, RdD.less hY hl⟩
theorem RdTop.live {a : Addr} : ∀ {p : PV}, RdTop K g X a p → ∃ o, g.h.get? a = some o
  | .list l, e => by obtain ⟨vs, ⟨n, hp⟩, hl⟩ := e; exact ⟨_, hp⟩
  | .dict l, e => by obtain ⟨kvs, ⟨⟨o, es, ep, ho, r⟩, hs⟩, hl⟩ := e; exact ⟨_, ho⟩
end

section
variable {K : Cx} {X : Addr → Prop} {s s' : Shared} {τ τ' : Tk} {h h' : Heap}
theorem Rd.ext (x : Ext s τ s' τ') {p : PV} {v : Value} (e : Rd K ⟨s.heap, τ⟩ X v p) : Rd K ⟨s'.heap, τ'⟩ X v p := Rd.keep (g := ⟨s.heap, τ⟩) (g' := ⟨s'.heap, τ'⟩) x.keep x.sub e
theorem RdL.ext (x : Ext s τ s' τ') {p : List PV} {v : List Value} (e : RdL K ⟨s.heap, τ⟩ X v p) : RdL K ⟨s'.heap, τ'⟩ X v p := RdL.keep (g := ⟨s.heap, τ⟩) (g' := ⟨s'.heap, τ'⟩) x.keep x.sub e
theorem RdTop.ext (x : Ext s τ s' τ') {a : Addr} {p : PV} (e : RdTop K ⟨s.heap, τ⟩ X a p) : RdTop K ⟨s'.heap, τ'⟩ X a p := RdTop.keep (g := ⟨s.heap, τ⟩) (g' := ⟨s'.heap, τ'⟩) x.keep x.sub e
theorem RdL.heap (hk : ∀ b o, h.get? b = some o → h'.get? b = some o) {p : List PV} {v : List Value} (e : RdL K ⟨h, τ⟩ X v p) : RdL K ⟨h', τ⟩ X v p := RdL.keep (g := ⟨h, τ⟩) (g' := ⟨h', τ⟩) hk (fun _ _ x => x) e
end

/-- a name's place in the frame -/
noncomputable def At (env : Env) (h : Heap) (x : Str) (v : Value) : Prop :=
  (env.kindOf x = some .local ∧ ∃ m, h.Ns env.locals m ∧ m x = some v) ∨ (env.kindOf x = some .cell ∧ ∃ c, env.cells.lookup x = some c ∧ h.IsCell c (some v))

theorem At.keep {env : Env} {h h' : Heap} {x : Str} {v : Value} (e : At env h x v) (hk : ∀ b o, h.get? b = some o → h'.get? b = some o) : At env h' x v :=
  e.imp (fun ⟨a, m, b, c⟩ => ⟨a, m, b.keeps hk, c⟩) (fun ⟨a, c, b, d⟩ => ⟨a, c, b, d.keeps hk⟩)

noncomputable def Held (K : Cx) (g : Hp) (X : Addr → Prop) (o : Option Addr) (v : Value) (p : PV) : Prop :=
  match o with
  | Option.none => Rd K g X v p
  | some a => v = .ref a ∧ RdTop K g X a p

theorem Held.mono {K : Cx} {g g' : Hp} {X Y : Addr → Prop} {o : Option Addr} {v : Value} {p : PV} (hk : ∀ b ob, ¬ Y b ∨ o = some b → g.h.get? b = some ob → g'.h.get? b = some ob) (ht : ∀ t x, g.τ t x → g'.τ t x) (hY : ∀ a, Y a → X a)
    (e : Held K g X o v p) : Held K g' Y o v p := by
  cases o with
  | none => exact Rd.mono (fun b ob hb => hk b ob (.inl hb)) ht hY e
  | some a => exact ⟨e.1, RdTop.mono (fun b ob hb => hk b ob (hb.imp id fun q => by rw [q])) ht hY e.2⟩
theorem Held.keep {K : Cx} {g g' : Hp} {X : Addr → Prop} {o : Option Addr} {v : Value} {p : PV} (hk : ∀ b ob, g.h.get? b = some ob → g'.h.get? b = some ob) (ht : ∀ t x, g.τ t x → g'.τ t x)
    (e : Held K g X o v p) : Held K g' X o v p := Held.mono (fun b ob _ => hk b ob) ht (fun _ y => y) e
theorem Held.more {K : Cx} {g : Hp} {X : Addr → Prop} {o : Option Addr} {v : Value} {p : PV} {N : Addr → Prop} (hc : ∀ a, N a → g.h.get? a = none)
    (e : Held K g X o v p) : Held K g (fun b => X b ∨ N b) o v p := by
  cases o with
  | none => exact Rd.more hc e
  | some a => exact ⟨e.1, RdTop.more hc e.2⟩

/-- less what the names of l own -/
noncomputable def Off (X : Addr → Prop) (own : Nat → Option Addr) (l : List Nat) : Addr → Prop := fun b => X b ∧ ∀ j ∈ l, own j ≠ some b

theorem Off.anti {X : Addr → Prop} {own : Nat → Option Addr} {l l' : List Nat} (hl : ∀ j ∈ l, j ∈ l') {b : Addr} (e : Off X own l' b) : Off X own l b := ⟨e.1, fun j hj => e.2 j (hl j hj)⟩

structure EnvOk (K : Cx) (sc : Scope) (vars : List Str) (env : Env) (g : Hp) (X : Addr → Prop) (own : Nat → Option Addr) (ρ : Ρ) : Prop where
  scope : env.scope = sc
  kind : sc.kind = .function
  globals : env.globals = mainGlobals
  builtins : env.builtins = builtinsNs
  var : ∀ x i p, (x == (".0" : Str)) = false → isVarK (sc.names.lookup x) = true → vars.findIdx? (· == x) = some i → (ρ[i]?).bind Sl.val = some p → ∃ v, At env g.h x v ∧ Held K g X (own i) v p
  cell : ∀ x, sc.names.lookup x = some .cell → ∃ c, env.cells.lookup x = some c

theorem EnvOk.keep {K : Cx} {sc : Scope} {vars : List Str} {env : Env} {g g' : Hp} {X : Addr → Prop} {own : Nat → Option Addr} {ρ : Ρ} (e : EnvOk K sc vars env g X own ρ)
    (hk : ∀ b o, g.h.get? b = some o → g'.h.get? b = some o) (ht : ∀ t x, g.τ t x → g'.τ t x) : EnvOk K sc vars env g' X own ρ :=
  ⟨e.scope, e.kind, e.globals, e.builtins, fun x i p h0 h1 h2 h3 => let ⟨v, a, b⟩ := e.var x i p h0 h1 h2 h3; ⟨v, a.keep hk, b.keep hk ht⟩, e.cell⟩

theorem EnvOk.ext {K : Cx} {sc : Scope} {vars : List Str} {env : Env} {s s' : Shared} {τ τ' : Tk} {X : Addr → Prop} {own : Nat → Option Addr} {ρ : Ρ} (e : EnvOk K sc vars env ⟨s.heap, τ⟩ X own ρ)
    (x : Ext s τ s' τ') : EnvOk K sc vars env ⟨s'.heap, τ'⟩ X own ρ := EnvOk.keep (g := ⟨s.heap, τ⟩) (g' := ⟨s'.heap, τ'⟩) e x.keep x.sub

theorem EnvOk.more {K : Cx} {sc : Scope} {vars : List Str} {env : Env} {g : Hp} {X N : Addr → Prop} {own : Nat → Option Addr} {ρ : Ρ} (e : EnvOk K sc vars env g X own ρ) (hc : ∀ a, N a → g.h.get? a = none) :
    EnvOk K sc vars env g (fun b => X b ∨ N b) own ρ :=
  ⟨e.scope, e.kind, e.globals, e.builtins, fun x i p h0 h1 h2 h3 => let ⟨v, a, b⟩ := e.var x i p h0 h1 h2 h3; ⟨v, a, b.more hc⟩, e.cell⟩
theorem Held.less {K : Cx} {g : Hp} {X Y : Addr → Prop} {o : Option Addr} {v : Value} {p : PV} (hY : ∀ a, Y a → X a) (e : Held K g X o v p) : Held K g Y o v p := Held.mono (fun _ _ _ x => x) (fun _ _ x => x) hY e
theorem EnvOk.less {K : Cx} {sc : Scope} {vars : List Str} {env : Env} {g : Hp} {X Y : Addr → Prop} {own : Nat → Option Addr} {ρ : Ρ} (e : EnvOk K sc vars env g X own ρ) (hY : ∀ a, Y a → X a) :
    EnvOk K sc vars env g Y own ρ :=
  ⟨e.scope, e.kind, e.globals, e.builtins, fun x i p h0 h1 h2 h3 => let ⟨v, a, b⟩ := e.var x i p h0 h1 h2 h3; ⟨v, a, b.less hY⟩, e.cell⟩
theorem Rd.scalar {K : Cx} {g : Hp} {X Y : Addr → Prop} {v : Value} {p : PV} (hp : Mine.scalar p = true) (e : Rd K g X v p) : Rd K g Y v p := by
  cases p <;> first | exact e | cases hp

noncomputable def XD (h : Heap) (X : Addr → Prop) : Prop := ∀ a, X a → ∃ o, h.get? a = some o
theorem XD.keep {h h' : Heap} {X : Addr → Prop} (e : XD h X) (hk : ∀ b o, h.get? b = some o → h'.get? b = some o) : XD h' X := fun a x => let ⟨o, ho⟩ := e a x; ⟨o, hk a o ho⟩
theorem XD.fresh {h : Heap} {X : Addr → Prop} (e : XD h X) {a : Addr} (ha : h.get? a = none) : ¬ X a := fun x => by obtain ⟨o, ho⟩ := e a x; rw [ha] at ho; cases ho
theorem get_size (h : Heap) : h.get? h.objs.size = none := by
  cases e : h.get? h.objs.size with
  | none => rfl
  | some o => exact absurd (Heap.lt_size e) (Nat.lt_irrefl _)

structure Room (n : Nat) (A : Around) : Prop where
  handled : A.handled = none
  depth : A.depth + n < recursionLimit
  units : A.units + 100 * n + 100 < cLine

theorem Room.less {n m : Nat} {A : Around} (r : Room n A) (h : m ≤ n) : Room m A := ⟨r.handled, by have := r.depth; omega, by have := r.units; omega⟩

/-- what a call of the f-th def is to do -/
noncomputable def Runs (K : Cx) (ft : List Str) (n : Nat) (f : Nat) (args : List PV) (r : PV) : Prop :=
  ∀ (name : Str) (A : Around) (s : Shared) (τ : Tk) (X : Addr → Prop) (vs : List Value) (fa : Addr), ft[f]? = some name → K.mg name = some (.ref fa) → Room n A → K.T s.heap → TokOk s τ → RdL K ⟨s.heap, τ⟩ X vs args → XD s.heap X →
    ∀ R : Result → Shared → Prop, (∀ v s' τ', Ext s τ s' τ' → Rd K ⟨s'.heap, τ'⟩ X v r → R (.ok (.ret v)) s') → Cp K.M A (.call (.ref fa) ⟨vs, []⟩) R s

noncomputable def Sound (K : Cx) (ft : List Str) (n : Nat) (C : Orc) : Prop := ∀ f args r, C f args = some r → Runs K ft n f args r

/-- what a fresh answer is -/
noncomputable def FreshRd (K : Cx) (h : Heap) (g : Hp) (X : Addr → Prop) (v : Value) (p : PV) : Prop :=
  ∃ a, v = .ref a ∧ h.get? a = none ∧ RdTop K g (fun b => X b ∨ b = a) a p

theorem FreshRd.rd {K : Cx} {h : Heap} {g : Hp} {X : Addr → Prop} {v : Value} {p : PV} (e : FreshRd K h g X v p) (hX : XD h X) : Rd K g X v p := by
  obtain ⟨a, rfl, h1, h2⟩ := e
  exact RdTop.rd (fun _ y => .inl y) (hX.fresh h1) h2
end Mine
namespace Mine
open PySem PyProof.Rows

theorem append_sOf (a b : List Nat) : sOf a ++ sOf b = sOf (a ++ b) := by
  show Str.mk (a.toArray ++ b.toArray) = _
  simp [sOf]
theorem length_sOf (a : List Nat) : (sOf a).length = a.length := by
  show (a.toArray).size = a.length
  simp
theorem szOk_le {n : Nat} (h : szOk n = true) : n ≤ sizeLine := by
  have : n ≤ 1000000 := Nat.le_of_ble_eq_true h
  unfold sizeLine; omega
theorem smallInt_le {i : Int} (h : smallInt i = true) : i.natAbs ≤ 4294967296 := Nat.le_of_ble_eq_true h

theorem foldl_rep {α : Type} (l : Array α) : ∀ (n : Nat) (acc : Array α), (List.replicate n l).foldl (· ++ ·) acc = acc ++ (rep l.toList n).toArray
  | 0, acc => by simp [rep]
  | n + 1, acc => by
    rw [List.replicate_succ, List.foldl_cons, foldl_rep l n]
    apply Array.toList_inj.mp
    simp [rep]
theorem rep_nil {α : Type} : ∀ n : Nat, rep ([] : List α) n = []
  | 0 => rfl
  | n + 1 => by simp [rep, rep_nil n]
theorem rep_one {α : Type} (l : List α) : rep l 1 = l := by simp [rep]
theorem txt_mul (a : List Nat) (n : Int) : Txt.mul (sOf a) n = sOf (rep a n.toNat) := by
  unfold Txt.mul
  by_cases h1 : n < 1
  · rw [if_pos h1]
    have : n.toNat = 0 := by omega
    rw [this]; rfl
  · rw [if_neg h1]
    split
    · rename_i h2
      simp only [Bool.or_eq_true, beq_iff_eq, length_sOf] at h2
      rcases h2 with h2 | h2
      · subst h2
        rw [show (1 : Int).toNat = 1 from rfl, rep_one]
      · have : a = [] := List.eq_nil_of_length_eq_zero h2
        subst this
        rw [rep_nil]
    · rw [foldl_rep]
      show Str.mk _ = Str.mk _
      simp

section
variable {K : Cx} {A : Around} {E : Value → Shared → Prop} {s : Shared} {τ : Tk} {X : Addr → Prop} {Q : Value → Shared → Prop}

theorem rd_int {g : Hp} (i : Int) (t : Tok) : Rd K g X (.int i t) (.int i) := ⟨t, rfl⟩
theorem rd_flt {h : Heap} (i : UInt64) (t : Tok) : Rd K ⟨h, addTk τ t i⟩ X (.float i t) (.flt i) := ⟨t, rfl, .inr ⟨rfl, rfl⟩⟩
theorem rd_str {g : Hp} (l : List Nat) (t : Tok) : Rd K g X (.str (sOf l) t) (.str l) := ⟨t, rfl⟩

theorem binI_ok {op : Operator} {a b : Int} {t u : Tok} {r : PV} (e : binI op a b = some r) (T : TokOk s τ) (hQ : ∀ v s' τ', Ext s τ s' τ' → Rd K ⟨s'.heap, τ'⟩ X v r → Q v s') : Wp K.M A (binaryOp op (.int a t) (.int b u)) Q E s := by
  cases op <;> simp only [binI] at e <;> (try (cases e; done))
  · cases e; exact ⟨PyProof.Rows.add_int (hQ _ _ _ (.tok1 T) (rd_int ..))⟩
  · cases e; exact ⟨AutoIntOps.sub_0 (hQ _ _ _ (.tok1 T) (rd_int ..))⟩
  · split at e
    · rename_i hs
      cases e
      rw [Bool.and_eq_true] at hs
      have h1 := smallInt_le hs.1
      refine ⟨AutoIntOps.mul_0 (hQ _ _ _ (.tok1 T) (rd_int ..)) (IntMulOk.of_left ?_)⟩
      unfold Builtin.Int.intBits
      split
      · exact Nat.zero_le _
      · have : a.natAbs.log2 ≤ 32 := by
          have := Nat.log2_lt (n := a.natAbs) (k := 33) (by intro h0; simp_all)
          omega
        omega
    · cases e
  · split at e
    · rename_i hs
      split at e
      · cases e
      · rename_i hi
        cases e
        simp only [Bool.and_eq_true, bne_iff_ne, ne_eq] at hs
        exact ⟨AutoIntOps.truediv_2 (by simpa using hs.1.1) (by simpa using hi) (hQ _ _ _ (.flt T _) (rd_flt ..))⟩
    · cases e
  · split at e
    · rename_i hs
      cases e
      exact ⟨AutoIntOps.mod_1 (by simpa using hs) (hQ _ _ _ (.tok1 T) (rd_int ..))⟩
    · cases e
  · split at e
    · rename_i hs
      cases e
      simp only [Bool.and_eq_true, decide_eq_true_eq] at hs
      obtain ⟨⟨ha, hb, hb0⟩, ha2⟩ := hs
      have ha := Nat.le_of_ble_eq_true ha
      have hb := Nat.le_of_ble_eq_true hb
      by_cases h0 : b = 0
      · subst h0
        refine ⟨AutoIntOps.pow_0 (by omega) (by decide) (hQ _ _ _ (.tok1 T) ?_)⟩
        simpa using rd_int (K := K) (X := X) (g := ⟨s.heap, τ⟩) 1 s.toks
      · refine ⟨AutoIntOps.pow_4 (by omega) (by simpa using h0) (by simp; omega) (by simp; omega) ?_ (hQ _ _ _ (.tok1 T) (rd_int ..))⟩
        unfold Builtin.Int.intTooBig Builtin.Int.intBits bitsLine
        have hn : (a == 0) = false := by simp; omega
        rw [hn]
        simp only [Bool.false_eq_true, if_false, decide_eq_true_eq, gt_iff_lt, Int.not_lt]
        have hl : a.natAbs.log2 ≤ 6 := by
          have := Nat.log2_lt (n := a.natAbs) (k := 7) (by omega)
          omega
        have h3 : ((a.natAbs.log2 + 1 : Nat) : Int) * b ≤ 7 * b := Int.mul_le_mul_of_nonneg_right (by omega) hb0
        have h4 : (2 : Nat) ^ 27 = 134217728 := by decide
        rw [h4]
        omega
    · cases e
  · split at e
    · rename_i hs
      cases e
      simp only [Bool.and_eq_true, bne_iff_ne, ne_eq] at hs
      have h1 := smallInt_le hs.2
      refine ⟨AutoIntOps.floordiv_1 (by simpa using hs.1) ?_ (hQ _ _ _ (.tok1 T) (rd_int ..))⟩
      rw [PyProof.noPylong_of_log2]
      · decide
      · by_cases h0 : b.natAbs = 0
        · rw [h0]; decide
        · have := (Nat.log2_lt (n := b.natAbs) (k := 33) h0).mpr (by omega)
          omega
    · cases e

theorem binF_ok {op : Operator} {a b : UInt64} {t u : Tok} {r : PV} (e : binF op a b = some r) (T : TokOk s τ) (hQ : ∀ v s' τ', Ext s τ s' τ' → Rd K ⟨s'.heap, τ'⟩ X v r → Q v s') : Wp K.M A (binaryOp op (.float a t) (.float b u)) Q E s := by
  cases op <;> simp only [binF] at e <;> (try (cases e; done))
  · cases e; exact ⟨AutoFloatOps.add_0 (hQ _ _ _ (.flt T _) (rd_flt ..))⟩
  · cases e; exact ⟨AutoFloatOps.sub_0 (hQ _ _ _ (.flt T _) (rd_flt ..))⟩
  · cases e; exact ⟨AutoFloatOps.mul_0 (hQ _ _ _ (.flt T _) (rd_flt ..))⟩
  · split at e
    · cases e
    · rename_i hs; cases e; exact ⟨AutoFloatOps.truediv_1 (by simpa using hs) (hQ _ _ _ (.flt T _) (rd_flt ..))⟩
  · split at e
    · cases e
    · rename_i hs; cases e; exact ⟨AutoFloatOps.mod_1 (by simpa using hs) (hQ _ _ _ (.flt T _) (rd_flt ..))⟩

theorem fltOf_int {n : Int} {x : UInt64} (e : fltOf (.int n) = some x) : ¬ Float64.isInf (Float64.ofInt n) = true ∧ x = Float64.ofInt n := by
  simp only [fltOf] at e
  split at e
  · split at e
    · cases e
    · rename_i h; cases e; exact ⟨by simpa using h, rfl⟩
  · cases e

theorem binFI_ok {op : Operator} {a : UInt64} {b : Int} {t u : Tok} {r : PV} {b' : UInt64} (eb : fltOf (.int b) = some b') (e : binF op a b' = some r) (T : TokOk s τ) (hQ : ∀ v s' τ', Ext s τ s' τ' → Rd K ⟨s'.heap, τ'⟩ X v r → Q v s') :
    Wp K.M A (binaryOp op (.float a t) (.int b u)) Q E s := by
  obtain ⟨h1, rfl⟩ := fltOf_int eb
  cases op <;> simp only [binF] at e <;> (try (cases e; done))
  · cases e; exact ⟨AutoFloatOps.add_fi_1 h1 (hQ _ _ _ (.flt T _) (rd_flt ..))⟩
  · cases e; exact ⟨AutoFloatOps.sub_fi_1 h1 (hQ _ _ _ (.flt T _) (rd_flt ..))⟩
  · cases e; exact ⟨AutoFloatOps.mul_fi_1 h1 (hQ _ _ _ (.flt T _) (rd_flt ..))⟩
  · split at e
    · cases e
    · rename_i hs; cases e; exact ⟨AutoFloatOps.truediv_fi_2 h1 (by simpa using hs) (hQ _ _ _ (.flt T _) (rd_flt ..))⟩
  · split at e
    · cases e
    · rename_i hs; cases e; exact ⟨AutoFloatOps.mod_fi_2 h1 (by simpa using hs) (hQ _ _ _ (.flt T _) (rd_flt ..))⟩
theorem binIF_ok {op : Operator} {b : UInt64} {a : Int} {t u : Tok} {r : PV} {a' : UInt64} (eb : fltOf (.int a) = some a') (e : binF op a' b = some r) (T : TokOk s τ) (hQ : ∀ v s' τ', Ext s τ s' τ' → Rd K ⟨s'.heap, τ'⟩ X v r → Q v s') :
    Wp K.M A (binaryOp op (.int a t) (.float b u)) Q E s := by
  obtain ⟨h1, rfl⟩ := fltOf_int eb
  cases op <;> simp only [binF] at e <;> (try (cases e; done))
  · cases e; exact ⟨AutoFloatOps.add_if_1 h1 (hQ _ _ _ (.flt T _) (rd_flt ..))⟩
  · cases e; exact ⟨AutoFloatOps.sub_if_1 h1 (hQ _ _ _ (.flt T _) (rd_flt ..))⟩
  · cases e; exact ⟨AutoFloatOps.mul_if_1 h1 (hQ _ _ _ (.flt T _) (rd_flt ..))⟩
  · split at e
    · cases e
    · rename_i hs; cases e; exact ⟨AutoFloatOps.truediv_if_2 h1 (by simpa using hs) (hQ _ _ _ (.flt T _) (rd_flt ..))⟩
  · split at e
    · cases e
    · rename_i hs; cases e; exact ⟨AutoFloatOps.mod_if_2 h1 (by simpa using hs) (hQ _ _ _ (.flt T _) (rd_flt ..))⟩

theorem PL.push {h : Heap} (vs : List Value) : PL (h.push { cls := .type "list", data := .seq vs.toArray }) h.objs.size vs := ⟨_, Heap.get?_push_size _ rfl⟩
theorem PT.push {h : Heap} (vs : List Value) : PT (h.push { cls := .type "tuple", data := .seq vs.toArray }) h.objs.size vs := ⟨_, Heap.get?_push_size _ rfl⟩

/-- a list laid anew -/
theorem fresh_list {vs : List Value} {l : List PV} (hl : RdL K ⟨s.heap, τ⟩ X vs l) : FreshRd K s.heap ⟨s.heap.push { cls := .type "list", data := .seq vs.toArray }, τ⟩ X (.ref s.heap.objs.size) (.list l) :=
  ⟨_, rfl, get_size _, vs, PL.push vs, RdL.keep (g := ⟨s.heap, τ⟩) (g' := ⟨s.heap.push { cls := .type "list", data := .seq vs.toArray }, τ⟩) (fun _ _ e => Heap.get?_push_of_some _ e) (fun _ _ e => e) (RdL.more (N := fun b => b = s.heap.objs.size) (fun a e => e ▸ get_size _) hl)⟩

theorem mul_list_ok {a : Addr} {vs : List Value} {l : List PV} {x : Int} {u : Tok} (hp : PL s.heap a vs) (hl : RdL K ⟨s.heap, τ⟩ X vs l) (hn : Nat.ble x.natAbs 1000 = true) (hz : szOk (l.length * x.toNat) = true)
    (T : TokOk s τ) (hQ : ∀ v s' τ', Ext s τ s' τ' → FreshRd K s.heap ⟨s'.heap, τ'⟩ X v (.list (rep l x.toNat)) → Q v s') : Wp K.M A (binaryOp .Mult (.ref a) (.int x u)) Q E s := by
  obtain ⟨k, hp⟩ := hp
  have hn := Nat.le_of_ble_eq_true hn
  have hz' := szOk_le hz
  have hlen := hl.length
  have hz2 : vs.length * x.toNat ≤ 2 ^ 24 := by rw [hlen]; exact hz'
  refine ⟨wpAny_binaryOp_repeat_ref (T := "list") (U := "int") (by decide) ⟨_, hp, rfl⟩ (fun s' => typeIs_int s' x u) noFill_list_mul F.fills_int_mul F.slot_int_rmul repeat_list F.slot_int_index.lookup
    (call_meets F.slot_int_rmul (typeIs_int s x u) F.entry_int_rmul (F.args_int_rmul_2 _ _) (int___rmul___int_list x u a vs.toArray k)
      ⟨hp, rfl, ⟨_, hp, rfl⟩, call_meets F.slot_list_mul ⟨_, hp, rfl⟩ F.entry_list_mul (F.args_list_mul_2 _ _)
        (AutoListH.list___mul___list_int_3 a vs.toArray k x u (by simp [Builtin.List.listFitsIndex]; omega) (by simp only [List.size_toArray]; omega) (by simp only [List.size_toArray, Builtin.List.listTooLong, sizeLine, decide_eq_true_eq, gt_iff_lt, Nat.not_lt]; omega))
        ⟨hp, ?_⟩⟩)⟩
  rw [foldl_rep]
  have e : rep vs.toArray.toList (if vs.toArray.isEmpty = true then 0 else x.toNat) = rep vs x.toNat := by
    simp only [List.isEmpty_toArray]
    split
    · rename_i h
      have : vs = [] := by simpa using h
      subst this
      simp [rep, rep_nil]
    · rfl
  rw [e, Array.empty_append]
  exact hQ _ _ _ (.push T) (fresh_list (hl.rep _))

theorem add_list_ok {a b : Addr} {vs ws : List Value} {l m : List PV} (hp : PL s.heap a vs) (hl : RdL K ⟨s.heap, τ⟩ X vs l) (hq : PL s.heap b ws) (hm : RdL K ⟨s.heap, τ⟩ X ws m) (hz : szOk (l.length + m.length) = true)
    (T : TokOk s τ) (hQ : ∀ v s' τ', Ext s τ s' τ' → FreshRd K s.heap ⟨s'.heap, τ'⟩ X v (.list (l ++ m)) → Q v s') : Wp K.M A (binaryOp .Add (.ref a) (.ref b)) Q E s := by
  obtain ⟨k, hp⟩ := hp
  obtain ⟨k', hq⟩ := hq
  have h1 := szOk_le hz
  refine ⟨P.add_list (n := k) (n2 := k') hp hq ?_ (by simp only [List.size_toArray, hl.length, hm.length]; exact h1)⟩
  rw [List.append_toArray]
  exact hQ _ _ _ (.push T) (fresh_list (hl.append hm))

theorem binop_ok {op : Operator} {p q r : PV} {v u : Value} (e : binop op p q = some r) (hv : Rd K ⟨s.heap, τ⟩ X v p) (hu : Rd K ⟨s.heap, τ⟩ X u q) (hX : XD s.heap X)
    (T : TokOk s τ) (hQ : ∀ v s' τ', Ext s τ s' τ' → Rd K ⟨s'.heap, τ'⟩ X v r → Q v s') : Wp K.M A (binaryOp op v u) Q E s := by
  unfold binop at e
  split at e
  · obtain ⟨t, rfl⟩ := hv; obtain ⟨t', rfl⟩ := hu; exact binI_ok e T hQ
  · obtain ⟨t, rfl, _⟩ := hv; obtain ⟨t', rfl, _⟩ := hu; exact binF_ok e T hQ
  · obtain ⟨t, rfl, _⟩ := hv; obtain ⟨t', rfl⟩ := hu
    rename_i a b _
    cases hf : fltOf (PV.int b) with
    | none => rw [hf] at e; cases e
    | some x => rw [hf] at e; dsimp only at e; exact binFI_ok hf e T hQ
  · obtain ⟨t, rfl⟩ := hv; obtain ⟨t', rfl, _⟩ := hu
    rename_i a b _
    cases hf : fltOf (PV.int a) with
    | none => rw [hf] at e; cases e
    | some x => rw [hf] at e; dsimp only at e; exact binIF_ok hf e T hQ
  · obtain ⟨t, rfl⟩ := hv; obtain ⟨t', rfl⟩ := hu
    split at e
    · split at e
      · rename_i hz
        cases e
        refine Wp.untok ⟨PyProof.Rows.add_str (fun t' tk hle => ?_) (by rw [length_sOf, length_sOf]; exact szOk_le hz)⟩
        rw [append_sOf]
        exact hQ _ _ _ (.tok T hle) (rd_str ..)
      · cases e
    · cases e
  · obtain ⟨t, rfl⟩ := hv; obtain ⟨t', rfl⟩ := hu
    split at e
    · split at e
      · rename_i a n _ hz
        cases e
        rw [Bool.and_eq_true] at hz
        have hn := Nat.le_of_ble_eq_true hz.1
        have hz' := szOk_le hz.2
        have hb : a.length ≤ 1000000 ∨ n.toNat = 0 := by
          have h2 : a.length * n.toNat ≤ 1000000 := Nat.le_of_ble_eq_true hz.2
          by_cases h0 : n.toNat = 0
          · exact .inr h0
          · refine .inl (Nat.le_trans (Nat.le_mul_of_pos_right _ (by omega)) h2)
        refine Wp.untok ⟨SB.mul ⟨by simp; omega, fun h1 _ => ?_, fun h1 _ => ?_⟩ fun t' k hle => ?_⟩
        · rw [length_sOf]
          have hb : a.length ≤ 1000000 := by omega
          have : (9223372036854775 : Int) ≤ (2 ^ 63 - 1) / n := by
            refine (Int.le_ediv_iff_mul_le (by omega)).mpr ?_
            have : (9223372036854775 : Int) * n ≤ 9223372036854775 * 1000 := Int.mul_le_mul_of_nonneg_left (by omega) (by decide)
            omega
          omega
        · rw [length_sOf]
          unfold Builtin.Str.tooLong
          simp only [decide_eq_false_iff_not, Nat.not_lt]
          have h2 : a.length * n.toNat ≤ 1000000 := Nat.le_of_ble_eq_true hz.2
          first | omega | (unfold sizeLine at *; omega)
        · rw [txt_mul]
          exact hQ _ _ _ (.tok T hle) (rd_str ..)
      · cases e
    · cases e
  · obtain ⟨a, vs, rfl, _, h2, h3⟩ := hv
    obtain ⟨b, ws, rfl, _, g2, g3⟩ := hu
    split at e
    · split at e
      · rename_i hz
        cases e
        exact add_list_ok h2 h3 g2 g3 hz T fun v s' τ' hs hf => hQ v s' τ' hs (hf.rd hX)
      · cases e
    · cases e
  · obtain ⟨a, vs, rfl, _, h2, h3⟩ := hv
    obtain ⟨t', rfl⟩ := hu
    split at e
    · split at e
      · rename_i hz
        rw [Bool.and_eq_true] at hz
        cases e
        exact mul_list_ok h2 h3 hz.1 hz.2 T fun v s' τ' hs hf => hQ v s' τ' hs (hf.rd hX)
      · cases e
    · cases e
  · cases e
end
end Mine
namespace Mine
open PySem PySem.SeqAt PyProof.Rows

theorem beq_sOf (a b : List Nat) : (sOf a == sOf b) = (a == b) := by
  rw [Bool.eq_iff_iff]
  simp [sOf]

section
variable {K : Cx} {h : Heap} {g : Hp} {X Y : Addr → Prop}

theorem PL.inj {a : Addr} {vs ws : List Value} (p : PL h a vs) (q : PL h a ws) : vs = ws := by
  obtain ⟨n, p⟩ := p
  obtain ⟨m, q⟩ := q
  rw [p] at q
  simp at q
  exact q.1
theorem PT.inj {a : Addr} {vs ws : List Value} (p : PT h a vs) (q : PT h a ws) : vs = ws := by
  obtain ⟨n, p⟩ := p
  obtain ⟨m, q⟩ := q
  rw [p] at q
  simp at q
  exact q.1
theorem PL.notT {a : Addr} {vs ws : List Value} (p : PL h a vs) (q : PT h a ws) : False := by
  obtain ⟨n, p⟩ := p
  obtain ⟨m, q⟩ := q
  rw [p] at q
  simp at q

theorem pyEqs_get {f : PV → PV → Option Bool} : ∀ {l m : List PV} {b : Bool}, pyEqs f l m = some b → ∀ (i : Nat) (p q : PV), l[i]? = some p → m[i]? = some q → ∃ c, f p q = some c
  | [], [], _, _, i, p, q, h1, _ => by simp at h1
  | x :: l, y :: m, b, e, i, p, q, h1, h2 => by
    unfold pyEqs at e
    cases hf : f x y with
    | none => rw [hf] at e; cases e
    | some c =>
      rw [hf] at e
      dsimp only at e
      cases hr : pyEqs f l m with
      | none => rw [hr] at e; cases e
      | some d =>
        cases i with
        | zero => simp at h1 h2; subst h1 h2; exact ⟨c, hf⟩
        | succ i => exact pyEqs_get hr i p q (by simpa using h1) (by simpa using h2)
theorem pyEqs_all {f : PV → PV → Option Bool} : ∀ {l m : List PV} {b : Bool}, pyEqs f l m = some b → l.length = m.length ∧ b = (List.range l.length).all fun i => match l[i]?, m[i]? with | some p, some q => (f p q).getD false | _, _ => false
  | [], [], b, e => by unfold pyEqs at e; cases e; exact ⟨rfl, rfl⟩
  | x :: l, y :: m, b, e => by
    unfold pyEqs at e
    cases hf : f x y with
    | none => rw [hf] at e; cases e
    | some c =>
      rw [hf] at e
      dsimp only at e
      cases hr : pyEqs f l m with
      | none => rw [hr] at e; cases e
      | some d =>
        rw [hr] at e
        cases e
        obtain ⟨h1, h2⟩ := pyEqs_all hr
        refine ⟨by simp [h1], ?_⟩
        rw [List.length_cons, List.range_succ_eq_map, List.all_cons, List.all_map]
        simp only [List.getElem?_cons_zero, hf, Option.getD_some, h2]
        congr 1

-- the same value is the same datum: with itself it is equal
theorem pyEqs_self {f : PV → PV → Option Bool} : ∀ {l : List PV} {b : Bool}, (∀ p c, p ∈ l → f p p = some c → c = true) → pyEqs f l l = some b → b = true
  | [], b, _, e => by unfold pyEqs at e; cases e; rfl
  | x :: l, b, hp, e => by
    unfold pyEqs at e
    cases hf : f x x with
    | none => rw [hf] at e; cases e
    | some c =>
      rw [hf] at e
      dsimp only at e
      cases hr : pyEqs f l l with
      | none => rw [hr] at e; cases e
      | some d =>
        rw [hr] at e
        cases e
        rw [hp x c (List.mem_cons_self ..) hf, pyEqs_self (fun p c hm => hp p c (List.mem_cons_of_mem _ hm)) hr]; rfl
theorem pyEqN_self : ∀ (n : Nat) {p : PV} {b : Bool}, pyEqN n p p = some b → b = true
  | 0, _, _, e => by cases e
  | n + 1, p, b, e => by
    cases p <;> simp only [pyEqN] at e <;> (try (cases e; done))
    · cases e; simp
    · cases e; simp
    · split at e
      · cases e
      · rename_i hn
        cases e
        rw [PySem.Flt.cmp_self]
        simpa using hn
    · cases e; simp
    · simp only [beq_self_eq_true, if_true] at e
      exact pyEqs_self (fun p c _ hc => pyEqN_self n hc) e
    · simp only [beq_self_eq_true, if_true] at e
      exact pyEqs_self (fun p c _ hc => pyEqN_self n hc) e

theorem pairs_det {K : Cx} : ∀ {es : List DictEntry} {kvs kvs' : List (Str × Value)}, Pairs (PySem.strKind K.prog K.w) es kvs → Pairs (PySem.strKind K.prog K.w) es kvs' → kvs = kvs'
  | [], _, _, .nil, .nil => rfl
  | e :: es, _, _, .cons (kv := a) h1 h2 h3, .cons (kv := b) g1 g2 g3 => by
    rw [pairs_det h3 g3]
    have e1 : a.1 = b.1 := (PySem.strKind K.prog K.w).inj _ _ _ h1 g1
    have e2 : a.2 = b.2 := h2.symm.trans g2
    rw [show a = b from Prod.ext e1 e2]
theorem PD.det {a : Addr} {kvs kvs' : List (Str × Value)} (p : PD K h a kvs) (q : PD K h a kvs') : kvs = kvs' := by
  obtain ⟨⟨o, es, ep, ho, _, hd, _, hp, _⟩, _⟩ := p
  obtain ⟨⟨o', es', ep', ho', _, hd', _, hp', _⟩, _⟩ := q
  rw [ho] at ho'
  cases ho'
  rw [hd] at hd'
  cases hd'
  exact pairs_det hp hp'
theorem PL.notD {a : Addr} {vs : List Value} {kvs : List (Str × Value)} (p : PL h a vs) (q : PD K h a kvs) : False := by
  obtain ⟨n, p⟩ := p
  obtain ⟨⟨o', es', ep', ho', _, hd', _⟩, _⟩ := q
  rw [p] at ho'
  cases ho'
  cases hd'
theorem PT.notD {a : Addr} {vs : List Value} {kvs : List (Str × Value)} (p : PT h a vs) (q : PD K h a kvs) : False := by
  obtain ⟨n, p⟩ := p
  obtain ⟨⟨o', es', ep', ho', _, hd', _⟩, _⟩ := q
  rw [p] at ho'
  cases ho'
  cases hd'
theorem PL.notR {a : Addr} {vs : List Value} {x y z : Int} {t u r : Tok} (p : PL h a vs) (q : PySem.IsRange h a x y z t u r) : False := by
  obtain ⟨n, p⟩ := p
  unfold PySem.IsRange at q
  rw [p] at q
  simp at q
theorem PT.notR {a : Addr} {vs : List Value} {x y z : Int} {t u r : Tok} (p : PT h a vs) (q : PySem.IsRange h a x y z t u r) : False := by
  obtain ⟨n, p⟩ := p
  unfold PySem.IsRange at q
  rw [p] at q
  simp at q
theorem PD.notR {a : Addr} {kvs : List (Str × Value)} {x y z : Int} {t u r : Tok} (p : PD K h a kvs) (q : PySem.IsRange h a x y z t u r) : False := by
  obtain ⟨⟨o', es', ep', ho', _, hd', _⟩, _⟩ := p
  unfold PySem.IsRange at q
  rw [q] at ho'
  cases ho'
  cases hd'

mutual
theorem Rd.det : ∀ {p q : PV} {v : Value}, Rd K g X v p → Rd K g Y v q → p = q
  | .none, q, _, h1, h2 => by
    cases h1
    cases q <;> simp [Rd] at h2
    rfl
  | .bool a, q, _, h1, h2 => by
    cases h1
    cases q <;> simp [Rd] at h2
    rw [h2]
  | .int a, q, _, h1, h2 => by
    obtain ⟨t, rfl⟩ := h1
    cases q <;> simp [Rd] at h2
    rw [h2]
  | .flt a, q, _, h1, h2 => by
    obtain ⟨t, rfl, _⟩ := h1
    cases q <;> simp [Rd] at h2
    obtain ⟨_, h2, _⟩ := h2
    rw [h2.1]
  | .str a, q, _, h1, h2 => by
    obtain ⟨t, rfl⟩ := h1
    cases q <;> simp [Rd, sOf] at h2
    rw [h2]
  | .list l, q, _, h1, h2 => by
    obtain ⟨a, vs, rfl, _, p1, r1⟩ := h1
    cases q with
    | list m => obtain ⟨a', ws, e', _, p2, r2⟩ := h2; cases e'; cases p1.inj p2; rw [RdL.det r1 r2]
    | tup m => obtain ⟨a', ws, e', _, p2, r2⟩ := h2; cases e'; exact (p1.notT p2).elim
    | dict m => obtain ⟨a', ws, e', _, p2, r2⟩ := h2; cases e'; exact (p1.notD p2).elim
    | rng m => obtain ⟨a', t, u, r, e', _, p2⟩ := h2; cases e'; exact (p1.notR p2).elim
    | _ => simp [Rd] at h2
  | .tup l, q, _, h1, h2 => by
    obtain ⟨a, vs, rfl, _, p1, r1⟩ := h1
    cases q with
    | list m => obtain ⟨a', ws, e', _, p2, r2⟩ := h2; cases e'; exact (p2.notT p1).elim
    | tup m => obtain ⟨a', ws, e', _, p2, r2⟩ := h2; cases e'; cases p1.inj p2; rw [RdL.det r1 r2]
    | dict m => obtain ⟨a', ws, e', _, p2, r2⟩ := h2; cases e'; exact (p1.notD p2).elim
    | rng m => obtain ⟨a', t, u, r, e', _, p2⟩ := h2; cases e'; exact (p1.notR p2).elim
    | _ => simp [Rd] at h2
  | .dict l, q, _, h1, h2 => by
    obtain ⟨a, vs, rfl, _, p1, r1⟩ := h1
    cases q with
    | list m => obtain ⟨a', ws, e', _, p2, r2⟩ := h2; cases e'; exact (p2.notD p1).elim
    | tup m => obtain ⟨a', ws, e', _, p2, r2⟩ := h2; cases e'; exact (p2.notD p1).elim
    | dict m => obtain ⟨a', ws, e', _, p2, r2⟩ := h2; cases e'; cases p1.det p2; rw [RdD.det r1 r2]
    | rng m => obtain ⟨a', t, u, r, e', _, p2⟩ := h2; cases e'; exact (p1.notR p2).elim
    | _ => simp [Rd] at h2
  | .rng n, q, _, h1, h2 => by
    obtain ⟨a, t, u, r, rfl, _, p1⟩ := h1
    cases q with
    | list m => obtain ⟨a', ws, e', _, p2, r2⟩ := h2; cases e'; exact (p2.notR p1).elim
    | tup m => obtain ⟨a', ws, e', _, p2, r2⟩ := h2; cases e'; exact (p2.notR p1).elim
    | dict m => obtain ⟨a', ws, e', _, p2, r2⟩ := h2; cases e'; exact (p2.notR p1).elim
    | rng m =>
      obtain ⟨a', t', u', r', e', _, p2⟩ := h2
      cases e'
      unfold PySem.IsRange at p1 p2
      rw [p1] at p2
      simp at p2
      rw [p2.2.1.1]
    | _ => simp [Rd] at h2
theorem RdL.det : ∀ {l m : List PV} {vs : List Value}, RdL K g X vs l → RdL K g Y vs m → l = m
  | [], m, _, h1, h2 => by
    cases h1
    cases m with
    | nil => rfl
    | cons q m => obtain ⟨v', r', e', _⟩ := h2; cases e'
  | p :: l, m, _, h1, h2 => by
    obtain ⟨v, r, rfl, a1, a2⟩ := h1
    cases m with
    | nil => cases h2
    | cons q m =>
      obtain ⟨v', r', e', b1, b2⟩ := h2
      cases e'
      rw [Rd.det a1 b1, RdL.det a2 b2]
theorem RdD.det : ∀ {l m : List (List Nat × PV)} {vs : List (Str × Value)}, RdD K g X vs l → RdD K g Y vs m → l = m
  | [], m, _, h1, h2 => by
    cases h1
    cases m with
    | nil => rfl
    | cons q m => obtain ⟨v', r', e', _⟩ := h2; cases e'
  | (k, p) :: l, m, _, h1, h2 => by
    obtain ⟨v, r, rfl, a1, a2⟩ := h1
    cases m with
    | nil => cases h2
    | cons q m =>
      obtain ⟨k', q⟩ := q
      obtain ⟨v', r', e', b1, b2⟩ := h2
      simp [sOf] at e'
      obtain ⟨⟨e1, e2⟩, e3⟩ := e'
      subst e1 e2 e3
      rw [Rd.det a1 b1, RdD.det a2 b2]
end
end

section
variable {K : Cx} {A : Around} {s : Shared} {τ : Tk} {X Y : Addr → Prop}

/-- == by values, of a kind where the answer is asked without a look at who they are -/
theorem EqAt.of_rc {v u : Value} {b : Bool} (hf : ∀ x t y r, v = .float x t → u = .float y r → False) (hs : v = u → b = true) (h : RcAt A s v u b) : EqAt A s v u b := fun prog w E Q hq => by
  unfold eqBool
  refine wpAny_holding ?_
  refine wpAny_ite_split (fun hab => ?_) (fun _ => ?_)
  · have := eq_of_beq hab
    rw [hs this] at hq
    exact wpAny_bind (wpAny_rule (wpAny_pure hq))
  · dsimp only
    split
    · rename_i heq; simp only [Prod.mk.injEq] at heq; exact (hf _ _ _ _ heq.1 heq.2).elim
    · exact wpAny_bind (h prog w E _ (wpAny_truthy_bool hq))

theorem same_flt {M : Model} {E : Value → Shared → Prop} {x y : UInt64} {t u : Tok} {Q : Bool → Shared → Prop} (h0 : (t == 0 || u == 0) = false) (hi : t = u → x = y) (hb : PySem.NoneBooked s.heap)
    (hq : ∀ b, (b = true → x = y) → Q b s) : wpAny M A (isSame (.float x t) (.float y u)) Q E s := by
  show wpAny M A (isSame.created (x == y && !Float64.isNaN x) t u) Q E s
  unfold isSame.created
  refine wpAny_ite ?_
  split
  · rename_i h; rw [h0] at h; exact absurd h Bool.false_ne_true
  refine wpAny_ite ?_
  split
  · rename_i h; exact wpAny_pure (hq _ fun _ => hi (by simpa using h))
  refine wpAny_ite ?_
  split
  · exact wpAny_pure (hq _ fun h => by cases h)
  rename_i he
  have hxy : x = y := by
    simp at he
    exact he.1
  refine wpAny_bind (wpAny_sharingNotTold_none hb ?_)
  first | rw [if_neg Bool.false_ne_true] | simp only [Bool.false_eq_true, if_false]
  refine wpAny_bind (wpAny_sharingNotTold_none hb ?_)
  first | rw [if_neg Bool.false_ne_true] | simp only [Bool.false_eq_true, if_false]
  exact wpAny_bind (wpAny_rule (wpAny_bind (wpAny_askSetting (wpAny_pure (hq _ fun _ => hxy)))))

theorem eqAt_flt {τ : Tk} {x y : UInt64} {t u : Tok} (T : TokOk s τ) (hb : PySem.NoneBooked s.heap) (hx : τ t x) (hy : τ u y) (hn : Float64.isNaN x = false) : EqAt A s (.float x t) (.float y u) (Float64.cmp x y == some .eq) := fun prog w E Q hq => by
  have hs : x = y → (Float64.cmp x y == some .eq) = true := fun e => by rw [← e, PySem.Flt.cmp_self, hn]; rfl
  unfold eqBool
  refine wpAny_holding ?_
  refine wpAny_ite_split (fun hab => ?_) (fun _ => ?_)
  · have := eq_of_beq hab
    injection this with e1 e2
    rw [hs e1] at hq
    exact wpAny_bind (wpAny_rule (wpAny_pure hq))
  · dsimp only
    refine wpAny_bind (same_flt (by rw [Bool.or_eq_false_iff]; exact ⟨beq_false_of_ne (Nat.pos_iff_ne_zero.mp (T.bound t x hx).1), beq_false_of_ne (Nat.pos_iff_ne_zero.mp (T.bound u y hy).1)⟩) (fun e => by subst e; exact T.inj t x y hx hy) hb fun b hb' => ?_)
    cases b with
    | true =>
      rw [hs (hb' rfl)] at hq
      exact wpAny_pure hq
    | false =>
      simp only [Bool.false_eq_true, if_false]
      exact wpAny_bind (AutoFloatOps.eq_0 (wpAny_truthy_bool hq))

/-- == of the parts -/
theorem eqAt_of {τ : Tk} {n : Nat} {p q : PV} {b : Bool} {v u : Value} (T : TokOk s τ) (hb : PySem.NoneBooked s.heap) (e : pyEqN n p q = some b) (h1 : Rd K ⟨s.heap, τ⟩ X v p) (h2 : Rd K ⟨s.heap, τ⟩ Y u q) (h : RcAt A s v u b) :
    EqAt A s v u b := by
  by_cases hf : (∃ x, p = .flt x) ∧ ∃ y, q = .flt y
  · obtain ⟨⟨x, rfl⟩, y, rfl⟩ := hf
    obtain ⟨t, rfl, hx⟩ := h1
    obtain ⟨t', rfl, hy⟩ := h2
    cases n with
    | zero => cases e
    | succ n =>
      simp only [pyEqN] at e
      split at e
      · cases e
      · rename_i hn
        cases e
        exact eqAt_flt T hb hx hy (by simp at hn; exact hn.1)
  · refine EqAt.of_rc (fun x t y r e1 e2 => ?_) (fun hvu => by subst hvu; have := Rd.det h1 h2; subst this; exact pyEqN_self n e) h
    subst e1 e2
    refine hf ⟨?_, ?_⟩
    · cases p <;> simp [Rd] at h1
      exact ⟨_, rfl⟩
    · cases q <;> simp [Rd] at h2
      exact ⟨_, rfl⟩

theorem rcAt_ok (T : TokOk s τ) (hb : PySem.NoneBooked s.heap) : ∀ (n : Nat) (p q : PV) (b : Bool) (A : Around) (v u : Value), pyEqN n p q = some b → Rd K ⟨s.heap, τ⟩ X v p → Rd K ⟨s.heap, τ⟩ Y u q → A.units + n < cLine → RcAt A s v u b
  | 0, _, _, _, _, _, _, e, _, _, _ => by cases e
  | n + 1, p, q, b, A, v, u, e, hv, hu, hr => by
    have hA : A.units < cLine := by omega
    have ih : ∀ (p q : PV) (b : Bool) (v u : Value), pyEqN n p q = some b → Rd K ⟨s.heap, τ⟩ X v p → Rd K ⟨s.heap, τ⟩ Y u q → EqAt A.in1 s v u b := fun p q b v u e h1 h2 =>
      eqAt_of T hb e h1 h2 (rcAt_ok T hb n p q b A.in1 v u e h1 h2 (by show A.units + 1 + n < cLine; omega))
    have each : ∀ {l m : List PV} {vs ws : List Value} {c : Bool}, pyEqs (pyEqN n) l m = some c → RdL K ⟨s.heap, τ⟩ X vs l → RdL K ⟨s.heap, τ⟩ Y ws m → ∀ j (h1 : j < vs.toArray.size) (h2 : j < ws.toArray.size),
        EqAt A.in1 s vs.toArray[j] ws.toArray[j] (match l[j]?, m[j]? with | some p, some q => (pyEqN n p q).getD false | _, _ => false) := fun {l m vs ws c} hc r1 r2 j h1 h2 => by
      simp only [List.size_toArray] at h1 h2
      obtain ⟨p', g1, k1⟩ := r1.get' (List.getElem?_eq_getElem h1)
      obtain ⟨q', g2, k2⟩ := r2.get' (List.getElem?_eq_getElem h2)
      obtain ⟨d, hd⟩ := pyEqs_get hc j p' q' g1 g2
      rw [g1, g2]
      simp only [hd, Option.getD_some, List.getElem_toArray]
      exact ih p' q' d _ _ hd k1 k2
    cases p <;> cases q <;> simp only [pyEqN] at e <;> (try (cases e; done))
    · cases e; cases hv; cases hu; exact RcAt.bool_bool _ _
    · cases e; obtain ⟨t, rfl⟩ := hv; obtain ⟨t', rfl⟩ := hu; exact RcAt.int_int _ _ _ _
    · cases e; obtain ⟨t, rfl⟩ := hv; obtain ⟨t', rfl, _⟩ := hu
      exact fun prog w E Q h => PyProof.Rows.eq_if h
    · cases e; obtain ⟨t, rfl, _⟩ := hv; obtain ⟨t', rfl⟩ := hu
      exact fun prog w E Q h => PyProof.Rows.eq_fi h
    · split at e
      · cases e
      · cases e; obtain ⟨t, rfl, _⟩ := hv; obtain ⟨t', rfl, _⟩ := hu
        exact fun prog w E Q h => AutoFloatOps.eq_0 h
    · cases e; obtain ⟨t, rfl⟩ := hv; obtain ⟨t', rfl⟩ := hu
      rw [← beq_sOf]
      exact RcAt.str_str _ _ _ _
    · obtain ⟨a, vs, rfl, _, p1, r1⟩ := hv
      obtain ⟨a', ws, rfl, _, p2, r2⟩ := hu
      have n1 := r1.length
      have n2 := r2.length
      split at e
      · rename_i l m hl
        obtain ⟨h1, h2⟩ := pyEqs_all e
        rw [h2, ← n1, show vs.length = vs.toArray.size by simp]
        exact RcAt.lists p1.isList p2.isList (by simp; omega) hA (each e r1 r2)
      · rename_i l m hl
        cases e
        exact RcAt.lists_lengths p1.isList p2.isList (by simp at hl ⊢; omega) hA
    · cases e
      obtain ⟨a, vs, rfl, _, p1, r1⟩ := hv
      obtain ⟨a', ws, rfl, _, p2, r2⟩ := hu
      exact RcAt.list_tuple p1.isList p2.isTuple hA
    · cases e
      obtain ⟨a, vs, rfl, _, p1, r1⟩ := hv
      obtain ⟨a', ws, rfl, _, p2, r2⟩ := hu
      exact RcAt.tuple_list p1.isTuple p2.isList hA
    · obtain ⟨a, vs, rfl, _, p1, r1⟩ := hv
      obtain ⟨a', ws, rfl, _, p2, r2⟩ := hu
      have n1 := r1.length
      have n2 := r2.length
      split at e
      · obtain ⟨h1, h2⟩ := pyEqs_all e
        have := RcAt.tuples (A := A) (s := s) p1.isTuple p2.isTuple hA (each e r1 r2)
        have e1 : (List.range (min vs.toArray.size ws.toArray.size)) = List.range vs.length := by congr 1; simp; omega
        have e2 : (vs.toArray.size == ws.toArray.size) = true := by simp; omega
        rw [e1, e2, Bool.and_true, n1, ← h2] at this
        exact this
      · cases e

theorem eqAt_ok (T : TokOk s τ) (hb : PySem.NoneBooked s.heap) {n : Nat} {p q : PV} {b : Bool} {A : Around} {v u : Value} (e : pyEqN n p q = some b) (h1 : Rd K ⟨s.heap, τ⟩ X v p) (h2 : Rd K ⟨s.heap, τ⟩ Y u q) (hr : A.units + n < cLine) : EqAt A s v u b :=
  eqAt_of T hb e h1 h2 (rcAt_ok T hb n p q b A v u e h1 h2 hr)

theorem rcNeAt_ok (T : TokOk s τ) (hb : PySem.NoneBooked s.heap) : ∀ (n : Nat) (p q : PV) (b : Bool) (A : Around) (v u : Value), pyEqN n p q = some b → Rd K ⟨s.heap, τ⟩ X v p → Rd K ⟨s.heap, τ⟩ Y u q → A.units + n < cLine → RcNeAt A s v u (!b)
  | 0, _, _, _, _, _, _, e, _, _, _ => by cases e
  | n + 1, p, q, b, A, v, u, e, hv, hu, hr => by
    have hA : A.units < cLine := by omega
    have each : ∀ {l m : List PV} {vs ws : List Value} {c : Bool}, pyEqs (pyEqN n) l m = some c → RdL K ⟨s.heap, τ⟩ X vs l → RdL K ⟨s.heap, τ⟩ Y ws m → ∀ j (h1 : j < vs.toArray.size) (h2 : j < ws.toArray.size),
        EqAt A.in1 s vs.toArray[j] ws.toArray[j] (match l[j]?, m[j]? with | some p, some q => (pyEqN n p q).getD false | _, _ => false) := fun {l m vs ws c} hc r1 r2 j h1 h2 => by
      simp only [List.size_toArray] at h1 h2
      obtain ⟨p', g1, k1⟩ := r1.get' (List.getElem?_eq_getElem h1)
      obtain ⟨q', g2, k2⟩ := r2.get' (List.getElem?_eq_getElem h2)
      obtain ⟨d, hd⟩ := pyEqs_get hc j p' q' g1 g2
      rw [g1, g2]
      simp only [hd, Option.getD_some, List.getElem_toArray]
      exact eqAt_ok T hb hd k1 k2 (by show A.units + 1 + n < cLine; omega)
    cases p <;> cases q <;> simp only [pyEqN] at e <;> (try (cases e; done))
    · cases e; cases hv; cases hu; exact RcNeAt.bool_bool _ _
    · cases e; obtain ⟨t, rfl⟩ := hv; obtain ⟨t', rfl⟩ := hu; exact RcNeAt.int_int _ _ _ _
    · cases e; obtain ⟨t, rfl⟩ := hv; obtain ⟨t', rfl, _⟩ := hu
      exact fun prog w E Q h => PyProof.Rows.ne_if h
    · cases e; obtain ⟨t, rfl, _⟩ := hv; obtain ⟨t', rfl⟩ := hu
      exact fun prog w E Q h => PyProof.Rows.ne_fi h
    · split at e
      · cases e
      · cases e; obtain ⟨t, rfl, _⟩ := hv; obtain ⟨t', rfl, _⟩ := hu
        exact fun prog w E Q h => AutoFloatOps.ne_0 h
    · cases e; obtain ⟨t, rfl⟩ := hv; obtain ⟨t', rfl⟩ := hu
      rw [← beq_sOf]
      exact RcNeAt.str_str _ _ _ _
    · obtain ⟨a, vs, rfl, _, p1, r1⟩ := hv
      obtain ⟨a', ws, rfl, _, p2, r2⟩ := hu
      have n1 := r1.length
      have n2 := r2.length
      split at e
      · rename_i l m hl
        obtain ⟨h1, h2⟩ := pyEqs_all e
        rw [h2, ← n1, show vs.length = vs.toArray.size by simp]
        exact RcNeAt.lists p1.isList p2.isList (by simp; omega) hA (each e r1 r2)
      · rename_i l m hl
        cases e
        exact RcNeAt.lists_lengths p1.isList p2.isList (by simp at hl ⊢; omega) hA
    · cases e
      obtain ⟨a, vs, rfl, _, p1, r1⟩ := hv
      obtain ⟨a', ws, rfl, _, p2, r2⟩ := hu
      exact RcNeAt.list_tuple p1.isList p2.isTuple hA
    · cases e
      obtain ⟨a, vs, rfl, _, p1, r1⟩ := hv
      obtain ⟨a', ws, rfl, _, p2, r2⟩ := hu
      exact RcNeAt.tuple_list p1.isTuple p2.isList hA
    · obtain ⟨a, vs, rfl, _, p1, r1⟩ := hv
      obtain ⟨a', ws, rfl, _, p2, r2⟩ := hu
      have n1 := r1.length
      have n2 := r2.length
      split at e
      · obtain ⟨h1, h2⟩ := pyEqs_all e
        have := RcNeAt.tuples (A := A) (s := s) p1.isTuple p2.isTuple hA (each e r1 r2)
        have e1 : (List.range (min vs.toArray.size ws.toArray.size)) = List.range vs.length := by congr 1; simp; omega
        have e2 : (vs.toArray.size == ws.toArray.size) = true := by simp; omega
        rw [e1, e2, Bool.and_true, n1, ← h2] at this
        exact this
      · cases e
end
end Mine
namespace Mine
open PySem PySem.SeqAt PyProof.Rows

section
variable {K : Cx} {A : Around} {E : Value → Shared → Prop} {s : Shared} {τ : Tk} {X : Addr → Prop}

theorem decide_mem_contains (c : Nat) (l : List Nat) : decide (c ∈ l) = l.contains c := by
  rw [Bool.eq_iff_iff]; simp

theorem look_valueAt {g : Hp} : ∀ {l : List (List Nat × PV)} {kvs : List (Str × Value)} (k : List Nat), RdD K g X kvs l →
    (look k l = Option.none → valueAt kvs (sOf k) = none) ∧ ∀ p, look k l = some p → ∃ v, valueAt kvs (sOf k) = some v ∧ Rd K g X v p
  | [], _, k, e => by
    cases e
    exact ⟨fun _ => rfl, fun p h => by simp [look] at h⟩
  | (k', q) :: l, _, k, e => by
    obtain ⟨v, r, rfl, h1, h2⟩ := e
    have ih := look_valueAt k h2
    by_cases hk : k' = k
    · subst hk
      refine ⟨fun h => by simp [look] at h, fun p h => ?_⟩
      simp only [look, beq_self_eq_true, if_true, Option.some.injEq] at h
      subst h
      exact ⟨v, by simp [valueAt], h1⟩
    · have hb : (k' == k) = false := by simpa using hk
      have hs : ¬ (sOf k' = sOf k) := by simpa [sOf] using hk
      have e1 : valueAt ((sOf k', v) :: r) (sOf k) = valueAt r (sOf k) := by simp [valueAt, hs]
      rw [e1]
      simp only [look, hb, Bool.false_eq_true, if_false]
      exact ih

open Classical in
/-- in a row of values -/
theorem anyEq_any {x : PV} {v : Value} {l : List PV} {vs : List Value} {b : Bool} (T : TokOk s τ) (hb : PySem.NoneBooked s.heap) (hu : A.units + 8 < cLine) (e : anyEq x l = some b) (hx : Rd K ⟨s.heap, τ⟩ X v x) (hl : RdL K ⟨s.heap, τ⟩ X vs l) :
    ∃ f : Value → Bool, (∀ y, y ∈ vs.toArray → EqAt A s y v (f y)) ∧ vs.toArray.any f = b := by
  -- the answer by the datum that a value reads as
  let f : Value → Bool := fun y => if h : ∃ p, Rd K ⟨s.heap, τ⟩ X y p then (pyEq h.choose x).getD false else false
  have hf : ∀ y p, Rd K ⟨s.heap, τ⟩ X y p → f y = (pyEq p x).getD false := fun y p hy => by
    have hex : ∃ p, Rd K ⟨s.heap, τ⟩ X y p := ⟨p, hy⟩
    show (if h : ∃ p, Rd K ⟨s.heap, τ⟩ X y p then (pyEq h.choose x).getD false else false) = _
    rw [dif_pos hex, Rd.det hex.choose_spec hy]
  have key : ∀ (l : List PV) (vs : List Value) (b : Bool), anyEq x l = some b → RdL K ⟨s.heap, τ⟩ X vs l → (∀ y ∈ vs, EqAt A s y v (f y)) ∧ vs.any f = b := by
    intro l
    induction l with
    | nil =>
      intro vs b e hl
      cases hl
      simp [anyEq] at e
      exact ⟨by simp, by simp [e]⟩
    | cons p l ih =>
      intro vs b e hl
      obtain ⟨u, r, rfl, h1, h2⟩ := hl
      simp only [anyEq] at e
      cases hp : pyEq p x with
      | none => rw [hp] at e; cases e
      | some c =>
        rw [hp] at e
        cases hr : anyEq x l with
        | none => rw [hr] at e; cases e
        | some d =>
          rw [hr] at e
          simp only [Option.some.injEq] at e
          obtain ⟨g1, g2⟩ := ih r d hr h2
          have e1 : f u = c := by rw [hf u p h1, hp]; rfl
          refine ⟨fun y hy => ?_, by rw [List.any_cons, e1, g2, e]⟩
          rcases List.mem_cons.mp hy with rfl | hy
          · rw [e1]; exact eqAt_ok T hb hp h1 hx (by omega)
          · exact g1 y hy
  obtain ⟨h1, h2⟩ := key l vs b e hl
  exact ⟨f, fun y hy => h1 y (by simpa using hy), by simpa using h2⟩

theorem pyIn_ok {p q : PV} {b : Bool} {v u : Value} {Q : Value → Shared → Prop} (neg : Bool) (e : pyIn p q = some b) (hv : Rd K ⟨s.heap, τ⟩ X v p) (hu : Rd K ⟨s.heap, τ⟩ X u q) (T : TokOk s τ) (hb : PySem.NoneBooked s.heap) (hr : A.units + 100 < cLine)
    (hQ : ∀ tk, s.toks ≤ tk → Q (.bool (if neg then !b else b)) { s with toks := tk }) : Wp K.M A (compareOp (if neg then .NotIn else .In) v u) Q E s := by
  unfold pyIn at e
  split at e
  · obtain ⟨t, rfl⟩ := hv; obtain ⟨t', rfl⟩ := hu
    split at e
    · rename_i l _ c
      cases e
      have h1 : Txt.contains (sOf l) (sOf [c]) = l.contains c := by
        show (!(Builtin.Str.occurrences (sOf l) ⟨#[c]⟩ 0 (sOf l).length 1).isEmpty) = _
        rw [StrLaws.found_one, ← decide_mem_contains]
      have := hQ s.toks (Nat.le_refl _)
      cases neg
      · refine ⟨SB.contains ?_⟩
        rw [h1]; exact this
      · refine ⟨SB.notContains ?_⟩
        rw [h1]; exact this
    · cases e
  · obtain ⟨t, rfl⟩ := hv
    obtain ⟨a, kvs, rfl, _, ⟨hd, hs⟩, hl⟩ := hu
    rename_i k l _
    cases e
    have hk : (valueAt kvs (sOf k)).isSome = (look k l).isSome := by
      have := look_valueAt k hl
      cases hlk : look k l with
      | none => rw [this.1 hlk]; rfl
      | some p => obtain ⟨v, h1, _⟩ := this.2 p hlk; rw [h1]; rfl
    have := hQ (s.toks + 1) (Nat.le_succ _)
    cases neg
    · refine ⟨wpAny_in_of (knd := PySem.strKind K.prog K.w) (k := sOf k) (strKind_is _ _ _ _) hs hd.mapOf ?_⟩
      rw [hk]; exact this
    · refine ⟨wpAny_notIn_of (knd := PySem.strKind K.prog K.w) (k := sOf k) (strKind_is _ _ _ _) hs hd.mapOf ?_⟩
      rw [hk]; exact this
  · obtain ⟨a, vs, rfl, _, p1, r1⟩ := hu
    obtain ⟨f, h1, h2⟩ := anyEq_any (A := A.in1) T hb (by show A.units + 1 + 8 < cLine; omega) e hv r1
    have := hQ s.toks (Nat.le_refl _)
    cases neg
    · exact ⟨in_listAt f p1.isList h1 (by rw [h2]; exact this)⟩
    · exact ⟨notIn_listAt f p1.isList h1 (by rw [h2]; exact this)⟩
  · obtain ⟨a, vs, rfl, _, p1, r1⟩ := hu
    obtain ⟨f, h1, h2⟩ := anyEq_any (A := A.in1) T hb (by show A.units + 1 + 8 < cLine; omega) e hv r1
    have := hQ s.toks (Nat.le_refl _)
    cases neg
    · exact ⟨in_tupleAt f p1.isTuple h1 (by rw [h2]; exact this)⟩
    · exact ⟨notIn_tupleAt f p1.isTuple h1 (by rw [h2]; exact this)⟩
  · cases e

theorem cmpop_ok {op : CmpOp} {p q : PV} {b : Bool} {v u : Value} {Q : Value → Shared → Prop} (e : cmpop op p q = some b) (hv : Rd K ⟨s.heap, τ⟩ X v p) (hu : Rd K ⟨s.heap, τ⟩ X u q) (T : TokOk s τ) (hb : PySem.NoneBooked s.heap) (hr : A.units + 100 < cLine)
    (hQ : ∀ tk, s.toks ≤ tk → Q (.bool b) { s with toks := tk }) : Wp K.M A (compareOp op v u) Q E s := by
  cases op <;> simp only [cmpop] at e <;> (try (cases e; done))
  · exact ⟨rcAt_ok T hb 8 p q b A v u e hv hu (by omega) K.prog K.w E Q (hQ s.toks (Nat.le_refl _))⟩
  · cases hp : pyEq p q with
    | none => rw [hp] at e; cases e
    | some c =>
      rw [hp] at e
      cases e
      exact ⟨rcNeAt_ok T hb 8 p q c A v u hp hv hu (by omega) K.prog K.w E Q (hQ s.toks (Nat.le_refl _))⟩
  · split at e
    · cases e
      obtain ⟨t, rfl⟩ := hv; obtain ⟨t', rfl⟩ := hu
      exact ⟨PyProof.Rows.lt_int (hQ s.toks (Nat.le_refl _))⟩
    · cases e
  · split at e
    · cases e
      obtain ⟨t, rfl⟩ := hv; obtain ⟨t', rfl⟩ := hu
      exact ⟨PyProof.Rows.gt_int (hQ s.toks (Nat.le_refl _))⟩
    · cases e
  · exact pyIn_ok false e hv hu T hb hr hQ
  · cases hp : pyIn p q with
    | none => rw [hp] at e; cases e
    | some c =>
      rw [hp] at e
      cases e
      exact pyIn_ok true hp hv hu T hb hr hQ

theorem truth_ok {p : PV} {b : Bool} {v : Value} {Q : Bool → Shared → Prop} (e : truth p = some b) (hv : Rd K ⟨s.heap, τ⟩ X v p)
    (hQ : ∀ tk, s.toks ≤ tk → Q b { s with toks := tk }) : Wp K.M A (truthy v) Q E s := by
  cases p <;> simp only [truth] at e <;> (try (cases e; done))
  · cases e; cases hv; exact ⟨wpAny_truthy_bool (hQ s.toks (Nat.le_refl _))⟩
  · cases e; obtain ⟨t, rfl⟩ := hv; exact ⟨P.truthy_int (hQ s.toks (Nat.le_refl _))⟩
  · split at e
    · rename_i l hz
      cases e
      obtain ⟨t, rfl⟩ := hv
      have hz : l.length ≤ 1000000 := Nat.le_of_ble_eq_true hz
      refine ⟨P.truthy_str (by rw [length_sOf]; omega) ?_⟩
      rw [length_sOf]
      have e1 : (((l.length : Nat) : Int) != 0) = !l.isEmpty := by cases l <;> simp <;> omega
      rw [e1]
      exact hQ _ (by omega)
    · cases e
  · split at e
    · rename_i l hz
      cases e
      obtain ⟨a, vs, rfl, _, p1, r1⟩ := hv
      have hz : l.length ≤ 1000000 := Nat.le_of_ble_eq_true hz
      have hn := r1.length
      refine ⟨wpAny_truthy_list p1.isList (by simp only [List.size_toArray]; omega) ?_⟩
      have e1 : vs.toArray.isEmpty = l.isEmpty := by
        cases l <;> cases vs <;> simp at hn ⊢
      rw [e1]
      exact hQ _ (by omega)
    · cases e

/-! ## items -/
theorem idx_seq {i : Int} {n j : Nat} (e : idx i n = some j) : seqIndex? i n = some j ∧ j < n ∧ -(2 ^ 63) ≤ i ∧ i < 2 ^ 63 ∧ (if i < 0 then -(n : Int) ≤ i ∧ j = (i + n).toNat else i < n ∧ j = i.toNat) := by
  unfold idx at e
  unfold seqIndex?
  split at e
  · rename_i hz
    have hz : n ≤ 1000000 := Nat.le_of_ble_eq_true hz
    split at e
    · split at e
      · cases e
        rename_i h1 h2
        refine ⟨?_, by omega, by omega, by omega, by rw [if_pos h1]; exact ⟨h2, rfl⟩⟩
        simp only [h1, if_true]
        rw [if_pos (by simp; omega)]
      · cases e
    · split at e
      · cases e
        rename_i h1 h2
        refine ⟨?_, by omega, by omega, by omega, by rw [if_neg h1]; exact ⟨h2, rfl⟩⟩
        simp only [h1, if_false]
        rw [if_pos (by simp; omega)]
      · cases e
  · cases e

theorem getI_ok {p q r : PV} {v u : Value} {Q : Value → Shared → Prop} (e : getI p q = some r) (hv : Rd K ⟨s.heap, τ⟩ X v p) (hu : Rd K ⟨s.heap, τ⟩ X u q) (T : TokOk s τ)
    (hQ : ∀ v s' τ', Ext s τ s' τ' → Rd K ⟨s'.heap, τ'⟩ X v r → Q v s') :
    (∃ T id, s.TypeIs v T ∧ typeLookup (.type T) "__getitem__" = pure (some (.builtin id))) ∧ Wp K.M A (getItem v u) Q E s := by
  unfold getI at e
  split at e
  · rename_i l i
    cases hi : idx i l.length with
    | none => rw [hi] at e; cases e
    | some j =>
      rw [hi] at e
      dsimp only at e
      obtain ⟨a, vs, rfl, _, p1, r1⟩ := hv
      obtain ⟨t, rfl⟩ := hu
      have hn := r1.length
      refine ⟨⟨_, _, p1.isList.typeIs, list_getitem_lookup⟩, ?_⟩
      obtain ⟨w', g1, g2⟩ := r1.get e
      obtain ⟨_, _, h3, h4, h5⟩ := idx_seq hi
      split at h5
      · rename_i h1
        refine ⟨wpAny_getItem_list_neg p1.isList h1 (by simp only [List.size_toArray, hn]; exact h5.1) h3 (by simp only [List.size_toArray, hn, List.getElem?_toArray]; rw [← h5.2]; exact g1) (hQ _ _ _ (.refl T) g2)⟩
      · refine ⟨wpAny_getItem_list p1.isList (by omega) h4 (by rw [List.getElem?_toArray, ← h5.2]; exact g1) (hQ _ _ _ (.refl T) g2)⟩
  · rename_i l i
    cases hi : idx i l.length with
    | none => rw [hi] at e; cases e
    | some j =>
      rw [hi] at e
      dsimp only at e
      obtain ⟨a, vs, rfl, _, p1, r1⟩ := hv
      obtain ⟨t, rfl⟩ := hu
      have hn := r1.length
      have ht : s.TypeIs (.ref a) "tuple" := let ⟨o, ho, hc, _⟩ := p1.isTuple; ⟨o, ho, hc⟩
      refine ⟨⟨_, _, ht, PySem.F.slot_tuple_getitem.lookup⟩, ?_⟩
      obtain ⟨w', g1, g2⟩ := r1.get e
      obtain ⟨h1, _, h3, h4, _⟩ := idx_seq hi
      exact ⟨PyProof.Rows.getItem_tuple (j := j) p1.isTuple h3 h4 (by simp only [List.size_toArray, hn]; exact h1) (by rw [List.getElem?_toArray]; exact g1) (hQ _ _ _ (.refl T) g2)⟩
  · rename_i l i
    cases hi : idx i l.length with
    | none => rw [hi] at e; cases e
    | some j =>
      rw [hi] at e
      dsimp only at e
      obtain ⟨t, rfl⟩ := hv
      obtain ⟨t', rfl⟩ := hu
      refine ⟨⟨_, _, typeIs_str _ _ _, PySem.F.slot_str_getitem.lookup⟩, ?_⟩
      obtain ⟨h1, h2, h3, h4, _⟩ := idx_seq hi
      cases hc : l[j]? with
      | none => rw [hc] at e; cases e
      | some c =>
        rw [hc] at e
        cases e
        refine ⟨P.getItem_str (c := c) (by simp; omega) (by rw [length_sOf, h1]; simpa using hc) (hQ _ _ _ (.tok1 T) ?_)⟩
        exact ⟨_, rfl⟩
  · rename_i l k
    obtain ⟨a, kvs, rfl, _, ⟨hd, hs⟩, hl⟩ := hv
    obtain ⟨t, rfl⟩ := hu
    obtain ⟨v', g1, g2⟩ := (look_valueAt k hl).2 r e
    refine ⟨⟨_, _, hd.typeIs, slot_dict_getitem.lookup⟩, ?_⟩
    exact ⟨wpAny_getItem_of (knd := PySem.strKind K.prog K.w) (k := sOf k) (strKind_is _ _ _ _) hd.mapOf g1 (hQ _ _ _ (.tok1 T) g2)⟩
  · cases e

/-! ## slices -/
theorem clip_at {d n a : Nat} {p : PV} {v : Value} {g : Hp} (e : clip d n p = some a) (hv : Rd K g X v p) : ∃ k : Option Int, IsPart v k ∧ a = k.elim d (clipAt n) ∧ ∃ kt : Option (Int × Tok), v = partValue kt ∧ kt.map (·.1) = k := by
  unfold clip at e
  split at e
  · cases e; cases hv; exact ⟨none, .none, rfl, none, rfl, rfl⟩
  · cases e
    obtain ⟨t, rfl⟩ := hv
    refine ⟨some _, .int _ t, ?_, some (_, t), rfl, rfl⟩
    simp only [Option.elim]
    unfold clipAt
    split
    · omega
    · split <;> omega
  · cases e

/-- the slice's object laid -/
abbrev withSlice (s : Shared) (vl vu vt : Value) : Shared := { s with heap := s.heap.push { cls := .type "slice", data := .fields #[vl, vu, vt] } }

theorem RdL.slice {l : List PV} {vs : List Value} {g : Hp} (h : RdL K g X vs l) (a b : Nat) : RdL K g X ((vs.drop a).take (b - a)) ((l.drop a).take (b - a)) := (h.drop a).take _

theorem str_slice (l : List Nat) (t : Tok) (lo hi : Option (Int × Tok)) (hz : l.length ≤ sizeLine) {Q : Value → Shared → Prop}
    (hQ : ∀ t' tk, Q (.str (sOf ((l.drop ((lo.map (·.1)).elim 0 (clipAt l.length))).take ((hi.map (·.1)).elim l.length (clipAt l.length) - (lo.map (·.1)).elim 0 (clipAt l.length)))) t') { s with toks := tk }) :
    (sliceMade (sOf l) t lo hi none).post Q s := by
  have hp : slicePicked (sOf l) lo hi none = (List.range ((hi.map (·.1)).elim l.length (clipAt l.length) - (lo.map (·.1)).elim 0 (clipAt l.length))).map ((lo.map (·.1)).elim 0 (clipAt l.length) + ·) := by
    rw [← sliceRange_one]
    unfold slicePicked Builtin.Str.strSliceIndices
    rw [length_sOf]
    have e := sliceBounds_plain (lo.map (·.1)) (hi.map (·.1)) l.length
    unfold sliceBounds at e
    simp only [Option.getD_none, Option.map_none] at e ⊢
    have e1 := congrArg (·.1) e
    have e2 := congrArg (·.2.1) e
    simp only at e1 e2
    rw [← e1, ← e2]
    rfl
  have hf : (⟨((slicePicked (sOf l) lo hi none).filterMap ((sOf l).cps[·]?)).toArray⟩ : Str) = sOf ((l.drop ((lo.map (·.1)).elim 0 (clipAt l.length))).take ((hi.map (·.1)).elim l.length (clipAt l.length) - (lo.map (·.1)).elim 0 (clipAt l.length))) := by
    rw [hp, pick_run]
  unfold sliceMade
  refine post_val_or_str ?_
  have hsame : ∀ c : Prop, [Decidable c] → (c → sOf l = sOf ((l.drop ((lo.map (·.1)).elim 0 (clipAt l.length))).take ((hi.map (·.1)).elim l.length (clipAt l.length) - (lo.map (·.1)).elim 0 (clipAt l.length)))) →
      (if c then sOf l else ⟨((slicePicked (sOf l) lo hi none).filterMap ((sOf l).cps[·]?)).toArray⟩) = sOf ((l.drop ((lo.map (·.1)).elim 0 (clipAt l.length))).take ((hi.map (·.1)).elim l.length (clipAt l.length) - (lo.map (·.1)).elim 0 (clipAt l.length))) := fun c _ hc => by
    split
    · rename_i h; exact hc h
    · exact hf
  rw [hsame _ fun hc => ?_]
  · refine ⟨?_, fun t' k => hQ t' k⟩
    rw [length_sOf]
    refine Nat.le_trans ?_ hz
    simp only [List.length_take, List.length_drop]
    omega
  · simp only [Bool.and_eq_true, beq_iff_eq, length_sOf] at hc
    rw [hp] at hc
    simp only [List.length_map, List.length_range] at hc
    have h1 := hc.2
    have hb : (hi.map (·.1)).elim l.length (clipAt l.length) ≤ l.length := by
      cases hi with
      | none => exact Nat.le_refl _
      | some x => simp only [Option.map_some, Option.elim]; unfold clipAt; omega
    have h0 : (lo.map (·.1)).elim 0 (clipAt l.length) = 0 ∨ l.length = 0 := by omega
    rcases h0 with h0 | h0
    · rw [h0] at h1 ⊢
      rw [List.drop_zero, List.take_of_length_le (by omega)]
    · have : l = [] := List.eq_nil_of_length_eq_zero h0
      subst this
      simp

theorem slice_ok {p lo hi st r : PV} {v vl vu vt : Value} {Q : Value → Shared → Prop} (e : slice p lo hi st = some r) (hv : Rd K ⟨s.heap, τ⟩ X v p) (hl : Rd K ⟨s.heap, τ⟩ X vl lo) (hu : Rd K ⟨s.heap, τ⟩ X vu hi) (ht : Rd K ⟨s.heap, τ⟩ X vt st)
    (T : TokOk s τ) (hX : XD s.heap X) (hQ : ∀ v s' τ', Ext s τ s' τ' → Rd K ⟨s'.heap, τ'⟩ X v r → Q v s') :
    (∃ T id, (withSlice s vl vu vt).TypeIs v T ∧ typeLookup (.type T) "__getitem__" = pure (some (.builtin id))) ∧ Wp K.M A (getItem v (.ref s.heap.objs.size)) Q E (withSlice s vl vu vt) := by
  have hk : ∀ b o, s.heap.get? b = some o → (withSlice s vl vu vt).heap.get? b = some o := fun _ _ e => Heap.get?_push_of_some _ e
  have hs : (withSlice s vl vu vt).heap.IsSliceOf s.heap.objs.size vl vu vt := .new ..
  unfold slice at e
  split at e
  · rename_i l
    split at e
    · rename_i hz
      have hz := szOk_le hz
      obtain ⟨a, vs, rfl, _, p1, r1⟩ := hv
      have hn := r1.length
      have p1' := p1.keep hk
      have r1' : RdL K ⟨(withSlice s vl vu vt).heap, τ⟩ X vs l := RdL.heap hk r1
      refine ⟨⟨_, _, p1'.isList.typeIs, list_getitem_lookup⟩, ?_⟩
      have T' : TokOk (withSlice s vl vu vt) τ := T.le (Nat.le_refl _)
      have fin : ∀ (ys : List Value) (m : List PV), RdL K ⟨(withSlice s vl vu vt).heap, τ⟩ X ys m → PV.list m = r → Q (.ref (withSlice s vl vu vt).heap.objs.size) { withSlice s vl vu vt with heap := (withSlice s vl vu vt).heap.push { cls := .type "list", data := .seq ys.toArray } } := fun ys m hy hm => by
        subst hm
        refine hQ _ _ _ ((Ext.push T).trans (.push T')) ?_
        exact (fresh_list (s := withSlice s vl vu vt) hy).rd (hX.keep hk)
      unfold sliceL at e
      split at e
      · cases ht
        cases hc1 : clip 0 l.length lo with
        | none => rw [hc1] at e; cases e
        | some a1 =>
          rw [hc1] at e
          cases hc2 : clip l.length l.length hi with
          | none => rw [hc2] at e; cases e
          | some a2 =>
            rw [hc2] at e
            simp only [Option.map_some, Option.some.injEq] at e
            obtain ⟨k1, q1, rfl, _⟩ := clip_at hc1 hl
            obtain ⟨k2, q2, rfl, _⟩ := clip_at hc2 hu
            refine ⟨wpAny_getItem_list_slice p1'.isList hs q1 q2 .none (by simp) ?_ ?_⟩
            · rw [slicePick_plain]
              simp only [List.size_toArray, hn]
              exact fin _ _ (r1'.slice _ _) e
            · first | (simp only [List.size_toArray, hn]; exact hz) | omega
      · split at e
        · split at e
          · rename_i i _ _ h1
            have : i = -1 := by simpa using h1
            subst this
            simp only [Option.map_some, Option.some.injEq] at e
            cases hl
            cases hu
            obtain ⟨t, rfl⟩ := ht
            refine ⟨wpAny_getItem_list_slice p1'.isList hs .none .none (.int _ t) (by decide) ?_ ?_⟩
            · rw [PySem.W.krv_pick]
              exact fin _ _ r1'.reverse e
            · first | (simp only [List.size_toArray, hn]; exact hz) | omega
          · cases e
        · cases e
      · cases e
    · cases e
  · rename_i l
    split at e
    · split at e
      · rename_i hz
        have hz := szOk_le hz
        obtain ⟨t, rfl⟩ := hv
        cases ht
        refine ⟨⟨_, _, typeIs_str _ _ _, PySem.F.slot_str_getitem.lookup⟩, ?_⟩
        unfold sliceL at e
        cases hc1 : clip 0 l.length lo with
        | none => simp only [hc1] at e; cases e
        | some a1 =>
          simp only [hc1] at e
          cases hc2 : clip l.length l.length hi with
          | none => simp only [hc2] at e; cases e
          | some a2 =>
            simp only [hc2, Option.map_some, Option.some.injEq] at e
            obtain ⟨k1, _, rfl, kt1, rfl, rfl⟩ := clip_at hc1 hl
            obtain ⟨k2, _, rfl, kt2, rfl, rfl⟩ := clip_at hc2 hu
            subst e
            refine Wp.untok ⟨wpAny_getItem_str_slice (l := kt1) (u := kt2) (st := none) hs rfl (str_slice l t kt1 kt2 hz fun t' tk hle => ?_)⟩
            exact hQ _ _ _ (.of hk T hle) ⟨_, rfl⟩
      · cases e
    · cases e
  · cases e
end
end Mine
namespace Mine
open PySem PySem.SeqAt PyProof.Rows

/-! ## texts -/
theorem replaceC_append (c : Nat) (t : List Nat) (a b : List Nat) : replaceC (a ++ b) c t = replaceC a c t ++ replaceC b c t := by simp [replaceC]
theorem replaceC_free (c : Nat) (t : List Nat) : ∀ l : List Nat, c ∉ l → replaceC l c t = l
  | [], _ => rfl
  | k :: r, h => by
    have h1 : (k == c) = false := by simpa using fun e : k = c => h (e ▸ List.mem_cons_self ..)
    have h2 : c ∉ r := fun m => h (List.mem_cons_of_mem _ m)
    show (if k == c then t else [k]) ++ replaceC r c t = _
    rw [h1, replaceC_free c t r h2]; rfl
theorem replaceC_join (c : Nat) (t : List Nat) : ∀ parts : List Str, (∀ p ∈ parts, c ∉ p.cps.toList) → replaceC (Str.join ⟨#[c]⟩ parts).cps.toList c t = (Str.join (sOf t) parts).cps.toList
  | [], _ => rfl
  | [p], h => replaceC_free c t _ (h p (List.mem_singleton.mpr rfl))
  | p :: q :: r, h => by
    have ih := replaceC_join c t (q :: r) fun a ha => h a (List.mem_cons_of_mem _ ha)
    show replaceC (p ++ ⟨#[c]⟩ ++ Str.join ⟨#[c]⟩ (q :: r)).cps.toList c t = (p ++ sOf t ++ Str.join (sOf t) (q :: r)).cps.toList
    simp only [Str.cps_append, Array.toList_append]
    rw [replaceC_append, replaceC_append, ih, replaceC_free c t _ (h p (List.mem_cons_self ..))]
    simp [replaceC]
theorem txt_replace (l : List Nat) (c : Nat) (t : List Nat) : Txt.replace (sOf l) (sOf [c]) (sOf t) = sOf (replaceC l c t) := by
  have h : (Txt.replace (sOf l) ⟨#[c]⟩ (sOf t)).cps.toList = replaceC l c t := by
    rw [StrLaws.replace_one, ← replaceC_join c t _ (StrLaws.split_free (sOf l) c), StrLaws.join_split]
  show Txt.replace (sOf l) ⟨#[c]⟩ (sOf t) = _
  rw [← h]

theorem txt_join : ∀ ss : List (List Nat), Txt.join (sOf []) (ss.map sOf) = sOf ss.flatten := by
  intro ss
  show Builtin.Str.glued (sOf []) (ss.map sOf) = _
  rw [StrLaws.glued_eq_join]
  induction ss with
  | nil => rfl
  | cons a r ih =>
    cases r with
    | nil => simp [Str.join]
    | cons b r =>
      show sOf a ++ sOf [] ++ Str.join (sOf []) ((b :: r).map sOf) = _
      rw [ih, append_sOf, append_sOf]
      simp

theorem join_size : ∀ (ss : List (List Nat)) (n : Nat), ((ss.map sOf).toArray.foldl (· + ·.length + (sOf []).length) n) = n + ss.flatten.length := by
  intro ss n
  rw [List.foldl_toArray]
  induction ss generalizing n with
  | nil => simp
  | cons a r ih =>
    rw [List.map_cons, List.foldl_cons, ih]
    simp [length_sOf]
    omega

theorem idxOf_spec (c : Nat) : ∀ (l : List Nat) (k : Nat), idxOf? c l = some k → l[k]? = some c ∧ ∀ j, j < k → l[j]? ≠ some c
  | [], k, h => by simp [idxOf?] at h
  | x :: r, k, h => by
    simp only [idxOf?] at h
    split at h
    · rename_i hx
      cases h
      exact ⟨by simpa using hx, fun j hj => by omega⟩
    · rename_i hx
      cases hr : idxOf? c r with
      | none => rw [hr] at h; cases h
      | some m =>
        rw [hr] at h
        simp only [Option.map_some, Option.some.injEq] at h
        subst h
        obtain ⟨h1, h2⟩ := idxOf_spec c r m hr
        refine ⟨by simpa using h1, fun j hj => ?_⟩
        cases j with
        | zero => simpa using hx
        | succ j => simpa using h2 j (by omega)

theorem idxOf_occ (c : Nat) (l : List Nat) (k : Nat) (h : idxOf? c l = some k) : ∃ rest, Builtin.Str.occurrences (sOf l) (sOf [c]) 0 (sOf l).length 1 = k :: rest := by
  obtain ⟨h1, h2⟩ := idxOf_spec c l k h
  have hat : ∀ i : Nat, StrLaws.At (sOf l) (sOf [c]) (sOf l).length i ↔ l[i]? = some c := fun i => StrLaws.subAt_one (sOf l) c i
  rcases StrLaws.occ_head (sOf l) (sOf [c]) 1 (Nat.le_refl _) with ⟨_, hn⟩ | ⟨i, r, e, hi, hlt⟩
  · exact (hn k ((hat k).mpr h1)).elim
  · have : i = k := by
      rcases Nat.lt_trichotomy i k with hc | hc | hc
      · exact (h2 i hc ((hat i).mp hi)).elim
      · exact hc
      · exact (hlt k hc ((hat k).mpr h1)).elim
    subst this
    exact ⟨r, e⟩

theorem take_sub_dropWhile (p : Nat → Bool) (l : List Nat) : l.take (l.length - (l.reverse.takeWhile p).length) = (l.reverse.dropWhile p).reverse := by
  have h := List.takeWhile_append_dropWhile (p := p) (l := l.reverse)
  have e : l = (l.reverse.dropWhile p).reverse ++ (l.reverse.takeWhile p).reverse := by
    rw [← List.reverse_append, h, List.reverse_reverse]
  have hl : l.length - (l.reverse.takeWhile p).length = (l.reverse.dropWhile p).reverse.length := by
    have := congrArg List.length e
    simp only [List.length_append, List.length_reverse] at this
    simp only [List.length_reverse]
    omega
  rw [hl]
  have e2 : (l.reverse.dropWhile p).reverse <+: l := ⟨_, e.symm⟩
  exact (List.prefix_iff_eq_take.mp e2).symm

theorem txt_rstrip (l : List Nat) (c : Nat) : Txt.rstripChars (sOf l) (sOf [c]) = sOf (rstripC c l) := by
  have hg : (fun x => (sOf [c]).cps.contains x) = fun x => x == c := by
    funext x
    rw [Bool.eq_iff_iff, Array.contains_iff_mem]
    simp
  have hs : PySem.stripped (sOf [c]).cps.contains false true (sOf l) = sOf (rstripC c l) := by
    unfold PySem.stripped PySem.stripLo PySem.stripHi
    simp only [Bool.false_eq_true, if_false, if_true, length_sOf, List.drop_zero]
    show (⟨_⟩ : Str) = _
    have e : (Builtin.Str.strSub (sOf l) 0 (l.length - ((sOf l).cps.toList.reverse.takeWhile (sOf [c]).cps.contains).length)).cps.toList = rstripC c l := by
      rw [StrLaws.strSub_toList]
      simp only [List.drop_zero, Nat.sub_zero]
      show l.take (l.length - (l.reverse.takeWhile (fun x => (sOf [c]).cps.contains x)).length) = _
      rw [hg, take_sub_dropWhile]
      rfl
    rw [← e]
    rfl
  unfold Txt.rstripChars Txt.stripBy
  split
  · rename_i h
    unfold PySem.stripSame PySem.stripLo PySem.stripHi at h
    simp only [Bool.false_eq_true, if_false, if_true, length_sOf, List.drop_zero, beq_self_eq_true, Bool.true_and, beq_iff_eq] at h
    have hz : l.take (l.length - (l.reverse.takeWhile (fun x => x == c)).length) = rstripC c l := take_sub_dropWhile _ l
    rw [← hz]
    have h' : l.length - (l.reverse.takeWhile (fun x => x == c)).length = l.length := by
      rw [← hg]; exact h
    rw [h', List.take_length]
  · exact hs

section
variable {K : Cx} {A : Around} {E : Value → Shared → Prop} {s : Shared} {τ : Tk} {X : Addr → Prop} {Q : Value → Shared → Prop}

theorem strsOf_ok {g : Hp} : ∀ {l : List PV} {vs : List Value} {ss : List (List Nat)}, strsOf l = some ss → RdL K g X vs l → ∃ xs : List (Str × Tok), vs = PySem.strValues xs ∧ xs.map (·.1) = ss.map sOf
  | [], _, ss, e, h => by cases h; simp [strsOf] at e; subst e; exact ⟨[], rfl, rfl⟩
  | .str x :: l, _, ss, e, h => by
    obtain ⟨v, r, rfl, h1, h2⟩ := h
    obtain ⟨t, rfl⟩ := h1
    simp only [strsOf] at e
    cases hr : strsOf l with
    | none => rw [hr] at e; cases e
    | some q =>
      rw [hr] at e
      cases e
      obtain ⟨xs, e1, e2⟩ := strsOf_ok hr h2
      exact ⟨(sOf x, t) :: xs, by rw [e1]; rfl, by simp [e2]⟩

theorem intsOf_ok {g : Hp} : ∀ {l : List PV} {vs : List Value} {is : List Int}, intsOf l = some is → RdL K g X vs l → IntsAre vs is
  | [], _, is, e, h => by cases h; simp [intsOf] at e; subst e; exact .nil
  | .int x :: l, _, is, e, h => by
    obtain ⟨v, r, rfl, h1, h2⟩ := h
    obtain ⟨t, rfl⟩ := h1
    simp only [intsOf] at e
    cases hr : intsOf l with
    | none => rw [hr] at e; cases e
    | some q =>
      rw [hr] at e
      cases e
      exact .cons x t (intsOf_ok hr h2)
theorem mth_ok {m : Mth} {o r : PV} {args : List PV} {v : Value} {vs : List Value} (e : mth m o args = some r) (hv : Rd K ⟨s.heap, τ⟩ X v o) (ha : RdL K ⟨s.heap, τ⟩ X vs args) (T : TokOk s τ)
    (hQ : ∀ v s' τ', Ext s τ s' τ' → Rd K ⟨s'.heap, τ'⟩ X v r → Q v s') : Wp K.M A (call (.builtin (mthId m)) (v :: vs)) Q E s := by
  cases mth_is e with
  | join l ss hs hz =>
    obtain ⟨t, rfl⟩ := hv
    obtain ⟨u, r', rfl, h1, h2⟩ := ha
    cases h2
    obtain ⟨a, ws, rfl, _, p1, r1⟩ := h1
    obtain ⟨xs, rfl, e2⟩ := strsOf_ok hs r1
    have hz : ss.flatten.length ≤ 1000000 := Nat.le_of_ble_eq_true hz
    refine Wp.untok ⟨SC.join p1.isList e2 ?_ fun t' k hle => ?_⟩
    · unfold JoinOk Builtin.Str.tooLong
      rw [join_size]
      simp only [Nat.zero_add, sizeLine, Bool.not_eq_true', decide_eq_false_iff_not, gt_iff_lt, Nat.not_lt]
      omega
    · rw [txt_join]
      exact hQ _ _ _ (.tok T hle) ⟨_, rfl⟩
  | index l c k hk =>
    obtain ⟨t, rfl⟩ := hv
    obtain ⟨u, r', rfl, h1, h2⟩ := ha
    cases h2
    obtain ⟨t', rfl⟩ := h1
    obtain ⟨rest, ho⟩ := idxOf_occ c l k hk
    exact ⟨SC.index ho (hQ _ _ _ (.tok1 T) ⟨_, rfl⟩)⟩
  | rstrip l c hz =>
    obtain ⟨t, rfl⟩ := hv
    obtain ⟨u, r', rfl, h1, h2⟩ := ha
    cases h2
    obtain ⟨t', rfl⟩ := h1
    refine Wp.untok ⟨SC.rstripChars (fun t' k hle => ?_) (by rw [length_sOf]; exact szOk_le hz)⟩
    rw [txt_rstrip]
    exact hQ _ _ _ (.tok T hle) ⟨_, rfl⟩
end
end Mine
namespace Mine
open PySem PySem.SeqAt PyProof.Rows

noncomputable def bltV : Blt → Value
  | .len => .builtin "len"
  | .sum => .builtin "sum"
  | .int => .type "int"
  | .min => .builtin "min"
  | .max => .builtin "max"
  | .range => .type "range"
  | .list => .type "list"
  | .tuple => .type "tuple"
  | .sorted => .builtin "sorted"

theorem ints_items : ∀ {vs : List Value} {is : List Int}, IntsAre vs is → ∃ xs : List (Int × Tok), vs.toArray = intItems xs.toArray ∧ xs.map (·.1) = is
  | _, _, .nil => ⟨[], by simp [intItems], rfl⟩
  | _, _, .cons n t h => by
    obtain ⟨xs, e1, e2⟩ := ints_items h
    refine ⟨(n, t) :: xs, ?_, by simp [e2]⟩
    simp [intItems] at e1 ⊢
    exact e1

section
variable {K : Cx} {A : Around} {E : Value → Shared → Prop} {s : Shared} {τ : Tk} {X : Addr → Prop} {Q : Value → Shared → Prop}

noncomputable def fvals (fs : List (UInt64 × Tok)) : List Value := fs.map fun f => Value.float f.1 f.2
noncomputable def fbt (fs : List (UInt64 × Tok)) (o : Ordering) (i j : Nat) : Bool := Float64.cmp ((fs[i]?.map (·.1)).getD 0) ((fs[j]?.map (·.1)).getD 0) == some o

/-- floats walked for the best of them -/
theorem flt_walk (fs : List (UInt64 × Tok)) (hA : A.handled = none) (hne : 0 < fs.length) (op : CmpOp) (o : Ordering)
    (hop : ∀ (x y : UInt64) (t u : Tok) (s : Shared) (Q : Value → Shared → Prop) (E : Value → Shared → Prop), Q (.bool (Float64.cmp x y == some o)) s → wpAny K.M A.in1 (richCompare op (.float x t) (.float y u)) Q E s)
    (h : ∀ v h' tk, (fvals fs)[argBest (fbt fs o) (fs.length - 1)]? = some v → (∀ d o, s.heap.get? d = some o → h'.get? d = some o) → Q v { s with heap := h', toks := tk }) :
    wpAny K.M A.in1 (pyIter (.ref s.heap.objs.size)) (fun it s₂ => ∃ I fp wr n P St bt, it = .ref I ∧ Walks K.prog K.w A.in1 I fp wr n P St ∧ St 0 s₂.heap ∧ (∀ b ∈ fp, b < s₂.heap.objs.size) ∧ 0 < n ∧ CmpOf K.prog K.w A.in1 op P bt ∧
      ∀ v h' tk, P (argBest bt (n - 1)) v → (∀ b o, b ∉ wr → s₂.heap.get? b = some o → h'.get? b = some o) → Q v { s₂ with heap := h', toks := tk }) E
      { s with heap := s.heap.push { cls := .type "tuple", data := .seq (fvals fs).toArray } } := by
  have hT : (s.heap.push { cls := .type "tuple", data := .seq (fvals fs).toArray }).IsTuple s.heap.objs.size (fvals fs).toArray := ⟨_, Heap.get?_push_size _ rfl, rfl, 0, rfl⟩
  have hsz : (s.heap.push { cls := .type "tuple", data := .seq (fvals fs).toArray }).objs.size = s.heap.objs.size + 1 := Heap.size_push ..
  have hlen : (fvals fs).toArray.size = fs.length := by simp [fvals]
  refine wpAny_pyIter_tuple hT ?_
  refine ⟨_, [_, s.heap.objs.size], [_], _, _, _, fbt fs o, rfl, Walks.tuple (A := A.in1) hA _ s.heap.objs.size (by rw [hsz]; exact Nat.ne_of_lt (Nat.lt_succ_self _)) (fvals fs).toArray,
    ⟨⟨_, Heap.get?_push_size _ rfl, rfl, rfl⟩, hT.push _⟩, fun d hd => ?_, by rw [hlen]; exact hne, fun i j vi vj s' Q' E' hi hj hq => ?_, fun v h' tk hP hk => ?_⟩
  · show d < ((s.heap.push _).push _).objs.size
    rw [Heap.size_push, hsz]
    rcases List.mem_cons.mp hd with rfl | hd
    · rw [hsz]; exact Nat.lt_succ_self _
    · rcases List.mem_cons.mp hd with rfl | hd
      · exact Nat.lt_succ_of_lt (Nat.lt_succ_self _)
      · cases hd
  · have key : ∀ (i : Nat) (v : Value), (fvals fs).toArray[i]? = some v → ∃ t, v = .float ((fs[i]?.map (·.1)).getD 0) t := fun i v hv => by
      simp only [List.getElem?_toArray, fvals, List.getElem?_map] at hv
      cases hf : fs[i]? with
      | none => rw [hf] at hv; cases hv
      | some f => rw [hf] at hv; cases hv; exact ⟨f.2, rfl⟩
    obtain ⟨t, rfl⟩ := key i vi hi
    obtain ⟨u, rfl⟩ := key j vj hj
    exact hop _ _ t u s' Q' E' hq
  · refine h v h' tk (by rw [← hlen]; simpa using hP) fun d o e => ?_
    refine hk d o (fun hm => ?_) (Heap.get?_push_of_some _ (Heap.get?_push_of_some _ e))
    rcases List.mem_cons.mp hm with e1 | hm
    · have := Heap.lt_size e; rw [e1, hsz] at this; exact Nat.lt_irrefl _ (Nat.lt_of_succ_lt this)
    · cases hm

theorem RdD.length {g : Hp} : ∀ {l : List (List Nat × PV)} {kvs : List (Str × Value)}, RdD K g X kvs l → kvs.length = l.length
  | [], _, e => by cases e; rfl
  | (k, p) :: l, _, e => by
    obtain ⟨v, r, rfl, _, h2⟩ := e
    simp [RdD.length h2]
theorem RdD.key {g : Hp} : ∀ {l : List (List Nat × PV)} {kvs : List (Str × Value)} {i : Nat} {k : Str} {x : Value} {kp : List Nat × PV}, RdD K g X kvs l → kvs[i]? = some (k, x) → l[i]? = some kp → k = sOf kp.1
  | [], _, _, _, _, _, _, _, h => by simp at h
  | (k', p) :: l, _, 0, _, _, _, e, h1, h2 => by
    obtain ⟨v, r, rfl, _, _⟩ := e
    simp at h1 h2
    rw [← h2, ← h1.1]
  | (k', p) :: l, _, i + 1, _, _, _, e, h1, h2 => by
    obtain ⟨v, r, rfl, _, h3⟩ := e
    exact RdD.key h3 (by simpa using h1) (by simpa using h2)

theorem best3 {a b c : UInt64} {t u r : Tok} {o : Ordering} {v : Value} (h : (fvals [(a, t), (b, u), (c, r)])[argBest (fbt [(a, t), (b, u), (c, r)] o) 2]? = some v) :
    v = (if Float64.cmp c (if Float64.cmp b a == some o then b else a) == some o then .float c r else if Float64.cmp b a == some o then .float b u else .float a t) := by
  have e1 : argBest (fbt [(a, t), (b, u), (c, r)] o) 1 = if Float64.cmp b a == some o then 1 else 0 := by simp [argBest, fbt]
  have e2 : argBest (fbt [(a, t), (b, u), (c, r)] o) 2 = if Float64.cmp c (if Float64.cmp b a == some o then b else a) == some o then 2 else if Float64.cmp b a == some o then 1 else 0 := by
    show (if fbt [(a, t), (b, u), (c, r)] o 2 (argBest (fbt [(a, t), (b, u), (c, r)] o) 1) = true then 2 else argBest (fbt [(a, t), (b, u), (c, r)] o) 1) = _
    rw [e1]
    have e3 : fbt [(a, t), (b, u), (c, r)] o 2 (if Float64.cmp b a == some o then 1 else 0) = (Float64.cmp c (if Float64.cmp b a == some o then b else a) == some o) := by
      split <;> rfl
    rw [e3]
  rw [e2] at h
  by_cases h1 : (Float64.cmp b a == some o) = true
  · rw [if_pos h1, if_pos h1] at h
    rw [if_pos h1, if_pos h1]
    by_cases h2 : (Float64.cmp c b == some o) = true
    · rw [if_pos h2] at h ⊢; simp [fvals] at h; rw [← h]
    · rw [if_neg h2] at h ⊢; simp [fvals] at h; rw [← h]
  · rw [if_neg h1, if_neg h1] at h
    rw [if_neg h1, if_neg h1]
    by_cases h2 : (Float64.cmp c a == some o) = true
    · rw [if_pos h2] at h ⊢; simp [fvals] at h; rw [← h]
    · rw [if_neg h2] at h ⊢; simp [fvals] at h; rw [← h]
theorem best2 {a b : UInt64} {t u : Tok} {o : Ordering} {v : Value} (h : (fvals [(a, t), (b, u)])[argBest (fbt [(a, t), (b, u)] o) 1]? = some v) :
    v = (if Float64.cmp b a == some o then .float b u else .float a t) := by
  have e1 : argBest (fbt [(a, t), (b, u)] o) 1 = if Float64.cmp b a == some o then 1 else 0 := by simp [argBest, fbt]
  rw [e1] at h
  by_cases h1 : (Float64.cmp b a == some o) = true
  · rw [if_pos h1] at h ⊢; simp [fvals] at h; rw [← h]
  · rw [if_neg h1] at h ⊢; simp [fvals] at h; rw [← h]

theorem rd_ite {g : Hp} {c : Prop} [Decidable c] {v u : Value} {a b : UInt64} (h1 : Rd K g X v (.flt a)) (h2 : Rd K g X u (.flt b)) : Rd K g X (if c then v else u) (.flt (if c then a else b)) := by
  split
  · exact h1
  · exact h2

theorem blt_ok {b : Blt} {args : List PV} {r : PV} {vs : List Value} (e : blt b args = some r) (ha : RdL K ⟨s.heap, τ⟩ X vs args) (T : TokOk s τ) (hX : XD s.heap X) (hA : A.handled = none)
    (hQ : ∀ v s' τ', Ext s τ s' τ' → Rd K ⟨s'.heap, τ'⟩ X v r → Q v s') : Wp K.M A (call (bltV b) vs) Q E s := by
  cases blt_is e with
  | lenS l hz =>
    obtain ⟨v, r', rfl, ⟨t, rfl⟩, h2⟩ := ha
    cases h2
    have hz : l.length ≤ 1000000 := Nat.le_of_ble_eq_true hz
    refine ⟨P.len_str (by rw [length_sOf]; omega) ?_⟩
    rw [length_sOf]
    exact hQ _ _ _ (.tok T (by omega)) ⟨_, rfl⟩
  | lenL l hz =>
    obtain ⟨v, r', rfl, ⟨a, ws, rfl, _, p1, r1⟩, h2⟩ := ha
    cases h2
    have hz : l.length ≤ 1000000 := Nat.le_of_ble_eq_true hz
    have hn := r1.length
    refine ⟨Calls.call_len_list p1.isList (by simp only [List.size_toArray]; omega) ?_⟩
    simp only [List.size_toArray, hn]
    exact hQ _ _ _ (.tok T (by omega)) ⟨_, rfl⟩
  | sum l is hz hi =>
    obtain ⟨v, r', rfl, ⟨a, ws, rfl, _, p1, r1⟩, h2⟩ := ha
    cases h2
    obtain ⟨xs, e1, e2⟩ := ints_items (intsOf_ok hi r1)
    have hl := p1.isList
    rw [e1] at hl
    refine Wp.untok ⟨sum_intListG hA hl fun h' tk t' hk hle => ?_⟩
    have e3 : preSum (numAt xs.toArray) xs.toArray.size = is.sum := by
      rw [preSum_eq, List.take_of_length_le (by simp), ← e2]
    rw [e3]
    exact hQ _ _ _ (.of hk T hle) ⟨_, rfl⟩
  | int x sg m ex hd =>
    obtain ⟨v, r', rfl, ⟨t, rfl, _⟩, h2⟩ := ha
    cases h2
    exact ⟨call_int_float hd (hQ _ _ _ (.tok1 T) ⟨_, rfl⟩)⟩
  | minF a b =>
    obtain ⟨v, r', rfl, ⟨t, rfl, ht⟩, v', r'', rfl, ⟨t', rfl, ht'⟩, h2⟩ := ha
    cases h2
    refine Wp.untok ⟨call_min_two (flt_walk (K := K) (Q := fun v s' => s.toks ≤ s'.toks → Q v s') [(a, t), (b, t')] hA (by simp) .Lt .lt (fun x y t u s Q E h => AutoFloatOps.lt_0 h) fun v h' tk hv hk hle => hQ _ _ _ (.of hk T hle) ?_)⟩
    rw [best2 hv]
    exact rd_ite ⟨_, rfl, ht'⟩ ⟨_, rfl, ht⟩
  | min3 a b c =>
    obtain ⟨v, r', rfl, ⟨t, rfl, ht⟩, v', r'', rfl, ⟨t', rfl, ht'⟩, v'', r3, rfl, ⟨t'', rfl, ht''⟩, h2⟩ := ha
    cases h2
    refine Wp.untok ⟨call_min_three (flt_walk (K := K) (Q := fun v s' => s.toks ≤ s'.toks → Q v s') [(a, t), (b, t'), (c, t'')] hA (by simp) .Lt .lt (fun x y t u s Q E h => AutoFloatOps.lt_0 h) fun v h' tk hv hk hle => hQ _ _ _ (.of hk T hle) ?_)⟩
    rw [best3 hv]
    exact rd_ite ⟨_, rfl, ht''⟩ (rd_ite ⟨_, rfl, ht'⟩ ⟨_, rfl, ht⟩)
  | max3 a b c =>
    obtain ⟨v, r', rfl, ⟨t, rfl, ht⟩, v', r'', rfl, ⟨t', rfl, ht'⟩, v'', r3, rfl, ⟨t'', rfl, ht''⟩, h2⟩ := ha
    cases h2
    refine Wp.untok ⟨call_max_three (flt_walk (K := K) (Q := fun v s' => s.toks ≤ s'.toks → Q v s') [(a, t), (b, t'), (c, t'')] hA (by simp) .Gt .gt (fun x y t u s Q E h => AutoFloatOps.gt_0 h) fun v h' tk hv hk hle => hQ _ _ _ (.of hk T hle) ?_)⟩
    rw [best3 hv]
    exact rd_ite ⟨_, rfl, ht''⟩ (rd_ite ⟨_, rfl, ht'⟩ ⟨_, rfl, ht⟩)
  | range n h =>
    obtain ⟨v, r', rfl, ⟨t, rfl⟩, h2⟩ := ha
    cases h2
    refine ⟨call_range_1 (hQ _ _ _ (.of (fun _ _ e => Heap.get?_push_of_some _ e) T (by omega)) ?_)⟩
    exact ⟨_, _, _, _, rfl, hX.fresh (get_size _), IsRange.new ..⟩
  | listR n hz =>
    obtain ⟨v, r', rfl, ⟨a, t, u, w', rfl, _, p1⟩, h2⟩ := ha
    cases h2
    have hz := Nat.le_of_ble_eq_true hz
    have hsz : Builtin.Range.rangeSize 0 n 1 = ((n.toNat : Nat) : Int) := by
      unfold Builtin.Range.rangeSize
      simp only [show (1 : Int) > 0 from by decide, if_true]
      split <;> omega
    refine Wp.untok ⟨call_list_range (n := n.toNat) hA p1 ?_ hsz (by omega) fun h' tk acc' c' hk hD hit hle => hQ _ _ _ (.of hk T hle) ?_⟩
    · unfold Builtin.Range.small Builtin.Range.rangeFitsLong
      rw [hsz]
      simp
      omega
    · refine ⟨_, acc'.toList, rfl, hX.fresh (get_size _), ⟨c', by simpa using hD⟩, RdL.of_get (by simp [upto, hit.1]) fun i v p h1 h2 => ?_⟩
      obtain ⟨t', rfl⟩ := hit.2 i v (by simpa using h1)
      simp only [upto, List.getElem?_map] at h2
      cases hr : (List.range n.toNat)[i]? with
      | none => rw [hr] at h2; cases h2
      | some k =>
        rw [hr] at h2
        cases h2
        have : k = i := by
          rw [List.getElem?_eq_some_iff] at hr
          obtain ⟨_, hr⟩ := hr
          simpa using hr.symm
        subst this
        exact ⟨t', by simp⟩
end
end Mine
namespace Mine
open PySem PySem.SeqAt PyProof.Rows

/-- a walk over the items of a datum, laid -/
structure Walk (K : Cx) (A : Around) (s : Shared) (τ : Tk) (X : Addr → Prop) (items : List PV) (I : Addr) (fp wr : List Addr) (P : Nat → Value → Prop) (St : Nat → Heap → Prop) (s₂ : Shared) : Prop where
  walks : Walks K.prog K.w A I fp wr items.length P St
  start : St 0 s₂.heap
  low : ∀ b ∈ fp, b < s₂.heap.objs.size
  new : ∀ b ∈ wr, s.heap.get? b = none
  off : ∀ b ∈ fp, b ∈ wr ∨ (¬ X b ∧ ∃ o, s.heap.get? b = some o)
  live : ∀ i h, St i h → ∀ b ∈ wr, ∃ o, h.get? b = some o
  ext : Ext s τ s₂ τ
  item : ∀ i v, i < items.length → P i v → ∃ q, items[i]? = some q ∧ Rd K ⟨s.heap, τ⟩ X v q
  few : items.length ≤ 1000000

section
variable {K : Cx} {A : Around} {E : Value → Shared → Prop} {s : Shared} {τ : Tk} {X : Addr → Prop} {Q : Value → Shared → Prop}

theorem iter_ok {p : PV} {items : List PV} {v : Value} (e : itemsOf p = some items) (hv : Rd K ⟨s.heap, τ⟩ X v p) (T : TokOk s τ) (hA : A.handled = none)
    (hQ : ∀ I fp wr P St s₂, Walk K A s τ X items I fp wr P St s₂ → Q (.ref I) s₂) : Wp K.M A (pyIter v) Q E s := by
  unfold itemsOf at e
  split at e
  · split at e
    · rename_i hz
      cases e
      obtain ⟨a, vs, rfl, hx, p1, r1⟩ := hv
      have hn := r1.length
      have hz : items.length ≤ 1000000 := Nat.le_of_ble_eq_true hz
      obtain ⟨na, p1'⟩ := id p1
      have hne : a ≠ s.heap.objs.size := Nat.ne_of_lt (Heap.lt_size p1')
      have W := Walks.list (prog := K.prog) (w := K.w) hA s.heap.objs.size a hne vs.toArray
      rw [show vs.toArray.size = items.length by simp [hn]] at W
      refine ⟨wpAny_pyIter_list p1.isList (hQ s.heap.objs.size [s.heap.objs.size, a] [s.heap.objs.size] (fun i v => vs.toArray[i]? = some v) (fun i h => h.IsListIter s.heap.objs.size a i ∧ h.IsList a vs.toArray) _ ?_)⟩
      exact {
        walks := W
        start := ⟨⟨_, Heap.get?_push_size _ rfl, rfl, rfl⟩, p1.isList.push _⟩
        low := fun b hb => by
          show b < (s.heap.push _).objs.size
          rw [Heap.size_push]
          rcases List.mem_cons.mp hb with rfl | hb
          · exact Nat.lt_succ_self _
          · rw [List.mem_singleton.mp hb]; exact Nat.lt_succ_of_lt (Heap.lt_size p1')
        new := fun b hb => by rw [List.mem_singleton.mp hb]; exact get_size _
        off := fun b hb => by
          rcases List.mem_cons.mp hb with rfl | hb
          · exact .inl (List.mem_singleton.mpr rfl)
          · rw [List.mem_singleton.mp hb]; exact .inr ⟨hx, _, p1'⟩
        live := by
          rintro i h ⟨⟨o, ho, _⟩, _⟩ b hb
          rw [List.mem_singleton.mp hb]; exact ⟨o, ho⟩
        ext := .push T
        item := fun i v _ hi => r1.get' (by simpa using hi)
        few := hz }
    · cases e
  · split at e
    · rename_i hz
      cases e
      obtain ⟨a, vs, rfl, hx, p1, r1⟩ := hv
      have hn := r1.length
      have hz : items.length ≤ 1000000 := Nat.le_of_ble_eq_true hz
      obtain ⟨na, p1'⟩ := id p1
      have hne : a ≠ s.heap.objs.size := Nat.ne_of_lt (Heap.lt_size p1')
      have W := Walks.tuple (prog := K.prog) (w := K.w) hA s.heap.objs.size a hne vs.toArray
      rw [show vs.toArray.size = items.length by simp [hn]] at W
      refine ⟨wpAny_pyIter_tuple p1.isTuple (hQ s.heap.objs.size [s.heap.objs.size, a] [s.heap.objs.size] (fun i v => vs.toArray[i]? = some v) (fun i h => h.IsTupleIter s.heap.objs.size a i ∧ h.IsTuple a vs.toArray) _ ?_)⟩
      exact {
        walks := W
        start := ⟨⟨_, Heap.get?_push_size _ rfl, rfl, rfl⟩, p1.isTuple.push _⟩
        low := fun b hb => by
          show b < (s.heap.push _).objs.size
          rw [Heap.size_push]
          rcases List.mem_cons.mp hb with rfl | hb
          · exact Nat.lt_succ_self _
          · rw [List.mem_singleton.mp hb]; exact Nat.lt_succ_of_lt (Heap.lt_size p1')
        new := fun b hb => by rw [List.mem_singleton.mp hb]; exact get_size _
        off := fun b hb => by
          rcases List.mem_cons.mp hb with rfl | hb
          · exact .inl (List.mem_singleton.mpr rfl)
          · rw [List.mem_singleton.mp hb]; exact .inr ⟨hx, _, p1'⟩
        live := by
          rintro i h ⟨⟨o, ho, _⟩, _⟩ b hb
          rw [List.mem_singleton.mp hb]; exact ⟨o, ho⟩
        ext := .push T
        item := fun i v _ hi => r1.get' (by simpa using hi)
        few := hz }
    · cases e
  · split at e
    · rename_i l hz
      cases e
      obtain ⟨t, rfl⟩ := hv
      have hz : l.length ≤ 1000000 := Nat.le_of_ble_eq_true hz
      have hsz : (sOf l).cps.size = (l.map fun c => PV.str [c]).length := by simp
      have low : ∀ (o : Obj), ∀ b ∈ [s.heap.objs.size], b < (s.heap.push o).objs.size := fun o b hb => by
        rw [List.mem_singleton.mp hb, Heap.size_push]; exact Nat.lt_succ_self _
      have new : ∀ b ∈ [s.heap.objs.size], s.heap.get? b = none := fun b hb => by rw [List.mem_singleton.mp hb]; exact get_size _
      have item : ∀ (i : Nat) v, SignAt (sOf l) i v → ∃ q, (l.map fun c => PV.str [c])[i]? = some q ∧ Rd K ⟨s.heap, τ⟩ X v q := fun i v hi => by
        obtain ⟨c, u, hc, rfl⟩ := hi
        have hc : l[i]? = some c := by simpa using hc
        exact ⟨.str [c], by simp [hc], u, rfl⟩
      by_cases ha : (sOf l).cps.all (· < 128) = true
      · have W := Walks.strAscii (prog := K.prog) (w := K.w) hA s.heap.objs.size (sOf l) t
        rw [show (sOf l).cps.size = (l.map fun c => PV.str [c]).length from hsz] at W
        refine ⟨wpAny_pyIter_ascii ha (hQ s.heap.objs.size [s.heap.objs.size] [s.heap.objs.size] (SignAt (sOf l)) (fun i h => h.IsStrIter s.heap.objs.size "str_ascii_iterator" (sOf l) t i) _ ?_)⟩
        exact {
          walks := W
          start := ⟨_, Heap.get?_push_size _ rfl, rfl, rfl⟩
          low := low _
          new := new
          off := fun b hb => .inl hb
          live := by
            rintro i h ⟨o, ho, _⟩ b hb
            rw [List.mem_singleton.mp hb]; exact ⟨o, ho⟩
          ext := .push T
          item := fun i v _ hi => item i v hi
          few := by simpa using hz }
      · have W := Walks.strWide (prog := K.prog) (w := K.w) hA s.heap.objs.size (sOf l) t
        rw [show (sOf l).cps.size = (l.map fun c => PV.str [c]).length from hsz] at W
        refine ⟨wpAny_pyIter_wide (by simpa using ha) (hQ s.heap.objs.size [s.heap.objs.size] [s.heap.objs.size] (SignAt (sOf l)) (fun i h => h.IsStrIter s.heap.objs.size "str_iterator" (sOf l) t i) _ ?_)⟩
        exact {
          walks := W
          start := ⟨_, Heap.get?_push_size _ rfl, rfl, rfl⟩
          low := low _
          new := new
          off := fun b hb => .inl hb
          live := by
            rintro i h ⟨o, ho, _⟩ b hb
            rw [List.mem_singleton.mp hb]; exact ⟨o, ho⟩
          ext := .push T
          item := fun i v _ hi => item i v hi
          few := by simpa using hz }
    · cases e
  · split at e
    · rename_i n hz
      cases e
      obtain ⟨a, t, u, w', rfl, _, p1⟩ := hv
      have hz := Nat.le_of_ble_eq_true hz
      have hsz : Builtin.Range.rangeSize 0 n 1 = ((n.toNat : Nat) : Int) := by
        unfold Builtin.Range.rangeSize
        simp only [show (1 : Int) > 0 from by decide, if_true]
        split <;> omega
      have W := Walks.range (prog := K.prog) (w := K.w) hA s.heap.objs.size 0 1 n.toNat
      have hsm : Builtin.Range.small 0 n 1 = true := by
        unfold Builtin.Range.small Builtin.Range.rangeFitsLong
        rw [hsz]
        simp
        omega
      refine ⟨wpAny_pyIter_range p1 hsm (hQ s.heap.objs.size [s.heap.objs.size] [s.heap.objs.size] (fun i v => ∃ t, v = .int (0 + i * 1) t) (fun i h => IsRangeIter h s.heap.objs.size (0 + (i : Nat) * 1) ((n.toNat : Int) - (i : Nat)) 1) _ ?_)⟩
      exact {
        walks := by rw [show (upto n.toNat).length = n.toNat by simp [upto]]; exact W
        start := by
          show (s.heap.push _).get? _ = _
          rw [hsz, Heap.get?_push_size _ rfl]
          simp
        low := fun b hb => by
          show b < (s.heap.push _).objs.size
          rw [List.mem_singleton.mp hb, Heap.size_push]; exact Nat.lt_succ_self _
        new := fun b hb => by rw [List.mem_singleton.mp hb]; exact get_size _
        off := fun b hb => .inl hb
        live := fun i h hi b hb => by rw [List.mem_singleton.mp hb]; exact ⟨_, hi⟩
        ext := .push T
        item := by
          rintro i v hi ⟨t', rfl⟩
          have hi' : i < n.toNat := by simpa [upto] using hi
          refine ⟨.int i, by simp [upto, hi'], t', by simp⟩
        few := by simp [upto]; omega }
    · cases e
  · split at e
    · rename_i l hz
      cases e
      obtain ⟨a, kvs, rfl, hx, ⟨hd, hs⟩, hl⟩ := hv
      have hz : l.length ≤ 1000000 := Nat.le_of_ble_eq_true hz
      have hlen : kvs.length = l.length := RdD.length hl
      obtain ⟨ep, hat⟩ := hd.dictAt
      obtain ⟨o, es, ho, rest⟩ := id hat
      have hne : a ≠ s.heap.objs.size := Nat.ne_of_lt (Heap.lt_size ho)
      have W := Walks.dictKeys (prog := K.prog) (w := K.w) (knd := PySem.strKind K.prog K.w) hA s.heap.objs.size a hne kvs ep
      rw [show kvs.length = (l.map fun p => PV.str p.1).length by simp [hlen]] at W
      refine ⟨wpAny_pyIter_dict hs hat (hQ s.heap.objs.size [s.heap.objs.size, a] [s.heap.objs.size] (fun i v => ∃ k x, kvs[i]? = some (k, x) ∧ (PySem.strKind K.prog K.w).is k v = true) (fun i h => h.IsKeyIter s.heap.objs.size a i (l.map fun p => PV.str p.1).length ep ∧ Heap.DictAt (PySem.strKind K.prog K.w) h a kvs ep) _ ?_)⟩
      exact {
        walks := W
        start := ⟨⟨_, Heap.get?_push_size _ rfl, rfl, by simp [hlen]⟩, hat.keep fun _ _ e => Heap.get?_push_of_some _ e⟩
        low := fun b hb => by
          show b < (s.heap.push _).objs.size
          rw [Heap.size_push]
          rcases List.mem_cons.mp hb with rfl | hb
          · exact Nat.lt_succ_self _
          · rw [List.mem_singleton.mp hb]; exact Nat.lt_succ_of_lt (Heap.lt_size ho)
        new := fun b hb => by rw [List.mem_singleton.mp hb]; exact get_size _
        off := fun b hb => by
          rcases List.mem_cons.mp hb with rfl | hb
          · exact .inl (List.mem_singleton.mpr rfl)
          · rw [List.mem_singleton.mp hb]; exact .inr ⟨hx, _, ho⟩
        live := by
          rintro i h ⟨⟨o, ho, _⟩, _⟩ b hb
          rw [List.mem_singleton.mp hb]; exact ⟨o, ho⟩
        ext := .push T
        item := by
          rintro i v _ ⟨k, x, hkx, hkk⟩
          have hi : i < l.length := by rw [← hlen]; exact (List.getElem?_eq_some_iff.mp hkx).1
          have hr : l[i]? = some l[i] := List.getElem?_eq_getElem hi
          have := RdD.key hl hkx hr
          subst this
          exact ⟨.str l[i].1, by simp [hr], Value.isStrOf_shape hkk⟩
        few := by simpa using hz }
    · cases e
  · cases e
end
end Mine
namespace Mine
open PySem PySem.SeqAt PyProof.Rows

/-- what the top's names must be -/
structure Glb (K : Cx) (ft : List Str) : Prop where
  fn : ∀ name ∈ ft, ∃ d ∈ recsOf K.p, d.name = name
  nodebug : ∀ f ∈ ft, (f == ("__debug__" : Str)) = false
  blt : ∀ f b, bltOf f = some b → K.mg f = none ∧ K.mb f = some (bltV b)
  zip : K.mg ("zip" : Str) = none ∧ K.mb ("zip" : Str) = some (.type "zip")

/-- a frame at work -/
structure Frm (K : Cx) (m : Nat) (sc : Scope) (vars : List Str) (A : Around) (env : Env) (s : Shared) (τ : Tk) (X : Addr → Prop) (own : Nat → Option Addr) (ρ : Ρ) : Prop where
  room : Room m A
  top : K.T s.heap
  tok : TokOk s τ
  env : EnvOk K sc vars env ⟨s.heap, τ⟩ X own ρ
  xd : XD s.heap X
  ownX : ∀ j a, own j = some a → X a

section
variable {K : Cx} {m : Nat} {sc : Scope} {vars : List Str} {A : Around} {env : Env} {s s' : Shared} {τ τ' : Tk} {X : Addr → Prop} {own : Nat → Option Addr} {ρ : Ρ}

theorem Frm.ext (F : Frm K m sc vars A env s τ X own ρ) (x : Ext s τ s' τ') : Frm K m sc vars A env s' τ' X own ρ :=
  ⟨F.room, F.top.keep x.keep, x.ok, F.env.ext x, F.xd.keep x.keep, F.ownX⟩
theorem XD.off {h : Heap} (e : XD h X) (l : List Nat) : XD h (Off X own l) := fun a x => e a x.1
theorem Frm.xdo (F : Frm K m sc vars A env s τ X own ρ) (l : List Nat) : XD s.heap (Off X own l) := F.xd.off l
end

/-- the answer of a term: what it is, and whether it is new -/
noncomputable def Ans (K : Cx) (s : Shared) (τ : Tk) (X : Addr → Prop) (own : Nat → Option Addr) (x : Mine.X) (p : PV) (v : Value) (s' : Shared) (τ' : Tk) : Prop :=
  Ext s τ s' τ' ∧ Rd K ⟨s'.heap, τ'⟩ (Off X own (al x)) v p ∧ (isFresh x = true → FreshRd K s.heap ⟨s'.heap, τ'⟩ (Off X own (al x)) v p)

/-- a term stands for an expression -/
noncomputable def EvAt (K : Cx) (C : Orc) (m : Nat) (sc : Scope) (vars : List Str) (e : Expr) (x : Mine.X) : Prop :=
  ∀ (A : Around) (env : Env) (s : Shared) (τ : Tk) (X : Addr → Prop) (own : Nat → Option Addr) (ρ : Ρ) (p : PV), Frm K m sc vars A env s τ X own ρ → ev C x ρ = some p →
    ∀ (Q : Value → Shared → Prop) (E : Value → Shared → Prop), (∀ v s' τ', Ans K s τ X own x p v s' τ' → Q v s') → Wp K.M A (eval e env) Q E s
noncomputable def TrAt (K : Cx) (C : Orc) (m : Nat) (sc : Scope) (vars : List Str) (e : Expr) (x : Mine.X) : Prop :=
  ∀ (A : Around) (env : Env) (s : Shared) (τ : Tk) (X : Addr → Prop) (own : Nat → Option Addr) (ρ : Ρ) (p : PV) (b : Bool), Frm K m sc vars A env s τ X own ρ → ev C x ρ = some p → truth p = some b →
    ∀ (Q : Bool → Shared → Prop) (E : Value → Shared → Prop), (∀ s' τ', Ext s τ s' τ' → Q b s') → Wp K.M A (isTrue e env (eval e env)) Q E s

section
variable {K : Cx} {C : Orc} {m : Nat} {sc : Scope} {vars : List Str} {ft : List Str}

theorem Rd.offl {g : Hp} {X : Addr → Prop} {own : Nat → Option Addr} {l l' : List Nat} {v : Value} {p : PV} (hl : ∀ j ∈ l, j ∈ l') (h : Rd K g (Off X own l) v p) : Rd K g (Off X own l') v p := h.less fun _ y => y.anti hl
theorem RdL.offl {g : Hp} {X : Addr → Prop} {own : Nat → Option Addr} {l l' : List Nat} {v : List Value} {p : List PV} (hl : ∀ j ∈ l, j ∈ l') (h : RdL K g (Off X own l) v p) : RdL K g (Off X own l') v p := h.less fun _ y => y.anti hl

theorem FreshRd.old {h h' : Heap} {g : Hp} {X : Addr → Prop} {v : Value} {p : PV} (e : FreshRd K h' g X v p) (hk : ∀ b o, h.get? b = some o → h'.get? b = some o) : FreshRd K h g X v p := by
  obtain ⟨a, rfl, h1, h2⟩ := e
  refine ⟨a, rfl, ?_, h2⟩
  cases ha : h.get? a with
  | none => rfl
  | some o => rw [hk _ _ ha] at h1; cases h1

theorem ev_const {c : Const} {k : Nat} {pos : Pos} {v : PV} (h : cstOf c = some v) : EvAt K C m sc vars (.Constant c k pos) (.cst v) := by
  intro A env s τ X own ρ p F e Q E hQ
  simp only [ev, Option.some.injEq] at e
  subst e
  have nf : ∀ {P : Prop}, isFresh (.cst v) = true → P := fun h => by cases h
  rw [arm_eval_Constant]
  cases c <;> simp only [cstOf] at h <;> (try (cases h; done)) <;> cases h
  · exact .pure (hQ _ _ _ ⟨.refl F.tok, rfl, nf⟩)
  · exact .pure (hQ _ _ _ ⟨.refl F.tok, rfl, nf⟩)
  · exact ⟨wpAny_Constant_int (k := k) (pos := pos) (hQ _ _ _ ⟨.tok1 F.tok, ⟨_, rfl⟩, nf⟩)⟩
  · exact ⟨PySem.wpAny_Constant_float (k := k) (pos := pos) (hQ _ _ _ ⟨.flt F.tok _, ⟨_, rfl, .inr ⟨rfl, rfl⟩⟩, nf⟩)⟩
  · exact ⟨Calls.Constant_str (k := k) (pos := pos) (hQ _ _ _ ⟨.tok1 F.tok, ⟨_, rfl⟩, nf⟩)⟩

theorem varAt_ok {x : Str} {i : Nat} (h : varAt sc vars x = some i) : isVarK (sc.names.lookup x) = true ∧ (x == ("__debug__" : Str)) = false ∧ (x == (".0" : Str)) = false ∧ vars.findIdx? (· == x) = some i := by
  unfold varAt at h
  split at h
  · rename_i hc
    simp only [Bool.and_eq_true, Bool.not_eq_true'] at hc
    exact ⟨hc.1.1, hc.1.2, hc.2, h⟩
  · cases h

theorem load_at {A : Around} {env : Env} {s : Shared} {E : Value → Shared → Prop} {x : Str} {v : Value} {Q : Value → Shared → Prop} (hk : env.scope.kind = .function) (h : At env s.heap x v) (hq : Q v s) : Wp K.M A (loadName env x) Q E s := by
  rcases h with ⟨hl, m, hn, hv⟩ | ⟨hl, c, hc, hv⟩
  · exact ⟨wpAny_loadName_local hk hl hn hv hq⟩
  · exact ⟨wpAny_loadName_cell hk hl hc hv hq⟩

theorem ev_name {x : Str} {pos : Pos} {i : Nat} (h : varAt sc vars x = some i) : EvAt K C m sc vars (.Name x pos) (.var i) := by
  intro A env s τ X own ρ p F e Q E hQ
  obtain ⟨h1, h2, h3, h4⟩ := varAt_ok h
  have hb : (ρ[i]?).bind Sl.val = some p := by
    simp only [ev] at e
    cases hr : ρ[i]? with
    | none => rw [hr] at e; cases e
    | some sl => rw [hr] at e; exact e
  obtain ⟨v, hat, hh⟩ := F.env.var x i p h3 h1 h4 hb
  have hk : env.scope.kind = .function := by rw [F.env.scope]; exact F.env.kind
  refine ⟨wpAny_Name (load_at hk hat (hQ v s τ ⟨.refl F.tok, ?_, fun h => by cases h⟩)).out h2⟩
  unfold Held at hh
  split at hh
  · exact hh.less fun _ y => y.1
  · rename_i a ha
    obtain ⟨rfl, hh⟩ := hh
    exact RdTop.rd (fun _ y => y.1) (fun y => y.2 i (List.mem_singleton.mpr rfl) ha) hh

theorem ev_neg {a : Expr} {x : X} {pos : Pos} (ih : EvAt K C m sc vars a x) : EvAt K C m sc vars (.UnaryOp .USub a pos) (.neg x) := by
  intro A env s τ X own ρ p F e Q E hQ
  simp only [ev] at e
  split at e
  · rename_i i he
    cases e
    rw [arm_eval_UnaryOp]
    refine .bind (ih A env s τ X own ρ _ F he _ _ fun v s₁ τ₁ ⟨h1, h2, _⟩ => .bind (.stand (.holding ?_)))
    obtain ⟨t, rfl⟩ := h2
    exact ⟨PyProof.Rows.neg_int (hQ _ _ _ ⟨h1.trans (.tok1 h1.ok), ⟨_, rfl⟩, fun h => by cases h⟩)⟩
  · cases e

theorem binop_scalar {op : Operator} {p q r : PV} (hm : mixes op = false) (e : binop op p q = some r) : scalar r = true := by
  have hF : ∀ a b, binF op a b = some r → scalar r = true := fun a b h => by
    cases op <;> simp only [binF] at h <;> (try (cases h; done)) <;> (try (cases h; rfl)) <;> (split at h <;> cases h <;> rfl)
  have hI : ∀ a b, binI op a b = some r → scalar r = true := fun a b h => by
    cases op <;> simp only [binI] at h <;> (try (cases h; done)) <;> (try (cases h; rfl)) <;> (split at h <;> (try (cases h; done)) <;> (try (cases h; rfl)) <;> (split at h <;> cases h <;> rfl))
  unfold binop at e
  split at e
  · exact hI _ _ e
  · exact hF _ _ e
  · rename_i a b
    cases hf : fltOf (PV.int b) with
    | none => rw [hf] at e; cases e
    | some x => rw [hf] at e; dsimp only at e; exact hF _ _ e
  · rename_i a b
    cases hf : fltOf (PV.int a) with
    | none => rw [hf] at e; cases e
    | some x => rw [hf] at e; dsimp only at e; exact hF _ _ e
  all_goals (cases op <;> simp_all [mixes])

theorem ev_bin {a b : Expr} {op : Operator} {x y : X} {pos : Pos} (iha : EvAt K C m sc vars a x) (ihb : EvAt K C m sc vars b y) : EvAt K C m sc vars (.BinOp a op b pos) (.bin op x y) := by
  intro A env s τ X own ρ p F e Q E hQ
  simp only [ev] at e
  cases hx : ev C x ρ with
  | none => rw [hx] at e; cases e
  | some px =>
    cases hy : ev C y ρ with
    | none => rw [hx, hy] at e; cases e
    | some py =>
      rw [hx, hy] at e
      dsimp only at e
      rw [arm_eval_BinOp]
      refine .bind (iha A env s τ X own ρ _ F hx _ _ fun v s₁ τ₁ ⟨h1, h2, _⟩ => .bind (.holding ?_))
      refine ihb A env s₁ τ₁ X own ρ _ (F.ext h1) hy _ _ fun u s₂ τ₂ ⟨g1, g2, _⟩ => .bind (.stand (.operate ?_))
      have h2' : Rd K ⟨s₂.heap, τ₂⟩ (Off X own (al x ++ al y)) v px := (h2.ext g1).offl fun j hj => List.mem_append_left _ hj
      have g2' : Rd K ⟨s₂.heap, τ₂⟩ (Off X own (al x ++ al y)) u py := g2.offl fun j hj => List.mem_append_right _ hj
      have F₂ := (F.ext h1).ext g1
      by_cases hf : isFresh (.bin op x y) = true
      · -- a list, times a number
        have hop : op = .Mult ∧ ∃ l, x = .lst l := by
          unfold isFresh at hf
          split at hf <;> first | cases hf | skip
          all_goals (rename_i heq; first | (cases heq; done) | (cases heq; exact ⟨rfl, _, rfl⟩))
        obtain ⟨rfl, l, rfl⟩ := hop
        have hpx : ∃ vs, px = .list vs := by
          simp only [ev] at hx
          split at hx
          · split at hx
            · cases hx; exact ⟨_, rfl⟩
            · cases hx
          · cases hx
        obtain ⟨vs, rfl⟩ := hpx
        cases py with
        | int i =>
          obtain ⟨t, rfl⟩ := g2'
          obtain ⟨a, ws, rfl, hoff, hp, hl⟩ := h2'
          simp only [binop] at e
          split at e
          · rename_i hz
            rw [Bool.and_eq_true] at hz
            cases e
            exact mul_list_ok hp hl hz.1 hz.2 F₂.tok fun w' s₃ τ₃ k1 k2 => hQ _ _ _ ⟨(h1.trans g1).trans k1, k2.rd (F₂.xdo _), fun _ => k2.old (h1.trans g1).keep⟩
          · cases e
        | _ => simp only [binop] at e; cases e
      · refine binop_ok e h2' g2' (F₂.xdo _) F₂.tok fun w' s₃ τ₃ k1 k2 => hQ _ _ _ ⟨(h1.trans g1).trans k1, ?_, fun h => absurd h hf⟩
        show Rd K _ (Off X own (if mixes op then al x ++ al y else [])) _ _
        cases hm : mixes op with
        | true => exact k2
        | false => exact k2.scalar (binop_scalar hm e)
end
end Mine
namespace Mine
open PySem PySem.SeqAt PyProof.Rows

section
variable {K : Cx} {C : Orc} {m : Nat} {sc : Scope} {vars : List Str} {ft : List Str}

theorem ev_cmp {a b : Expr} {op : CmpOp} {x y : Mine.X} {pos : Pos} (iha : EvAt K C m sc vars a x) (ihb : EvAt K C m sc vars b y) (hm : behindInMarks op b = false) : EvAt K C m sc vars (.Compare a [op] [b] pos) (.cmp op x y) := by
  intro A env s τ X own ρ p F e Q E hQ
  simp only [ev] at e
  cases hx : ev C x ρ with
  | none => rw [hx] at e; cases e
  | some px =>
    cases hy : ev C y ρ with
    | none => rw [hx, hy] at e; cases e
    | some py =>
      rw [hx, hy] at e
      dsimp only at e
      cases hc : cmpop op px py with
      | none => rw [hc] at e; cases e
      | some r =>
        rw [hc] at e
        cases e
        refine ⟨wpAny_Compare1 (iha A env s τ X own ρ _ F hx _ _ fun v s₁ τ₁ ⟨h1, h2, _⟩ => ?_).out hm⟩
        refine (ihb A env s₁ τ₁ X own ρ _ (F.ext h1) hy _ _ fun u s₂ τ₂ ⟨g1, g2, _⟩ => ?_).out
        have F₂ := (F.ext h1).ext g1
        have h2' : Rd K ⟨s₂.heap, τ₂⟩ (Off X own (al x ++ al y)) v px := (h2.ext g1).offl fun j hj => List.mem_append_left _ hj
        have g2' : Rd K ⟨s₂.heap, τ₂⟩ (Off X own (al x ++ al y)) u py := g2.offl fun j hj => List.mem_append_right _ hj
        exact (cmpop_ok hc h2' g2' F₂.tok F₂.top.nb (by have := F.room.units; omega) fun tk hle => hQ _ _ _ ⟨(h1.trans g1).trans (.tok F₂.tok hle), rfl, fun h => by cases h⟩).out

theorem tr_cmp {a b : Expr} {op : CmpOp} {x y : Mine.X} {pos : Pos} (iha : EvAt K C m sc vars a x) (ihb : EvAt K C m sc vars b y) (hm : behindInMarks op b = false) : TrAt K C m sc vars (.Compare a [op] [b] pos) (.cmp op x y) := by
  intro A env s τ X own ρ p bb F e ht Q E hQ
  simp only [ev] at e
  cases hx : ev C x ρ with
  | none => rw [hx] at e; cases e
  | some px =>
    cases hy : ev C y ρ with
    | none => rw [hx, hy] at e; cases e
    | some py =>
      rw [hx, hy] at e
      dsimp only at e
      cases hc : cmpop op px py with
      | none => rw [hc] at e; cases e
      | some r =>
        rw [hc] at e
        cases e
        cases ht
        refine ⟨wpAny_isTrue_Compare1 (iha A env s τ X own ρ _ F hx _ _ fun v s₁ τ₁ ⟨h1, h2, _⟩ => ?_).out hm⟩
        refine (ihb A env s₁ τ₁ X own ρ _ (F.ext h1) hy _ _ fun u s₂ τ₂ ⟨g1, g2, _⟩ => ?_).out
        have F₂ := (F.ext h1).ext g1
        have h2' : Rd K ⟨s₂.heap, τ₂⟩ (Off X own (al x ++ al y)) v px := (h2.ext g1).offl fun j hj => List.mem_append_left _ hj
        have g2' : Rd K ⟨s₂.heap, τ₂⟩ (Off X own (al x ++ al y)) u py := g2.offl fun j hj => List.mem_append_right _ hj
        exact (cmpop_ok hc h2' g2' F₂.tok F₂.top.nb (by have := F.room.units; omega) fun tk hle => wpAny_truthy_bool (hQ _ _ ((h1.trans g1).trans (.tok F₂.tok hle)))).out

/-- the plain road to a truth -/
theorem tr_of_ev {e : Expr} {x : Mine.X} (ih : EvAt K C m sc vars e x)
    (hs : ∀ env whole, isTrue e env whole = (do let v ← whole; standAt e.pos; holding [v] (truthy v))) : TrAt K C m sc vars e x := by
  intro A env s τ X own ρ p bb F he ht Q E hQ
  rw [hs]
  exact .bind (ih A env s τ X own ρ _ F he _ _ fun v s₁ τ₁ ⟨h1, h2, _⟩ => .bind (.stand (.holding (truth_ok ht h2 fun tk hle => hQ _ _ (h1.trans (.tok h1.ok hle))))))

/-- lists of expressions -/
noncomputable def EvL (K : Cx) (C : Orc) (m : Nat) (sc : Scope) (vars : List Str) : List Expr → XL → Prop
  | [], .nil => True
  | e :: r, .cons x l => EvAt K C m sc vars e x ∧ TrAt K C m sc vars e x ∧ (∀ a p, e ≠ .Starred a p) ∧ EvL K C m sc vars r l
  | _, _ => False

theorem ev_ite {c a b : Expr} {x y z : Mine.X} {pos : Pos} (ihc : TrAt K C m sc vars c x) (iha : EvAt K C m sc vars a y) (ihb : EvAt K C m sc vars b z) : EvAt K C m sc vars (.IfExp c a b pos) (.ite x y z) := by
  intro A env s τ X own ρ p F e Q E hQ
  rw [arm_eval_IfExp]
  simp only [ev] at e
  cases hx : ev C x ρ with
  | none => rw [hx] at e; cases e
  | some px =>
    rw [hx] at e
    dsimp only at e
    cases ht : truth px with
    | none => rw [ht] at e; cases e
    | some t =>
      rw [ht] at e
      refine .bind (ihc A env s τ X own ρ _ _ F hx ht _ _ fun s₁ τ₁ h1 => ?_)
      cases t with
      | true => exact iha A env _ _ X own ρ _ (F.ext h1) e _ _ fun v s₂ τ₂ ⟨k1, k2, _⟩ => hQ _ _ _ ⟨h1.trans k1, k2.offl (fun j hj => List.mem_append_left _ hj), fun h => by cases h⟩
      | false => exact ihb A env _ _ X own ρ _ (F.ext h1) e _ _ fun v s₂ τ₂ ⟨k1, k2, _⟩ => hQ _ _ _ ⟨h1.trans k1, k2.offl (fun j hj => List.mem_append_right _ hj), fun h => by cases h⟩

theorem tr_ite {c a b : Expr} {x y z : Mine.X} {pos : Pos} (ihc : TrAt K C m sc vars c x) (iha : TrAt K C m sc vars a y) (ihb : TrAt K C m sc vars b z) : TrAt K C m sc vars (.IfExp c a b pos) (.ite x y z) := by
  intro A env s τ X own ρ p bb F e htt Q E hQ
  rw [arm_isTrue_IfExp]
  simp only [ev] at e
  cases hx : ev C x ρ with
  | none => rw [hx] at e; cases e
  | some px =>
    rw [hx] at e
    dsimp only at e
    cases ht : truth px with
    | none => rw [ht] at e; cases e
    | some t =>
      rw [ht] at e
      refine .bind (ihc A env s τ X own ρ _ _ F hx ht _ _ fun s₁ τ₁ h1 => ?_)
      cases t with
      | true => exact iha A env _ _ X own ρ _ _ (F.ext h1) e htt _ _ fun s₂ τ₂ k1 => hQ _ _ (h1.trans k1)
      | false => exact ihb A env _ _ X own ρ _ _ (F.ext h1) e htt _ _ fun s₂ τ₂ k1 => hQ _ _ (h1.trans k1)

/-- arguments and items, one after another -/
theorem spliced_ok {pos : Pos} : ∀ {es : List Expr} {l : XL}, EvL K C m sc vars es l →
    ∀ (A : Around) (env : Env) (s : Shared) (τ : Tk) (X : Addr → Prop) (own : Nat → Option Addr) (ρ : Ρ) (ps : List PV), Frm K m sc vars A env s τ X own ρ → evL C l ρ = some ps →
    ∀ (Q : List Value → Shared → Prop) (E : Value → Shared → Prop), (∀ vs s' τ', Ext s τ s' τ' → RdL K ⟨s'.heap, τ'⟩ (Off X own (alL l)) vs ps → Q vs s') → Wp K.M A (spliced (backTo pos (starEach es env))) Q E s
  | [], .nil, _ => fun A env s τ X own ρ ps F e Q E hQ => by
    cases e
    exact ⟨Calls.spliced_nil (hQ _ _ _ (.refl F.tok) rfl)⟩
  | a :: es, .cons x l, ⟨iha, _, hst, ihl⟩ => fun A env s τ X own ρ ps F e Q E hQ => by
    simp only [evL] at e
    cases hx : ev C x ρ with
    | none => rw [hx] at e; cases e
    | some px =>
      cases hl : evL C l ρ with
      | none => rw [hx, hl] at e; cases e
      | some pl =>
        rw [hx, hl] at e
        cases e
        have hb : backTo pos (starEach (a :: es) env) = (false, eval a env) :: backTo pos (starEach es env) := by
          cases a <;> first | rfl | (exact absurd rfl (hst _ _))
        rw [hb]
        refine ⟨Calls.spliced_cons (iha A env s τ X own ρ _ F hx _ _ fun v s₁ τ₁ ⟨h1, h2, _⟩ => ?_).out⟩
        refine (spliced_ok ihl A env _ _ X own ρ _ (F.ext h1) hl _ _ fun vs s₂ τ₂ k1 k2 => hQ _ _ _ (h1.trans k1) ?_).out
        exact ⟨v, vs, rfl, (h2.ext k1).offl (fun j hj => List.mem_append_left _ hj), k2.offl (fun j hj => List.mem_append_right _ hj)⟩
  | [], .cons _ _, h => h.elim
  | _ :: _, .nil, h => h.elim

theorem ev_lst {es : List Expr} {l : XL} {pos : Pos} (ih : EvL K C m sc vars es l) : EvAt K C m sc vars (.List es pos) (.lst l) := by
  intro A env s τ X own ρ p F e Q E hQ
  rw [arm_eval_List]
  simp only [ev] at e
  cases hl : evL C l ρ with
  | none => rw [hl] at e; cases e
  | some ps =>
    rw [hl] at e
    dsimp only at e
    split at e
    · rename_i hz
      cases e
      refine .bind (.stand (.bind (spliced_ok ih A env s τ X own ρ _ F hl _ _ fun vs s₁ τ₁ h1 h2 => ?_)))
      refine ⟨wpAny_newList (hQ _ _ _ ⟨h1.trans (.push h1.ok), ?_, fun _ => (fresh_list h2).old h1.keep⟩) (by rw [h2.length]; exact szOk_le hz)⟩
      exact (fresh_list h2).rd ((F.ext h1).xdo _)
    · cases e

theorem fresh_tup {s : Shared} {τ : Tk} {X : Addr → Prop} {vs : List Value} {l : List PV} (hl : RdL K ⟨s.heap, τ⟩ X vs l) (hX : XD s.heap X) : Rd K ⟨s.heap.push { cls := .type "tuple", data := .seq vs.toArray }, τ⟩ X (.ref s.heap.objs.size) (.tup l) :=
  ⟨_, vs, rfl, hX.fresh (get_size _), PT.push vs, RdL.heap (fun _ _ e => Heap.get?_push_of_some _ e) hl⟩

theorem ev_tup {es : List Expr} {l : XL} {k : Nat} {pos : Pos} (ih : EvL K C m sc vars es l) : EvAt K C m sc vars (.Tuple es k pos) (.tup l) := by
  intro A env s τ X own ρ p F e Q E hQ
  rw [arm_eval_Tuple]
  simp only [ev] at e
  cases hl : evL C l ρ with
  | none => rw [hl] at e; cases e
  | some ps =>
    rw [hl] at e
    dsimp only at e
    split at e
    · rename_i hz
      cases e
      refine .bind (.stand (.bind (spliced_ok ih A env s τ X own ρ _ F hl _ _ fun vs s₁ τ₁ h1 h2 => ?_)))
      exact ⟨wpAny_newTuple (hQ _ _ _ ⟨h1.trans (.push h1.ok), fresh_tup h2 ((F.ext h1).xdo _), fun h => by cases h⟩) (by rw [h2.length]; exact szOk_le hz)⟩
    · cases e

theorem ev_sub {a b : Expr} {x y : Mine.X} {pos : Pos} (iha : EvAt K C m sc vars a x) (ihb : EvAt K C m sc vars b y) (hs : ∀ l u p, b ≠ .Slice l u none p) : EvAt K C m sc vars (.Subscript a b pos) (.sub x y) := by
  intro A env s τ X own ρ p F e Q E hQ
  simp only [ev] at e
  cases hx : ev C x ρ with
  | none => rw [hx] at e; cases e
  | some px =>
    cases hy : ev C y ρ with
    | none => rw [hx, hy] at e; cases e
    | some py =>
      rw [hx, hy] at e
      dsimp only at e
      refine ⟨Subscript_ (iha A env s τ X own ρ _ F hx _ _ fun v s₁ τ₁ ⟨h1, h2, _⟩ => ?_).out⟩
      refine (ihb A env s₁ τ₁ X own ρ _ (F.ext h1) hy _ _ fun u s₂ τ₂ ⟨g1, g2, _⟩ => ?_).out
      have F₂ := (F.ext h1).ext g1
      have hpy : scalar py = true := by
        unfold getI at e
        split at e <;> first | rfl | cases e
      have g2' : Rd K ⟨s₂.heap, τ₂⟩ (Off X own (al x)) u py := g2.scalar hpy
      obtain ⟨⟨T, id, hT, hl⟩, hg⟩ := getI_ok (A := A) (E := E) e (h2.ext g1) g2' F₂.tok fun w' s₃ τ₃ k1 k2 => hQ _ _ _ ⟨(h1.trans g1).trans k1, k2, fun h => by cases h⟩
      refine tail_any hT hl hg.out (ops := [v, u]) ?_
      unfold subscripted
      split
      · exact absurd rfl (hs _ _ _)
      · rename_i h; cases h
      · rfl

theorem part_ok {o : Option Expr} {x : Mine.X} (ih : match o with | none => x = .cst .none | some a => EvAt K C m sc vars a x) {A : Around} {env : Env} {s : Shared} {τ : Tk} {X : Addr → Prop} {own : Nat → Option Addr} {ρ : Ρ} {p : PV}
    (F : Frm K m sc vars A env s τ X own ρ) (e : ev C x ρ = some p) {Q : Value → Shared → Prop} {E : Value → Shared → Prop} (hQ : ∀ v s' τ', Ext s τ s' τ' → Rd K ⟨s'.heap, τ'⟩ (Off X own (al x)) v p → Q v s') : Wp K.M A (evalPart o env) Q E s := by
  cases o with
  | none =>
    dsimp only at ih
    subst ih
    cases e
    exact .pure (hQ _ _ _ (.refl F.tok) rfl)
  | some a => exact ih A env s τ X own ρ _ F e _ _ fun v s' τ' ⟨h1, h2, _⟩ => hQ _ _ _ h1 h2

theorem slice_parts {a lo hi st r : PV} (e : slice a lo hi st = some r) : scalar lo = true ∧ scalar hi = true ∧ scalar st = true := by
  have hL : ∀ {α : Type} (l : List α) (y : List α), sliceL l lo hi st = some y → scalar lo = true ∧ scalar hi = true ∧ scalar st = true := by
    intro α l y h
    unfold sliceL at h
    split at h
    · cases lo <;> cases hi <;> simp [clip, scalar] at h ⊢
    · split at h
      · exact ⟨rfl, rfl, rfl⟩
      · cases h
    · cases h
  unfold slice at e
  split at e
  · split at e
    · rename_i l _
      cases hs : sliceL l lo hi st with
      | none => rw [hs] at e; cases e
      | some y => exact hL l y hs
    · cases e
  · split at e
    · split at e
      · rename_i l _ _
        cases hs : sliceL l lo hi .none with
        | none => rw [hs] at e; cases e
        | some y => exact hL l y hs
      · cases e
    · cases e
  · cases e

theorem ev_slc {a : Expr} {lo hi st : Option Expr} {x l h t : Mine.X} {pos pos' : Pos} (iha : EvAt K C m sc vars a x) (il : match lo with | none => l = .cst .none | some a => EvAt K C m sc vars a l)
    (ih : match hi with | none => h = .cst .none | some a => EvAt K C m sc vars a h) (it : match st with | none => t = .cst .none | some a => EvAt K C m sc vars a t) : EvAt K C m sc vars (.Subscript a (.Slice lo hi st pos') pos) (.slc x l h t) := by
  intro A env s τ X own ρ p F e Q E hQ
  simp only [ev] at e
  cases hx : ev C x ρ with
  | none => rw [hx] at e; cases e
  | some px =>
    cases hl : ev C l ρ with
    | none => rw [hx, hl] at e; cases e
    | some pl =>
      cases hh : ev C h ρ with
      | none => rw [hx, hl, hh] at e; cases e
      | some ph =>
        cases ht : ev C t ρ with
        | none => rw [hx, hl, hh, ht] at e; cases e
        | some pt =>
          rw [hx, hl, hh, ht] at e
          dsimp only at e
          obtain ⟨c1, c2, c3⟩ := slice_parts e
          refine ⟨Subscript_ (iha A env s τ X own ρ _ F hx _ _ fun v s₁ τ₁ ⟨h1, h2, _⟩ => ?_).out⟩
          have F₁ := F.ext h1
          refine wpAny_Slice (part_ok il F₁ hl fun vl s₂ τ₂ k1 k2 => (part_ok ih (F₁.ext k1) hh fun vh s₃ τ₃ l1 l2 => (part_ok it ((F₁.ext k1).ext l1) ht fun vt s₄ τ₄ m1 m2 => ?_).out).out).out
          have x4 := ((h1.trans k1).trans l1).trans m1
          obtain ⟨⟨T, id, hT, hk⟩, hg⟩ := slice_ok (A := A) (E := E) (X := Off X own (al x)) e (((h2.ext k1).ext l1).ext m1) (((k2.scalar c1).ext l1).ext m1) ((l2.scalar c2).ext m1) (m2.scalar c3) m1.ok ((F.ext x4).xdo _) fun w' s₅ τ₅ n1 n2 => hQ _ _ _ ⟨x4.trans n1, n2, fun h => by cases h⟩
          cases st with
          | none => exact tail_any hT hk hg.out (ops := [.ref s₄.heap.objs.size, v]) rfl
          | some st => exact tail_any hT hk hg.out (ops := [v, .ref s₄.heap.objs.size]) rfl
end
end Mine
namespace Mine
open PySem PySem.SeqAt PyProof.Rows

section
variable {K : Cx} {C : Orc} {m : Nat} {sc : Scope} {vars : List Str} {ft : List Str}

/-- a new object was written to -/
theorem Ext.but {s s₁ : Shared} {τ τ₁ : Tk} {D : Addr} {h' : Heap} {t : Nat} (x : Ext s τ s₁ τ₁) (hD : s.heap.get? D = none) (hs : Heap.SameBut D s₁.heap h') (ht : s₁.toks ≤ t) : Ext s τ { s₁ with heap := h', toks := t } τ₁ :=
  ⟨x.gens, x.os, fun b o e => by
    have hb : b ≠ D := fun q => by subst q; rw [hD] at e; cases e
    show h'.get? b = some o
    rw [hs.2 b hb]
    exact x.keep b o e, x.sub, x.ok.le ht⟩

theorem Rd.but {s₁ : Shared} {τ₁ : Tk} {D : Addr} {h' : Heap} {X : Addr → Prop} {v : Value} {p : PV} (e : Rd K ⟨s₁.heap, τ₁⟩ X v p) (hX : X D) (hs : Heap.SameBut D s₁.heap h') : Rd K ⟨h', τ₁⟩ X v p :=
  Rd.mono (g := ⟨s₁.heap, τ₁⟩) (g' := ⟨h', τ₁⟩) (fun b o hb q => by
    have hb : b ≠ D := fun q => hb (q ▸ hX)
    show h'.get? b = some o
    rw [hs.2 b hb]; exact q) (fun _ _ q => q) (fun _ q => q) e
theorem RdL.but {s₁ : Shared} {τ₁ : Tk} {D : Addr} {h' : Heap} {X : Addr → Prop} {v : List Value} {p : List PV} (e : RdL K ⟨s₁.heap, τ₁⟩ X v p) (hX : X D) (hs : Heap.SameBut D s₁.heap h') : RdL K ⟨h', τ₁⟩ X v p :=
  RdL.mono (g := ⟨s₁.heap, τ₁⟩) (g' := ⟨h', τ₁⟩) (fun b o hb q => by
    have hb : b ≠ D := fun q => hb (q ▸ hX)
    show h'.get? b = some o
    rw [hs.2 b hb]; exact q) (fun _ _ q => q) (fun _ q => q) e
theorem RdD.but {s₁ : Shared} {τ₁ : Tk} {D : Addr} {h' : Heap} {X : Addr → Prop} {v : List (Str × Value)} {p : List (List Nat × PV)} (e : RdD K ⟨s₁.heap, τ₁⟩ X v p) (hX : X D) (hs : Heap.SameBut D s₁.heap h') : RdD K ⟨h', τ₁⟩ X v p :=
  RdD.mono (g := ⟨s₁.heap, τ₁⟩) (g' := ⟨h', τ₁⟩) (fun b o hb q => by
    have hb : b ≠ D := fun q => hb (q ▸ hX)
    show h'.get? b = some o
    rw [hs.2 b hb]; exact q) (fun _ _ q => q) (fun _ q => q) e

/-- the frame keeps off an object just laid -/
theorem Frm.push {A : Around} {env : Env} {s : Shared} {τ : Tk} {X : Addr → Prop} {own : Nat → Option Addr} {ρ : Ρ} {o : Obj} (F : Frm K m sc vars A env s τ X own ρ) (ho : o.isFreed = false) :
    Frm K m sc vars A env { s with heap := s.heap.push o } τ (fun b => X b ∨ b = s.heap.objs.size) own ρ :=
  have x : Ext s τ { s with heap := s.heap.push o } τ := .push F.tok
  ⟨F.room, F.top.keep x.keep, x.ok, (F.env.more (N := fun b => b = s.heap.objs.size) fun a e => e ▸ get_size _).ext x, fun a h => h.elim (fun h => F.xd.keep x.keep a h) (fun h => ⟨o, by subst h; exact Heap.get?_push_size _ ho⟩), fun j a h => .inl (F.ownX j a h)⟩

theorem Frm.notOwn {A : Around} {env : Env} {s : Shared} {τ : Tk} {X : Addr → Prop} {own : Nat → Option Addr} {ρ : Ρ} (F : Frm K m sc vars A env s τ X own ρ) {D : Addr} (hD : s.heap.get? D = none) (j : Nat) : own j ≠ some D :=
  fun h => F.xd.fresh hD (F.ownX j D h)

theorem Cx.T.notMods {h : Heap} (T : K.T h) : (h.objs.size == sysModules) = false := by
  obtain ⟨mc, hn, _⟩ := T.top.nodigits
  have := hn.lt
  have e : cStatics = 2 := rfl
  rw [e] at this
  simp only [sysModules, beq_eq_false_iff_ne, ne_eq]
  exact fun q => absurd (q ▸ this) (by decide)

theorem ev_dic0 {pos : Pos} : EvAt K C m sc vars (.Dict [] [] pos) (.dic .nil) := by
  intro A env s τ X own ρ p F e Q E hQ
  simp only [ev, evL, pairsOf, Option.map] at e
  cases e
  refine ⟨wpAny_Dict_empty (hQ _ _ τ ?_)⟩
  have hf : FreshRd K s.heap ⟨s.heap.push { cls := .type "dict", data := .dict #[] }, τ⟩ (Off X own []) (.ref s.heap.objs.size) (.dict []) := ⟨_, rfl, get_size _, [], ⟨.new _, F.top.notMods⟩, rfl⟩
  exact ⟨.push F.tok, hf.rd (F.xdo _), fun _ => hf⟩

theorem ev_dic1 {a b : Expr} {x y : Mine.X} {pos : Pos} (iha : EvAt K C m sc vars a x) (ihb : EvAt K C m sc vars b y) : EvAt K C m sc vars (.Dict [some a] [b] pos) (.dic (.cons x (.cons y .nil))) := by
  intro A env s τ X own ρ p F e Q E hQ
  simp only [ev, evL] at e
  cases hx : ev C x ρ with
  | none => rw [hx] at e; cases e
  | some px =>
    cases hy : ev C y ρ with
    | none => rw [hx, hy] at e; cases e
    | some py =>
      rw [hx, hy] at e
      dsimp only at e
      have hpx : ∃ k, px = .str k ∧ p = .dict [(k, py)] := by
        cases px <;> simp only [pairsOf, Option.map] at e <;> cases e
        exact ⟨_, rfl, rfl⟩
      obtain ⟨k, rfl, rfl⟩ := hpx
      have F' := F.push (o := { cls := .type "dict", data := .dict #[] }) rfl
      have hD := get_size s.heap
      refine ⟨wpAny_Dict_pairs (knd := PySem.strKind K.prog K.w) (pairs := [(eval a env, do let x ← eval b env; standAt pos; pure x)]) rfl (by simp) (by simp) ?_⟩
      refine evalPairs_cons (iha A env _ _ _ own ρ _ F' hx _ _ fun v s₁ τ₁ ⟨h1, h2, _⟩ => ?_).out
      refine (Wp.bind (f := fun x => standAt pos >>= fun _ => pure x) (ihb A env s₁ τ₁ _ own ρ _ (F'.ext h1) hy _ _ fun u s₂ τ₂ ⟨g1, g2, _⟩ => .bind (.stand (.pure ?_)))).out
      obtain ⟨t, rfl⟩ := h2
      refine evalPairs_nil ⟨[(sOf k, u)], ⟨by simp [PySem.strKind, Value.isStrOf], rfl, trivial⟩, ?_, fun h' hd hsb => hQ _ _ τ₂ ?_⟩
      · have := Heap.DictOf.new (knd := PySem.strKind K.prog K.w) s.heap
        obtain ⟨o, es, ep, ho, r⟩ := this
        exact ⟨o, es, ep, (h1.trans g1).keep _ _ ho, r⟩
      · have x2 : Ext s τ s₂ τ₂ := (Ext.push F.tok).trans (h1.trans g1)
        have hX : (fun b => Off X own (al x ++ (al y ++ [])) b ∨ b = s.heap.objs.size) s.heap.objs.size := .inr rfl
        have g2' : Rd K ⟨s₂.heap, τ₂⟩ (fun b => Off X own (al x ++ (al y ++ [])) b ∨ b = s.heap.objs.size) u py := g2.less fun b hb => by
          rcases hb with hb | hb
          · exact ⟨.inl hb.1, fun j hj => hb.2 j (List.mem_append_right _ (List.mem_append_left _ hj))⟩
          · exact ⟨.inr hb, fun j _ => hb ▸ F.notOwn hD j⟩
        have hf : FreshRd K s.heap ⟨h', τ₂⟩ (Off X own (al x ++ (al y ++ []))) (.ref s.heap.objs.size) (.dict [(k, py)]) :=
          ⟨_, rfl, hD, [(sOf k, u)], ⟨hd, F.top.notMods⟩, u, [], rfl, g2'.but hX hsb, rfl⟩
        exact ⟨x2.but hD hsb (Nat.le_add_right _ _), hf.rd (F.xdo _), fun _ => hf⟩

theorem base_plain {o : Expr} (h : plainBase o = true) (attr : Str) (env : Env) (whole : Sem Value) : attributeBase o attr env whole = whole := by
  cases o <;> first | rfl | (cases h; done)

theorem mth_scalar {f : Mth} {o r : PV} {l : List PV} (e : mth f o l = some r) : scalar r = true := by
  cases mth_is e <;> rfl
theorem mth_str {f : Mth} {o r : PV} {l : List PV} (e : mth f o l = some r) : ∃ s, o = .str s := by
  cases mth_is e <;> exact ⟨_, rfl⟩

noncomputable def mthName : Mth → Str
  | .join => "join"
  | .index => "index"
  | .rstrip => "rstrip"
theorem mthOf_name {f : Str} {b : Mth} (h : mthOf f = some b) : f = mthName b := by
  unfold mthOf at h
  split at h
  · rename_i h0; cases h; exact eq_of_beq h0
  · split at h
    · rename_i h0; cases h; exact eq_of_beq h0
    · split at h
      · rename_i h0; cases h; exact eq_of_beq h0
      · cases h
theorem mth_slot (b : Mth) : Slot "str" (mthName b) (mthId b) ∧ typeOf (.builtin (mthId b)) = pure (.type "method_descriptor") := by
  cases b
  · exact ⟨F.slot_str_join, F.type_str_join⟩
  · exact ⟨F.slot_str_index, F.type_str_index⟩
  · exact ⟨F.slot_str_rstrip, F.type_str_rstrip⟩

theorem ev_mth {o a : Expr} {f : Str} {b : Mth} {x y : Mine.X} {apos pos : Pos} (iho : EvAt K C m sc vars o x) (iha : EvAt K C m sc vars a y) (hst : ∀ e p, a ≠ .Starred e p) (hb : plainBase o = true) (hl : (apos.endLine == pos.line) = true)
    (hf : mthOf f = some b) : EvAt K C m sc vars (.Call (.Attribute o f apos) [a] [] pos) (.mth b x (.cons y .nil)) := by
  intro A env s τ X own ρ p F e Q E hQ
  simp only [ev, evL] at e
  cases hx : ev C x ρ with
  | none => rw [hx] at e; cases e
  | some px =>
    cases hy : ev C y ρ with
    | none => rw [hx, hy] at e; cases e
    | some py =>
      rw [hx, hy] at e
      dsimp only at e
      obtain ⟨l, rfl⟩ := mth_str e
      have hs : starEach [a] env = [(false, eval a env)] := by
        cases a <;> first | rfl | (exact absurd rfl (hst _ _))
      refine ⟨wpAny_Call_method (T := "str") (id := mthId b) (base_plain hb _ _ _) ?_ hl PySem.F.plainAttrs_str (mthOf_name hf ▸ (mth_slot b).1) (mth_slot b).2 ?_⟩
      · rw [hs]; rfl
      refine (iho A env s τ X own ρ _ F hx _ _ fun v s₁ τ₁ ⟨h1, h2, _⟩ => ?_).out
      obtain ⟨t, rfl⟩ := h2
      refine ⟨typeIs_str _ _ _, (fun _ e => nomatch e), ?_⟩
      rw [hs]
      refine Calls.callWith_builtin rfl (Calls.evalArgs_plain (Calls.spliced_cons (iha A env s₁ τ₁ X own ρ _ (F.ext h1) hy _ _ fun u s₂ τ₂ ⟨g1, g2, _⟩ => Calls.spliced_nil ?_).out))
      exact (mth_ok (X := Off X own (al y)) e ⟨t, rfl⟩ (.single g2) g1.ok fun w' s₃ τ₃ k1 k2 => hQ _ _ _ ⟨(h1.trans g1).trans k1, k2.scalar (mth_scalar e), fun h => by cases h⟩).out

theorem ev_rpl {o : Expr} {as : List Expr} {x : Mine.X} {c : Nat} {t : List Nat} {apos pos : Pos} (iho : EvAt K C m sc vars o x) (hb : plainBase o = true) (hl : (apos.endLine == pos.line) = true)
    (hr : rplOf as = some (c, t)) : EvAt K C m sc vars (.Call (.Attribute o "replace" apos) as [] pos) (.rpl x c t) := by
  intro A env s τ X own ρ p F e Q E hQ
  simp only [ev] at e
  split at e
  · rename_i l hx
    split at e
    · rename_i hz
      cases e
      have has : ∃ (a b : Str) (k1 k2 : Nat) (p1 p2 : Pos), as = [.Constant (.str a) k1 p1, .Constant (.str b) k2 p2] ∧ a.cps.toList = [c] ∧ b.cps.toList = t ∧ [c] ≠ t := by
        rcases as with _ | ⟨e1, _ | ⟨e2, _ | _⟩⟩ <;> first | (cases hr; done) | skip
        cases h1 : strE e1 with
        | none => simp only [rplOf, h1] at hr; cases hr
        | some a =>
          cases h2 : strE e2 with
          | none => simp only [rplOf, h1, h2] at hr; cases hr
          | some b =>
            simp only [rplOf, h1, h2] at hr
            obtain ⟨k1, p1, rfl⟩ := strE_inv h1
            obtain ⟨k2, p2, rfl⟩ := strE_inv h2
            refine ⟨a, b, k1, k2, p1, p2, rfl, ?_⟩
            generalize a.cps.toList = u at hr
            generalize b.cps.toList = w at hr
            rcases u with _ | ⟨d, _ | _⟩ <;> first | (cases hr; done) | skip
            unfold rpl3 at hr
            dsimp only at hr
            cases hd : ([d] == w) with
            | true => rw [hd] at hr; cases hr
            | false =>
              rw [hd] at hr
              cases hr
              exact ⟨rfl, rfl, by simpa using hd⟩
      obtain ⟨a, b, k1, k2, p1, p2, rfl, ha, rfl, hne⟩ := has
      have ha' : a = sOf [c] := by
        cases a with | mk cps => cases cps with | mk q => simp at ha; subst ha; rfl
      have hb' : b = sOf b.cps.toList := by
        cases b with | mk cps => cases cps with | mk q => rfl
      have hz' := Nat.le_of_ble_eq_true hz
      refine ⟨wpAny_Call_method (T := "str") (id := "str.replace") (base_plain hb _ _ _) rfl hl PySem.F.plainAttrs_str PySem.F.slot_str_replace PySem.F.type_str_replace ?_⟩
      refine (iho A env s τ X own ρ _ F hx _ _ fun v s₁ τ₁ ⟨h1, h2, _⟩ => ?_).out
      obtain ⟨tt, rfl⟩ := h2
      refine ⟨typeIs_str _ _ _, (fun _ e => nomatch e), ?_⟩
      show wpAny K.M A (callWith pos (.builtin "str.replace") [.str (sOf l) tt] [(false, eval (.Constant (.str a) k1 p1) env), (false, eval (.Constant (.str b) k2 p2) env)] []) Q E s₁
      refine Calls.callWith_builtin rfl (Calls.evalArgs_plain (Calls.spliced_cons (Calls.Constant_str (Calls.spliced_cons (Calls.Constant_str (Calls.spliced_nil ?_))))))
      show wpAny K.M A (call (.builtin "str.replace") [.str (sOf l) tt, .str a s₁.toks, .str b (s₁.toks + 1)]) Q E _
      have hp := h1.ok.pos
      refine (Wp.untok ⟨SC.replace (Nat.pos_iff_ne_zero.mp hp) (Nat.succ_ne_zero _) (Nat.ne_of_lt (Nat.lt_succ_self _)) ?_ ?_ fun t' k hle => ?_⟩).out
      · rw [ha', hb']
        simp only [beq_eq_false_iff_ne, ne_eq]
        intro q
        exact hne (by have := congrArg (fun z : Str => z.cps.toList) q; simpa using this)
      · have : b.length = b.cps.toList.length := by cases b with | mk cps => cases cps with | mk q => rfl
        have h3 : (sOf l).length = l.length := rfl
        rw [this, h3]
        have : l.length + (l.length + 1) * b.cps.toList.length ≤ (l.length + 1) * (b.cps.toList.length + 1) := by
          rw [Nat.mul_add]; omega
        omega
      · rw [ha', hb', txt_replace]
        have x2 : Ext s₁ τ₁ { s₁ with toks := k } τ₁ := .tok h1.ok (Nat.le_trans (Nat.le_add_right _ 2) hle)
        exact hQ _ _ _ ⟨h1.trans x2, ⟨_, rfl⟩, fun h => by cases h⟩
    · cases e
  · cases e
end
end Mine
namespace Mine
open PySem PySem.SeqAt PyProof.Rows

section
variable {K : Cx} {C : Orc} {m : Nat} {sc : Scope} {vars : List Str} {ft : List Str}

theorem EvL.plain {pos : Pos} {env : Env} : ∀ {es : List Expr} {l : XL}, EvL K C m sc vars es l → (backTo pos (starEach es env)).any (·.1) = false
  | [], .nil, _ => rfl
  | a :: es, .cons x l, ⟨_, _, hst, ihl⟩ => by
    have hb : backTo pos (starEach (a :: es) env) = (false, eval a env) :: backTo pos (starEach es env) := by
      cases a <;> first | rfl | (exact absurd rfl (hst _ _))
    rw [hb]
    simpa using EvL.plain ihl
  | [], .cons _ _, h => h.elim
  | _ :: _, .nil, h => h.elim

theorem args_ok {pos : Pos} {f : Value} {es : List Expr} {l : XL} (ih : EvL K C m sc vars es l) {A : Around} {env : Env} {s : Shared} {τ : Tk} {X : Addr → Prop} {own : Nat → Option Addr} {ρ : Ρ} {ps : List PV} (F : Frm K m sc vars A env s τ X own ρ) (e : evL C l ρ = some ps)
    {Q : Args → Shared → Prop} {E : Value → Shared → Prop} (hQ : ∀ vs s' τ', Ext s τ s' τ' → RdL K ⟨s'.heap, τ'⟩ (Off X own (alL l)) vs ps → Q ⟨vs, []⟩ s') : Wp K.M A (evalArgs f true (backTo pos (starEach es env)) []) Q E s := by
  match es, l, ih with
  | [], .nil, _ =>
    cases e
    exact ⟨PySem.evalArgs_none (hQ _ _ _ (.refl F.tok) rfl)⟩
  | a :: es, .cons x l, ih =>
    have hb : backTo pos (starEach (a :: es) env) = (false, eval a env) :: backTo pos (starEach es env) := by
      obtain ⟨_, _, hst, _⟩ := ih
      cases a <;> first | rfl | (exact absurd rfl (hst _ _))
    have := spliced_ok (pos := pos) ih A env s τ X own ρ ps F e (fun vs s' => Q ⟨vs, []⟩ s') E hQ
    rw [hb] at this ⊢
    exact ⟨Calls.evalArgs_plain this.out⟩

theorem ev_call {f : Str} {k : Nat} {np pos : Pos} {es : List Expr} {l : XL} (G : Glb K ft) (S : Sound K ft m C) (ih : EvL K C m sc vars es l) (hg : isGlobK (sc.names.lookup f) = true) (hk : ft.findIdx? (· == f) = some k) :
    EvAt K C m sc vars (.Call (.Name f np) es [] pos) (.call k l) := by
  intro A env s τ X own ρ p F e Q E hQ
  simp only [ev] at e
  cases hl : evL C l ρ with
  | none => rw [hl] at e; cases e
  | some ps =>
    rw [hl] at e
    dsimp only at e
    have hfk : ft[k]? = some f := by
      obtain ⟨h1, h2, _⟩ := List.findIdx?_eq_some_iff_getElem.mp hk
      rw [List.getElem?_eq_getElem h1]
      exact congrArg some (eq_of_beq h2)
    have hmem : f ∈ ft := List.mem_of_getElem? hfk
    obtain ⟨d, hd, rfl⟩ := G.fn f hmem
    obtain ⟨a, o, pm, code, doc, h1, h2, h3, _⟩ := F.top.top.fn d hd
    have hkind : env.kindOf d.name = some .globalImplicit := by
      show env.scope.names.lookup d.name = _
      rw [F.env.scope]
      unfold isGlobK at hg
      split at hg
      · assumption
      · cases hg
    show Wp K.M A (eval (.Name d.name np) env >>= fun f => callWith pos f [] (backTo pos (starEach es env)) (backToKw pos (keywordEach [] env))) Q E s
    refine .bind ⟨Calls.Name_function_global (by rw [F.env.scope]; exact F.env.kind) hkind (Calls.loadGlobal_global (by rw [F.env.globals]; exact F.top.top.g) h1 ?_) (G.nodebug _ hmem)⟩
    refine ⟨Calls.callWith_function (o := o) (args_ok ih F hl fun vs s₁ τ₁ k1 k2 => ⟨⟨k1.keep _ _ h2, h3⟩, wpAny_call ?_⟩).out⟩
    refine (S k ps p e d.name A s₁ τ₁ _ vs a hfk h1 F.room (F.ext k1).top k1.ok k2 ((F.ext k1).xdo _) _ fun v s₂ τ₂ g1 g2 => ?_).out
    exact hQ _ _ _ ⟨k1.trans g1, g2, fun h => by cases h⟩

theorem blt_hands {b : Blt} {args : List PV} {r : PV} (hb : hands b = false) (e : blt b args = some r) : scalar r = true ∨ ∃ n, args = [.int n] := by
  cases blt_is e <;> first | exact .inl rfl | exact .inr ⟨_, rfl⟩ | (cases hb; done)

theorem bltOf_nodebug {f : Str} {b : Blt} (h : bltOf f = some b) : (f == ("__debug__" : Str)) = false := by
  cases hf : f == ("__debug__" : Str) with
  | false => rfl
  | true =>
    have := eq_of_beq hf
    subst this
    have hn : bltOf (Str.ofString "__debug__") = none := by decide
    rw [hn] at h
    cases h

theorem callWith_blt {b : Blt} {A : Around} {pos : Pos} {args : List (Bool × Sem Value)} {Q : Value → Shared → Prop} {E : Value → Shared → Prop} {s : Shared} (hp : args.any (·.1) = false)
    (h : Wp K.M A (evalArgs (bltV b) true args []) (fun a s₁ => Wp K.M A (call (bltV b) a.pos a.kw) Q E s₁) E s) : Wp K.M A (callWith pos (bltV b) [] args []) Q E s := by
  have hB : ∀ id, Wp K.M A (evalArgs (.builtin id) true args []) (fun a s₁ => Wp K.M A (call (.builtin id) a.pos a.kw) Q E s₁) E s → Wp K.M A (callWith pos (.builtin id) [] args []) Q E s :=
    fun id h => ⟨Calls.callWith_builtin hp (wpAny_mono h.out (fun _ _ x => x.out) fun _ _ x => x)⟩
  have hT : ∀ id, Wp K.M A (evalArgs (.type id) true args []) (fun a s₁ => Wp K.M A (call (.type id) a.pos a.kw) Q E s₁) E s → Wp K.M A (callWith pos (.type id) [] args []) Q E s :=
    fun id h => ⟨PySem.callWith_type hp (wpAny_mono h.out (fun _ _ x => x.out) fun _ _ x => x)⟩
  cases b
  case len => exact hB _ h
  case sum => exact hB _ h
  case min => exact hB _ h
  case max => exact hB _ h
  case sorted => exact hB _ h
  case int => exact hT _ h
  case range => exact hT _ h
  case list => exact hT _ h
  case tuple => exact hT _ h

theorem ev_blt {f : Str} {b : Blt} {np pos : Pos} {es : List Expr} {l : XL} (G : Glb K ft) (ih : EvL K C m sc vars es l) (hg : isGlobK (sc.names.lookup f) = true) (hk : bltOf f = some b) :
    EvAt K C m sc vars (.Call (.Name f np) es [] pos) (.blt b l) := by
  intro A env s τ X own ρ p F e Q E hQ
  simp only [ev] at e
  cases hl : evL C l ρ with
  | none => rw [hl] at e; cases e
  | some ps =>
    rw [hl] at e
    dsimp only at e
    obtain ⟨hn, hv⟩ := G.blt f b hk
    have hkind : env.kindOf f = some .globalImplicit := by
      show env.scope.names.lookup f = _
      rw [F.env.scope]
      unfold isGlobK at hg
      split at hg
      · assumption
      · cases hg
    show Wp K.M A (eval (.Name f np) env >>= fun f => callWith pos f [] (backTo pos (starEach es env)) (backToKw pos (keywordEach [] env))) Q E s
    refine .bind ⟨Calls.Name_function_global (by rw [F.env.scope]; exact F.env.kind) hkind (Calls.loadGlobal_builtin (by rw [F.env.globals]; exact F.top.top.g) hn (by rw [F.env.builtins]; exact F.top.top.b) hv ?_) (bltOf_nodebug hk)⟩
    refine callWith_blt ih.plain (args_ok ih F hl fun vs s₁ τ₁ k1 k2 => ?_)
    have F₁ := F.ext k1
    cases hh : hands b with
    | true =>
      refine blt_ok e k2 k1.ok (F₁.xdo _) F.room.handled fun v s₂ τ₂ g1 g2 => hQ _ _ _ ⟨k1.trans g1, ?_, fun h => by cases h⟩
      show Rd K _ (Off X own (if hands b then alL l else [])) _ _
      rw [hh]; exact g2
    | false =>
      rcases blt_hands hh e with hsc | ⟨n, rfl⟩
      · exact blt_ok e k2 k1.ok (F₁.xdo _) F.room.handled fun v s₂ τ₂ g1 g2 => hQ _ _ _ ⟨k1.trans g1, g2.scalar hsc, fun h => by cases h⟩
      · have k3 : RdL K ⟨s₁.heap, τ₁⟩ (Off X own []) vs [.int n] := by
          obtain ⟨v, r, rfl, q1, q2⟩ := k2
          exact ⟨v, r, rfl, q1, q2⟩
        refine blt_ok e k3 k1.ok (F₁.xdo _) F.room.handled fun v s₂ τ₂ g1 g2 => hQ _ _ _ ⟨k1.trans g1, ?_, fun h => by cases h⟩
        show Rd K _ (Off X own (if hands b then alL l else [])) _ _
        rw [hh]; exact g2
end
end Mine
namespace Mine
open PySem PySem.SeqAt PyProof.Rows

section
variable {K : Cx} {C : Orc} {m : Nat} {sc : Scope} {vars : List Str} {ft : List Str}

/-! ### the names of a comprehension -/
theorem lookup_relab (sc : Scope) : ∀ (names : List (Str × NameKind)) (y : Str),
    (names.map fun (n, k) => if (k == NameKind.free && sc.kind == .function && sc.names.lookup n == some .cell) then (n, NameKind.cell) else (n, k)).lookup y =
      (names.lookup y).map fun k => if (k == NameKind.free && sc.kind == .function && sc.names.lookup y == some .cell) then NameKind.cell else k
  | [], _ => rfl
  | (n, k) :: r, y => by
    have ih := lookup_relab sc r y
    rw [List.map_cons]
    cases hy : y == n with
    | true =>
      have := eq_of_beq hy
      subst this
      by_cases hc : (k == NameKind.free && sc.kind == .function && sc.names.lookup y == some .cell) = true
      · simp only [hc, if_true, List.lookup_cons, beq_self_eq_true, Option.map]
      · simp only [hc, List.lookup_cons, beq_self_eq_true, Option.map, Bool.false_eq_true, if_false]
    | false =>
      by_cases hc : (k == NameKind.free && sc.kind == .function && sc.names.lookup n == some .cell) = true
      · simp only [hc, if_true, List.lookup_cons, hy]; exact ih
      · simp only [hc, List.lookup_cons, hy, Bool.false_eq_true, if_false]; exact ih

theorem relab_eq {scope : Scope} {env : Env} (he : env.scope = sc) : relabel scope env = relab scope sc := by
  unfold relabel relab Env.kindOf
  rw [he]

noncomputable def closL (env : Env) : List (Str × NameKind) → List (Str × Addr) → List (Str × Addr)
  | [], acc => acc
  | (n, k) :: r, acc => if k == .free then (match env.cells.lookup n with | some c => closL env r ((n, c) :: acc) | none => closL env r acc) else closL env r acc

theorem clos_eq {scope : Scope} {env : Env} (h : ∀ q ∈ scope.names, q.2 = .free → ∃ c, env.cells.lookup q.1 = some c) : closureFor scope env = pure (closL env scope.names []) := by
  simp only [closureFor]
  have : ∀ (names : List (Str × NameKind)) (acc : List (Str × Addr)), (∀ q ∈ names, q.2 = .free → ∃ c, env.cells.lookup q.1 = some c) →
      (forIn names acc fun (x : Str × NameKind) (r : List (Str × Addr)) => if (x.2 == .free) = true then (do let a ← cellOf env x.1; pure (ForInStep.yield ((x.1, a) :: r))) else pure (ForInStep.yield r) : Sem (List (Str × Addr))) = pure (closL env names acc) := by
    intro names
    induction names with
    | nil => intro acc _; rfl
    | cons q r ih =>
      intro acc hq
      obtain ⟨n, k⟩ := q
      rw [List.forIn_cons]
      by_cases hk : (k == NameKind.free) = true
      · obtain ⟨c, hc⟩ := hq (n, k) List.mem_cons_self (eq_of_beq hk)
        have hco : cellOf env n = pure c := by unfold cellOf; rw [hc]
        simp only [hk, if_true, closL, hc, hco]
        exact ih _ fun q hq' => hq q (List.mem_cons_of_mem _ hq')
      · simp only [hk, Bool.false_eq_true, if_false, closL]
        exact ih _ fun q hq' => hq q (List.mem_cons_of_mem _ hq')
  have h2 := this scope.names [] h
  refine Eq.trans ?_ (show (pure (closL env scope.names []) >>= fun cs => pure cs : Sem _) = pure (closL env scope.names []) from rfl)
  rw [← h2]

theorem closL_lookup {env : Env} {y : Str} {c : Addr} (hc : env.cells.lookup y = some c) : ∀ (names : List (Str × NameKind)) (acc : List (Str × Addr)), (∀ c', acc.lookup y = some c' → c' = c) →
    (names.lookup y = some .free ∨ acc.lookup y = some c) → (closL env names acc).lookup y = some c
  | [], acc, h1, h2 => by
    rcases h2 with h2 | h2
    · cases h2
    · exact h2
  | (n, k) :: r, acc, h1, h2 => by
    unfold closL
    cases hy : y == n with
    | true =>
      have := eq_of_beq hy
      subst this
      by_cases hk : (k == NameKind.free) = true
      · rw [if_pos hk, hc]
        exact closL_lookup hc r _ (fun c' h => by simp [List.lookup_cons] at h; exact h.symm) (.inr (by simp [List.lookup_cons]))
      · rw [if_neg hk]
        refine closL_lookup hc r _ h1 (.inr ?_)
        rcases h2 with h2 | h2
        · simp [List.lookup_cons] at h2; subst h2; exact absurd rfl hk
        · exact h2
    | false =>
      by_cases hk : (k == NameKind.free) = true
      · rw [if_pos hk]
        cases hn : env.cells.lookup n with
        | none =>
          refine closL_lookup hc r _ h1 ?_
          rcases h2 with h2 | h2
          · exact .inl (by rwa [List.lookup_cons, hy] at h2)
          · exact .inr h2
        | some c' =>
          refine closL_lookup hc r _ (fun d hd => h1 d (by rwa [List.lookup_cons, hy] at hd)) ?_
          rcases h2 with h2 | h2
          · exact .inl (by rwa [List.lookup_cons, hy] at h2)
          · exact .inr (by rw [List.lookup_cons, hy]; exact h2)
      · rw [if_neg hk]
        refine closL_lookup hc r _ h1 ?_
        rcases h2 with h2 | h2
        · exact .inl (by rwa [List.lookup_cons, hy] at h2)
        · exact .inr h2

theorem cellsFrom_other {y : Str} : ∀ (names : List (Str × NameKind)) (n : Nat) (acc : List (Str × Addr)), (∀ q ∈ names, q.2 = .cell → q.1 ≠ y) → (cellsFrom n names acc).lookup y = acc.lookup y
  | [], _, _, _ => rfl
  | (a, k) :: r, n, acc, h => by
    unfold cellsFrom
    split
    · rename_i hk
      rw [cellsFrom_other r _ _ fun q hq => h q (List.mem_cons_of_mem _ hq), List.lookup_cons]
      have : (y == a) = false := by
        have := h (a, k) List.mem_cons_self (eq_of_beq hk)
        simpa using fun e : y = a => this e.symm
      rw [this]
    · exact cellsFrom_other r _ _ fun q hq => h q (List.mem_cons_of_mem _ hq)

theorem cellsFrom_own {x : Str} (lo : Nat) : ∀ (names : List (Str × NameKind)) (h : Heap) (acc : List (Str × Addr)), lo ≤ h.objs.size → (∃ c, acc.lookup x = some c ∧ lo ≤ c ∧ h.IsCell c none) ∨ (x, NameKind.cell) ∈ names →
    ∃ c, (cellsFrom h.objs.size names acc).lookup x = some c ∧ lo ≤ c ∧ (pushCells h names).IsCell c none
  | [], h, acc, _, h1 => by
    rcases h1 with h1 | h1
    · exact h1
    · cases h1
  | (a, k) :: r, h, acc, hlo, h1 => by
    unfold cellsFrom pushCells
    by_cases hk : (k == NameKind.cell) = true
    · rw [if_pos hk, if_pos hk]
      have hs : h.objs.size + 1 = (h.push { cls := .type "cell", data := .cell none }).objs.size := (Heap.size_push ..).symm
      rw [hs]
      refine cellsFrom_own lo r _ _ (by rw [← hs]; exact Nat.le_succ_of_le hlo) ?_
      cases hx : x == a with
      | true => exact .inl ⟨h.objs.size, by rw [List.lookup_cons, hx], hlo, ⟨_, Heap.get?_push_size _ rfl, rfl⟩⟩
      | false =>
        rcases h1 with ⟨c, e1, e2, e3⟩ | h1
        · exact .inl ⟨c, by rw [List.lookup_cons, hx]; exact e1, e2, e3.keeps fun b o e => Heap.get?_push_of_some _ e⟩
        · rcases List.mem_cons.mp h1 with h1 | h1
          · cases h1; simp at hx
          · exact .inr h1
    · rw [if_neg hk, if_neg hk]
      refine cellsFrom_own lo r _ _ hlo ?_
      rcases h1 with h1 | h1
      · exact .inl h1
      · rcases List.mem_cons.mp h1 with h1 | h1
        · cases h1; exact absurd rfl hk
        · exact .inr h1

theorem comp_env {scope : Scope} {env : Env} {cl : List (Str × Addr)} {A : Around} {E : Value → Shared → Prop} {s : Shared} {Q : Env → Shared → Prop}
    (h : ∀ cenv, cenv.scope = scope → cenv.locals = s.heap.objs.size → cenv.globals = env.globals → cenv.builtins = env.builtins → cenv.cells = cellsFrom (s.heap.push { cls := .type "dict", data := .dict #[] }).objs.size scope.names cl →
      Q cenv { s with heap := pushCells (s.heap.push { cls := .type "dict", data := .dict #[] }) scope.names }) :
    Wp K.M A (newFunctionEnv scope env.globals cl [] env.qual none .none (some env)) Q E s := by
  simp only [newFunctionEnv, Option.isSome_some, if_true]
  refine ⟨wpAny_bind (wpAny_alloc ?_)⟩
  refine wpAny_bind (wpAny_layCells _ (fun name kind cells => by cases hkc : kind == NameKind.cell <;> simp [hkc]) _ _ _ _ ?_)
  rw [List.forIn_nil]
  exact wpAny_bind (wpAny_pure (wpAny_pure (h _ rfl rfl rfl rfl rfl)))

structure CompOk (scope sc : Scope) (x : Str) : Prop where
  kind : scope.kind = .function
  skind : sc.kind = .function
  free : ∀ q ∈ scope.names, q.2 = .free → sc.names.lookup q.1 = some .cell
  once : ∀ q ∈ scope.names, scope.names.lookup q.1 = some q.2
  isvar : isVarK (scope.names.lookup x) = true
  notdot : (x == (".0" : Str)) = false
  only : ∀ q ∈ scope.names, isVarK (some q.2) = true → q.1 = x ∨ q.1 = (".0" : Str)
  dot : scope.names.lookup (".0" : Str) = some .local

theorem compOk_ok {scope sc : Scope} {x : Str} (h : compOk scope sc x = true) : CompOk scope sc x := by
  simp only [compOk, Bool.and_eq_true] at h
  obtain ⟨⟨⟨⟨⟨⟨⟨⟨h1, h2⟩, h3⟩, h4⟩, h5⟩, h6⟩, h7⟩, h8⟩, h9⟩ := h
  rw [List.all_eq_true] at h3 h4 h8
  refine ⟨eq_of_beq h1, eq_of_beq h2, fun q hq hf => ?_, fun q hq => eq_of_beq (h4 q hq), h5, by simpa using h6, fun q hq hv => ?_, eq_of_beq h9⟩
  · have := h3 q hq
    rw [hf] at this
    simpa using this
  · have := h8 q hq
    rw [hv] at this
    simpa using this

theorem lookup_mem {α : Type} : ∀ {l : List (Str × α)} {y : Str} {k : α}, l.lookup y = some k → (y, k) ∈ l := fun h => PySem.mem_of_lookup h

/-- a name of the comprehension that stands for a datum is its own, or a cell of the frame -/
theorem CompOk.split {scope sc : Scope} {x y : Str} (c : CompOk scope sc x) (hy : isVarK ((relab scope sc).names.lookup y) = true) (hd : (y == (".0" : Str)) = false) (hx : y ≠ x) :
    scope.names.lookup y = some .free ∧ sc.names.lookup y = some .cell ∧ (relab scope sc).names.lookup y = some .cell := by
  unfold relab at hy ⊢
  dsimp only at hy ⊢
  rw [lookup_relab] at hy ⊢
  cases hl : scope.names.lookup y with
  | none => rw [hl] at hy; cases hy
  | some k =>
    rw [hl] at hy
    have hm := lookup_mem hl
    have hk : isVarK (some k) = false := by
      cases hv : isVarK (some k) with
      | false => rfl
      | true =>
        rcases c.only _ hm hv with h | h
        · exact absurd h hx
        · dsimp only at h; rw [h] at hd; simp at hd
    simp only [Option.map] at hy ⊢
    by_cases hc : (k == NameKind.free && sc.kind == .function && sc.names.lookup y == some .cell) = true
    · rw [if_pos hc]
      simp only [Bool.and_eq_true] at hc
      exact ⟨congrArg some (eq_of_beq hc.1.1), eq_of_beq hc.2, rfl⟩
    · rw [if_neg hc] at hy
      rw [hk] at hy; cases hy

theorem CompOk.self {scope sc : Scope} {x : Str} (c : CompOk scope sc x) : (relab scope sc).names.lookup x = scope.names.lookup x := by
  unfold relab
  dsimp only
  rw [lookup_relab]
  have := c.isvar
  cases hl : scope.names.lookup x with
  | none => rfl
  | some k =>
    rw [hl] at this
    cases k <;> first | rfl | (cases this; done)

open Classical in
/-- what the frame's names own, seen from a comprehension that keeps off Y -/
noncomputable def ownIn (Y : Addr → Prop) (own : Nat → Option Addr) : Nat → Option Addr
  | 0 => none
  | k + 1 => match own k with
    | none => none
    | some a => if Y a then some a else none

theorem ownIn_none {Y : Addr → Prop} {own : Nat → Option Addr} {k : Nat} (h : own k = none) : ownIn Y own (k + 1) = none := by simp [ownIn, h]
theorem ownIn_pos {Y : Addr → Prop} {own : Nat → Option Addr} {k : Nat} {a : Addr} (h : own k = some a) (hy : Y a) : ownIn Y own (k + 1) = some a := by simp [ownIn, h, hy]
theorem ownIn_neg {Y : Addr → Prop} {own : Nat → Option Addr} {k : Nat} {a : Addr} (h : own k = some a) (hy : ¬ Y a) : ownIn Y own (k + 1) = none := by simp [ownIn, h, hy]
theorem ownIn_of {Y : Addr → Prop} {own : Nat → Option Addr} {j : Nat} {a : Addr} (h : ownIn Y own j = some a) : Y a ∧ ∃ k, j = k + 1 ∧ own k = some a := by
  cases j with
  | zero => cases h
  | succ k =>
    cases ho : own k with
    | none => rw [ownIn_none ho] at h; cases h
    | some b =>
      by_cases hy : Y b
      · rw [ownIn_pos ho hy] at h; cases h; exact ⟨hy, k, rfl, ho⟩
      · rw [ownIn_neg ho hy] at h; cases h

/-- the frame of a comprehension -/
theorem child_frm {scope : Scope} {x : Str} {A : Around} {env cenv : Env} {s₁ s' : Shared} {τ₁ τ' : Tk} {X Y N : Addr → Prop} {own : Nat → Option Addr} {ρ : Ρ} {q : PV} {v : Value} (c : CompOk scope sc x)
    (F : Frm K m sc vars A env s₁ τ₁ X own ρ) (hY : ∀ a, Y a → X a) (hN : ∀ a, N a → s₁.heap.get? a = none) (hN' : ∀ a, N a → ∃ o, s'.heap.get? a = some o) (e : Ext s₁ τ₁ s' τ')
    (h1 : cenv.scope = relab scope sc) (h2 : cenv.globals = env.globals) (h3 : cenv.builtins = env.builtins) (h4 : ∃ n, cenv.cells = cellsFrom n scope.names (closL env scope.names []))
    (h5 : (relab scope sc).names.lookup x = some .cell → ∃ c, cenv.cells.lookup x = some c)
    (hat : At cenv s'.heap x v) (hv : Rd K ⟨s₁.heap, τ₁⟩ Y v q) : Frm K m (relab scope sc) (x :: vars) A cenv s' τ' (fun b => Y b ∨ N b) (ownIn Y own) (.v q :: ρ) := by
  have hcell : ∀ y, y ≠ x → scope.names.lookup y = some .free → ∀ c', env.cells.lookup y = some c' → cenv.cells.lookup y = some c' := fun y hyx hf c' hc' => by
    obtain ⟨n, hn⟩ := h4
    rw [hn, cellsFrom_other]
    · exact closL_lookup hc' _ _ (fun _ h => by cases h) (.inl hf)
    · intro r hr hk
      have := c.once r hr
      intro he
      rw [he, hk] at this
      rw [this] at hf
      cases hf
  refine ⟨F.room, F.top.keep e.keep, e.ok, ⟨h1, ?_, h2.trans F.env.globals, h3.trans F.env.builtins, ?_, ?_⟩, ?_, ?_⟩
  · exact c.kind
  · intro y i p g0 g1 g2 g3
    by_cases hyx : y = x
    · subst hyx
      rw [List.findIdx?_cons] at g2
      simp at g2
      subst g2
      simp [Sl.val] at g3
      subst g3
      exact ⟨v, hat, (hv.more hN).ext e⟩
    · obtain ⟨k1, k2, k3⟩ := c.split g1 g0 hyx
      rw [List.findIdx?_cons] at g2
      have hxy : (x == y) = false := by simpa using fun e : x = y => hyx e.symm
      rw [hxy] at g2
      simp only [Bool.false_eq_true, if_false, Option.map_eq_some_iff] at g2
      obtain ⟨i', g2, rfl⟩ := g2
      have g3' : (ρ[i']?).bind Sl.val = some p := by simpa using g3
      obtain ⟨u, hu, hh⟩ := F.env.var y i' p g0 (by rw [k2]; rfl) g2 g3'
      refine ⟨u, .inr ⟨?_, ?_⟩, ?_⟩
      · show cenv.scope.names.lookup y = _
        rw [h1]; exact k3
      · rcases hu with ⟨hl, _⟩ | ⟨_, c', hc', hi⟩
        · have : env.kindOf y = sc.names.lookup y := by show env.scope.names.lookup y = _; rw [F.env.scope]
          rw [this, k2] at hl; cases hl
        · exact ⟨c', hcell y hyx k1 c' hc', hi.keeps e.keep⟩
      · show Held K _ _ (ownIn Y own (i' + 1)) u p
        cases ho : own i' with
        | none =>
          rw [ho] at hh
          rw [ownIn_none ho]
          exact ((Rd.less hY hh).more hN).ext e
        | some a =>
          rw [ho] at hh
          obtain ⟨rfl, hh⟩ := hh
          by_cases ha : Y a
          · rw [ownIn_pos ho ha]
            exact ⟨rfl, ((RdTop.mono (Y := Y) (fun _ _ _ q => q) (fun _ _ q => q) hY hh).more hN).ext e⟩
          · rw [ownIn_neg ho ha]
            exact ((RdTop.rd hY ha hh).more hN).ext e
  · intro y hy
    by_cases hyx : y = x
    · subst hyx; exact h5 hy
    · by_cases hyd : (y == (".0" : Str)) = true
      · have := eq_of_beq hyd
        subst this
        unfold relab at hy
        dsimp only at hy
        rw [lookup_relab, c.dot] at hy
        cases hy
      · obtain ⟨k1, k2, k3⟩ := c.split (by rw [hy]; rfl) (by simpa using hyd) hyx
        obtain ⟨c', hc'⟩ := F.env.cell y k2
        exact ⟨c', hcell y hyx k1 c' hc'⟩
  · intro a ha
    rcases ha with ha | ha
    · exact F.xd.keep e.keep a (hY a ha)
    · exact hN' a ha
  · intro j a h
    exact .inl (ownIn_of h).1
end
end Mine
namespace Mine
open PySem PySem.SeqAt PyProof.Rows

section
variable {K : Cx} {C : Orc} {m : Nat} {sc : Scope} {vars : List Str} {ft : List Str}

/-- where a comprehension's name is kept -/
structure Keep (K : Cx) (A : Around) (cenv : Env) (x : Str) (Cc loc : Addr) (Slot : Heap → Prop) : Prop where
  at' : ∀ h h', Slot h → (∀ b o, b = Cc ∨ b = loc → h.get? b = some o → h'.get? b = some o) → Slot h'
  ns : ∀ h, Slot h → ∃ m', h.Ns Cc m'
  live : ∀ h, Slot h → ∃ o, h.get? loc = some o
  store : ∀ (px : Pos) (v : Value) (s : Shared) (Q : Unit → Shared → Prop) (E : Value → Shared → Prop), Slot s.heap →
    (∀ h' tk, s.toks ≤ tk → At cenv h' x v → Slot h' → Heap.SameBut loc s.heap h' → Q () { s with heap := h', toks := tk }) → Wp K.M A (assign (.Name x px) cenv v) Q E s

theorem keep_local {A : Around} {cenv : Env} {x : Str} (hk : cenv.kindOf x = some .local) (hf : cenv.scope.kind = .function) : Keep K A cenv x cenv.locals cenv.locals (fun h => ∃ m', h.Ns cenv.locals m') where
  at' := fun h h' ⟨m', hn⟩ hk => ⟨m', hn.at' fun o e => hk _ o (.inl rfl) e⟩
  ns := fun h e => e
  live := fun h ⟨m', o, es, ep, ho, _⟩ => ⟨o, ho⟩
  store := fun px v s Q E ⟨m', hn⟩ hQ => ⟨wpAny_assign_Name (wpAny_storeName_local hk hn (fun h' hn' hs => hQ h' _ (Nat.le_succ _) (.inl ⟨hk, _, hn', by simp⟩) ⟨_, hn'⟩ hs) (by rw [hf]; rfl))⟩

theorem keep_cell {A : Around} {cenv : Env} {x : Str} {c : Addr} (hk : cenv.kindOf x = some .cell) (hf : cenv.scope.kind = .function) (hc : cenv.cells.lookup x = some c) (hne : cenv.locals ≠ c) :
    Keep K A cenv x cenv.locals c (fun h => (∃ m', h.Ns cenv.locals m') ∧ ∃ v₀, h.IsCell c v₀) where
  at' := fun h h' ⟨⟨m', hn⟩, v₀, o, ho, hd⟩ hk => ⟨⟨m', hn.at' fun o e => hk _ o (.inl rfl) e⟩, v₀, o, hk _ _ (.inr rfl) ho, hd⟩
  ns := fun h e => e.1
  live := fun h ⟨_, v₀, o, ho, _⟩ => ⟨o, ho⟩
  store := fun px v s Q E ⟨⟨m', hn⟩, v₀, hv⟩ hQ => ⟨wpAny_assign_Name (wpAny_storeName_cell hf hk hc hv (fun h' hv' hs => hQ h' s.toks (Nat.le_refl _) (.inr ⟨hk, c, hc, hv'⟩) ⟨⟨m', hn.sameBut hs hne⟩, _, hv'⟩ hs))⟩

theorem Ext.heapTok {s s' : Shared} {τ τ' : Tk} (x : Ext s τ s' τ') {h' : Heap} {t : Nat} (hk : ∀ b o, s.heap.get? b = some o → s'.heap.get? b = some o → h'.get? b = some o) (ht : s'.toks ≤ t) : Ext s τ { s' with heap := h', toks := t } τ' :=
  ⟨x.gens, x.os, fun b o e => hk b o e (x.keep b o e), x.sub, x.ok.le ht⟩

/-- the tests of a comprehension -/
theorem tests_ok {sc' : Scope} {vars' : List Str} {ifs : List Expr} {c : Mine.X} (ihc : (ifs = [] ∧ c = .cst (.bool true)) ∨ ∃ ce, ifs = [ce] ∧ TrAt K C m sc' vars' ce c) {A : Around} {env : Env} {s : Shared} {τ : Tk} {X : Addr → Prop} {own : Nat → Option Addr} {ρ : Ρ} {p : PV} {b : Bool}
    (F : Frm K m sc' vars' A env s τ X own ρ) (e : ev C c ρ = some p) (ht : truth p = some b) {Q : Bool → Shared → Prop} {E : Value → Shared → Prop} (hQ : ∀ s' τ', Ext s τ s' τ' → Q b s') :
    Wp K.M A (forIn ifs true fun c r => if r = true then do let ok ← isTrue c env (eval c env); pure (ForInStep.yield ok) else pure (ForInStep.yield r)) Q E s := by
  rcases ihc with ⟨rfl, rfl⟩ | ⟨ce, rfl, ih⟩
  · cases e; cases ht
    exact ⟨wpAny_tests_nil (hQ _ _ (.refl F.tok))⟩
  · exact ⟨wpAny_tests_one (ih A env s τ X own ρ _ _ F e ht _ _ hQ).out⟩

theorem RdL.keepOff {h h' : Heap} {τ : Tk} {X : Addr → Prop} {l : List PV} {vs : List Value} (hk : ∀ b o, ¬ X b → h.get? b = some o → h'.get? b = some o) (e : RdL K ⟨h, τ⟩ X vs l) : RdL K ⟨h', τ⟩ X vs l :=
  RdL.mono (g := ⟨h, τ⟩) (g' := ⟨h', τ⟩) hk (fun _ _ q => q) (fun _ q => q) e

theorem comp_loop {elt iter : Expr} {x : Str} {px : Pos} {ifs : List Expr} {scope : Scope} {pos : Pos} {y i c : Mine.X} (ok : CompOk scope sc x)
    (ihy : EvAt K C m (relab scope sc) (x :: vars) elt y) (ihc : (ifs = [] ∧ c = .cst (.bool true)) ∨ ∃ ce, ifs = [ce] ∧ TrAt K C m (relab scope sc) (x :: vars) ce c)
    {A : Around} {env cenv : Env} {s₁ s₄ : Shared} {τ₁ : Tk} {X : Addr → Prop} {own : Nat → Option Addr} {ρ : Ρ} {items all : List PV} {I D Cc loc : Addr} {fp wr : List Addr} {P : Nat → Value → Prop} {St : Nat → Heap → Prop} {Slot : Heap → Prop} {s₂ : Shared}
    (F : Frm K m sc vars A env s₁ τ₁ X own ρ) (W : Walk K A s₁ τ₁ (Off X own (al i)) items I fp wr P St s₂) (Kp : Keep K A cenv x Cc loc Slot)
    (hmap : mapC (fun v => match ev C c (.v v :: ρ) with | some c => truth c | Option.none => Option.none) (fun v => ev C y (.v v :: ρ)) items = some all)
    (hD : s₂.heap.objs.size ≤ D) (hC : s₂.heap.objs.size ≤ Cc) (hL : s₂.heap.objs.size ≤ loc) (hDC : D ≠ Cc) (hDL : D ≠ loc)
    (h1 : cenv.scope = relab scope sc) (h2 : cenv.globals = env.globals) (h3 : cenv.builtins = env.builtins) (h4 : ∃ n, cenv.cells = cellsFrom n scope.names (closL env scope.names []))
    (h5 : (relab scope sc).names.lookup x = some .cell → ∃ c, cenv.cells.lookup x = some c)
    (x4 : Ext s₁ τ₁ s₄ τ₁) (st4 : St 0 s₄.heap) (pl4 : PL s₄.heap D []) (sl4 : Slot s₄.heap)
    {R : Result → Shared → Prop}
    (hR : ∀ m' s' τ', Ext s₁ τ₁ s' τ' → s'.heap.Ns Cc m' → RdTop K ⟨s'.heap, τ'⟩ (fun b => Off X own (al (.comp y i c)) b ∨ (b = D ∨ b = Cc ∨ b = loc ∨ b ∈ wr)) D (.list all) → R (.ok .next) s') :
    Cp K.M A (.compLoop (.ListComp elt [⟨.Name x px, iter, ifs, 0⟩] scope pos) 0 (.ref I) (.ref D) cenv) R s₄ := by
  have new : ∀ a, s₂.heap.objs.size ≤ a → s₁.heap.get? a = none := fun a ha => by
    cases e : s₁.heap.get? a with
    | none => rfl
    | some o => exact absurd (Heap.lt_size (W.ext.keep a o e)) (Nat.not_lt.mpr ha)
  let N : Addr → Prop := fun b => b = D ∨ b = Cc ∨ b = loc ∨ b ∈ wr
  have hN : ∀ a, N a → s₁.heap.get? a = none := fun a ha => by
    rcases ha with rfl | rfl | rfl | ha
    · exact new _ hD
    · exact new _ hC
    · exact new _ hL
    · exact W.new a ha
  have offp : ∀ a, s₂.heap.objs.size ≤ a → a ∉ fp := fun a ha h => absurd (W.low a h) (Nat.not_lt.mpr ha)
  have offw : ∀ a, s₂.heap.objs.size ≤ a → a ∉ wr := fun a ha h => offp a ha (W.walks.sub a h)
  let Xr : Addr → Prop := fun b => Off X own (al (.comp y i c)) b ∨ N b
  have XrY : ∀ b, Xr b → Off (fun b => Off X own (al i) b ∨ N b) (ownIn (Off X own (al i)) own) (al y) b := fun b hb => by
    rcases hb with hb | hb
    · refine ⟨.inl (hb.anti fun j hj => List.mem_append_left _ hj), fun j hj ho => ?_⟩
      obtain ⟨_, k, rfl, hk⟩ := ownIn_of ho
      refine hb.2 k (List.mem_append_right _ ?_) hk
      exact List.mem_filterMap.mpr ⟨k + 1, hj, rfl⟩
    · refine ⟨.inr hb, fun j _ ho => ?_⟩
      obtain ⟨_, k, rfl, hk⟩ := ownIn_of ho
      exact F.notOwn (hN b hb) k hk
  refine ⟨codeAny_compLoop_tests (fun k s' => ∃ τ' j vs ys rest, k = items.length + 1 - j ∧ j ≤ items.length ∧ Ext s₁ τ₁ s' τ' ∧ St j s'.heap ∧ PL s'.heap D vs ∧ RdL K ⟨s'.heap, τ'⟩ Xr vs ys ∧ Slot s'.heap ∧
    mapC (fun v => match ev C c (.v v :: ρ) with | some c => truth c | Option.none => Option.none) (fun v => ev C y (.v v :: ρ)) (items.drop j) = some rest ∧ all = ys ++ rest ∧ ys.length ≤ j) ?_ (items.length + 1)
    ⟨τ₁, 0, [], [], all, rfl, Nat.zero_le _, x4, st4, pl4, rfl, sl4, by simpa using hmap, rfl, Nat.le_refl _⟩⟩
  rintro k s' ⟨τ', j, vs, ys, rest, rfl, hj, xs, hst, hpl, hrd, hsl, hm, hall, hlen⟩
  by_cases hlt : j < items.length
  · -- one more item
    refine (Wp.untok ⟨W.walks.item j s' _ _ hlt hst fun v h₁ tk₁ hPv hst₁ hk₁ hle₁ => ?_⟩).out
    obtain ⟨q, hq, hv⟩ := W.item j v hlt hPv
    have e1 : Ext s₁ τ₁ { s' with heap := h₁, toks := tk₁ } τ' := xs.heapTok (fun b o e e' => hk₁ b o (fun hb => by rw [W.new b hb] at e; cases e) e') hle₁
    have pl1 : PL h₁ D vs := let ⟨n, hp⟩ := hpl; ⟨n, hk₁ _ _ (offw D hD) hp⟩
    have rd1 : RdL K ⟨h₁, τ'⟩ Xr vs ys := hrd.keepOff fun b o hb e => hk₁ b o (fun hw => hb (.inr (.inr (.inr (.inr hw))))) e
    have sl1 : Slot h₁ := Kp.at' _ _ hsl fun b o hb e => hk₁ b o (by rcases hb with rfl | rfl; exact offw _ hC; exact offw _ hL) e
    refine (Kp.store px v _ _ _ sl1 fun h₂ tk₂ hle₂ hat sl2 hs₂ => ?_).out
    have e2 : Ext s₁ τ₁ { s' with heap := h₂, toks := tk₂ } τ' := e1.but (new _ hL) hs₂ hle₂
    have pl2 : PL h₂ D vs := let ⟨n, hp⟩ := pl1; ⟨n, by rw [hs₂.2 D hDL]; exact hp⟩
    have rd2 : RdL K ⟨h₂, τ'⟩ Xr vs ys := RdL.but (s₁ := { s' with heap := h₁, toks := tk₁ }) rd1 (.inr (.inr (.inr (.inl rfl)))) hs₂
    have st2 : St (j + 1) h₂ := W.walks.frame _ _ _ hst₁ fun b hb o e => by
      rw [hs₂.2 b (fun h => offp loc hL (h ▸ hb))]; exact e
    have live2 : ∀ a, N a → ∃ o, h₂.get? a = some o := fun a ha => by
      rcases ha with rfl | rfl | rfl | ha
      · exact let ⟨n, hp⟩ := pl2; ⟨_, hp⟩
      · exact let ⟨m', o, es, ep, ho, _⟩ := Kp.ns _ sl2; ⟨o, ho⟩
      · exact Kp.live _ sl2
      · exact W.live _ _ st2 a ha
    have F2 := child_frm (s' := { s' with heap := h₂, toks := tk₂ }) ok F (Y := Off X own (al i)) (fun a h => h.1) hN live2 e2 h1 h2 h3 h4 h5 hat hv
    have hdrop : items.drop j = q :: items.drop (j + 1) := by
      rw [List.drop_eq_getElem_cons hlt]
      rw [List.getElem?_eq_getElem hlt] at hq
      cases hq; rfl
    rw [hdrop] at hm
    unfold mapC at hm
    cases hc : ev C c (.v q :: ρ) with
    | none => rw [hc] at hm; cases hm
    | some pc =>
      rw [hc] at hm
      dsimp only at hm
      cases ht : truth pc with
      | none => rw [ht] at hm; cases hm
      | some b =>
        rw [ht] at hm
        refine (tests_ok ihc F2 hc ht fun s₃ τ₃ e3 => ?_).out
        have pl3 : PL s₃.heap D vs := pl2.keep e3.keep
        have rd3 : RdL K ⟨s₃.heap, τ₃⟩ Xr vs ys := rd2.ext e3
        have sl3 : Slot s₃.heap := Kp.at' _ _ sl2 fun b o _ e => e3.keep b o e
        have st3 : St (j + 1) s₃.heap := W.walks.frame _ _ _ st2 fun b _ o e => e3.keep b o e
        cases b with
        | false =>
          simp only [Bool.false_eq_true, if_false]
          exact ⟨items.length + 1 - (j + 1), by omega, τ₃, j + 1, vs, ys, rest, rfl, hlt, e2.trans e3, st3, pl3, rd3, sl3, hm, hall, Nat.le_succ_of_le hlen⟩
        | true =>
          simp only [if_true]
          dsimp only at hm
          cases hy : ev C y (.v q :: ρ) with
          | none => rw [hy] at hm; cases hm
          | some py =>
            rw [hy] at hm
            dsimp only at hm
            cases hr : mapC (fun v => match ev C c (.v v :: ρ) with | some c => truth c | Option.none => Option.none) (fun v => ev C y (.v v :: ρ)) (items.drop (j + 1)) with
            | none => rw [hr] at hm; cases hm
            | some rest' =>
              rw [hr] at hm
              cases hm
              refine (ihy A cenv s₃ τ₃ _ _ _ _ (F2.ext e3) hy _ _ fun u s₅ τ₅ ⟨e5, hu, _⟩ => ?_).out
              have pl5 : PL s₅.heap D vs := pl3.keep e5.keep
              refine wpAny_list_append_plain (items := vs.toArray) (hsz := by have := rd3.length; have := W.few; have e : sizeLine = 16777216 := rfl; simp only [List.size_toArray]; omega) pl5 fun h₆ pl6 hs₆ => ?_
              have hDX : Xr D := .inr (.inl rfl)
              refine ⟨items.length + 1 - (j + 1), by omega, τ₅, j + 1, vs ++ [u], ys ++ [py], rest', rfl, hlt, ((e2.trans e3).trans e5).but (new _ hD) hs₆ (Nat.le_refl _), ?_, ?_, ?_, ?_, hr, by rw [hall]; simp, by simp; omega⟩
              · exact W.walks.frame _ _ _ st3 fun b hb o e => by rw [hs₆.2 b (fun h => offp D hD (h ▸ hb))]; exact e5.keep b o e
              · obtain ⟨n, hp⟩ := pl6
                exact ⟨n, by rw [hp]; simp⟩
              · exact RdL.but ((rd3.ext e5).append (.single (hu.less XrY))) hDX hs₆
              · exact Kp.at' _ _ sl3 fun b o hb e => by
                  have : b ≠ D := by rcases hb with rfl | rfl; exact fun h => hDC h.symm; exact fun h => hDL h.symm
                  rw [hs₆.2 b this]; exact e5.keep b o e
  · have hje : j = items.length := Nat.le_antisymm hj (Nat.not_lt.mp hlt)
    subst hje
    refine (Wp.untok ⟨W.walks.done s' _ _ hst fun h₁ tk₁ hk₁ hle₁ => ?_⟩).out
    have hm' : rest = [] := by
      rw [List.drop_length] at hm
      unfold mapC at hm
      cases hm; rfl
    subst hm'
    rw [List.append_nil] at hall
    subst hall
    have e1 : Ext s₁ τ₁ { s' with heap := h₁, toks := tk₁ } τ' := xs.heapTok (fun b o e e' => hk₁ b o (fun hb => by rw [W.new b hb] at e; cases e) e') hle₁
    have sl1 : Slot h₁ := Kp.at' _ _ hsl fun b o hb e => hk₁ b o (by rcases hb with rfl | rfl; exact offw _ hC; exact offw _ hL) e
    obtain ⟨m', hns⟩ := Kp.ns _ sl1
    refine hR m' _ τ' e1 hns ⟨vs, ?_, ?_⟩
    · exact let ⟨n, hp⟩ := hpl; ⟨n, hk₁ _ _ (offw D hD) hp⟩
    · exact hrd.keepOff fun b o hb e => hk₁ b o (fun hw => hb (.inr (.inr (.inr (.inr hw))))) e
end
end Mine
namespace Mine
open PySem PySem.SeqAt PyProof.Rows

section
variable {K : Cx} {C : Orc} {m : Nat} {sc : Scope} {vars : List Str} {ft : List Str}

theorem comp_ok {elt iter : Expr} {x : Str} {px : Pos} {ifs : List Expr} {scope : Scope} {pos : Pos} {y i c : Mine.X} (ok : CompOk scope sc x) (ihi : EvAt K C m sc vars iter i)
    (ihy : EvAt K C m (relab scope sc) (x :: vars) elt y) (ihc : (ifs = [] ∧ c = .cst (.bool true)) ∨ ∃ ce, ifs = [ce] ∧ TrAt K C m (relab scope sc) (x :: vars) ce c)
    {A : Around} {env : Env} {s : Shared} {τ : Tk} {X : Addr → Prop} {own : Nat → Option Addr} {ρ : Ρ} {p : PV} (F : Frm K m sc vars A env s τ X own ρ) (e : ev C (.comp y i c) ρ = some p)
    {E : Value → Shared → Prop} {RR : Value → Addr → Result → Shared → Prop}
    (hR : ∀ D Cc m' s' τ', s.heap.get? Cc = none → D ≠ Cc → Ext s τ s' τ' → s'.heap.Ns Cc m' → FreshRd K s.heap ⟨s'.heap, τ'⟩ (fun b => Off X own (al (.comp y i c)) b ∨ b = Cc) (.ref D) p → RR (.ref D) Cc (.ok .next) s') :
    Wp K.M A (eval iter env) (fun xv s₁ => wpAny K.M A (pyIter xv) (fun it s₂ => wpAny K.M A (newList []) (fun acc s₃ =>
      wpAny K.M A (newFunctionEnv scope env.globals (closL env scope.names []) [] env.qual none .none (some env)) (fun cenv s₄ =>
        codeAny K.M A (.compStart (.ListComp elt [⟨.Name x px, iter, ifs, 0⟩] scope pos) 0 it acc { cenv with scope := relabel scope env }) (RR acc cenv.locals) s₄) E s₃) E s₂) E s₁) E s := by
  simp only [ev] at e
  cases hi : ev C i ρ with
  | none => rw [hi] at e; cases e
  | some pi =>
    rw [hi] at e
    dsimp only at e
    cases hit : itemsOf pi with
    | none => rw [hit] at e; cases e
    | some items =>
      rw [hit] at e
      dsimp only at e
      rw [Option.map_eq_some_iff] at e
      obtain ⟨all, hall, rfl⟩ := e
      refine ihi A env s τ X own ρ _ F hi _ _ fun xv s₁ τ₁ ⟨h1, h2, _⟩ => (iter_ok hit h2 h1.ok F.room.handled fun I fp wr P St s₂ W => ?_).out
      refine wpAny_newList ?_
      refine (comp_env fun cenv hc1 hc2 hc3 hc4 hc5 => ?_).out
      generalize hH3 : s₂.heap.push { cls := .type "list", data := .seq ([] : List Value).toArray } = H3 at hc2 hc5 ⊢
      dsimp only at hc2 hc5 ⊢
      generalize hH4 : H3.push { cls := .type "dict", data := .dict #[] } = H4 at hc5 ⊢
      have z3 : H3.objs.size = s₂.heap.objs.size + 1 := by rw [← hH3, Heap.size_push]
      have z4 : H4.objs.size = s₂.heap.objs.size + 2 := by rw [← hH4, Heap.size_push, z3]
      have k3 : ∀ b o, s₂.heap.get? b = some o → H3.get? b = some o := fun b o q => by rw [← hH3]; exact Heap.get?_push_of_some _ q
      have k4 : ∀ b o, H3.get? b = some o → (pushCells H4 scope.names).get? b = some o := fun b o q => pushCells_keeps _ _ _ _ (by rw [← hH4]; exact Heap.get?_push_of_some _ q)
      have x4 : Ext s₁ τ₁ { s₂ with heap := pushCells H4 scope.names } τ₁ := W.ext.heapTok (fun b o _ q => k4 b o (k3 b o q)) (Nat.le_refl _)
      have st4 : St 0 (pushCells H4 scope.names) := W.walks.frame _ _ _ W.start fun b _ o q => k4 b o (k3 b o q)
      have pl4 : PL (pushCells H4 scope.names) s₂.heap.objs.size [] := ⟨_, k4 _ _ (by rw [← hH3]; exact Heap.get?_push_size _ rfl)⟩
      have ns4 : (pushCells H4 scope.names).Ns cenv.locals (fun _ => none) := by
        rw [hc2]
        refine ⟨{ cls := .type "dict", data := .dict #[] }, #[], _, pushCells_keeps _ _ _ _ ?_, rfl, ?_, ?_⟩
        · rw [← hH4]; exact Heap.get?_push_size _ rfl
        · intro e he; simp at he
        · intro n; rfl
      have hDC : s₂.heap.objs.size ≠ cenv.locals := by rw [hc2, z3]; exact Nat.ne_of_lt (Nat.lt_succ_self _)
      have hC : s₂.heap.objs.size ≤ cenv.locals := by rw [hc2, z3]; exact Nat.le_succ _
      have F₁ := F.ext h1
      have new : ∀ a, s₂.heap.objs.size ≤ a → s.heap.get? a = none := fun a ha => by
        cases e : s.heap.get? a with
        | none => rfl
        | some o => exact absurd (Heap.lt_size (W.ext.keep a o (h1.keep a o e))) (Nat.not_lt.mpr ha)
      have fin : ∀ (loc : Addr) m' s' τ', Ext s₁ τ₁ s' τ' → s'.heap.Ns cenv.locals m' → RdTop K ⟨s'.heap, τ'⟩ (fun b => Off X own (al (.comp y i c)) b ∨ (b = s₂.heap.objs.size ∨ b = cenv.locals ∨ b = loc ∨ b ∈ wr)) s₂.heap.objs.size (.list all) →
          RR (.ref s₂.heap.objs.size) cenv.locals (.ok .next) s' := fun loc m' s' τ' x' ns' rd' =>
        hR _ _ m' s' τ' (new _ hC) hDC (h1.trans x') ns' ⟨_, rfl, new _ (Nat.le_refl _), RdTop.mono (fun _ _ _ q => q) (fun _ _ q => q) (fun b hb => by
          rcases hb with (hb | hb) | hb
          · exact .inl hb
          · exact .inr (.inr (.inl hb))
          · exact .inr (.inl hb)) rd'⟩
      have hre : relabel scope env = relab scope sc := relab_eq F.env.scope
      have hself := ok.self
      have loop : Cp K.M A (.compLoop (.ListComp elt [⟨.Name x px, iter, ifs, 0⟩] scope pos) 0 (.ref I) (.ref s₂.heap.objs.size) { cenv with scope := relabel scope env }) (RR (.ref s₂.heap.objs.size) cenv.locals) { s₂ with heap := pushCells H4 scope.names } := by
        rw [hre]
        have hkv := ok.isvar
        cases hk : scope.names.lookup x with
        | none => rw [hk] at hkv; cases hkv
        | some k =>
          have hcase : k = .local ∨ k = .cell := by rw [hk] at hkv; cases k <;> first | (exact .inl rfl) | (exact .inr rfl) | (cases hkv; done)
          rcases hcase with rfl | rfl
          · refine comp_loop (cenv := { cenv with scope := relab scope sc }) ok ihy ihc F₁ W (keep_local (cenv := { cenv with scope := relab scope sc }) (by show (relab scope sc).names.lookup x = _; rw [hself, hk]) ok.kind) hall (Nat.le_refl _) hC hC hDC hDC
              rfl hc3 hc4 ⟨_, hc5⟩ (fun h => by rw [hself, hk] at h; cases h) x4 st4 pl4 ⟨_, ns4⟩ (fin cenv.locals)
          · obtain ⟨c0, l1, l2, l3⟩ := cellsFrom_own (x := x) H4.objs.size scope.names H4 (closL env scope.names []) (Nat.le_refl _) (.inr (lookup_mem hk))
            rw [← hc5] at l1
            have hL : s₂.heap.objs.size ≤ c0 := by rw [z4] at l2; exact Nat.le_trans (Nat.le_add_right _ 2) l2
            have hDL : s₂.heap.objs.size ≠ c0 := by rw [z4] at l2; exact Nat.ne_of_lt (Nat.lt_of_lt_of_le (Nat.lt_add_of_pos_right (by decide)) l2)
            have hCL : cenv.locals ≠ c0 := by rw [hc2, z3]; rw [z4] at l2; exact Nat.ne_of_lt (Nat.lt_of_lt_of_le (Nat.lt_succ_self _) l2)
            refine comp_loop (cenv := { cenv with scope := relab scope sc }) ok ihy ihc F₁ W (keep_cell (cenv := { cenv with scope := relab scope sc }) (c := c0) (by show (relab scope sc).names.lookup x = _; rw [hself, hk]) ok.kind l1 hCL) hall (Nat.le_refl _) hC hL hDC hDL
              rfl hc3 hc4 ⟨_, hc5⟩ (fun _ => ⟨c0, l1⟩) x4 st4 pl4 ⟨⟨_, ns4⟩, _, l3⟩ (fin c0)
      exact codeAny_compStart_list loop.out (W.walks.self 0 _ _ _ st4 loop.out)

theorem FreshRd.but {h : Heap} {s' : Shared} {τ' : Tk} {X : Addr → Prop} {Cc D : Addr} {p : PV} {h' : Heap} (e : FreshRd K h ⟨s'.heap, τ'⟩ (fun b => X b ∨ b = Cc) (.ref D) p) (hD : D ≠ Cc) (hs : Heap.SameBut Cc s'.heap h') :
    FreshRd K h ⟨h', τ'⟩ X (.ref D) p := by
  obtain ⟨a, ha, h1, h2⟩ := e
  cases ha
  refine ⟨D, rfl, h1, ?_⟩
  have h3 : RdTop K ⟨h', τ'⟩ (fun b => (X b ∨ b = Cc) ∨ b = D) D p := RdTop.mono (g := ⟨s'.heap, τ'⟩) (g' := ⟨h', τ'⟩) (fun b o hb q => by
    have hb : b ≠ Cc := fun q => by
      rcases hb with hb | hb
      · exact hb (.inl (.inr q))
      · exact hD (hb ▸ q)
    show h'.get? b = some o
    rw [hs.2 b hb]; exact q) (fun _ _ q => q) (fun _ q => q) h2
  exact RdTop.mono (fun _ _ _ q => q) (fun _ _ q => q) (fun b hb => by
    rcases hb with hb | hb
    · exact .inl (.inl hb)
    · exact .inr hb) h3

theorem CompOk.closure {scope : Scope} {x : Str} (ok : CompOk scope sc x) {A : Around} {env : Env} {s : Shared} {τ : Tk} {X : Addr → Prop} {own : Nat → Option Addr} {ρ : Ρ} (F : Frm K m sc vars A env s τ X own ρ) : closureFor scope env = pure (closL env scope.names []) :=
  clos_eq fun q hq hf => F.env.cell _ (ok.free q hq hf)

theorem ev_comp {elt iter : Expr} {x : Str} {px : Pos} {ifs : List Expr} {scope : Scope} {pos : Pos} {y i c : Mine.X} (ok : CompOk scope sc x) (ihi : EvAt K C m sc vars iter i)
    (ihy : EvAt K C m (relab scope sc) (x :: vars) elt y) (ihc : (ifs = [] ∧ c = .cst (.bool true)) ∨ ∃ ce, ifs = [ce] ∧ TrAt K C m (relab scope sc) (x :: vars) ce c) (hs : ∀ env x, foldedSetIterable iter env x = pure x) :
    EvAt K C m sc vars (.ListComp elt [⟨.Name x px, iter, ifs, 0⟩] scope pos) (.comp y i c) := by
  intro A env s τ X own ρ p F e Q E hQ
  rw [eval_ListComp]
  refine ⟨wpAny_comprehension_free (use := none) (cl := closL env scope.names []) rfl (hs env) (ok.closure F) ok.kind (fun q hq hl => by rw [ok.once q hq, hl]) (comp_ok ok ihi ihy ihc F e fun D Cc m' s' τ' g1 g2 g3 g4 g5 => ?_).out⟩
  refine ⟨m', g4, fun h' hs' => hQ _ _ τ' ?_⟩
  have g6 := g5.but g2 hs'
  have g7 : Ext s τ { s' with heap := h', toks := s'.toks } τ' := g3.but g1 hs' (Nat.le_refl _)
  exact ⟨g7, g6.rd (F.xdo _), fun _ => g6⟩
end
end Mine
namespace Mine
open PySem PySem.SeqAt PyProof.Rows

section
variable {K : Cx} {C : Orc} {m : Nat} {ft : List Str}

noncomputable def oddE : Expr → Bool
  | .Starred .. => true
  | .Set .. => true
  | .Slice .. => true
  | _ => false

theorem isV_odd {e : Expr} {v : EV} (h : IsV e v) (hv : oddE e = true) : v = .other := by
  cases h <;> first | rfl | (cases hv; done)
theorem cx_odd {n : Nat} {sc : Scope} {vars : List Str} {e : Expr} {x : Mine.X} (h : cx n ft sc vars e = some x) : oddE e = false := by
  cases n with
  | zero => cases h
  | succ n =>
    cases ho : oddE e with
    | false => rfl
    | true =>
      have h : cxV (cx n ft) ft sc vars (viewE e) = some x := h
      rw [isV_odd (viewE_ok e) ho] at h
      cases h

theorem odd_star {e : Expr} (h : oddE e = false) : ∀ a p, e ≠ .Starred a p := fun a p q => by subst q; cases h
theorem odd_slice {e : Expr} (h : oddE e = false) : ∀ l u p, e ≠ .Slice l u none p := fun a b p q => by subst q; cases h
theorem odd_behind {e : Expr} (h : oddE e = false) (op : CmpOp) : behindInMarks op e = false := by cases e <;> first | rfl | (cases h; done)
theorem odd_folded {e : Expr} (h : oddE e = false) (env : Env) (v : Value) : foldedSetIterable e env v = pure v := by cases e <;> first | rfl | (cases h; done)

/-- both readings -/
noncomputable def Both (K : Cx) (C : Orc) (m : Nat) (sc : Scope) (vars : List Str) (e : Expr) (x : Mine.X) : Prop := EvAt K C m sc vars e x ∧ TrAt K C m sc vars e x

theorem both_of {sc : Scope} {vars : List Str} {e : Expr} {x : Mine.X} (h : EvAt K C m sc vars e x) (hs : ∀ env whole, isTrue e env whole = (do let v ← whole; standAt e.pos; holding [v] (truthy v))) : Both K C m sc vars e x := ⟨h, tr_of_ev h hs⟩

theorem cxL_ok {n : Nat} {sc : Scope} {vars : List Str} (ih : ∀ e x, cx n ft sc vars e = some x → Both K C m sc vars e x) : ∀ {es : List Expr} {l : XL}, cxL (cx n ft sc vars) es = some l → EvL K C m sc vars es l
  | [], l, h => by cases h; trivial
  | e :: es, l, h => by
    unfold cxL at h
    cases h1 : cx n ft sc vars e with
    | none => rw [h1] at h; cases h
    | some x =>
      cases h2 : cxL (cx n ft sc vars) es with
      | none => rw [h1, h2] at h; cases h
      | some r =>
        rw [h1, h2] at h
        cases h
        exact ⟨(ih _ _ h1).1, (ih _ _ h1).2, odd_star (cx_odd h1), cxL_ok ih h2⟩

theorem cxO_ok {n : Nat} {sc : Scope} {vars : List Str} (ih : ∀ e x, cx n ft sc vars e = some x → Both K C m sc vars e x) {o : Option Expr} {x : Mine.X} (h : cxO (cx n ft sc vars) o = some x) : match (generalizing := false) o with | none => x = .cst .none | some a => EvAt K C m sc vars a x := by
  cases o with
  | none => cases h; rfl
  | some a => exact (ih _ _ h).1

theorem cxSome_inv {f : Mine.X → Mine.X} {o : Option Mine.X} {x : Mine.X} (h : cxSome f o = some x) : ∃ a, o = some a ∧ x = f a := by
  cases o with
  | none => cases h
  | some a => cases h; exact ⟨a, rfl, rfl⟩
theorem cxLs_inv {f : XL → Mine.X} {o : Option XL} {x : Mine.X} (h : cxLs f o = some x) : ∃ a, o = some a ∧ x = f a := by
  cases o with
  | none => cases h
  | some a => cases h; exact ⟨a, rfl, rfl⟩
theorem cx2_inv {f : Mine.X → Mine.X → Mine.X} {o q : Option Mine.X} {x : Mine.X} (h : cx2 f o q = some x) : ∃ a b, o = some a ∧ q = some b ∧ x = f a b := by
  cases o <;> cases q <;> cases h
  exact ⟨_, _, rfl, rfl, rfl⟩
theorem cx3_inv {f : Mine.X → Mine.X → Mine.X → Mine.X} {o q r : Option Mine.X} {x : Mine.X} (h : cx3 f o q r = some x) : ∃ a b c, o = some a ∧ q = some b ∧ r = some c ∧ x = f a b c := by
  cases o with
  | none => cases h
  | some a =>
    obtain ⟨b, c, h1, h2, h3⟩ := cx2_inv h
    exact ⟨a, b, c, rfl, h1, h2, h3⟩
theorem cx4_inv {f : Mine.X → Mine.X → Mine.X → Mine.X → Mine.X} {o q r t : Option Mine.X} {x : Mine.X} (h : cx4 f o q r t = some x) : ∃ a b c d, o = some a ∧ q = some b ∧ r = some c ∧ t = some d ∧ x = f a b c d := by
  cases o with
  | none => cases h
  | some a =>
    obtain ⟨b, c, d, h1, h2, h3, h4⟩ := cx3_inv h
    exact ⟨a, b, c, d, rfl, h1, h2, h3, h4⟩

theorem comp_inv {n : Nat} {sc : Scope} {vars : List Str} {elt iter : Expr} {y : Str} {ifs : List Expr} {scope : Scope} {x : Mine.X} (h : cxV (cx n ft) ft sc vars (.comp elt iter y ifs scope) = some x) :
    ∃ i el, compOk scope sc y = true ∧ cx n ft sc vars iter = some i ∧ cx n ft (relab scope sc) (y :: vars) elt = some el ∧
      ((ifs = [] ∧ x = .comp el i (.cst (.bool true))) ∨ ∃ c z, ifs = [c] ∧ cx n ft (relab scope sc) (y :: vars) c = some z ∧ x = .comp el i z) := by
  obtain ⟨hc, e1⟩ := ifz_inv h
  obtain ⟨i, h1, e2⟩ := obind_inv e1
  obtain ⟨el, h2, e3⟩ := obind_inv e2
  refine ⟨i, el, hc, h1, h2, ?_⟩
  rcases ifs with _ | ⟨c, _ | ⟨d, q⟩⟩
  · cases e3; exact .inl ⟨rfl, rfl⟩
  · obtain ⟨z, h3, e4⟩ := obind_inv e3
    cases e4; exact .inr ⟨c, z, rfl, h3, rfl⟩
  · cases e3

section
variable {sc : Scope} {vars : List Str} {rec : Expr → Option Mine.X}
theorem meth_ok {o : Expr} {m' : Str} {as : List Expr} {x : Mine.X} {apos p : Pos} (ihs : ∀ e x, rec e = some x → Both K C m sc vars e x) (hodd : ∀ e x, rec e = some x → oddE e = false) (hb : plainBase o = true) (hl : (apos.endLine == p.line) = true) (h : cxMeth rec o m' as = some x) :
    EvAt K C m sc vars (.Call (.Attribute o m' apos) as [] p) x := by
  unfold cxMeth at h
  cases hm : m' == ("replace" : Str) with
  | true =>
    rw [hm] at h
    have hm := eq_of_beq hm
    subst hm
    cases h1 : rec o with
    | none => rw [h1] at h; cases h
    | some y =>
      rw [h1] at h
      cases h2 : rplOf as with
      | none => rw [h2] at h; cases h
      | some ct =>
        rw [h2] at h
        obtain ⟨c, t⟩ := ct
        cases h
        exact ev_rpl (ihs _ _ h1).1 hb hl h2
  | false =>
    rw [hm] at h
    cases h1 : mthOf m' with
    | none => rw [h1] at h; cases h
    | some f =>
      rw [h1] at h
      cases h2 : rec o with
      | none => rw [h2] at h; cases h
      | some y =>
        rw [h2] at h
        rcases as with _ | ⟨a, _ | _⟩ <;> first | (cases h; done) | skip
        dsimp only at h
        cases h3 : rec a with
        | none => rw [h3] at h; cases h
        | some z =>
          rw [h3] at h
          cases h
          exact ev_mth (ihs _ _ h2).1 (ihs _ _ h3).1 (odd_star (hodd _ _ h3)) hb hl h1
end

theorem cx_ok (G : Glb K ft) (S : Sound K ft m C) : ∀ (n : Nat) (sc : Scope) (vars : List Str) (e : Expr) (x : Mine.X), cx n ft sc vars e = some x → Both K C m sc vars e x
  | 0, _, _, _, _, h => by cases h
  | n + 1, sc, vars, e, x, h => by
    have ih := cx_ok G S n
    have ihs := ih sc vars
    have h : cxV (cx n ft) ft sc vars (viewE e) = some x := h
    have hv := viewE_ok e
    generalize viewE e = v at hv h
    cases hv with
    | cst c k p =>
      have h : cxCst (cstOf c) = some x := h
      cases h1 : cstOf c with
      | none => rw [h1] at h; cases h
      | some v =>
        rw [h1] at h
        cases h
        exact both_of (ev_const h1) fun _ _ => rfl
    | name y p =>
      have h : cxVar (varAt sc vars y) = some x := h
      cases h1 : varAt sc vars y with
      | none => rw [h1] at h; cases h
      | some i =>
        rw [h1] at h
        cases h
        exact both_of (ev_name h1) fun _ _ => rfl
    | not a p =>
      cases h
    | neg a p =>
      obtain ⟨v, h1, rfl⟩ := cxSome_inv h
      exact both_of (ev_neg (ihs _ _ h1).1) fun _ _ => rfl
    | bin op a b p =>
      obtain ⟨x, y, h1, h2, rfl⟩ := cx2_inv h
      exact both_of (ev_bin (ihs _ _ h1).1 (ihs _ _ h2).1) fun _ _ => rfl
    | cmp op a b p =>
      obtain ⟨x, y, h1, h2, rfl⟩ := cx2_inv h
      exact ⟨ev_cmp (ihs _ _ h1).1 (ihs _ _ h2).1 (odd_behind (cx_odd h2) _), tr_cmp (ihs _ _ h1).1 (ihs _ _ h2).1 (odd_behind (cx_odd h2) _)⟩
    | bop op es p =>
      cases h
    | ite c a b p =>
      obtain ⟨x, y, z, h1, h2, h3, rfl⟩ := cx3_inv h
      exact ⟨ev_ite (ihs _ _ h1).2 (ihs _ _ h2).1 (ihs _ _ h3).1, tr_ite (ihs _ _ h1).2 (ihs _ _ h2).2 (ihs _ _ h3).2⟩
    | lst es p =>
      obtain ⟨l, h1, rfl⟩ := cxLs_inv h
      exact both_of (ev_lst (cxL_ok ihs h1)) fun _ _ => rfl
    | tup es k p =>
      obtain ⟨l, h1, rfl⟩ := cxLs_inv h
      exact both_of (ev_tup (cxL_ok ihs h1)) fun _ _ => rfl
    | dic0 p =>
      cases h
      exact both_of ev_dic0 fun _ _ => rfl
    | dic1 k v p =>
      obtain ⟨x, y, h1, h2, rfl⟩ := cx2_inv h
      exact both_of (ev_dic1 (ihs _ _ h1).1 (ihs _ _ h2).1) fun _ _ => rfl
    | slc a lo hi st q p =>
      obtain ⟨x, y, z, w, h1, h2, h3, h4, rfl⟩ := cx4_inv h
      exact both_of (ev_slc (ihs _ _ h1).1 (cxO_ok ihs h2) (cxO_ok ihs h3) (cxO_ok ihs h4)) fun _ _ => rfl
    | sub a i p =>
      obtain ⟨x, y, h1, h2, rfl⟩ := cx2_inv h
      exact both_of (ev_sub (ihs _ _ h1).1 (ihs _ _ h2).1 (odd_slice (cx_odd h2))) fun _ _ => rfl
    | meth o m' apos as p hb hl => exact both_of (meth_ok ihs (fun _ _ q => cx_odd q) hb hl h) fun _ _ => rfl
    | call f q as p =>
      have h : cxCall (cx n ft sc vars) ft sc f as = some x := h
      unfold cxCall at h
      cases hg : isGlobK (sc.names.lookup f) with
      | false => rw [hg] at h; cases h
      | true =>
        rw [hg] at h
        cases h2 : cxL (cx n ft sc vars) as with
        | none => rw [h2] at h; cases h
        | some l =>
          rw [h2] at h
          cases h1 : ft.findIdx? (· == f) with
          | some k =>
            rw [h1] at h
            cases h
            exact both_of (ev_call G S (cxL_ok ihs h2) hg h1) fun _ _ => rfl
          | none =>
            rw [h1] at h
            cases h3 : bltOf f with
            | none => rw [h3] at h; cases h
            | some b =>
              rw [h3] at h
              cases h
              exact both_of (ev_blt G (cxL_ok ihs h2) hg h3) fun _ _ => rfl
    | comp elt iter y q ifs scope p =>
      obtain ⟨i, el, hc, h1, h2, h3⟩ := comp_inv h
      have ok := compOk_ok hc
      rcases h3 with ⟨rfl, rfl⟩ | ⟨c, z, rfl, h3, rfl⟩
      · exact both_of (ev_comp ok (ihs _ _ h1).1 (ih _ _ _ _ h2).1 (.inl ⟨rfl, rfl⟩) fun env v => odd_folded (cx_odd h1) env v) fun _ _ => rfl
      · exact both_of (ev_comp ok (ihs _ _ h1).1 (ih _ _ _ _ h2).1 (.inr ⟨_, rfl, (ih _ _ _ _ h3).2⟩) fun env v => odd_folded (cx_odd h1) env v) fun _ _ => rfl
    | other => cases h
end
end Mine
namespace Mine
open PySem PySem.SeqAt PyProof.Rows

/-- the places of a frame's names -/
noncomputable def Lo (env : Env) (b : Addr) : Prop := b = env.locals ∨ ∃ n, env.cells.lookup n = some b
/-- what a frame's data keep off -/
noncomputable def XO (X₀ : Addr → Prop) (env : Env) (own : Nat → Option Addr) (b : Addr) : Prop := X₀ b ∨ Lo env b ∨ ∃ j, own j = some b
noncomputable def up (own : Nat → Option Addr) (i : Nat) (o : Option Addr) : Nat → Option Addr := fun j => if j = i then o else own j
noncomputable def ownDrop (own : Nat → Option Addr) (l : List Nat) : Nat → Option Addr := fun j => if j ∈ l then none else own j

structure Fr (K : Cx) (m : Nat) (sc : Scope) (vars : List Str) (A : Around) (env : Env) (s₀ : Shared) (τ₀ : Tk) (X₀ : Addr → Prop) (s : Shared) (τ : Tk) (own : Nat → Option Addr) (ρ : Ρ) : Prop where
  room : Room m A
  top0 : K.T s₀.heap
  ext : Ext s₀ τ₀ s τ
  x0l : XD s.heap X₀
  x0o : ∀ j a, own j = some a → ¬ X₀ a
  x0n : ∀ b, Lo env b → ¬ X₀ b
  loc : ∀ b, Lo env b → s₀.heap.get? b = none
  fresh : ∀ j a, own j = some a → s₀.heap.get? a = none ∧ ¬ Lo env a
  live : ∀ j a, own j = some a → ∃ o, s.heap.get? a = some o
  inj : ∀ i j a, own i = some a → own j = some a → i = j
  owns : ∀ i c, ρ[i]? = some (.o c) → ∃ a, own i = some a
  owned : ∀ i a, own i = some a → ∃ c, ρ[i]? = some (.o c)
  ns : ∃ m', s.heap.Ns env.locals m'
  cells : ∀ n c, env.cells.lookup n = some c → (∃ v₀, s.heap.IsCell c v₀) ∧ c ≠ env.locals
  cinj : ∀ n n' c, env.cells.lookup n = some c → env.cells.lookup n' = some c → n = n'
  env : EnvOk K sc vars env ⟨s.heap, τ⟩ (XO X₀ env own) own ρ

section
variable {K : Cx} {m : Nat} {sc : Scope} {vars : List Str} {A : Around} {env : Env} {s₀ : Shared} {τ₀ : Tk} {X₀ : Addr → Prop} {s s' : Shared} {τ τ' : Tk} {own : Nat → Option Addr} {ρ : Ρ}

theorem Lo.live (F : Fr K m sc vars A env s₀ τ₀ X₀ s τ own ρ) {b : Addr} (h : Lo env b) : ∃ o, s.heap.get? b = some o := by
  rcases h with rfl | ⟨n, hn⟩
  · obtain ⟨m', o, es, ep, ho, _⟩ := F.ns; exact ⟨o, ho⟩
  · obtain ⟨⟨v, o, ho, _⟩, _⟩ := F.cells n b hn; exact ⟨o, ho⟩

theorem Fr.frm (F : Fr K m sc vars A env s₀ τ₀ X₀ s τ own ρ) : Frm K m sc vars A env s τ (XO X₀ env own) own ρ where
  room := F.room
  top := F.top0.keep F.ext.keep
  tok := F.ext.ok
  env := F.env
  xd := fun a ha => by
    rcases ha with ha | ha | ⟨j, ha⟩
    · exact F.x0l a ha
    · exact Lo.live F ha
    · exact F.live j a ha
  ownX := fun j a h => .inr (.inr ⟨j, h⟩)

theorem Fr.step (F : Fr K m sc vars A env s₀ τ₀ X₀ s τ own ρ) (x : Ext s τ s' τ') : Fr K m sc vars A env s₀ τ₀ X₀ s' τ' own ρ where
  room := F.room
  top0 := F.top0
  ext := F.ext.trans x
  x0l := F.x0l.keep x.keep
  x0o := F.x0o
  x0n := F.x0n
  loc := F.loc
  fresh := F.fresh
  live := fun j a h => let ⟨o, ho⟩ := F.live j a h; ⟨o, x.keep _ _ ho⟩
  inj := F.inj
  owns := F.owns
  owned := F.owned
  ns := let ⟨m', hn⟩ := F.ns; ⟨m', hn.keeps x.keep⟩
  cells := fun n c h => let ⟨⟨v, hv⟩, hc⟩ := F.cells n c h; ⟨⟨v, hv.keeps x.keep⟩, hc⟩
  cinj := F.cinj
  env := F.env.ext x

theorem ownDrop_of {own : Nat → Option Addr} {l : List Nat} {j : Nat} {a : Addr} (h : ownDrop own l j = some a) : j ∉ l ∧ own j = some a := by
  unfold ownDrop at h
  split at h
  · cases h
  · rename_i hj; exact ⟨hj, h⟩
theorem ownDrop_mem {own : Nat → Option Addr} {l : List Nat} {j : Nat} (h : j ∈ l) : ownDrop own l j = none := by simp [ownDrop, h]
theorem ownDrop_not {own : Nat → Option Addr} {l : List Nat} {j : Nat} (h : j ∉ l) : ownDrop own l j = own j := by simp [ownDrop, h]

/-- what keeps off all but the dropped keeps off what is left -/
theorem Fr.offDrop (F : Fr K m sc vars A env s₀ τ₀ X₀ s τ own ρ) (l : List Nat) {b : Addr} (h : XO X₀ env (ownDrop own l) b) : Off (XO X₀ env own) own l b := by
  rcases h with h | h | ⟨j, h⟩
  · refine ⟨.inl h, fun j _ e => ?_⟩
    exact F.x0o j b e h
  · exact ⟨.inr (.inl h), fun j _ e => (F.fresh j b e).2 h⟩
  · obtain ⟨hj, h⟩ := ownDrop_of h
    exact ⟨.inr (.inr ⟨j, h⟩), fun i hi e => hj (F.inj i j b e h ▸ hi)⟩

theorem dropAt_get : ∀ (l : List Nat) (ρ : Ρ) (j : Nat), (dropAt ρ l)[j]? = if j ∈ l then (ρ[j]?).map Sl.drop else ρ[j]?
  | [], ρ, j => by simp [dropAt]
  | i :: l, ρ, j => by
    unfold dropAt
    rw [dropAt_get l]
    have hdd : ∀ x : Sl, x.drop.drop = x.drop := fun x => by cases x <;> rfl
    rw [List.getElem?_modify]
    by_cases hij : i = j
    · subst hij
      by_cases hl : i ∈ l
      · rw [if_pos hl, if_pos (List.mem_cons_self)]
        cases ρ[i]? with
        | none => simp
        | some x => simp [hdd]
      · rw [if_neg hl, if_pos (List.mem_cons_self)]
        simp
    · have hne : (i = j) = False := by simp [hij]
      by_cases hl : j ∈ l
      · rw [if_pos hl, if_pos (List.mem_cons_of_mem _ hl)]
        simp [hij]
      · rw [if_neg hl, if_neg (by simp [hl]; exact fun h => hij h.symm)]
        simp [hij]

theorem Sl.drop_val (x : Sl) : x.drop.val = x.val := by cases x <;> rfl

theorem Fr.drop (F : Fr K m sc vars A env s₀ τ₀ X₀ s τ own ρ) (l : List Nat) : Fr K m sc vars A env s₀ τ₀ X₀ s τ (ownDrop own l) (dropAt ρ l) where
  room := F.room
  top0 := F.top0
  ext := F.ext
  x0l := F.x0l
  x0o := fun j a h => F.x0o j a (ownDrop_of h).2
  x0n := F.x0n
  loc := F.loc
  fresh := fun j a h => F.fresh j a (ownDrop_of h).2
  live := fun j a h => F.live j a (ownDrop_of h).2
  inj := fun i j a h h' => F.inj i j a (ownDrop_of h).2 (ownDrop_of h').2
  owns := fun i c h => by
    rw [dropAt_get] at h
    split at h
    · cases hr : ρ[i]? with
      | none => rw [hr] at h; cases h
      | some x => rw [hr] at h; cases x <;> cases h
    · rename_i hi
      obtain ⟨a, ha⟩ := F.owns i c h
      exact ⟨a, by rw [ownDrop_not hi]; exact ha⟩
  owned := fun i a h => by
    obtain ⟨hi, h⟩ := ownDrop_of h
    obtain ⟨c, hc⟩ := F.owned i a h
    exact ⟨c, by rw [dropAt_get, if_neg hi]; exact hc⟩
  ns := F.ns
  cells := F.cells
  cinj := F.cinj
  env := by
    refine ⟨F.env.scope, F.env.kind, F.env.globals, F.env.builtins, fun y j p h0 h1 h2 h3 => ?_, F.env.cell⟩
    have h3' : (ρ[j]?).bind Sl.val = some p := by
      rw [dropAt_get] at h3
      split at h3
      · cases hr : ρ[j]? with
        | none => rw [hr] at h3; cases h3
        | some x =>
          rw [hr] at h3
          simpa [Sl.drop_val] using h3
      · exact h3
    obtain ⟨v, hat, hh⟩ := F.env.var y j p h0 h1 h2 h3'
    refine ⟨v, hat, ?_⟩
    have hsub : ∀ b, XO X₀ env (ownDrop own l) b → XO X₀ env own b := fun b hb => (F.offDrop l hb).1
    by_cases hj : j ∈ l
    · rw [ownDrop_mem hj]
      cases ho : own j with
      | none => rw [ho] at hh; exact Rd.less hsub hh
      | some a =>
        rw [ho] at hh
        obtain ⟨rfl, hh⟩ := hh
        exact RdTop.rd hsub (fun hb => (F.offDrop l hb).2 j hj ho) hh
    · rw [ownDrop_not hj]
      exact Held.less hsub hh

theorem ns_unique {h : Heap} {L : Addr} {m m' : Str → Option Value} (a : h.Ns L m) (b : h.Ns L m') : m = m' := by
  obtain ⟨o, es, ep, h1, h2, _, h4⟩ := a
  obtain ⟨o', es', ep', h1', h2', _, h4'⟩ := b
  rw [h1] at h1'; cases h1'
  rw [h2] at h2'; cases h2'
  funext n
  rw [← h4 n, ← h4' n]

theorem up_self {own : Nat → Option Addr} {i : Nat} {o : Option Addr} : up own i o i = o := by simp [up]
theorem up_ne {own : Nat → Option Addr} {i j : Nat} {o : Option Addr} (h : j ≠ i) : up own i o j = own j := by simp [up, h]

/-- where a name is stored -/
theorem store_at (F : Fr K m sc vars A env s₀ τ₀ X₀ s τ own ρ) {x : Str} (hv : isVarK (sc.names.lookup x) = true) (v : Value) {Q : Unit → Shared → Prop} {E : Value → Shared → Prop}
    (hQ : ∀ L h' tk, Lo env L → s.toks ≤ tk → Heap.SameBut L s.heap h' → At env h' x v → (∃ m', h'.Ns env.locals m') → (∀ n c, env.cells.lookup n = some c → ∃ v₀, h'.IsCell c v₀) →
      (∀ y u, y ≠ x → At env s.heap y u → At env h' y u) → Q () { s with heap := h', toks := tk }) : Wp K.M A (storeName env x v) Q E s := by
  have hfk : env.scope.kind = .function := by rw [F.env.scope]; exact F.env.kind
  have hk : env.kindOf x = sc.names.lookup x := by show env.scope.names.lookup x = _; rw [F.env.scope]
  obtain ⟨m₀, hns⟩ := F.ns
  cases hl : sc.names.lookup x with
  | none => rw [hl] at hv; cases hv
  | some k =>
    rw [hl] at hv hk
    have hcase : k = .local ∨ k = .cell := by cases k <;> first | (exact .inl rfl) | (exact .inr rfl) | (cases hv; done)
    rcases hcase with rfl | rfl
    · refine ⟨wpAny_storeName_local hk hns (fun h' hn' hs => hQ env.locals h' _ (.inl rfl) (Nat.le_succ _) hs (.inl ⟨hk, _, hn', by simp⟩) ⟨_, hn'⟩ (fun n c hc => ?_) fun y u hy hat => ?_) (by rw [hfk]; rfl)⟩
      · obtain ⟨⟨v₀, hv₀⟩, hne⟩ := F.cells n c hc
        exact ⟨v₀, hv₀.sameBut hs hne⟩
      · rcases hat with ⟨hl', m', hm', hu⟩ | ⟨hl', c, hc, hu⟩
        · refine .inl ⟨hl', _, hn', ?_⟩
          rw [if_neg hy, ← ns_unique hm' hns]; exact hu
        · exact .inr ⟨hl', c, hc, hu.sameBut hs (F.cells y c hc).2⟩
    · obtain ⟨c, hc⟩ := F.env.cell x hl
      obtain ⟨⟨v₀, hv₀⟩, hne⟩ := F.cells x c hc
      refine ⟨wpAny_storeName_cell hfk hk hc hv₀ fun h' hv' hs => hQ c h' s.toks (.inr ⟨x, hc⟩) (Nat.le_refl _) hs (.inr ⟨hk, c, hc, hv'⟩) ⟨m₀, hns.sameBut hs (Ne.symm hne)⟩ (fun n c' hc' => ?_) fun y u hy hat => ?_⟩
      · by_cases hcc : c' = c
        · subst hcc; exact ⟨_, hv'⟩
        · obtain ⟨⟨v₁, hv₁⟩, _⟩ := F.cells n c' hc'
          exact ⟨v₁, hv₁.sameBut hs hcc⟩
      · rcases hat with ⟨hl', m', hm', hu⟩ | ⟨hl', c', hc', hu⟩
        · exact .inl ⟨hl', m', hm'.sameBut hs (Ne.symm hne), hu⟩
        · refine .inr ⟨hl', c', hc', hu.sameBut hs fun e => hy ?_⟩
          subst e
          exact F.cinj _ _ _ hc' hc

theorem Held.but {K : Cx} {h h' : Heap} {τ : Tk} {X : Addr → Prop} {o : Option Addr} {v : Value} {p : PV} {L : Addr} (e : Held K ⟨h, τ⟩ X o v p) (hL : X L) (ho : o ≠ some L) (hs : Heap.SameBut L h h') : Held K ⟨h', τ⟩ X o v p :=
  Held.mono (g := ⟨h, τ⟩) (g' := ⟨h', τ⟩) (fun b ob hb q => by
    have : b ≠ L := fun e => by
      subst e
      rcases hb with hb | hb
      · exact hb hL
      · exact ho hb
    show h'.get? b = some ob
    rw [hs.2 b this]; exact q) (fun _ _ q => q) (fun _ q => q) e

theorem At.off {env : Env} {h h' : Heap} {x : Str} {v : Value} (e : At env h x v) (hk : ∀ b o, Lo env b → h.get? b = some o → h'.get? b = some o) : At env h' x v := by
  rcases e with ⟨a, m', hn, c⟩ | ⟨a, c, hc, o, ho, hd⟩
  · exact .inl ⟨a, m', hn.at' fun o e => hk _ o (.inl rfl) e, c⟩
  · exact .inr ⟨a, c, hc, o, hk _ _ (.inr ⟨x, hc⟩) ho, hd⟩

/-- a name is given a datum; Z: what goes behind it -/
theorem Fr.put (F : Fr K m sc vars A env s₀ τ₀ X₀ s τ own ρ) {Z : Addr → Prop} (hZ0 : ∀ b, Z b → s₀.heap.get? b = none) (hZL : ∀ b, Z b → ¬ Lo env b) {x : Str} {i : Nat} (hx : varAt sc vars x = some i) (hi : i < ρ.length) {sl : Sl} {p : PV} {o : Option Addr} {v : Value}
    (hsl : (o = none ∧ sl = .v p) ∨ ((∃ a, o = some a ∧ s₀.heap.get? a = none ∧ ¬ Lo env a ∧ (∃ ob, s.heap.get? a = some ob) ∧ (∀ j, own j ≠ some a) ∧ ¬ X₀ a) ∧ sl = .o p)) (hZX : ∀ b, Z b → ¬ X₀ b)
    (hZo : ∀ b j, Z b → up own i o j ≠ some b)
    (hE : ∀ y j q, j ≠ i → (y == (".0" : Str)) = false → isVarK (sc.names.lookup y) = true → vars.findIdx? (· == y) = some j → (ρ[j]?).bind Sl.val = some q → ∃ u, At env s.heap y u ∧ Held K ⟨s.heap, τ⟩ (fun b => XO X₀ env (up own i o) b ∨ Z b) (own j) u q)
    (hv : Held K ⟨s.heap, τ⟩ (fun b => XO X₀ env (up own i o) b ∨ Z b) o v p) {Q : Unit → Shared → Prop} {E : Value → Shared → Prop}
    (hQ : ∀ L h' tk, Lo env L → s.toks ≤ tk → Heap.SameBut L s.heap h' → (∀ h'' : Heap, (∀ b ob, ¬ Z b → h'.get? b = some ob → h''.get? b = some ob) → Fr K m sc vars A env s₀ τ₀ X₀ { s with heap := h'', toks := tk } τ (up own i o) (ρ.set i sl)) → Q () { s with heap := h', toks := tk }) :
    Wp K.M A (storeName env x v) Q E s := by
  obtain ⟨x1, x2, x3, x4⟩ := varAt_ok hx
  refine store_at F x1 v fun L h' tk hL htk hs hat hns hcs hoth => hQ L h' tk hL htk hs fun h'' hk => ?_
  have hLX : (fun b => XO X₀ env (up own i o) b ∨ Z b) L := .inl (.inr (.inl hL))
  have hoL : ∀ j, own j ≠ some L := fun j e => (F.fresh j L e).2 hL
  have huL : ∀ j, up own i o j ≠ some L := fun j e => by
    by_cases hj : j = i
    · subst hj
      rw [up_self] at e
      rcases hsl with ⟨rfl, _⟩ | ⟨⟨a, rfl, _, ha, _⟩, _⟩
      · cases e
      · cases e; exact ha hL
    · rw [up_ne hj] at e; exact hoL j e
  have hLo : ∀ b ob, Lo env b → h'.get? b = some ob → h''.get? b = some ob := fun b ob hb e => hk b ob (fun hz => hZL b hz hb) e
  have hset : ∀ j, j ≠ i → (ρ.set i sl)[j]? = ρ[j]? := fun j hj => List.getElem?_set_ne (Ne.symm hj)
  have hself : (ρ.set i sl)[i]? = some sl := by simp [List.getElem?_set, hi]
  have hZH : ∀ {o' : Option Addr} {u : Value} {q : PV}, (∀ b, Z b → o' ≠ some b) → o' ≠ some L → Held K ⟨s.heap, τ⟩ (fun b => XO X₀ env (up own i o) b ∨ Z b) o' u q → Held K ⟨h'', τ⟩ (XO X₀ env (up own i o)) o' u q := fun {o' u q} hz hl hh => by
    have h1 := hh.but hLX hl hs
    have h2 : Held K ⟨h'', τ⟩ (fun b => XO X₀ env (up own i o) b ∨ Z b) o' u q := Held.mono (g := ⟨h', τ⟩) (g' := ⟨h'', τ⟩) (fun b ob hb q => hk b ob (fun z => by
      rcases hb with hb | hb
      · exact hb (.inr z)
      · exact hz b z hb) q) (fun _ _ q => q) (fun _ q => q) h1
    exact h2.less fun b hb => .inl hb
  refine ⟨F.room, F.top0, F.ext.heapTok (fun b ob e e' => hk b ob (fun z => by rw [hZ0 b z] at e; cases e) ?_) htk, ?_, ?_, F.x0n, F.loc, ?_, ?_, ?_, ?_, ?_, ?_, ?_, F.cinj, ⟨F.env.scope, F.env.kind, F.env.globals, F.env.builtins, ?_, F.env.cell⟩⟩
  · rw [hs.2 b fun q => by subst q; rw [F.loc b hL] at e; cases e]; exact e'
  · intro a ha
    obtain ⟨ob, hob⟩ := F.x0l a ha
    exact ⟨ob, hk _ _ (fun z => hZX a z ha) (by rw [hs.2 a fun q => F.x0n L hL (q ▸ ha)]; exact hob)⟩
  · intro j a h
    by_cases hj : j = i
    · subst hj
      rw [up_self] at h
      rcases hsl with ⟨rfl, _⟩ | ⟨⟨a', rfl, _, _, _, _, h5⟩, _⟩
      · cases h
      · cases h; exact h5
    · rw [up_ne hj] at h; exact F.x0o j a h
  · intro j a h
    by_cases hj : j = i
    · subst hj
      rw [up_self] at h
      rcases hsl with ⟨rfl, _⟩ | ⟨⟨a', rfl, h1, h2, _⟩, _⟩
      · cases h
      · cases h; exact ⟨h1, h2⟩
    · rw [up_ne hj] at h; exact F.fresh j a h
  · intro j a h
    have hzz : ¬ Z a := fun z => hZo a j z h
    have haL : a ≠ L := fun q => huL j (q ▸ h)
    have : ∃ ob, s.heap.get? a = some ob := by
      by_cases hj : j = i
      · subst hj
        rw [up_self] at h
        rcases hsl with ⟨rfl, _⟩ | ⟨⟨a', rfl, h1, h2, h3, _⟩, _⟩
        · cases h
        · cases h; exact h3
      · rw [up_ne hj] at h; exact F.live j a h
    obtain ⟨ob, hob⟩ := this
    exact ⟨ob, hk _ _ hzz (by rw [hs.2 a haL]; exact hob)⟩
  · intro j k a h h'
    by_cases hj : j = i
    · by_cases hk' : k = i
      · rw [hj, hk']
      · subst hj
        rw [up_self] at h
        rw [up_ne hk'] at h'
        rcases hsl with ⟨rfl, _⟩ | ⟨⟨a', rfl, _, _, _, h4, _⟩, _⟩
        · cases h
        · cases h; exact absurd h' (h4 k)
    · by_cases hk' : k = i
      · subst hk'
        rw [up_self] at h'
        rw [up_ne hj] at h
        rcases hsl with ⟨rfl, _⟩ | ⟨⟨a', rfl, _, _, _, h4, _⟩, _⟩
        · cases h'
        · cases h'; exact absurd h (h4 j)
      · rw [up_ne hj] at h; rw [up_ne hk'] at h'; exact F.inj j k a h h'
  · intro j c h
    by_cases hj : j = i
    · subst hj
      rw [hself] at h
      rcases hsl with ⟨_, rfl⟩ | ⟨⟨a', rfl, _⟩, rfl⟩
      · cases h
      · exact ⟨a', up_self⟩
    · rw [hset j hj] at h
      rw [up_ne hj]
      exact F.owns j c h
  · intro j a h
    by_cases hj : j = i
    · subst hj
      rw [up_self] at h
      rcases hsl with ⟨rfl, _⟩ | ⟨⟨a', rfl, _⟩, rfl⟩
      · cases h
      · exact ⟨p, hself⟩
    · rw [up_ne hj] at h
      rw [hset j hj]
      exact F.owned j a h
  · obtain ⟨m', hn⟩ := hns
    exact ⟨m', hn.at' fun o e => hLo _ o (.inl rfl) e⟩
  · intro n c hc
    obtain ⟨v₀, ob, ho, hd⟩ := hcs n c hc
    exact ⟨⟨v₀, ob, hLo _ _ (.inr ⟨n, hc⟩) ho, hd⟩, (F.cells n c hc).2⟩
  · intro y j q g0 g1 g2 g3
    by_cases hj : j = i
    · subst hj
      have hyx : y = x := by
        obtain ⟨z1, z2, _⟩ := List.findIdx?_eq_some_iff_getElem.mp g2
        obtain ⟨z3, z4, _⟩ := List.findIdx?_eq_some_iff_getElem.mp x4
        exact (eq_of_beq z2).symm.trans (eq_of_beq z4)
      subst hyx
      rw [hself] at g3
      have hq : q = p := by
        rcases hsl with ⟨_, rfl⟩ | ⟨_, rfl⟩ <;> (cases g3; rfl)
      subst hq
      refine ⟨v, hat.off hLo, ?_⟩
      rw [up_self]
      exact hZH (fun b z e => hZo b j z (by rw [up_self]; exact e)) (fun e => huL j (by rw [up_self]; exact e)) hv
    · rw [hset j hj] at g3
      obtain ⟨u, hu, hh⟩ := hE y j q hj g0 g1 g2 g3
      have hyx : y ≠ x := fun e => by
        subst e
        rw [x4] at g2
        exact hj (Option.some.inj g2).symm
      refine ⟨u, (hoth y u hyx hu).off hLo, ?_⟩
      rw [up_ne hj]
      exact hZH (fun b z e => hZo b j z (by rw [up_ne hj]; exact e)) (hoL j) hh
end
end Mine
namespace Mine
open PySem PySem.SeqAt PyProof.Rows

/-- what a run of statements leaves as it was -/
structure Stp (env : Env) (s : Shared) (τ : Tk) (own : Nat → Option Addr) (s' : Shared) (τ' : Tk) (own' : Nat → Option Addr) : Prop where
  keep : ∀ b o, s.heap.get? b = some o → ¬ Lo env b → (∀ j, own j ≠ some b) → s'.heap.get? b = some o
  own : ∀ j b, own' j = some b → ¬ Lo env b → (∃ i, own i = some b) ∨ s.heap.get? b = none
  sub : ∀ t x, τ t x → τ' t x

section
variable {K : Cx} {C : Orc} {m : Nat} {sc : Scope} {vars : List Str} {A : Around} {env : Env} {s₀ : Shared} {τ₀ : Tk} {X₀ : Addr → Prop} {s s' s'' : Shared} {τ τ' τ'' : Tk} {own own' own'' : Nat → Option Addr} {ρ : Ρ}

theorem Stp.ext (x : Ext s τ s' τ') : Stp env s τ own s' τ' own := ⟨fun b o e _ _ => x.keep b o e, fun j b h _ => .inl ⟨j, h⟩, x.sub⟩
theorem Stp.drop (l : List Nat) : Stp env s τ own s τ (ownDrop own l) := ⟨fun b o e _ _ => e, fun j b h _ => .inl ⟨j, (ownDrop_of h).2⟩, fun _ _ e => e⟩
theorem Stp.trans (a : Stp env s τ own s' τ' own') (b : Stp env s' τ' own' s'' τ'' own'') : Stp env s τ own s'' τ'' own'' where
  keep := fun x o e h1 h2 => b.keep x o (a.keep x o e h1 h2) h1 fun j hj => by
    rcases a.own j x hj h1 with ⟨i, hi⟩ | hn
    · exact h2 i hi
    · rw [hn] at e; cases e
  own := fun j x h hL => by
    rcases b.own j x h hL with ⟨i, hi⟩ | hn
    · exact a.own i x hi hL
    · cases e : s.heap.get? x with
      | none => exact .inr rfl
      | some o =>
        by_cases ho : ∃ i, own i = some x
        · exact .inl ho
        · have := a.keep x o e hL fun j hj => ho ⟨j, hj⟩
          rw [hn] at this; cases this
  sub := fun t x e => b.sub t x (a.sub t x e)

theorem Rd.stp (hown : ∀ j b, own' j = some b → ¬ Lo env b) (a : Stp env s τ own s' τ' own') {v : Value} {p : PV} (e : Rd K ⟨s.heap, τ⟩ (XO X₀ env own) v p) : Rd K ⟨s'.heap, τ'⟩ (XO X₀ env own') v p := by
  have h1 := Rd.more (N := fun b => s.heap.get? b = none) (fun _ q => q) e
  have h2 : Rd K ⟨s'.heap, τ'⟩ (fun b => XO X₀ env own b ∨ s.heap.get? b = none) v p := Rd.mono (g := ⟨s.heap, τ⟩) (g' := ⟨s'.heap, τ'⟩) (fun b o hb q => a.keep b o q (fun hL => hb (.inl (.inr (.inl hL)))) fun j hj => hb (.inl (.inr (.inr ⟨j, hj⟩)))) a.sub (fun _ q => q) h1
  refine h2.less fun b hb => ?_
  rcases hb with hb | hb | ⟨j, hb⟩
  · exact .inl (.inl hb)
  · exact .inl (.inr (.inl hb))
  · rcases a.own j b hb (hown j b hb) with ⟨i, hi⟩ | hn
    · exact .inl (.inr (.inr ⟨i, hi⟩))
    · exact .inr hn

/-- what is to hold behind a statement -/
structure Ends (K : Cx) (m : Nat) (sc : Scope) (vars : List Str) (A : Around) (env : Env) (s₀ : Shared) (τ₀ : Tk) (X₀ : Addr → Prop) (s : Shared) (τ : Tk) (own : Nat → Option Addr) (r : Res) (Q : Flow → Shared → Prop) : Prop where
  nxt : ∀ ρ', r = .nxt ρ' → ∀ s' τ' own', Fr K m sc vars A env s₀ τ₀ X₀ s' τ' own' ρ' → Stp env s τ own s' τ' own' → Q .next s'
  ret : ∀ p, r = .ret p → ∀ v s' τ', Ext s₀ τ₀ s' τ' → Rd K ⟨s'.heap, τ'⟩ X₀ v p → Q (.ret v) s'

noncomputable def ExAt (K : Cx) (C : Orc) (m : Nat) (sc : Scope) (vars : List Str) (st : Stmt) (S : Mine.S) : Prop :=
  ∀ (A : Around) (env : Env) (s₀ : Shared) (τ₀ : Tk) (X₀ : Addr → Prop) (s : Shared) (τ : Tk) (own : Nat → Option Addr) (ρ : Ρ) (r : Res), Fr K m sc vars A env s₀ τ₀ X₀ s τ own ρ → ex C S ρ = some r →
    ∀ (Q : Flow → Shared → Prop) (E : Value → Shared → Prop), Ends K m sc vars A env s₀ τ₀ X₀ s τ own r Q → Wp K.M A (exec st env) Q E s
noncomputable def ExsAt (K : Cx) (C : Orc) (m : Nat) (sc : Scope) (vars : List Str) (sts : List Stmt) (S : SL) : Prop :=
  ∀ (A : Around) (env : Env) (s₀ : Shared) (τ₀ : Tk) (X₀ : Addr → Prop) (s : Shared) (τ : Tk) (own : Nat → Option Addr) (ρ : Ρ) (r : Res), Fr K m sc vars A env s₀ τ₀ X₀ s τ own ρ → exs C S ρ = some r →
    ∀ (Q : Flow → Shared → Prop) (E : Value → Shared → Prop), Ends K m sc vars A env s₀ τ₀ X₀ s τ own r Q → Wp K.M A (execs sts env) Q E s

theorem Ends.go (e : Ends K m sc vars A env s₀ τ₀ X₀ s τ own r Q) (a : Stp env s τ own s' τ' own') : Ends K m sc vars A env s₀ τ₀ X₀ s' τ' own' r Q :=
  ⟨fun ρ' hr s'' τ'' own'' F b => e.nxt ρ' hr s'' τ'' own'' F (a.trans b), e.ret⟩

noncomputable def SL.toList : SL → List Mine.S
  | .nil => []
  | .cons a l => a :: l.toList
/-- lists of statements -/
noncomputable def ExL (K : Cx) (C : Orc) (m : Nat) (sc : Scope) (vars : List Str) : List Stmt → SL → Prop
  | [], .nil => True
  | e :: r, .cons x l => ExAt K C m sc vars e x ∧ ExL K C m sc vars r l
  | _, _ => False

theorem exs_ok : ∀ {sts : List Stmt} {l : SL}, ExL K C m sc vars sts l → ExsAt K C m sc vars sts l
  | [], .nil, _ => fun A env s₀ τ₀ X₀ s τ own ρ r F e Q E hQ => by
    cases e
    exact ⟨wpAny_execs_nil (hQ.nxt _ rfl _ _ _ F (.ext (.refl F.ext.ok)))⟩
  | st :: sts, .cons a l, ⟨h1, h2⟩ => fun A env s₀ τ₀ X₀ s τ own ρ r F e Q E hQ => by
    simp only [exs] at e
    cases ha : ex C a ρ with
    | none => rw [ha] at e; cases e
    | some r₁ =>
      rw [ha] at e
      refine ⟨wpAny_execs_cons (h1 A env s₀ τ₀ X₀ s τ own ρ r₁ F ha _ E ⟨fun ρ' hr s' τ' own' F' st' => ?_, fun p hr v s' τ' x' rd' => ?_⟩).out⟩
      · subst hr
        exact (exs_ok h2 A env s₀ τ₀ X₀ s' τ' own' ρ' r F' e Q E (hQ.go st')).out
      · subst hr
        cases e
        exact hQ.ret p rfl v s' τ' x' rd'
  | [], .cons _ _, h => h.elim
  | _ :: _, .nil, h => h.elim

theorem ex_ret {v : Expr} {x : Mine.X} {pos : Pos} (ih : EvAt K C m sc vars v x) : ExAt K C m sc vars (.Return (some v) pos) (.ret x) := by
  intro A env s₀ τ₀ X₀ s τ own ρ r F e Q E hQ
  simp only [ex, Option.map_eq_some_iff] at e
  obtain ⟨p, hp, rfl⟩ := e
  refine ⟨wpAny_Return_some (ih A env s τ _ own ρ p F.frm hp _ E fun u s' τ' ⟨h1, h2, _⟩ => ?_).out⟩
  exact hQ.ret p rfl u s' τ' (F.ext.trans h1) (h2.less fun b hb => F.offDrop (al x) (.inl hb))

theorem ex_ite {c : Expr} {a b : List Stmt} {x : Mine.X} {y z : SL} {pos : Pos} (ihc : TrAt K C m sc vars c x) (iha : ExsAt K C m sc vars a y) (ihb : ExsAt K C m sc vars b z) : ExAt K C m sc vars (.If c a b pos) (.ite x y z) := by
  intro A env s₀ τ₀ X₀ s τ own ρ r F e Q E hQ
  simp only [ex] at e
  cases hx : ev C x ρ with
  | none => rw [hx] at e; cases e
  | some px =>
    rw [hx] at e
    dsimp only at e
    cases ht : truth px with
    | none => rw [ht] at e; cases e
    | some t =>
      rw [ht] at e
      refine ⟨wpAny_If (ihc A env s τ _ own ρ _ _ F.frm hx ht _ E fun s' τ' h1 => ?_).out⟩
      cases t with
      | true => exact (iha A env s₀ τ₀ X₀ s' τ' own ρ r (F.step h1) e Q E (hQ.go (.ext h1))).out
      | false => exact (ihb A env s₀ τ₀ X₀ s' τ' own ρ r (F.step h1) e Q E (hQ.go (.ext h1))).out

theorem setAt_ok {ρ ρ' : Ρ} {i : Nat} {sl : Sl} (h : setAt ρ i sl = some ρ') : i < ρ.length ∧ ρ' = ρ.set i sl := by
  unfold setAt at h
  split at h
  · rename_i hi
    cases h
    exact ⟨Nat.ble_eq.mp hi, rfl⟩
  · cases h

theorem XO.up_none {i : Nat} {b : Addr} (h : XO X₀ env (up own i none) b) : XO X₀ env own b := by
  rcases h with h | h | ⟨j, h⟩
  · exact .inl h
  · exact .inr (.inl h)
  · by_cases hj : j = i
    · subst hj; rw [up_self] at h; cases h
    · rw [up_ne hj] at h; exact .inr (.inr ⟨j, h⟩)

/-- a plain store -/
theorem Fr.plain (F : Fr K m sc vars A env s₀ τ₀ X₀ s τ own ρ) {x : Str} {i : Nat} (hx : varAt sc vars x = some i) {ρ' : Ρ} {p : PV} {v : Value} (hi : setAt ρ i (.v p) = some ρ') (hv : Rd K ⟨s.heap, τ⟩ (XO X₀ env own) v p) {Q : Unit → Shared → Prop} {E : Value → Shared → Prop}
    (hQ : ∀ s' own', Fr K m sc vars A env s₀ τ₀ X₀ s' τ own' ρ' → Stp env s τ own s' τ own' → s.toks ≤ s'.toks → Q () s') : Wp K.M A (storeName env x v) Q E s := by
  obtain ⟨hlt, rfl⟩ := setAt_ok hi
  refine Fr.put F (Z := fun _ => False) (fun _ h => h.elim) (fun _ h => h.elim) hx hlt (o := none) (p := p) (sl := .v p) (.inl ⟨rfl, rfl⟩) (fun _ h => h.elim) (fun _ _ h => h.elim) (fun y j q hj h0 h1 h2 h3 => ?_) ?_ fun L h' tk hL htk hs hfr => ?_
  · obtain ⟨u, hu, hh⟩ := F.env.var y j q h0 h1 h2 h3
    exact ⟨u, hu, hh.less fun b hb => hb.elim XO.up_none fun h => h.elim⟩
  · exact Rd.less (fun b hb => hb.elim XO.up_none fun h => h.elim) hv
  · refine hQ _ _ (hfr h' fun b ob _ e => e) ⟨fun b o e hb _ => ?_, fun j b h _ => ?_, fun _ _ e => e⟩ htk
    · show h'.get? b = some o
      rw [hs.2 b fun q => hb (q ▸ hL)]; exact e
    · by_cases hj : j = i
      · subst hj; rw [up_self] at h; cases h
      · rw [up_ne hj] at h; exact .inl ⟨j, h⟩

/-- a store of something new -/
theorem Fr.newly {s₁ : Shared} {τ₁ : Tk} (F : Fr K m sc vars A env s₀ τ₀ X₀ s₁ τ₁ own ρ) (x1 : Ext s₁ τ₁ s τ) {Z : Addr → Prop} (hZ : ∀ b, Z b → s₁.heap.get? b = none) {x : Str} {i : Nat} (hx : varAt sc vars x = some i) {ρ' : Ρ} {p : PV} {v : Value} (hi : setAt ρ i (.o p) = some ρ')
    (hv : FreshRd K s₁.heap ⟨s.heap, τ⟩ (fun b => XO X₀ env own b ∨ Z b) v p) (hva : ∀ a, v = .ref a → ¬ Z a) {Q : Unit → Shared → Prop} {E : Value → Shared → Prop}
    (hQ : ∀ L h' tk, Lo env L → s.toks ≤ tk → Heap.SameBut L s.heap h' → (∀ h'' : Heap, (∀ b ob, ¬ Z b → h'.get? b = some ob → h''.get? b = some ob) → ∃ own', Fr K m sc vars A env s₀ τ₀ X₀ { s with heap := h'', toks := tk } τ own' ρ' ∧ Stp env s₁ τ₁ own { s with heap := h'', toks := tk } τ own') → Q () { s with heap := h', toks := tk }) :
    Wp K.M A (storeName env x v) Q E s := by
  obtain ⟨hlt, rfl⟩ := setAt_ok hi
  obtain ⟨a, rfl, ha, hr⟩ := hv
  have hZa : ¬ Z a := hva a rfl
  have hX : ∀ b, s₁.heap.get? b = none → ¬ XO X₀ env own b := fun b hb => F.frm.xd.fresh hb
  have h0 : ∀ b, s₁.heap.get? b = none → s₀.heap.get? b = none := fun b hb => by
    cases e : s₀.heap.get? b with
    | none => rfl
    | some o => rw [F.ext.keep b o e] at hb; cases hb
  have hXup : ∀ b, XO X₀ env (up own i (some a)) b → XO X₀ env own b ∨ b = a := fun b hb => by
    rcases hb with hb | hb | ⟨j, hb⟩
    · exact .inl (.inl hb)
    · exact .inl (.inr (.inl hb))
    · by_cases hj : j = i
      · subst hj; rw [up_self] at hb; cases hb; exact .inr rfl
      · rw [up_ne hj] at hb; exact .inl (.inr (.inr ⟨j, hb⟩))
  refine Fr.put (F.step x1) (Z := Z) (fun b z => h0 b (hZ b z)) (fun b z hL => hX b (hZ b z) (.inr (.inl hL))) hx hlt (o := some a) (p := p) (sl := .o p) (.inr ⟨⟨a, rfl, h0 a ha, fun hL => hX a ha (.inr (.inl hL)), hr.live, fun j hj => hX a ha (.inr (.inr ⟨j, hj⟩)), fun h => hX a ha (.inl h)⟩, rfl⟩)
    (fun b z h => hX b (hZ b z) (.inl h)) (fun b j z h => ?_) (fun y j q hj h0 h1 h2 h3 => ?_) ?_ fun L h' tk hL htk hs hfr => ?_
  · by_cases hj : j = i
    · subst hj; rw [up_self] at h; cases h; exact hZa z
    · rw [up_ne hj] at h; exact hX b (hZ b z) (.inr (.inr ⟨j, h⟩))
  · have hE := (F.env.more (N := fun b => s₁.heap.get? b = none) fun _ q => q).ext x1
    obtain ⟨u, hu, hh⟩ := hE.var y j q h0 h1 h2 h3
    refine ⟨u, hu, hh.less fun b hb => ?_⟩
    rcases hb with hb | hb
    · rcases hXup b hb with hb | rfl
      · exact .inl hb
      · exact .inr ha
    · exact .inr (hZ b hb)
  · refine ⟨rfl, RdTop.mono (fun _ _ _ q => q) (fun _ _ q => q) (fun b hb => ?_) hr⟩
    rcases hb with hb | hb
    · rcases hXup b hb with hb | rfl
      · exact .inl (.inl hb)
      · exact .inr rfl
    · exact .inl (.inr hb)
  · refine hQ L h' tk hL htk hs fun h'' hk => ⟨_, hfr h'' hk, ⟨fun b o e hb _ => ?_, fun j b h _ => ?_, x1.sub⟩⟩
    · refine hk b o (fun z => by rw [hZ b z] at e; cases e) ?_
      rw [hs.2 b fun q => hb (q ▸ hL)]; exact x1.keep b o e
    · by_cases hj : j = i
      · subst hj; rw [up_self] at h; cases h; exact .inr ha
      · rw [up_ne hj] at h; exact .inl ⟨j, h⟩
end
end Mine
namespace Mine
open PySem PySem.SeqAt PyProof.Rows

section
variable {K : Cx} {C : Orc} {m : Nat} {sc : Scope} {vars : List Str} {A : Around} {env : Env} {s₀ : Shared} {τ₀ : Tk} {X₀ : Addr → Prop} {s s' s'' : Shared} {τ τ' τ'' : Tk} {own own' own'' : Nat → Option Addr} {ρ : Ρ}

noncomputable def isCompE : Expr → Bool
  | .ListComp .. => true
  | .SetComp .. => true
  | .DictComp .. => true
  | _ => false
theorem swaps_false {v : Expr} (h : isCompE v = false) (t : Option Expr) (l : Nat) (env : Env) : swapsWith v t l env = pure false := by
  cases v <;> first | rfl | (cases h; done)

theorem FreshRd.less {h : Heap} {g : Hp} {X Y : Addr → Prop} {v : Value} {p : PV} (hY : ∀ b, Y b → X b) (e : FreshRd K h g X v p) : FreshRd K h g Y v p := by
  obtain ⟨a, rfl, h1, h2⟩ := e
  exact ⟨a, rfl, h1, RdTop.mono (fun _ _ _ q => q) (fun _ _ q => q) (fun b hb => hb.imp (hY b) id) h2⟩
theorem FreshRd.notScalar {h : Heap} {g : Hp} {X : Addr → Prop} {v : Value} {p : PV} (e : FreshRd K h g X v p) : scalar p = false := by
  obtain ⟨a, rfl, h1, h2⟩ := e
  cases p <;> first | rfl | (exact h2.elim)

/-- the drop that goes with a datum -/
theorem Fr.dropFor (F : Fr K m sc vars A env s₀ τ₀ X₀ s τ own ρ) (x : Mine.X) (p : PV) : ∃ own', Fr K m sc vars A env s₀ τ₀ X₀ s τ own' (Mine.dropFor ρ x p) ∧ Stp env s τ own s τ own' ∧
    (∀ (h' : Heap) (τ' : Tk) v, Rd K ⟨h', τ'⟩ (Off (XO X₀ env own) own (al x)) v p → Rd K ⟨h', τ'⟩ (XO X₀ env own') v p) ∧
    (∀ (h h' : Heap) (τ' : Tk) (Z : Addr → Prop) v, FreshRd K h ⟨h', τ'⟩ (fun b => Off (XO X₀ env own) own (al x) b ∨ Z b) v p → FreshRd K h ⟨h', τ'⟩ (fun b => XO X₀ env own' b ∨ Z b) v p) := by
  cases hs : scalar p with
  | true =>
    refine ⟨own, ?_, .ext (.refl F.ext.ok), fun h' τ' v e => e.scalar hs, fun h h' τ' Z v e => by rw [e.notScalar] at hs; cases hs⟩
    unfold Mine.dropFor
    rw [hs]; exact F
  | false =>
    refine ⟨_, ?_, .drop (al x), fun h' τ' v e => e.less fun b hb => F.offDrop (al x) hb, fun h h' τ' Z v e => e.less fun b hb => hb.imp (fun hb => F.offDrop (al x) hb) id⟩
    unfold Mine.dropFor
    rw [hs]; exact F.drop (al x)

theorem ex_asg {y : Str} {py : Pos} {v : Expr} {e : Mine.X} {i : Nat} {pos : Pos} (hy : varAt sc vars y = some i) (ih : EvAt K C m sc vars v e) (hc : isCompE v = false) : ExAt K C m sc vars (.Assign [.Name y py] v pos) (.asg i true e) := by
  intro A env s₀ τ₀ X₀ s τ own ρ r F he Q E hQ
  simp only [ex] at he
  cases hx : ev C e ρ with
  | none => rw [hx] at he; cases he
  | some p =>
    rw [hx] at he
    dsimp only at he
    rw [Option.map_eq_some_iff] at he
    obtain ⟨ρ', hset, rfl⟩ := he
    refine ⟨wpAny_Assign_Name (ih A env s τ _ own ρ p F.frm hx _ E fun u s₁ τ₁ ⟨h1, h2, h3⟩ => ?_).out (swaps_false hc _ _ _)⟩
    obtain ⟨own', F', st', hrd, hfr⟩ := F.dropFor e p
    by_cases hf : isFresh e = true
    · simp only [hf, Bool.and_self, if_true] at hset
      have h4 := hfr _ _ _ (fun _ => False) _ ((h3 hf).less fun b hb => hb.elim id fun h => h.elim)
      refine (Fr.newly F' h1 (Z := fun _ => False) (fun _ h => h.elim) hy hset h4 (fun _ _ h => h.elim) fun L h' tk hL htk hs hk => ?_).out
      obtain ⟨own'', F'', st''⟩ := hk h' fun _ _ _ q => q
      exact hQ.nxt _ rfl _ _ _ F'' (st'.trans st'')
    · simp only [hf, Bool.and_false, Bool.false_eq_true, if_false] at hset
      refine ((F'.step h1).plain hy hset (hrd _ _ _ h2) fun s₂ own'' F'' st'' _ => ?_).out
      exact hQ.nxt _ rfl _ _ _ F'' ((st'.trans (.ext h1)).trans st'')

theorem ex_asg_comp {y x : Str} {py px : Pos} {elt iter : Expr} {ifs : List Expr} {scope : Scope} {cpos pos : Pos} {ye ie ce : Mine.X} {i : Nat} (hy : varAt sc vars y = some i) (ok : CompOk scope sc x) (ihi : EvAt K C m sc vars iter ie)
    (ihy : EvAt K C m (relab scope sc) (x :: vars) elt ye) (ihc : (ifs = [] ∧ ce = .cst (.bool true)) ∨ ∃ c, ifs = [c] ∧ TrAt K C m (relab scope sc) (x :: vars) c ce) (hfs : ∀ env x, foldedSetIterable iter env x = pure x) :
    ExAt K C m sc vars (.Assign [.Name y py] (.ListComp elt [⟨.Name x px, iter, ifs, 0⟩] scope cpos) pos) (.asg i true (.comp ye ie ce)) := by
  intro A env s₀ τ₀ X₀ s τ own ρ r F he Q E hQ
  simp only [ex] at he
  cases hx : ev C (.comp ye ie ce) ρ with
  | none => rw [hx] at he; cases he
  | some p =>
    rw [hx] at he
    dsimp only at he
    rw [Option.map_eq_some_iff] at he
    obtain ⟨ρ', hset, rfl⟩ := he
    simp only [isFresh, Bool.and_self, if_true] at hset
    obtain ⟨own', F', st', hrd, hfr⟩ := F.dropFor (.comp ye ie ce) p
    have hsw : ∃ b, swapsWith (.ListComp elt [⟨.Name x px, iter, ifs, 0⟩] scope cpos) (some (.Name y py)) pos.line env = pure b := ⟨_, rfl⟩
    obtain ⟨b, hsw⟩ := hsw
    cases b with
    | false =>
      refine ⟨wpAny_Assign_Name (ev_comp ok ihi ihy ihc hfs A env s τ _ own ρ p F.frm hx _ E fun u s₁ τ₁ ⟨h1, h2, h3⟩ => ?_).out hsw⟩
      have h4 := hfr _ _ _ (fun _ => False) _ ((h3 rfl).less fun b hb => hb.elim id fun h => h.elim)
      refine (Fr.newly F' h1 (Z := fun _ => False) (fun _ h => h.elim) hy hset h4 (fun _ _ h => h.elim) fun L h' tk hL htk hs hk => ?_).out
      obtain ⟨own'', F'', st''⟩ := hk h' fun _ _ _ q => q
      exact hQ.nxt _ rfl _ _ _ F'' (st'.trans st'')
    | true =>
      rw [exec_Assign_Name_used _ _ _ _ hsw, arm_evalThenUse_ListComp]
      refine .bind (.stand (.bind (.bind ⟨wpAny_comprehension_free (use := some (assign (.Name y py) env)) (cl := closL env scope.names []) rfl (hfs env) (ok.closure F.frm) ok.kind (fun q hq hl => by rw [ok.once q hq, hl])
        (comp_ok ok ihi ihy ihc F.frm hx fun D Cc m' s₁ τ₁ g1 g2 g3 g4 g5 => ?_).out⟩)))
      have h4 := hfr _ _ _ (fun b => b = Cc) _ g5
      refine wpAny_assign_Name (Fr.newly F' g3 (Z := fun b => b = Cc) (fun b h => h ▸ g1) hy hset h4 (fun a ha => by cases ha; exact g2) fun L h' tk hL htk hs hk => ?_).out
      have hCL : Cc ≠ L := fun q => by
        have := Lo.live F hL
        rw [← q, g1] at this
        obtain ⟨o, ho⟩ := this; cases ho
      refine ⟨m', g4.sameBut hs hCL, fun h'' hs'' => ?_⟩
      obtain ⟨own'', F'', st''⟩ := hk h'' fun b ob hb q => by rw [hs''.2 b hb]; exact q
      exact .pure (.pure (hQ.nxt _ rfl _ _ _ F'' (st'.trans st'')))

theorem augop_ok {op : Operator} {p q r : PV} {v u : Value} {X : Addr → Prop} {Q : Value → Shared → Prop} {E : Value → Shared → Prop} (e : augop op p q = some r) (hv : Rd K ⟨s.heap, τ⟩ X v p) (hu : Rd K ⟨s.heap, τ⟩ X u q)
    (T : TokOk s τ) (hQ : ∀ v s' τ', Ext s τ s' τ' → (∀ Y, Rd K ⟨s'.heap, τ'⟩ Y v r) → Q v s') : Wp K.M A (inplaceOp op v u) Q E s := by
  unfold augop at e
  split at e
  · cases e
    obtain ⟨t, rfl⟩ := hv; obtain ⟨t', rfl⟩ := hu
    exact ⟨AutoIntOps.iadd_0 (hQ _ _ _ (.tok1 T) fun Y => rd_int ..)⟩
  · split at e
    · rename_i a b hz
      cases e
      obtain ⟨t, rfl⟩ := hv; obtain ⟨t', rfl⟩ := hu
      refine Wp.untok ⟨PyProof.Rows.iadd_str (fun t' tk hle => ?_) (by rw [length_sOf, length_sOf]; exact szOk_le hz)⟩
      rw [append_sOf]
      exact hQ _ _ _ (.tok T hle) fun Y => rd_str ..
    · cases e
  · cases e

end
end Mine
namespace Mine
open PySem PySem.SeqAt PyProof.Rows

section
variable {K : Cx} {C : Orc} {m : Nat} {sc : Scope} {vars : List Str} {A : Around} {env : Env} {s₀ : Shared} {τ₀ : Tk} {X₀ : Addr → Prop} {s s' s'' : Shared} {τ τ' τ'' : Tk} {own own' own'' : Nat → Option Addr} {ρ : Ρ}

theorem At.but {h h' : Heap} {x : Str} {v : Value} {a : Addr} (e : At env h x v) (ha : ¬ Lo env a) (hs : Heap.SameBut a h h') : At env h' x v :=
  e.off fun b o hb q => by rw [hs.2 b fun z => ha (z ▸ hb)]; exact q

/-- a name's own object is changed -/
theorem Fr.mutate (F : Fr K m sc vars A env s₀ τ₀ X₀ s τ own ρ) {i : Nat} {a : Addr} (ho : own i = some a) {c' : PV} {h' : Heap} {tk : Nat} (htk : s.toks ≤ tk) (hs : Heap.SameBut a s.heap h') (hr : RdTop K ⟨h', τ⟩ (XO X₀ env own) a c') :
    Fr K m sc vars A env s₀ τ₀ X₀ { s with heap := h', toks := tk } τ own (ρ.set i (.o c')) ∧ Stp env s τ own { s with heap := h', toks := tk } τ own := by
  have ha0 := (F.fresh i a ho).1
  have haL := (F.fresh i a ho).2
  obtain ⟨c, hc⟩ := F.owned i a ho
  have hi : i < ρ.length := by
    rcases Nat.lt_or_ge i ρ.length with h | h
    · exact h
    · rw [List.getElem?_eq_none h] at hc; cases hc
  have hset : ∀ j, j ≠ i → (ρ.set i (Sl.o c'))[j]? = ρ[j]? := fun j hj => List.getElem?_set_ne (Ne.symm hj)
  have hself : (ρ.set i (Sl.o c'))[i]? = some (.o c') := by simp [List.getElem?_set, hi]
  refine ⟨⟨F.room, F.top0, F.ext.but ha0 hs htk, ?_, F.x0o, F.x0n, F.loc, F.fresh, ?_, F.inj, ?_, ?_, ?_, ?_, F.cinj, ⟨F.env.scope, F.env.kind, F.env.globals, F.env.builtins, ?_, F.env.cell⟩⟩, ⟨fun b o e _ hb => ?_, fun j b h _ => .inl ⟨j, h⟩, fun _ _ e => e⟩⟩
  · intro b hb
    obtain ⟨o, hob⟩ := F.x0l b hb
    exact ⟨o, by show h'.get? b = some o; rw [hs.2 b fun z => F.x0o i a ho (z ▸ hb)]; exact hob⟩
  · intro j b hb
    by_cases hba : b = a
    · subst hba; exact hr.live
    · obtain ⟨o, hob⟩ := F.live j b hb
      exact ⟨o, by show h'.get? b = some o; rw [hs.2 b hba]; exact hob⟩
  · intro j d h
    by_cases hj : j = i
    · subst hj; exact ⟨a, ho⟩
    · rw [hset j hj] at h; exact F.owns j d h
  · intro j b h
    by_cases hj : j = i
    · subst hj; exact ⟨c', hself⟩
    · rw [hset j hj]; exact F.owned j b h
  · obtain ⟨m', hn⟩ := F.ns
    exact ⟨m', hn.sameBut hs fun z => haL (z ▸ .inl rfl)⟩
  · intro n c hc
    obtain ⟨⟨v₀, hv⟩, hne⟩ := F.cells n c hc
    exact ⟨⟨v₀, hv.sameBut hs fun z => haL (z ▸ .inr ⟨n, hc⟩)⟩, hne⟩
  · intro y j q g0 g1 g2 g3
    by_cases hj : j = i
    · subst hj
      rw [hself] at g3
      cases g3
      obtain ⟨u, hu, hh⟩ := F.env.var y j c g0 g1 g2 (by rw [hc]; rfl)
      rw [ho] at hh
      exact ⟨u, hu.but haL hs, by rw [ho]; exact ⟨hh.1, hr⟩⟩
    · rw [hset j hj] at g3
      obtain ⟨u, hu, hh⟩ := F.env.var y j q g0 g1 g2 g3
      exact ⟨u, hu.but haL hs, hh.but (.inr (.inr ⟨i, ho⟩)) (fun z => hj (F.inj j i a z ho)) hs⟩
  · show h'.get? b = some o
    rw [hs.2 b fun z => hb i (z ▸ ho)]; exact e

/-- the object of an owning name -/
theorem Fr.object (F : Fr K m sc vars A env s₀ τ₀ X₀ s τ own ρ) {y : Str} {i : Nat} {c : PV} (hy : varAt sc vars y = some i) (hc : ρ[i]? = some (.o c)) : ∃ a, own i = some a ∧ At env s.heap y (.ref a) ∧ RdTop K ⟨s.heap, τ⟩ (XO X₀ env own) a c := by
  obtain ⟨x1, x2, x3, x4⟩ := varAt_ok hy
  obtain ⟨a, ha⟩ := F.owns i c hc
  obtain ⟨u, hu, hh⟩ := F.env.var y i c x3 x1 x4 (by rw [hc]; rfl)
  rw [ha] at hh
  obtain ⟨rfl, hh⟩ := hh
  exact ⟨a, ha, hu, hh⟩

theorem put_stored {g : Hp} {X : Addr → Prop} {k : List Nat} {p : PV} {v : Value} (hv : Rd K g X v p) : ∀ {l : List (List Nat × PV)} {kvs : List (Str × Value)}, RdD K g X kvs l → (kvs.map (·.1)).Nodup → RdD K g X (stored kvs (sOf k) v) (put k p l)
  | [], _, e, _ => by cases e; exact ⟨v, [], rfl, hv, rfl⟩
  | (k', q) :: l, _, e, hn => by
    obtain ⟨u, r, rfl, h1, h2⟩ := e
    simp only [List.map_cons, List.nodup_cons] at hn
    unfold put
    by_cases hk : k' = k
    · subst hk
      simp only [beq_self_eq_true, if_true]
      have : stored ((sOf k', u) :: r) (sOf k') v = (sOf k', v) :: r := by
        unfold stored
        simp only [List.any_cons, decide_true, Bool.true_or, if_true, List.map_cons]
        rw [map_store_of_not_mem r (sOf k') v hn.1]
      rw [this]
      exact ⟨v, r, rfl, hv, h2⟩
    · have hk' : (k' == k) = false := by simpa using hk
      have hs : sOf k' ≠ sOf k := fun e => hk (by have := congrArg (fun z : Str => z.cps.toList) e; simpa using this)
      rw [if_neg (by simp [hk'])]
      have ih := put_stored (k := k) hv h2 hn.2
      have : stored ((sOf k', u) :: r) (sOf k) v = (sOf k', u) :: stored r (sOf k) v := by
        unfold stored
        simp only [List.any_cons, hs, decide_false, Bool.false_or, List.map_cons, if_false]
        split <;> simp
      rw [this]
      exact ⟨u, _, rfl, h1, ih⟩

/-- a store into an owned object -/
theorem store_ok (F : Fr K m sc vars A env s₀ τ₀ X₀ s τ own ρ) {i : Nat} {a : Addr} (ho : own i = some a) {c kv p c' : PV} (hst : storeI c kv p = some c') (hr : RdTop K ⟨s.heap, τ⟩ (XO X₀ env own) a c) {kvv v : Value} (hk : ∀ Y, Rd K ⟨s.heap, τ⟩ Y kvv kv)
    (hv : Rd K ⟨s.heap, τ⟩ (XO X₀ env own) v p) {Q : Unit → Shared → Prop} {E : Value → Shared → Prop}
    (hQ : ∀ s', Fr K m sc vars A env s₀ τ₀ X₀ s' τ own (ρ.set i (.o c')) → Stp env s τ own s' τ own → Q () s') : Wp K.M A (setItem (.ref a) kvv v) Q E s := by
  have haX : XO X₀ env own a := .inr (.inr ⟨i, ho⟩)
  unfold storeI at hst
  split at hst
  · split at hst
    · rename_i l n hz
      cases hst
      simp only [Bool.and_eq_true, decide_eq_true_eq] at hz
      obtain ⟨t, rfl⟩ := hk (fun _ => False)
      obtain ⟨vs, ⟨n', hp⟩, hl⟩ := hr
      have hlen := hl.length
      have hz1 := Nat.le_of_ble_eq_true hz.1
      refine ⟨PySem.W.ki_setAt (items := vs.toArray) (n := n') hp hz.2.1 (by omega) (by simp only [List.size_toArray]; omega) ?_⟩
      have hup := PySem.IsL.update (items := vs.toArray) (n := n') (x := hp) (·.setIfInBounds n.toNat v)
      have hs : Heap.SameBut a s.heap (s.heap.update a (Obj.mapSeq (·.setIfInBounds n.toNat v))) := Heap.SameBut.update ..
      have hr' : RdTop K ⟨s.heap.update a (Obj.mapSeq (·.setIfInBounds n.toNat v)), τ⟩ (XO X₀ env own) a (.list (l.set n.toNat p)) := by
        refine ⟨vs.set n.toNat v, ⟨n', ?_⟩, RdL.but (hl.set n.toNat hv) haX hs⟩
        refine hup.trans ?_
        simp
      obtain ⟨F', st'⟩ := F.mutate ho (Nat.le_refl _) hs hr'
      exact hQ _ F' st'
    · cases hst
  · split at hst
    · rename_i l k hz
      cases hst
      obtain ⟨t, rfl⟩ := hk (fun _ => False)
      obtain ⟨kvs, ⟨hd, hsm⟩, hl⟩ := hr
      refine ⟨wpAny_setItem_pairs (knd := PySem.strKind K.prog K.w) (k := sOf k) (by simp [PySem.strKind, Value.isStrOf]) hd (fun h' hd' hs => ?_) (by rw [hl.length]; exact szOk_le hz)⟩
      have hn : (kvs.map (·.1)).Nodup := let ⟨_, _, _, _, _, _, _, _, h⟩ := hd; h
      obtain ⟨F', st'⟩ := F.mutate (c' := .dict (put k p l)) ho (Nat.le_succ _) hs ⟨_, ⟨hd', hsm⟩, RdD.but (put_stored hv hl hn) haX hs⟩
      exact hQ _ F' st'
    · cases hst
  · cases hst

theorem storeI_key {c kv p c' : PV} (h : storeI c kv p = some c') : scalar kv = true := by
  unfold storeI at h
  split at h
  · rfl
  · rfl
  · cases h

theorem swaps_sub (v o i : Expr) (p : Pos) (l : Nat) (env : Env) : swapsWith v (some (.Subscript o i p)) l env = pure false := by cases v <;> rfl
theorem ex_setI {o : Str} {po ps pos : Pos} {k v : Expr} {ke e : Mine.X} {i : Nat} (hy : varAt sc vars o = some i) (ihk : EvAt K C m sc vars k ke) (ih : EvAt K C m sc vars v e) :
    ExAt K C m sc vars (.Assign [.Subscript (.Name o po) k ps] v pos) (.setI i ke e) := by
  intro A env s₀ τ₀ X₀ s τ own ρ r F he Q E hQ
  have hfk : env.scope.kind = .function := by rw [F.env.scope]; exact F.env.kind
  obtain ⟨x1, x2, x3, x4⟩ := varAt_ok hy
  simp only [ex] at he
  cases hx : ev C e ρ with
  | none => rw [hx] at he; cases he
  | some p =>
    cases hkk : ev C ke ρ with
    | none => rw [hx, hkk] at he; cases he
    | some kv =>
      rw [hx, hkk] at he
      dsimp only at he
      split at he
      · rename_i c hci
        cases hst : storeI c kv p with
        | none => rw [hst] at he; cases he
        | some c' =>
          rw [hst] at he
          dsimp only at he
          rw [Option.map_eq_some_iff] at he
          obtain ⟨ρ', hset, rfl⟩ := he
          obtain ⟨_, rfl⟩ := setAt_ok hset
          refine ⟨wpAny_Assign_Subscript (ih A env s τ _ own ρ p F.frm hx _ E fun u s₁ τ₁ ⟨h1, h2, _⟩ => ?_).out (swaps_sub _ _ _ _ _ _)⟩
          obtain ⟨own', F', st', hrd, _⟩ := F.dropFor e p
          have F₁ := F'.step h1
          obtain ⟨a, ho, hat, hr⟩ := F₁.object hy hci
          refine wpAny_Name (load_at (K := K) hfk hat ?_).out x2
          refine (ihk A env s₁ τ₁ _ own ρ kv (F.step h1).frm hkk _ E fun w s₂ τ₂ ⟨k1, k2, _⟩ => ?_).out
          refine (store_ok (F₁.step k1) ho hst (hr.ext k1) (fun Y => k2.scalar (storeI_key hst)) ((hrd _ _ _ h2).ext k1) fun s₃ F₃ st₃ => ?_).out
          exact hQ.nxt _ rfl _ _ _ F₃ ((st'.trans (.ext (h1.trans k1))).trans st₃)
      · cases he

theorem aug_store {i : Expr} (h : oddE i = false) (ov iv new : Value) : augStore i ov iv new = (do holding [new, ov, iv] (setItem ov iv new); release [new, ov, iv] []; pure .next) := by
  cases i <;> first | rfl | (cases h; done)

theorem ex_augI {o : Str} {po ps pos : Pos} {k v : Expr} {op : Operator} {ke e : Mine.X} {i : Nat} (hy : varAt sc vars o = some i) (ihk : EvAt K C m sc vars k ke) (ih : EvAt K C m sc vars v e) (hodd : oddE k = false) :
    ExAt K C m sc vars (.AugAssign (.Subscript (.Name o po) k ps) op v pos) (.augI i ke op e) := by
  intro A env s₀ τ₀ X₀ s τ own ρ r F he Q E hQ
  have hfk : env.scope.kind = .function := by rw [F.env.scope]; exact F.env.kind
  obtain ⟨x1, x2, x3, x4⟩ := varAt_ok hy
  simp only [ex] at he
  split at he
  · rename_i c hci
    cases hkk : ev C ke ρ with
    | none => rw [hkk] at he; cases he
    | some kv =>
      rw [hkk] at he
      dsimp only at he
      cases hg : getI c kv with
      | none => rw [hg] at he; cases he
      | some old =>
        rw [hg] at he
        dsimp only at he
        cases hx : ev C e ρ with
        | none => rw [hx] at he; cases he
        | some p =>
          rw [hx] at he
          dsimp only at he
          cases ha : augop op old p with
          | none => rw [ha] at he; cases he
          | some q =>
            rw [ha] at he
            dsimp only at he
            cases hst : storeI c kv q with
            | none => rw [hst] at he; cases he
            | some c' =>
              rw [hst] at he
              dsimp only at he
              rw [Option.map_eq_some_iff] at he
              obtain ⟨ρ', hset, rfl⟩ := he
              obtain ⟨_, rfl⟩ := setAt_ok hset
              obtain ⟨a, ho, hat, hr⟩ := F.object hy hci
              refine ⟨wpAny_AugAssign_Subscript_any (wpAny_Name (load_at (K := K) hfk hat ?_).out x2) (aug_store hodd)⟩
              refine (ihk A env s τ _ own ρ kv F.frm hkk _ E fun w s₂ τ₂ ⟨k1, k2, _⟩ => ?_).out
              have hkey : scalar kv = true := storeI_key hst
              have hrd : Rd K ⟨s₂.heap, τ₂⟩ (fun _ => False) (.ref a) c := RdTop.rd (fun _ h => h.elim) (fun h => h.elim) (hr.ext k1)
              have hold : scalar old = true := by
                unfold augop at ha
                split at ha
                · rfl
                · rfl
                · cases ha
              refine (getI_ok (A := A) (E := E) (X := fun _ => False) hg hrd (k2.scalar hkey) k1.ok fun u s₃ τ₃ l1 l2 => ?_).2.out
              have F₃ := (F.step k1).step l1
              refine (ih A env s₃ τ₃ _ own ρ p F₃.frm hx _ E fun u' s₄ τ₄ ⟨n1, n2, _⟩ => ?_).out
              refine (augop_ok ha ((l2.scalar hold).ext n1) n2 n1.ok fun w' s₅ τ₅ m1 m2 => ?_).out
              have x5 := ((k1.trans l1).trans n1).trans m1
              refine (store_ok (F.step x5) ho hst (hr.ext x5) (fun Y => (k2.scalar hkey).ext ((l1.trans n1).trans m1)) (m2 _) fun s₆ F₆ st₆ => ?_).out
              exact hQ.nxt _ rfl _ _ _ F₆ ((Stp.ext x5).trans st₆)
  · cases he

theorem ex_app {o : Str} {po apos cpos pos : Pos} {v : Expr} {e : Mine.X} {i : Nat} (hy : varAt sc vars o = some i) (ih : EvAt K C m sc vars v e) (hst : ∀ a p, v ≠ .Starred a p) (hl : (apos.endLine == cpos.line) = true) :
    ExAt K C m sc vars (.Expr (.Call (.Attribute (.Name o po) "append" apos) [v] [] cpos) pos) (.app i e) := by
  intro A env s₀ τ₀ X₀ s τ own ρ r F he Q E hQ
  have hfk : env.scope.kind = .function := by rw [F.env.scope]; exact F.env.kind
  obtain ⟨x1, x2, x3, x4⟩ := varAt_ok hy
  simp only [ex] at he
  cases hx : ev C e ρ with
  | none => rw [hx] at he; cases he
  | some p =>
    rw [hx] at he
    dsimp only at he
    split at he
    · rename_i l hci
      split at he
      · rename_i hz
        rw [Option.map_eq_some_iff] at he
        obtain ⟨ρ', hset, rfl⟩ := he
        obtain ⟨_, rfl⟩ := setAt_ok hset
        obtain ⟨own', F', st', hrd, _⟩ := F.dropFor e p
        obtain ⟨a, ho, hat, hr⟩ := F'.object hy hci
        have hs : starEach [v] env = [(false, eval v env)] := by
          cases v <;> first | rfl | (exact absurd rfl (hst _ _))
        refine ⟨wpAny_Expr (wpAny_Call_method (T := "list") (id := "list.append") (base_plain rfl _ _ _) (by rw [hs]; rfl) hl PySem.F.plainAttrs_list PySem.F.slot_list_append PySem.F.type_list_append (wpAny_Name (load_at (K := K) hfk hat ?_).out x2)) ?_ (swaps_false rfl _ _ _)⟩
        · obtain ⟨vs, ⟨n, hp⟩, hl'⟩ := hr
          refine ⟨⟨_, hp, rfl⟩, (fun a' ha' => by cases ha'; exact ⟨_, hp, rfl⟩), ?_⟩
          rw [hs]
          refine Calls.callWith_builtin rfl (Calls.evalArgs_plain (Calls.spliced_cons (ih A env s τ _ own ρ p F.frm hx _ E fun u s₁ τ₁ ⟨h1, h2, _⟩ => Calls.spliced_nil ?_).out))
          have F₁ := F'.step h1
          refine wpAny_list_append_plain (items := vs.toArray) ⟨n, h1.keep _ _ hp⟩ (fun h' hpl hsb => ?_) (by simp only [List.size_toArray]; rw [hl'.length]; exact szOk_le hz)
          have haX : XO X₀ env own' a := .inr (.inr ⟨i, ho⟩)
          have hr' : RdTop K ⟨h', τ₁⟩ (XO X₀ env own') a (.list (l ++ [p])) := by
            refine ⟨vs ++ [u], ?_, RdL.but ((hl'.ext h1).append (.single (hrd _ _ _ h2))) haX hsb⟩
            obtain ⟨n', hp'⟩ := hpl
            exact ⟨n', by rw [hp']; simp⟩
          obtain ⟨F₂, st₂⟩ := F₁.mutate ho (Nat.le_refl _) hsb hr'
          exact hQ.nxt _ rfl _ _ _ F₂ ((st'.trans (.ext h1)).trans st₂)
        · unfold interactive; rw [hfk]; rfl
      · cases he
    · cases he
end
end Mine
namespace Mine
open PySem PySem.SeqAt PyProof.Rows

section
variable {K : Cx} {C : Orc} {m : Nat} {sc : Scope} {vars : List Str} {A : Around} {env : Env} {s₀ : Shared} {τ₀ : Tk} {X₀ : Addr → Prop} {s s' s'' : Shared} {τ τ' τ'' : Tk} {own own' own'' : Nat → Option Addr} {ρ : Ρ}

/-- to keep off some more, that is new -/
theorem Fr.addX (F : Fr K m sc vars A env s₀ τ₀ X₀ s τ own ρ) (x : Ext s τ s' τ') {N : Addr → Prop} (hN : ∀ a, N a → s.heap.get? a = none) (hN' : ∀ a, N a → ∃ o, s'.heap.get? a = some o) :
    Fr K m sc vars A env s₀ τ₀ (fun b => X₀ b ∨ N b) s' τ' own ρ := by
  have F' := F.step x
  have hX : ∀ b, N b → ¬ XO X₀ env own b := fun b hb => F.frm.xd.fresh (hN b hb)
  refine ⟨F'.room, F'.top0, F'.ext, fun a ha => ha.elim (F'.x0l a) (hN' a), fun j a h ha => ha.elim (F'.x0o j a h) fun ha => hX a ha (.inr (.inr ⟨j, h⟩)), fun b hb ha => ha.elim (F'.x0n b hb) fun ha => hX b ha (.inr (.inl hb)),
    F'.loc, F'.fresh, F'.live, F'.inj, F'.owns, F'.owned, F'.ns, F'.cells, F'.cinj, ?_⟩
  refine ((F.env.more (N := N) hN).ext x).less fun b hb => ?_
  rcases hb with (hb | hb) | hb | hb
  · exact .inl (.inl hb)
  · exact .inr hb
  · exact .inl (.inr (.inl hb))
  · exact .inl (.inr (.inr hb))

/-- what is kept off is changed -/
theorem Fr.shift {Y₀ : Addr → Prop} (F : Fr K m sc vars A env s₀ τ₀ X₀ s τ own ρ) {Z : Addr → Prop} (hY : ∀ b, Y₀ b → X₀ b) (hZ : ∀ b, Z b → X₀ b) (hZ0 : ∀ b, Z b → s₀.heap.get? b = none) {h' : Heap} {tk : Nat} (hk : ∀ b o, ¬ Z b → s.heap.get? b = some o → h'.get? b = some o)
    (hl : ∀ b, Y₀ b → Z b → ∃ o, h'.get? b = some o) (htk : s.toks ≤ tk) :
    Fr K m sc vars A env s₀ τ₀ Y₀ { s with heap := h', toks := tk } τ own ρ := by
  have hLo : ∀ b o, Lo env b → s.heap.get? b = some o → h'.get? b = some o := fun b o hb e => hk b o (fun z => F.x0n b hb (hZ b z)) e
  have hown : ∀ j b, own j = some b → ¬ Z b := fun j b hb z => F.x0o j b hb (hZ b z)
  refine ⟨F.room, F.top0, F.ext.heapTok (fun b o e e' => hk b o (fun z => by rw [hZ0 b z] at e; cases e) e') htk, ?_, fun j a e ha => F.x0o j a e (hY a ha), fun b hb ha => F.x0n b hb (hY b ha), F.loc, F.fresh, ?_, F.inj, F.owns, F.owned, ?_, ?_, F.cinj, ⟨F.env.scope, F.env.kind, F.env.globals, F.env.builtins, ?_, F.env.cell⟩⟩
  · intro a ha
    by_cases z : Z a
    · exact hl a ha z
    · obtain ⟨o, ho⟩ := F.x0l a (hY a ha); exact ⟨o, hk a o z ho⟩
  · intro j a h
    obtain ⟨o, ho⟩ := F.live j a h
    exact ⟨o, hk a o (hown j a h) ho⟩
  · obtain ⟨m', hn⟩ := F.ns
    exact ⟨m', hn.at' fun o e => hLo _ o (.inl rfl) e⟩
  · intro n c hc
    obtain ⟨⟨v₀, o, ho, hd⟩, hne⟩ := F.cells n c hc
    exact ⟨⟨v₀, o, hLo _ _ (.inr ⟨n, hc⟩) ho, hd⟩, hne⟩
  · intro y j q g0 g1 g2 g3
    obtain ⟨u, hu, hh⟩ := F.env.var y j q g0 g1 g2 g3
    have h1 : Held K ⟨h', τ⟩ (XO X₀ env own) (own j) u q := Held.mono (g := ⟨s.heap, τ⟩) (g' := ⟨h', τ⟩) (fun b o hb e => hk b o (fun z => by
      rcases hb with hb | hb
      · exact hb (.inl (hZ b z))
      · exact hown j b hb z) e) (fun _ _ e => e) (fun _ q => q) hh
    exact ⟨u, hu.off hLo, h1.less fun b hb => hb.imp (hY b) id⟩

/-- like Stp, but Z may change -/
structure StpW (Z : Addr → Prop) (env : Env) (s : Shared) (τ : Tk) (own : Nat → Option Addr) (s' : Shared) (τ' : Tk) (own' : Nat → Option Addr) : Prop where
  keep : ∀ b o, s.heap.get? b = some o → ¬ Lo env b → (∀ j, own j ≠ some b) → ¬ Z b → s'.heap.get? b = some o
  own : ∀ j b, own' j = some b → ¬ Lo env b → (∃ i, own i = some b) ∨ s.heap.get? b = none ∨ Z b
  sub : ∀ t x, τ t x → τ' t x

theorem StpW.go {Z : Addr → Prop} (a : StpW Z env s τ own s' τ' own') (b : Stp env s' τ' own' s'' τ'' own'') : StpW Z env s τ own s'' τ'' own'' where
  keep := fun x o e h1 h2 hz => b.keep x o (a.keep x o e h1 h2 hz) h1 fun j hj => by
    rcases a.own j x hj h1 with ⟨i, hi⟩ | hn | hz'
    · exact h2 i hi
    · rw [hn] at e; cases e
    · exact hz hz'
  own := fun j x h hL => by
    rcases b.own j x h hL with ⟨i, hi⟩ | hn
    · exact a.own i x hi hL
    · cases e : s.heap.get? x with
      | none => exact .inr (.inl rfl)
      | some o =>
        by_cases ho : ∃ i, own i = some x
        · exact .inl ho
        · by_cases hz : Z x
          · exact .inr (.inr hz)
          · have := a.keep x o e hL (fun j hj => ho ⟨j, hj⟩) hz
            rw [hn] at this; cases this
  sub := fun t x e => b.sub t x (a.sub t x e)

theorem StpW.stp {Z : Addr → Prop} (a : StpW Z env s τ own s' τ' own') (hZ : ∀ b, Z b → s.heap.get? b = none) : Stp env s τ own s' τ' own' where
  keep := fun b o e h1 h2 => a.keep b o e h1 h2 fun z => by rw [hZ b z] at e; cases e
  own := fun j b h hL => by
    rcases a.own j b h hL with h | h | h
    · exact .inl h
    · exact .inr h
    · exact .inr (hZ b h)
  sub := a.sub

theorem Rd.stpW {Z : Addr → Prop} (hown : ∀ j b, own' j = some b → ¬ Lo env b) (a : StpW Z env s τ own s' τ' own') (hZ : ∀ b, Z b → s.heap.get? b = none) {v : Value} {p : PV} (e : Rd K ⟨s.heap, τ⟩ (XO X₀ env own) v p) : Rd K ⟨s'.heap, τ'⟩ (XO (fun b => X₀ b ∨ Z b) env own') v p := by
  have h1 := Rd.more (N := fun b => s.heap.get? b = none) (fun _ q => q) e
  have h2 : Rd K ⟨s'.heap, τ'⟩ (fun b => XO X₀ env own b ∨ s.heap.get? b = none) v p := Rd.mono (g := ⟨s.heap, τ⟩) (g' := ⟨s'.heap, τ'⟩) (fun b o hb q => a.keep b o q (fun hL => hb (.inl (.inr (.inl hL)))) (fun j hj => hb (.inl (.inr (.inr ⟨j, hj⟩)))) fun z => hb (.inr (hZ b z))) a.sub (fun _ q => q) h1
  refine h2.less fun b hb => ?_
  rcases hb with (hb | hb) | hb | ⟨j, hb⟩
  · exact .inl (.inl hb)
  · exact .inr (hZ b hb)
  · exact .inl (.inr (.inl hb))
  · rcases a.own j b hb (hown j b hb) with ⟨i, hi⟩ | hn | hz
    · exact .inl (.inr (.inr ⟨i, hi⟩))
    · exact .inr hn
    · exact .inr (hZ b hz)

theorem ex_while {c : Expr} {b : List Stmt} {x : Mine.X} {y : SL} {pos : Pos} (ihc : TrAt K C m sc vars c x) (ihb : ExsAt K C m sc vars b y) : ExAt K C m sc vars (.While c b [] pos) (.whl x y) := by
  intro A env s₀ τ₀ X₀ s τ own ρ r F he Q E hQ
  simp only [ex] at he
  refine ⟨wpAny_While (codeAny_whileLoop (fun k s' => ∃ τ' own' ρ', Fr K m sc vars A env s₀ τ₀ X₀ s' τ' own' ρ' ∧ Stp env s τ own s' τ' own' ∧
    whileN (fun ρ => match ev C x ρ with | some x => truth x | Option.none => Option.none) (fun ρ => exs C y ρ) k ρ' = some r) ?_ whileMost ⟨τ, own, ρ, F, .ext (.refl F.ext.ok), he⟩)⟩
  rintro k s' ⟨τ', own', ρ', F', st', hk⟩
  cases k with
  | zero => cases hk
  | succ k =>
    unfold whileN at hk
    cases hx : ev C x ρ' with
    | none => rw [hx] at hk; cases hk
    | some px =>
      rw [hx] at hk
      dsimp only at hk
      cases ht : truth px with
      | none => rw [ht] at hk; cases hk
      | some t =>
        rw [ht] at hk
        refine (ihc A env s' τ' _ own' ρ' _ _ F'.frm hx ht _ _ fun s₁ τ₁ h1 => ?_).out
        cases t with
        | false =>
          cases hk
          exact wpAny_execs_nil (hQ.nxt _ rfl _ _ _ (F'.step h1) (st'.trans (.ext h1)))
        | true =>
          dsimp only at hk
          cases hy : exs C y ρ' with
          | none => rw [hy] at hk; cases hk
          | some r₁ =>
            rw [hy] at hk
            refine (ihb A env s₀ τ₀ X₀ s₁ τ₁ own' ρ' r₁ (F'.step h1) hy _ _ ⟨fun ρ'' hr s₂ τ₂ own₂ F₂ st₂ => ?_, fun p hr v s₂ τ₂ x₂ rd₂ => ?_⟩).out
            · subst hr
              exact ⟨k, Nat.lt_succ_self _, τ₂, own₂, ρ'', F₂, (st'.trans (.ext h1)).trans st₂, hk⟩
            · subst hr
              cases hk
              exact hQ.ret p rfl v s₂ τ₂ x₂ rd₂

theorem ex_try {b : List Stmt} {h₀ : ExceptHandler} {hs : List ExceptHandler} {y : SL} {pos : Pos} (ihb : ExsAt K C m sc vars b y) : ExAt K C m sc vars (.Try b (h₀ :: hs) [] [] pos) (.tr y) := by
  intro A env s₀ τ₀ X₀ s τ own ρ r F he Q E hQ
  simp only [ex] at he
  show Wp K.M A (standAt pos >>= fun _ => tryStmt false (execs b env) (h₀ :: hs) (execs [] env) [] env) Q E s
  refine .bind (.stand ⟨wpAny_tryStmt_except (ihb A env s₀ τ₀ X₀ s τ own ρ r F he _ _ ⟨fun ρ' hr s' τ' own' F' st' => ?_, fun p hr v s' τ' x' rd' => ?_⟩).out⟩)
  · exact wpAny_execs_nil (hQ.nxt ρ' hr s' τ' own' F' st')
  · exact hQ.ret p hr v s' τ' x' rd'

/-- a loop over a walk -/
theorem for_loop {y : Str} {py : Pos} {b : List Stmt} {body : SL} {i : Nat} {X : Addr → Prop} (hy : varAt sc vars y = some i) (ihb : ExsAt K C m sc vars b body) {s₁ s₂ : Shared} {τ₁ : Tk} {items : List PV} {I : Addr} {fp wr : List Addr} {P : Nat → Value → Prop} {St : Nat → Heap → Prop}
    (F : Fr K m sc vars A env s₀ τ₀ X₀ s₁ τ₁ own ρ) (hX : ∀ b, XO X₀ env own b → X b) (W : Walk K A s₁ τ₁ X items I fp wr P St s₂) {r : Res}
    (he : forEach (fun ρ v => match bindEach ρ [i] v with | some ρ' => exs C body ρ' | Option.none => Option.none) items ρ = some r) {Q : Flow → Shared → Prop} {R : Result → Shared → Prop} (hR : ∀ f s', Q f s' → R (.ok f) s')
    (hQ : Ends K m sc vars A env s₀ τ₀ X₀ s₁ τ₁ own r Q) : Cp K.M A (.forLoop (.Name y py) (.ref I) b [] env) R s₂ := by
  let Z : Addr → Prop := fun b => b ∈ wr
  have hZ1 : ∀ b, Z b → s₁.heap.get? b = none := W.new
  have hZ0 : ∀ b, Z b → s₀.heap.get? b = none := fun b z => by
    cases e : s₀.heap.get? b with
    | none => rfl
    | some o => have := F.ext.keep b o e; rw [hZ1 b z] at this; cases this
  have F₂ : Fr K m sc vars A env s₀ τ₀ (fun b => X₀ b ∨ Z b) s₂ τ₁ own ρ := F.addX W.ext hZ1 (fun b z => W.live 0 _ W.start b z)
  refine ⟨codeAny_forLoop (fun k s' => ∃ τ' own' ρ' j, k = items.length + 1 - j ∧ j ≤ items.length ∧ Fr K m sc vars A env s₀ τ₀ (fun b => X₀ b ∨ Z b) s' τ' own' ρ' ∧ St j s'.heap ∧ StpW Z env s₁ τ₁ own s' τ' own' ∧
    forEach (fun ρ v => match bindEach ρ [i] v with | some ρ' => exs C body ρ' | Option.none => Option.none) (items.drop j) ρ' = some r) ?_ (items.length + 1)
    ⟨τ₁, own, ρ, 0, rfl, Nat.zero_le _, F₂, W.start, ⟨fun b o e _ _ _ => W.ext.keep b o e, fun j b h _ => .inl ⟨j, h⟩, fun _ _ e => e⟩, by simpa using he⟩⟩
  rintro k s' ⟨τ', own', ρ', j, rfl, hj, F', hst, sw, hfe⟩
  by_cases hlt : j < items.length
  · refine (Wp.untok ⟨W.walks.item j s' _ _ hlt hst fun v h₁ tk₁ hPv hst₁ hk₁ hle₁ => ?_⟩).out
    obtain ⟨q, hq, hv⟩ := W.item j v hlt hPv
    have F₁ := F'.shift (Z := Z) (h' := h₁) (tk := tk₁) (fun _ h => h) (fun b z => .inr z) hZ0 (fun b o hb e => hk₁ b o hb e) (fun b _ z => W.live _ _ hst₁ b z) hle₁
    have sw₁ : StpW Z env s₁ τ₁ own { s' with heap := h₁, toks := tk₁ } τ' own' := ⟨fun b o e h1 h2 hz => hk₁ b o hz (sw.keep b o e h1 h2 hz), sw.own, sw.sub⟩
    have hdrop : items.drop j = q :: items.drop (j + 1) := by
      rw [List.drop_eq_getElem_cons hlt]
      rw [List.getElem?_eq_getElem hlt] at hq
      cases hq; rfl
    rw [hdrop] at hfe
    unfold forEach at hfe
    dsimp only [bindEach] at hfe
    cases hset : setAt ρ' i (.v q) with
    | none => rw [hset] at hfe; cases hfe
    | some ρ₁ =>
      rw [hset] at hfe
      dsimp only at hfe
      have hv' : Rd K ⟨h₁, τ'⟩ (XO (fun b => X₀ b ∨ Z b) env own') v q := Rd.stpW (s' := { s' with heap := h₁, toks := tk₁ }) (fun j b h => (F'.fresh j b h).2) sw₁ hZ1 (hv.less hX)
      refine wpAny_assign_Name (F₁.plain hy hset hv' fun s₃ own₃ F₃ st₃ _ => ?_).out
      cases hb : exs C body ρ₁ with
      | none => rw [hb] at hfe; cases hfe
      | some r₁ =>
        rw [hb] at hfe
        refine (ihb A env s₀ τ₀ _ s₃ τ' own₃ ρ₁ r₁ F₃ hb _ _ ⟨fun ρ₂ hr s₄ τ₄ own₄ F₄ st₄ => ?_, fun p hr u s₄ τ₄ x₄ rd₄ => ?_⟩).out
        · subst hr
          have sw₄ := (sw₁.go st₃).go st₄
          refine ⟨items.length + 1 - (j + 1), by omega, τ₄, own₄, ρ₂, j + 1, rfl, hlt, F₄, ?_, sw₄, hfe⟩
          have st₃₄ := st₃.trans st₄
          refine W.walks.frame _ _ _ hst₁ fun b hb o e => st₃₄.keep b o e ?_ ?_
          · intro hL
            rcases W.off b hb with hw | ⟨hx, _⟩
            · exact F'.x0n b hL (.inr hw)
            · exact hx (hX b (.inr (.inl hL)))
          · intro jj hjj
            rcases W.off b hb with hw | ⟨hx, o', ho'⟩
            · exact F'.x0o jj b hjj (.inr hw)
            · rcases sw₁.own jj b hjj (F'.fresh jj b hjj).2 with ⟨i', hi'⟩ | hn | hz
              · exact hx (hX b (.inr (.inr ⟨i', hi'⟩)))
              · rw [hn] at ho'; cases ho'
              · exact F'.x0o jj b hjj (.inr hz)
        · subst hr
          cases hfe
          exact hR _ _ (hQ.ret p rfl u s₄ τ₄ x₄ (rd₄.less fun b hb => .inl hb))
  · have hje : j = items.length := Nat.le_antisymm hj (Nat.not_lt.mp hlt)
    subst hje
    refine (Wp.untok ⟨W.walks.done s' _ _ hst fun h₁ tk₁ hk₁ hle₁ => ?_⟩).out
    rw [List.drop_length] at hfe
    unfold forEach at hfe
    cases hfe
    have F₁ := F'.shift (Y₀ := X₀) (Z := Z) (h' := h₁) (tk := tk₁) (fun _ h => .inl h) (fun b z => .inr z) hZ0 (fun b o hb e => hk₁ b o hb e) (fun b hb z => by
      obtain ⟨o, ho⟩ := F.x0l b hb
      rw [hZ1 b z] at ho; cases ho) hle₁
    have sw₁ : StpW Z env s₁ τ₁ own { s' with heap := h₁, toks := tk₁ } τ' own' := ⟨fun b o e h1 h2 hz => hk₁ b o hz (sw.keep b o e h1 h2 hz), sw.own, sw.sub⟩
    exact wpAny_execs_nil (hR _ _ (hQ.nxt _ rfl _ _ _ F₁ (sw₁.stp hZ1)))

theorem ex_for {y : Str} {py : Pos} {it : Expr} {b : List Stmt} {e : Mine.X} {body : SL} {i : Nat} {pos : Pos} (hy : varAt sc vars y = some i) (ihe : EvAt K C m sc vars it e) (ihb : ExsAt K C m sc vars b body) (hfs : ∀ env x, foldedSetIterable it env x = pure x) :
    ExAt K C m sc vars (.For (.Name y py) it b [] pos) (.fr [i] e body) := by
  intro A env s₀ τ₀ X₀ s τ own ρ r F he Q E hQ
  simp only [ex] at he
  cases hx : ev C e ρ with
  | none => rw [hx] at he; cases he
  | some p =>
    rw [hx] at he
    dsimp only at he
    cases hit : itemsOf p with
    | none => rw [hit] at he; cases he
    | some items =>
      rw [hit] at he
      dsimp only at he
      refine ⟨wpAny_For (ihe A env s τ _ own ρ p F.frm hx _ E fun u s₁ τ₁ ⟨h1, h2, _⟩ => (iter_ok hit h2 h1.ok F.room.handled fun I fp wr P St s₂ W => ?_).out).out (hfs env)⟩
      have F₁ := (F.drop (al e)).step h1
      exact (for_loop hy ihb F₁ (fun b hb => F.offDrop (al e) hb) W he (fun f s' q => q) (hQ.go ((Stp.drop (al e)).trans (.ext h1)))).out
end
end Mine
namespace Mine
open PySem PySem.SeqAt PyProof.Rows

section
variable {K : Cx} {C : Orc} {m : Nat} {sc : Scope} {vars : List Str} {A : Around} {env : Env} {s₀ : Shared} {τ₀ : Tk} {X₀ : Addr → Prop} {s s' s'' : Shared} {τ τ' τ'' : Tk} {own own' own'' : Nat → Option Addr} {ρ : Ρ}

noncomputable def StFns (K : Cx) (A : Around) (env : Env) : List Str → List (Value → Sem Unit) → Prop
  | [], [] => True
  | x :: xs, t :: ts => (∀ v Q E s, Wp K.M A (storeName env x v) Q E s → Wp K.M A (t v) Q E s) ∧ StFns K A env xs ts
  | _, _ => False
noncomputable def VarsAt (sc : Scope) (vars : List Str) : List Str → List Nat → Prop
  | [], [] => True
  | x :: xs, i :: is => varAt sc vars x = some i ∧ VarsAt sc vars xs is
  | _, _ => False

theorem RdL.stp (hown : ∀ j b, own' j = some b → ¬ Lo env b) (a : Stp env s τ own s' τ' own') : ∀ {l : List PV} {vs : List Value}, RdL K ⟨s.heap, τ⟩ (XO X₀ env own) vs l → RdL K ⟨s'.heap, τ'⟩ (XO X₀ env own') vs l
  | [], _, e => e
  | p :: l, _, e => by
    obtain ⟨v, r, rfl, h1, h2⟩ := e
    exact ⟨v, r, rfl, h1.stp hown a, RdL.stp hown a h2⟩

theorem stores_ok : ∀ {xs : List Str} {is : List Nat} {ts : List (Value → Sem Unit)} {vs : List Value} {ps : List PV} {s : Shared} {own : Nat → Option Addr} {ρ ρ' : Ρ}, StFns K A env xs ts → VarsAt sc vars xs is → Fr K m sc vars A env s₀ τ₀ X₀ s τ own ρ → RdL K ⟨s.heap, τ⟩ (XO X₀ env own) vs ps →
    setEach ρ false is ps = some ρ' → ∀ {Q : Unit → Shared → Prop} {E : Value → Shared → Prop}, (∀ s' own', Fr K m sc vars A env s₀ τ₀ X₀ s' τ own' ρ' → Stp env s τ own s' τ own' → Q () s') → Wp K.M A (assignInOrder ts vs) Q E s
  | [], [], [], vs, ps, s, own, ρ, ρ', _, _, F, hv, hs, Q, E, hQ => by
    cases ps with
    | nil =>
      cases hs
      cases hv
      exact .pure (hQ _ _ F (.ext (.refl F.ext.ok)))
    | cons _ _ => cases hs
  | x :: xs, i :: is, t :: ts, vs, ps, s, own, ρ, ρ', ⟨ht, hts⟩, ⟨hx, hxs⟩, F, hv, hs, Q, E, hQ => by
    cases ps with
    | nil => cases hs
    | cons p ps =>
      obtain ⟨v, r, rfl, h1, h2⟩ := hv
      simp only [setEach, Bool.false_eq_true, if_false] at hs
      cases hset : setAt ρ i (.v p) with
      | none => rw [hset] at hs; cases hs
      | some ρ₁ =>
        rw [hset] at hs
        show Wp K.M A (holding r (t v) >>= fun _ => assignInOrder ts r) Q E s
        refine .bind (.holding (ht v _ _ _ (F.plain hx hset h1 fun s₁ own₁ F₁ st₁ _ => ?_)))
        exact stores_ok hts hxs F₁ (h2.stp (fun j b h => (F₁.fresh j b h).2) st₁) hs fun s₂ own₂ F₂ st₂ => hQ _ _ F₂ (st₁.trans st₂)
  | [], _ :: _, _, _, _, _, _, _, _, _, h, _, _, _, _, _, _ => h.elim
  | _ :: _, [], _, _, _, _, _, _, _, _, h, _, _, _, _, _, _ => h.elim
  | [], [], _ :: _, _, _, _, _, _, _, h, _, _, _, _, _, _, _ => h.elim
  | _ :: _, _ :: _, [], _, _, _, _, _, _, h, _, _, _, _, _, _, _ => h.elim

theorem fn_assign (x : Str) (p : Pos) (v : Value) (Q : Unit → Shared → Prop) (E : Value → Shared → Prop) (s : Shared) (h : Wp K.M A (storeName env x v) Q E s) : Wp K.M A (assign (.Name x p) env v) Q E s := ⟨wpAny_assign_Name h.out⟩
theorem fn_bind (x : Str) (v : Value) (Q : Unit → Shared → Prop) (E : Value → Shared → Prop) (s : Shared) (h : Wp K.M A (storeName env x v) Q E s) : Wp K.M A (bindName env x v) Q E s := ⟨wpAny_bindName h.out⟩

theorem namesOf_ok (K : Cx) (A : Around) (env : Env) : ∀ {ts : List Expr} {is : List Nat}, namesOf sc vars ts = some is → ∃ xs, VarsAt sc vars xs is ∧ StFns K A env xs ((assignEach ts env).map (·.2)) ∧ (assignEach ts env).findIdx? (·.1) = none ∧ (assignEach ts env).length = is.length
  | [], is, h => by cases h; exact ⟨[], trivial, trivial, rfl, rfl⟩
  | e :: ts, is, h => by
    unfold namesOf at h
    cases hn : nameE e with
    | none => rw [hn] at h; cases h
    | some x =>
      obtain ⟨p, rfl⟩ := nameE_inv hn
      rw [hn] at h
      dsimp only at h
      cases hx : varAt sc vars x with
      | none => rw [hx] at h; cases h
      | some i =>
        rw [hx] at h
        dsimp only at h
        cases hr : namesOf sc vars ts with
        | none => rw [hr] at h; cases h
        | some r =>
          rw [hr] at h
          cases h
          obtain ⟨xs, h1, h2, h3, h4⟩ := namesOf_ok K A env hr
          refine ⟨x :: xs, ⟨hx, h1⟩, ⟨fn_assign x p, h2⟩, ?_, ?_⟩
          · show ((false, assign (.Name x p) env) :: assignEach ts env).findIdx? (·.1) = none
            rw [List.findIdx?_cons, h3]; rfl
          · show ((false, assign (.Name x p) env) :: assignEach ts env).length = _
            simp [h4]

/-- how a tuple's stores go -/
inductive Swap (ts : List Expr) (env : Env) (v : Expr) : Sem (Option (List Str)) → Prop
  | none : Swap ts env v (pure none)
  | two (a b : Str) (pa pb : Pos) : ts = [.Name a pa, .Name b pb] → a ≠ b → Swap ts env v (pure (some [a, b]))
  | three (a b c : Str) (pa pb pc : Pos) : ts = [.Name a pa, .Name b pb, .Name c pc] → a ≠ b → a ≠ c → b ≠ c → Swap ts env v (pure (some [a, b, c]))

theorem fm_two {α β : Type} {f : α → Option β} {x y : α} {N : List β} (h : [x, y].filterMap f = N) (hn : N.length = 2) : ∃ a b, f x = some a ∧ f y = some b ∧ N = [a, b] := by
  subst h
  simp only [List.filterMap_cons, List.filterMap_nil] at hn ⊢
  cases hx : f x <;> cases hy : f y <;> rw [hx, hy] at hn <;> simp at hn
  exact ⟨_, _, rfl, rfl, rfl⟩
theorem fm_three {α β : Type} {f : α → Option β} {x y z : α} {N : List β} (h : [x, y, z].filterMap f = N) (hn : N.length = 3) : ∃ a b c, f x = some a ∧ f y = some b ∧ f z = some c ∧ N = [a, b, c] := by
  subst h
  simp only [List.filterMap_cons, List.filterMap_nil] at hn ⊢
  cases hx : f x <;> cases hy : f y <;> cases hz : f z <;> rw [hx, hy, hz] at hn <;> simp at hn
  exact ⟨_, _, _, rfl, rfl, rfl, rfl⟩

theorem swap_two {a b : Str} {pa pb tp : Pos} {k : Nat} {v : Expr} {env : Env} (hp : plainSwap v = true) : Swap [.Name a pa, .Name b pb] env v (swappedStores [.Tuple [.Name a pa, .Name b pb] k tp] v env) := by
  cases v <;> try exact .none
  rename_i vs k2 p2
  have hp : (vs.all (foldedForSure 8) || !vs.all (constantsAlone 8)) = true := hp
  unfold swappedStores
  dsimp only
  split
  · exact .none
  · split
    · exact .none
    · generalize hN : List.filterMap _ _ = N
      split
      · exact .none
      · rename_i hd
        simp only [Bool.or_eq_true, not_or, bne_iff_ne, ne_eq, Classical.not_not] at hd
        split
        · exact .none
        · rename_i hf
          split
          · rename_i hc
            rw [hc] at hp
            simp only [Bool.not_true, Bool.or_false] at hp
            exact absurd hp hf
          · obtain ⟨a', b', h1, h2, rfl⟩ := fm_two hN hd.1
            dsimp only at h1 h2
            split at h1 <;> simp at h1
            split at h2 <;> simp at h2
            subst h1; subst h2
            refine .two _ _ pa pb rfl fun q => ?_
            subst q
            have := hd.2
            simp [List.eraseDups_cons] at this

theorem swap_three {a b c : Str} {pa pb pc tp : Pos} {k : Nat} {v : Expr} {env : Env} (hp : plainSwap v = true) : Swap [.Name a pa, .Name b pb, .Name c pc] env v (swappedStores [.Tuple [.Name a pa, .Name b pb, .Name c pc] k tp] v env) := by
  cases v <;> try exact .none
  rename_i vs k2 p2
  have hp : (vs.all (foldedForSure 8) || !vs.all (constantsAlone 8)) = true := hp
  unfold swappedStores
  dsimp only
  split
  · exact .none
  · split
    · exact .none
    · generalize hN : List.filterMap _ _ = N
      split
      · exact .none
      · rename_i hd
        simp only [Bool.or_eq_true, not_or, bne_iff_ne, ne_eq, Classical.not_not] at hd
        split
        · exact .none
        · rename_i hf
          split
          · rename_i hc
            rw [hc] at hp
            simp only [Bool.not_true, Bool.or_false] at hp
            exact absurd hp hf
          · obtain ⟨a', b', c', h1, h2, h3, rfl⟩ := fm_three hN hd.1
            dsimp only at h1 h2 h3
            split at h1 <;> simp at h1
            split at h2 <;> simp at h2
            split at h3 <;> simp at h3
            subst h1; subst h2; subst h3
            have := hd.2
            have e3 : ∀ x y z : Str, [x, y, z].eraseDups.length = 3 → x ≠ y ∧ x ≠ z ∧ y ≠ z := fun x y z h => by
              rw [List.eraseDups_cons] at h
              by_cases hxy : x = y
              · subst hxy
                by_cases hxz : x = z
                · subst hxz; simp at h
                · simp [List.filter_cons, List.eraseDups_cons] at h
                  split at h <;> simp [List.eraseDups_cons] at h
              · by_cases hxz : x = z
                · subst hxz
                  simp [List.filter_cons, List.eraseDups_cons] at h
                  split at h <;> simp [List.eraseDups_cons] at h
                · by_cases hyz : y = z
                  · subst hyz
                    simp [List.filter_cons] at h
                    split at h <;> simp [List.eraseDups_cons] at h
                  · exact ⟨hxy, hxz, hyz⟩
            obtain ⟨z1, z2, z3⟩ := e3 _ _ _ this
            exact .three _ _ _ pa pb pc rfl z1 z2 z3
end
end Mine
namespace Mine
open PySem PySem.SeqAt PyProof.Rows

section
variable {K : Cx} {C : Orc} {m : Nat} {sc : Scope} {vars : List Str} {A : Around} {env : Env} {s₀ : Shared} {τ₀ : Tk} {X₀ : Addr → Prop} {s s' s'' : Shared} {τ τ' τ'' : Tk} {own own' own'' : Nat → Option Addr} {ρ : Ρ}

theorem varAt_inj {a b : Str} {i : Nat} (ha : varAt sc vars a = some i) (hb : varAt sc vars b = some i) : a = b := by
  obtain ⟨_, _, _, x4⟩ := varAt_ok ha
  obtain ⟨_, _, _, y4⟩ := varAt_ok hb
  obtain ⟨z1, z2, _⟩ := List.findIdx?_eq_some_iff_getElem.mp x4
  obtain ⟨z3, z4, _⟩ := List.findIdx?_eq_some_iff_getElem.mp y4
  exact (eq_of_beq z2).symm.trans (eq_of_beq z4)

theorem setEach_length : ∀ {is : List Nat} {ps : List PV} {ρ ρ' : Ρ} {o : Bool}, setEach ρ o is ps = some ρ' → is.length = ps.length
  | [], [], _, _, _, _ => rfl
  | i :: is, p :: ps, ρ, ρ', o, h => by
    unfold setEach at h
    split at h
    · simp [setEach_length h]
    · cases h
  | [], _ :: _, _, _, _, h => by cases h
  | _ :: _, [], _, _, _, h => by cases h

theorem setAt_lt {i : Nat} {ρ : Ρ} (h : i < ρ.length) (x : Sl) : setAt ρ i x = some (ρ.set i x) := by
  unfold setAt
  have : Nat.blt i ρ.length = true := Nat.ble_eq.mpr h
  rw [this]; rfl
theorem namesOf_cons {w : Expr} {r : List Expr} {js : List Nat} (h : namesOf sc vars (w :: r) = some js) : ∃ a pa i l, w = .Name a pa ∧ varAt sc vars a = some i ∧ namesOf sc vars r = some l ∧ js = i :: l := by
  unfold namesOf at h
  cases hn : nameE w with
  | none => rw [hn] at h; cases h
  | some a =>
    obtain ⟨pa, rfl⟩ := nameE_inv hn
    rw [hn] at h
    dsimp only at h
    cases ha : varAt sc vars a with
    | none => rw [ha] at h; cases h
    | some i =>
      rw [ha] at h
      dsimp only at h
      cases hr : namesOf sc vars r with
      | none => rw [hr] at h; cases h
      | some l =>
        rw [hr] at h
        cases h
        exact ⟨_, _, _, _, rfl, ha, rfl, rfl⟩
theorem setAt_comm {i j : Nat} (hij : i ≠ j) {ρ ρ₁ ρ₂ : Ρ} {x y : Sl} (h1 : setAt ρ i x = some ρ₁) (h2 : setAt ρ₁ j y = some ρ₂) : ∃ ρ₃, setAt ρ j y = some ρ₃ ∧ setAt ρ₃ i x = some ρ₂ := by
  obtain ⟨a1, rfl⟩ := setAt_ok h1
  obtain ⟨a2, rfl⟩ := setAt_ok h2
  rw [List.length_set] at a2
  refine ⟨ρ.set j y, setAt_lt a2 y, ?_⟩
  rw [setAt_lt (by rw [List.length_set]; exact a1), List.set_comm _ _ (Ne.symm hij)]

theorem setEach2 {ρ ρ' : Ρ} {o : Bool} {i j : Nat} {p q : PV} : setEach ρ o [i, j] [p, q] = some ρ' ↔ ∃ ρ₁, setAt ρ i (if o then .o p else .v p) = some ρ₁ ∧ setAt ρ₁ j (if o then .o q else .v q) = some ρ' := by
  simp only [setEach]
  cases h1 : setAt ρ i (if o then .o p else .v p) with
  | none => simp
  | some ρ₁ =>
    cases h2 : setAt ρ₁ j (if o then .o q else .v q) with
    | none => simp [h2]
    | some ρ₂ => simp [h2]
theorem setEach3 {ρ ρ' : Ρ} {o : Bool} {i j k : Nat} {p q r : PV} : setEach ρ o [i, j, k] [p, q, r] = some ρ' ↔ ∃ ρ₁ ρ₂, setAt ρ i (if o then .o p else .v p) = some ρ₁ ∧ setAt ρ₁ j (if o then .o q else .v q) = some ρ₂ ∧ setAt ρ₂ k (if o then .o r else .v r) = some ρ' := by
  simp only [setEach]
  cases h1 : setAt ρ i (if o then .o p else .v p) with
  | none => simp
  | some ρ₁ =>
    cases h2 : setAt ρ₁ j (if o then .o q else .v q) with
    | none => simp [h2]
    | some ρ₂ =>
      cases h3 : setAt ρ₂ k (if o then .o r else .v r) with
      | none => simp [h2, h3]
      | some ρ₃ => simp [h2, h3]

theorem swap2 {ρ ρ' : Ρ} {i j : Nat} {p q : PV} (hij : i ≠ j) (h : setEach ρ o [i, j] [p, q] = some ρ') : setEach ρ o [j, i] [q, p] = some ρ' := by
  obtain ⟨ρ₁, h1, h2⟩ := setEach2.mp h
  exact setEach2.mpr (setAt_comm hij h1 h2)
theorem swap3 {ρ ρ' : Ρ} {i j k : Nat} {p q r : PV} (hij : i ≠ j) (hik : i ≠ k) (hjk : j ≠ k) (h : setEach ρ o [i, j, k] [p, q, r] = some ρ') : setEach ρ o [k, j, i] [r, q, p] = some ρ' := by
  obtain ⟨ρ₁, ρ₂, h1, h2, h3⟩ := setEach3.mp h
  -- i j k -> i k j -> k i j -> k j i
  obtain ⟨ρ₄, g1, g2⟩ := setAt_comm hjk h2 h3
  obtain ⟨ρ₅, f1, f2⟩ := setAt_comm hik h1 g1
  obtain ⟨ρ₆, e1, e2⟩ := setAt_comm hij f2 g2
  exact setEach3.mpr ⟨ρ₅, ρ₆, f1, e1, e2⟩

theorem Ext.but0 {s : Shared} {τ : Tk} {h' : Heap} (T : TokOk s τ) (hx : Heap.ExtBut s.heap.objs.size s.heap h') : Ext s τ { s with heap := h' } τ :=
  .heap T fun b o e => hx b o (Nat.ne_of_lt (Heap.lt_size e)) e

/-- the stores of a tuple, in whichever order -/
theorem unp_stores {ts : List Expr} {is : List Nat} {k : Nat} {tp : Pos} {v : Expr} (hn : namesOf sc vars ts = some is) (hlen : ts.length = 2 ∨ ts.length = 3) (hp : plainSwap v = true)
    {s : Shared} {own : Nat → Option Addr} {ρ ρ' : Ρ} {t : Addr} {us : List Value} {ps : List PV} (F : Fr K m sc vars A env s₀ τ₀ X₀ s τ own ρ) (hpt : PT s.heap t us) (hrl : RdL K ⟨s.heap, τ⟩ (XO X₀ env own) us ps) (hset : setEach ρ false is ps = some ρ')
    {Q : Flow → Shared → Prop} {E : Value → Shared → Prop} (hQ : ∀ s' own', Fr K m sc vars A env s₀ τ₀ X₀ s' τ own' ρ' → Stp env s τ own s' τ own' → Q .next s') :
    Wp K.M A (swappedStores [.Tuple ts k tp] v env >>= fun sw => assignStores env (.ref t) sw ((assignEach [.Tuple ts k tp] env).map (·.2))) Q E s := by
  have hh := F.room.handled
  have hul : us.length = is.length := by rw [hrl.length, setEach_length hset]
  have hnone : Wp K.M A (assignStores env (.ref t) none ((assignEach [.Tuple ts k tp] env).map (·.2))) Q E s := by
    show Wp K.M A (assign (.Tuple ts k tp) env (.ref t) >>= fun _ => pure .next) Q E s
    obtain ⟨xs, g1, g2, g3, g4⟩ := namesOf_ok K A env hn
    refine .bind ⟨wpAny_assign_Tuple hh hpt.isTuple (by rw [g4, List.size_toArray, hul]) g3 fun h' hx => ?_⟩
    have e1 : Ext s τ { s with heap := h' } τ := .but0 F.ext.ok hx
    exact (stores_ok g2 g1 (F.step e1) (hrl.ext e1) hset fun s₂ own₂ F₂ st₂ => .pure (hQ _ _ F₂ ((Stp.ext e1).trans st₂))).out
  have hsome : ∀ (names : List Str) (js : List Nat), names.length = us.length → VarsAt sc vars names.reverse js → setEach ρ false js ps.reverse = some ρ' → Wp K.M A (assignStores env (.ref t) (some names) ((assignEach [.Tuple ts k tp] env).map (·.2))) Q E s := by
    intro names js hl hv hs'
    show Wp K.M A (rule "assign.swapped-stores" >>= fun _ => unpackItems (.ref t) names.length none >>= fun items => assignInOrder (names.reverse.map fun n => bindName env n) items.reverse >>= fun _ => pure .next) Q E s
    refine .bind ⟨wpAny_rule ?_⟩
    have hz : names.length = us.toArray.size := by simpa using hl
    rw [hz]
    refine .bind ⟨wpAny_unpackItems_tuple hh hpt.isTuple fun h' hx => ?_⟩
    have e1 : Ext s τ { s with heap := h' } τ := .but0 F.ext.ok hx
    have hfn : ∀ l : List Str, StFns K A env l (l.map fun n => bindName env n) := fun l => by
      induction l with
      | nil => trivial
      | cons x l ih => exact ⟨fn_bind x, ih⟩
    exact .bind (stores_ok (hfn _) hv (F.step e1) (hrl.ext e1).reverse hs' fun s₂ own₂ F₂ st₂ => .pure (hQ _ _ F₂ ((Stp.ext e1).trans st₂)))
  match ts, hlen, hn, hnone, hsome with
  | [x, y], _, hn, hnone, hsome =>
    obtain ⟨a, pa, i, l1, rfl, va, h1, rfl⟩ := namesOf_cons hn
    obtain ⟨b, pb, j, l2, rfl, vb, h2, rfl⟩ := namesOf_cons h1
    cases h2
    have hsw := swap_two (a := a) (b := b) (pa := pa) (pb := pb) (tp := tp) (k := k) (env := env) hp
    generalize swappedStores [.Tuple [.Name a pa, .Name b pb] k tp] v env = sw at hsw ⊢
    cases hsw with
    | none => exact .bind (.pure hnone)
    | two a' b' pa' pb' heq hne =>
      cases heq
      have hps : ∃ p q, ps = [p, q] := by
        have := setEach_length hset
        match ps, this with
        | [p, q], _ => exact ⟨p, q, rfl⟩
      obtain ⟨p, q, rfl⟩ := hps
      refine .bind (.pure (hsome [a, b] [j, i] (by rw [hul]; rfl) ⟨vb, va, trivial⟩ ?_))
      exact swap2 (fun e => hne (varAt_inj (e ▸ va) vb)) hset
    | three a' b' c' pa' pb' pc' heq => cases heq
  | [x, y, z], _, hn, hnone, hsome =>
    obtain ⟨a, pa, i, l1, rfl, va, h1, rfl⟩ := namesOf_cons hn
    obtain ⟨b, pb, j, l2, rfl, vb, h2, rfl⟩ := namesOf_cons h1
    obtain ⟨c, pc, l, l3, rfl, vc, h3, rfl⟩ := namesOf_cons h2
    cases h3
    have hsw := swap_three (a := a) (b := b) (c := c) (pa := pa) (pb := pb) (pc := pc) (tp := tp) (k := k) (env := env) hp
    generalize swappedStores [.Tuple [.Name a pa, .Name b pb, .Name c pc] k tp] v env = sw at hsw ⊢
    cases hsw with
    | none => exact .bind (.pure hnone)
    | two a' b' pa' pb' heq => cases heq
    | three a' b' c' pa' pb' pc' heq n1 n2 n3 =>
      cases heq
      have hps : ∃ p q r, ps = [p, q, r] := by
        have := setEach_length hset
        match ps, this with
        | [p, q, r], _ => exact ⟨p, q, r, rfl⟩
      obtain ⟨p, q, r, rfl⟩ := hps
      refine .bind (.pure (hsome [a, b, c] [l, j, i] (by rw [hul]; rfl) ⟨vc, vb, va, trivial⟩ ?_))
      exact swap3 (fun e => n1 (varAt_inj (e ▸ va) vb)) (fun e => n2 (varAt_inj (e ▸ va) vc)) (fun e => n3 (varAt_inj (e ▸ vb) vc)) hset

theorem ex_unp {ts : List Expr} {is : List Nat} {k : Nat} {tp pos : Pos} {v : Expr} {e : Mine.X} (hn : namesOf sc vars ts = some is) (hlen : ts.length = 2 ∨ ts.length = 3) (hp : plainSwap v = true) (hc : isCompE v = false) (ih : EvAt K C m sc vars v e) :
    ExAt K C m sc vars (.Assign [.Tuple ts k tp] v pos) (.unp is false e) := by
  intro A env s₀ τ₀ X₀ s τ own ρ r F he Q E hQ
  simp only [ex] at he
  split at he
  · rename_i ps hx
    rw [Option.map_eq_some_iff] at he
    obtain ⟨ρ', hset, rfl⟩ := he
    simp only [Bool.false_and] at hset
    show Wp K.M A (standAt pos >>= fun _ => swapsWith v (some (.Tuple ts k tp)) pos.line env >>= fun b => if b = true then (evalThenUse v env (fun u => assignAll u ((assignEach [.Tuple ts k tp] env).map (·.2))) >>= fun _ => pure .next) else (eval v env >>= fun u => swappedStores [.Tuple ts k tp] v env >>= fun sw => assignStores env u sw ((assignEach [.Tuple ts k tp] env).map (·.2)))) Q E s
    refine .bind (.stand (.bind (.of_eq (swaps_false hc _ _ _) ?_)))
    rw [if_neg Bool.false_ne_true]
    refine .bind (ih A env s τ _ own ρ _ F.frm hx _ E fun u s₁ τ₁ ⟨h1, h2, _⟩ => ?_)
    obtain ⟨t, us, rfl, _, hpt, hrl⟩ := h2
    have F₁ := (F.drop (al e)).step h1
    exact unp_stores hn hlen hp F₁ hpt (hrl.less fun b hb => F.offDrop (al e) hb) hset fun s₂ own₂ F₂ st₂ => hQ.nxt _ rfl _ _ _ F₂ (((Stp.drop (al e)).trans (.ext h1)).trans st₂)
  · cases he
end
end Mine

namespace Mine
open PySem PySem.SeqAt PyProof.Rows

section
variable {K : Cx} {C : Orc} {m : Nat} {sc : Scope} {vars : List Str} {ft : List Str}

theorem comp_of {sc : Scope} {vars : List Str} {v : Expr} {w : EV} (hv : IsV v w) : (∃ elt iter y q ifs scope p, v = .ListComp elt [⟨.Name y q, iter, ifs, 0⟩] scope p ∧ w = .comp elt iter y ifs scope) ∨ w = .other ∨ isCompE v = false := by
  cases hv <;> first | exact .inr (.inr rfl) | exact .inr (.inl rfl) | exact .inl ⟨_, _, _, _, _, _, _, rfl, rfl⟩
theorem comp_not {n : Nat} {v : Expr} {e : Mine.X} (h : cx n ft sc vars v = some e) (hl : ∀ a b c d, v ≠ .ListComp a b c d) : isCompE v = false := by
  cases n with
  | zero => cases h
  | succ n =>
    rcases comp_of (sc := sc) (vars := vars) (viewE_ok v) with ⟨_, _, _, _, _, _, _, rfl, _⟩ | hw | hc
    · exact absurd rfl (hl _ _ _ _)
    · have h : cxV (cx n ft) ft sc vars (viewE v) = some e := h
      rw [hw] at h; cases h
    · exact hc

theorem cx_asg (G : Glb K ft) (S : Sound K ft m C) {n : Nat} {v : Expr} {e : Mine.X} (h : cx n ft sc vars v = some e) {y : Str} {py pos : Pos} {i : Nat} (hy : varAt sc vars y = some i) :
    ExAt K C m sc vars (.Assign [.Name y py] v pos) (.asg i true e) := by
  cases n with
  | zero => cases h
  | succ n =>
    have ih := cx_ok (m := m) G S n
    have h' : cxV (cx n ft) ft sc vars (viewE v) = some e := h
    rcases comp_of (sc := sc) (vars := vars) (viewE_ok v) with ⟨elt, iter, z, q, ifs, scope, p, rfl, hw⟩ | hw | hc
    · rw [hw] at h'
      obtain ⟨i', el, hc, h1, h2, h3⟩ := comp_inv h'
      have ok := compOk_ok hc
      rcases h3 with ⟨rfl, rfl⟩ | ⟨c, z', rfl, h3, rfl⟩
      · exact ex_asg_comp hy ok (ih _ _ _ _ h1).1 (ih _ _ _ _ h2).1 (.inl ⟨rfl, rfl⟩) fun env v => odd_folded (cx_odd h1) env v
      · exact ex_asg_comp hy ok (ih _ _ _ _ h1).1 (ih _ _ _ _ h2).1 (.inr ⟨_, rfl, (ih _ _ _ _ h3).2⟩) fun env v => odd_folded (cx_odd h1) env v
    · rw [hw] at h'; cases h'
    · exact ex_asg hy (cx_ok (m := m) G S _ _ _ _ _ h).1 hc

/-- what the loop over a zip is to do -/
noncomputable def ZipOk (K : Cx) (C : Orc) (m : Nat) : Prop := ∀ (sc : Scope) (vars : List Str) (ts : List Expr) (k : Nat) (tp pos : Pos) (it e1 e2 : Expr) (b : List Stmt) (i j : Nat) (x y : Mine.X) (body : SL), isGlobK (sc.names.lookup ("zip" : Str)) = true →
  namesOf sc vars ts = some [i, j] → isZip it = some (e1, e2) → EvL K C m sc vars [e1, e2] (.cons x (.cons y .nil)) → ExsAt K C m sc vars b body → ExAt K C m sc vars (.For (.Tuple ts k tp) it b [] pos) (.frz i j x y body)

theorem s1_inv {f : Mine.X → Mine.S} {o : Option Mine.X} {x : Mine.S} (h : s1 f o = some x) : ∃ a, o = some a ∧ x = f a := by
  cases o with
  | none => cases h
  | some a => cases h; exact ⟨a, rfl, rfl⟩
theorem s2_inv {f : Mine.X → Mine.X → Mine.S} {o q : Option Mine.X} {x : Mine.S} (h : s2 f o q = some x) : ∃ a b, o = some a ∧ q = some b ∧ x = f a b := by
  cases o with
  | none => cases h
  | some a =>
    obtain ⟨b, h1, h2⟩ := s1_inv h
    exact ⟨a, b, rfl, h1, h2⟩
theorem sAt_inv {o : Option Nat} {f : Nat → Option Mine.S} {x : Mine.S} (h : sAt o f = some x) : ∃ i, o = some i ∧ f i = some x := by
  cases o with
  | none => cases h
  | some i => exact ⟨i, rfl, h⟩
theorem sIs_inv {o : Option (List Nat)} {f : List Nat → Option Mine.S} {x : Mine.S} (h : sIs o f = some x) : ∃ i, o = some i ∧ f i = some x := by
  cases o with
  | none => cases h
  | some i => exact ⟨i, rfl, h⟩
theorem sX_inv {o : Option Mine.X} {f : Mine.X → Option Mine.S} {x : Mine.S} (h : sX o f = some x) : ∃ i, o = some i ∧ f i = some x := by
  cases o with
  | none => cases h
  | some i => exact ⟨i, rfl, h⟩
theorem sLL_inv {o : Option SL} {f : SL → Option Mine.S} {x : Mine.S} (h : sLL o f = some x) : ∃ i, o = some i ∧ f i = some x := by
  cases o with
  | none => cases h
  | some i => exact ⟨i, rfl, h⟩
theorem sL_inv {f : SL → Mine.S} {o : Option SL} {x : Mine.S} (h : sL f o = some x) : ∃ a, o = some a ∧ x = f a := by
  cases o with
  | none => cases h
  | some a => cases h; exact ⟨a, rfl, rfl⟩
theorem sIf_inv {b : Bool} {o : Option Mine.S} {x : Mine.S} (h : sIf b o = some x) : b = true ∧ o = some x := by
  cases b with
  | true => exact ⟨rfl, h⟩
  | false => cases h

theorem csL_ok {f : Stmt → Option Mine.S} (ih : ∀ e x, f e = some x → ExAt K C m sc vars e x) : ∀ {es : List Stmt} {l : SL}, csL f es = some l → ExL K C m sc vars es l
  | [], l, h => by cases h; trivial
  | e :: es, l, h => by
    unfold csL at h
    cases h1 : f e with
    | none => rw [h1] at h; cases h
    | some x =>
      cases h2 : csL f es with
      | none => rw [h1, h2] at h; cases h
      | some r =>
        rw [h1, h2] at h
        cases h
        exact ⟨ih _ _ h1, csL_ok ih h2⟩

theorem cs_ok (G : Glb K ft) (S : Sound K ft m C) {zp : Bool} (hz : zp = true → ZipOk K C m) : ∀ (n : Nat) (sc : Scope) (vars : List Str) (st : Stmt) (x : Mine.S), cs zp n ft sc vars st = some x → ExAt K C m sc vars st x
  | 0, _, _, _, _, h => by cases h
  | n + 1, sc, vars, st, x, h => by
    have ih := cs_ok G S hz n sc vars
    have ihL : ∀ {es : List Stmt} {l : SL}, csL (cs zp n ft sc vars) es = some l → ExsAt K C m sc vars es l := fun h => exs_ok (csL_ok ih h)
    have ie := cx_ok (m := m) G S n sc vars
    have key : ∀ (ts : List Expr) (k : Nat) (tp : Pos) (v : Expr) (pos : Pos) (is : List Nat) (e : Mine.X), namesOf sc vars ts = some is → cx n ft sc vars v = some e → plainSwap v = true → 2 ≤ ts.length → ts.length ≤ 3 → ExAt K C m sc vars (.Assign [.Tuple ts k tp] v pos) (.unp is false e) := by
      intro ts k tp v pos is e hn hv hp h2 h3
      have hl : ts.length = 2 ∨ ts.length = 3 := by omega
      exact ex_unp hn hl hp (comp_not hv fun a b c d q => by subst q; cases hp) (ie _ _ hv).1
    have h : csV zp (cs zp n ft sc vars) (cx n ft sc vars) sc vars (viewS st) = some x := h
    have hv := viewS_ok st
    generalize viewS st = v at hv h
    cases hv with
    | asgN y q v p =>
      obtain ⟨i, hy, h⟩ := sAt_inv h
      obtain ⟨e, hv, rfl⟩ := s1_inv h
      exact cx_asg G S hv hy
    | asgT ts k q v p =>
      obtain ⟨hb, h⟩ := sIf_inv h
      simp only [Bool.and_eq_true] at hb
      obtain ⟨is, hn, h⟩ := sIs_inv h
      obtain ⟨e, hv, rfl⟩ := s1_inv h
      exact key _ _ _ _ _ _ _ hn hv hb.2.1 (Nat.le_of_ble_eq_true hb.2.2.1) (Nat.le_of_ble_eq_true hb.2.2.2)
    | asgI o q k r v p =>
      obtain ⟨i, ho, h⟩ := sAt_inv h
      obtain ⟨a, e, hk, hv, rfl⟩ := s2_inv h
      exact ex_setI ho (ie _ _ hk).1 (ie _ _ hv).1
    | augN y q op v p =>
      cases h
    | augI o q k r op v p =>
      obtain ⟨i, ho, h⟩ := sAt_inv h
      obtain ⟨a, e, hk, hv, rfl⟩ := s2_inv h
      exact ex_augI ho (ie _ _ hk).1 (ie _ _ hv).1 (cx_odd hk)
    | app o q apos a cpos p hl =>
      obtain ⟨i, ho, h⟩ := sAt_inv h
      obtain ⟨e, hv, rfl⟩ := s1_inv h
      exact ex_app ho (ie _ _ hv).1 (odd_star (cx_odd hv)) hl
    | ret v p =>
      obtain ⟨e, hv, rfl⟩ := s1_inv h
      exact ex_ret (ie _ _ hv).1
    | ite c a b p =>
      obtain ⟨x, h1, h⟩ := sX_inv h
      obtain ⟨y, h2, h⟩ := sLL_inv h
      obtain ⟨z, h3, rfl⟩ := sL_inv h
      exact ex_ite (ie _ _ h1).2 (ihL h2) (ihL h3)
    | forN y q it b p =>
      obtain ⟨i, h1, h⟩ := sAt_inv h
      obtain ⟨e, h2, h⟩ := sX_inv h
      obtain ⟨z, h3, rfl⟩ := sL_inv h
      exact ex_for h1 (ie _ _ h2).1 (ihL h3) fun env v => odd_folded (cx_odd h2) env v
    | forT ts k q it b p =>
      obtain ⟨hb, h⟩ := sIf_inv h
      rw [Bool.and_eq_true] at hb
      obtain ⟨is, h1, h⟩ := sIs_inv h
      obtain ⟨body, h3, h⟩ := sLL_inv h
      rcases is with _ | ⟨i, _ | ⟨j, _ | _⟩⟩ <;> first | (cases h; done) | skip
      unfold zipS at h
      dsimp only at h
      cases h2 : isZip it with
      | none => rw [h2] at h; cases h
      | some e12 =>
        rw [h2] at h
        obtain ⟨e1, e2⟩ := e12
        obtain ⟨x1, x2, h4, h5, rfl⟩ := s2_inv h
        exact hz hb.1 _ _ _ _ _ _ _ _ _ _ _ _ _ _ _ hb.2 h1 h2 ⟨(ie _ _ h4).1, (ie _ _ h4).2, odd_star (cx_odd h4), (ie _ _ h5).1, (ie _ _ h5).2, odd_star (cx_odd h5), trivial⟩ (ihL h3)
    | whl c b p =>
      obtain ⟨e, h1, h⟩ := sX_inv h
      obtain ⟨z, h2, rfl⟩ := sL_inv h
      exact ex_while (ie _ _ h1).2 (ihL h2)
    | tr b hh hs p =>
      obtain ⟨l, hv, rfl⟩ := sL_inv h
      exact ex_try (ihL hv)
    | other => cases h
end
end Mine
namespace Mine
open PySem PySem.Calls PyProof.Rows

theorem lookup_zip : ∀ {ps : List Str} {vs : List Value}, vs.length = ps.length → ∀ n ∈ ps, ((ps.zip vs).lookup n).isSome = true
  | [], _, _, n, h => by cases h
  | p :: ps, v :: vs, hl, n, h => by
    rw [List.zip_cons_cons, List.lookup_cons]
    cases hn : n == p with
    | true => rfl
    | false =>
      rcases List.mem_cons.mp h with rfl | h
      · simp at hn
      · exact lookup_zip (by simpa using hl) n h
theorem zip_again : ∀ {ps : List Str} {vs : List Value}, ps.Nodup → vs.length = ps.length → (ps.filterMap fun n => ((ps.zip vs).lookup n).map (n, ·)) = ps.zip vs := by
  have key : ∀ (ps : List Str) (vs : List Value) (slots : List (Str × Value)), ps.Nodup → vs.length = ps.length → (∀ n ∈ ps, slots.lookup n = (ps.zip vs).lookup n) → (ps.filterMap fun n => (slots.lookup n).map (n, ·)) = ps.zip vs := by
    intro ps
    induction ps with
    | nil => intro vs slots _ _ _; rfl
    | cons p ps ih =>
      intro vs slots hn hl hs
      match vs, hl with
      | v :: vs, hl =>
        have h0 := hs p List.mem_cons_self
        rw [List.zip_cons_cons, List.lookup_cons, beq_self_eq_true] at h0
        rw [List.filterMap_cons, h0, List.zip_cons_cons]
        simp only [Option.map]
        rw [List.nodup_cons] at hn
        refine congrArg _ (ih vs slots hn.2 (by simpa using hl) fun n hm => ?_)
        rw [hs n (List.mem_cons_of_mem _ hm), List.zip_cons_cons, List.lookup_cons]
        have : (n == p) = false := by simpa using fun e : n = p => hn.1 (e ▸ hm)
        rw [this]
  exact fun {_ _} hn hl => key _ _ _ hn hl fun _ _ => rfl

theorem bind_ok {ps : List Str} {name : Str} {body : List Stmt} {sc : Scope} {pm code doc : Value} {args : Arguments} {vs : List Value} (hp : paramsOf args = some ps) (hnd : ps.Nodup) (hl : vs.length = ps.length) : bindArgs (docDef name args body sc pm code doc) ⟨vs, []⟩ = pure (ps.zip vs) := by
  unfold paramsOf at hp
  split at hp
  · rename_i as
    cases hp
    have hm : List.filter (fun n => (((as.map (·.arg)).zip vs).lookup n).isNone) (as.map (·.arg)) = [] := by
      rw [List.filter_eq_nil_iff]
      intro n hn h
      have := lookup_zip hl n hn
      rw [Option.isNone_iff_eq_none] at h
      rw [h] at this; cases this
    have hz := zip_again hnd hl
    unfold bindArgs docDef
    simp only [List.map_nil, List.nil_append, List.forIn_nil, List.append_nil]
    have hd : seqItems? Value.none = pure none := rfl
    rw [hd]
    show (if _ then _ else _ : Sem _) = _
    have hg : ¬ (vs.length > (as.map (·.arg)).length) := by omega
    rw [if_neg (by simp only [Bool.and_eq_true, decide_eq_true_eq]; exact fun q => hg q.1)]
    generalize hps : as.map (·.arg) = ps at *
    have ht : List.take (ps.length - (List.drop (([] : List Value).length - ps.length) ([] : List Value)).length) ps = ps := by simp
    have hc : ¬ (!(List.filter (fun n => (List.lookup n (ps.zip vs)).isNone) (List.take (ps.length - (List.drop (([] : List Value).length - ps.length) ([] : List Value)).length) ps)).isEmpty) = true := by
      rw [ht, hm]; decide
    refine (if_neg hc).trans ?_
    have he : (List.drop (ps.length - (List.drop (((none : Option (Array Value)).getD #[]).toList.length - ps.length) ((none : Option (Array Value)).getD #[]).toList).length) ps).zip (List.drop (((none : Option (Array Value)).getD #[]).toList.length - ps.length) ((none : Option (Array Value)).getD #[]).toList) = [] := by simp
    rw [he, List.forIn_nil]
    show (pure _ : Sem _) = _
    rw [hz]
  · cases hp
end Mine
namespace Mine
open PySem PySem.SeqAt PySem.Calls PyProof.Rows

section
variable {K : Cx} {C : Orc} {m : Nat} {ft : List Str}

theorem bindL_not {k : Str → Option NameKind} {y : Str} : ∀ {r : List (Str × Value)} {m : Str → Option Value}, y ∉ r.map (·.1) → bindL k r m y = m y
  | [], _, _ => rfl
  | (n, v) :: r, m, h => by
    simp only [List.map_cons, List.mem_cons, not_or] at h
    unfold bindL
    rw [bindL_not h.2]
    split
    · exact if_neg h.1
    · rfl
theorem bindL_at {k : Str → Option NameKind} {y : Str} {v : Value} (hk : k y = some .local) : ∀ {r : List (Str × Value)} {m : Str → Option Value}, (r.map (·.1)).Nodup → (y, v) ∈ r → bindL k r m y = some v
  | (n, u) :: r, m, hn, h => by
    simp only [List.map_cons, List.nodup_cons] at hn
    unfold bindL
    rcases List.mem_cons.mp h with h | h
    · cases h
      rw [bindL_not hn.1, if_pos hk, if_pos rfl]
    · exact bindL_at hk hn.2 h
theorem bindC_not {k : Str → Option NameKind} {y : Str} : ∀ {r : List (Str × Value)} {m : Str → Option Value}, y ∉ r.map (·.1) → bindC k r m y = m y
  | [], _, _ => rfl
  | (n, v) :: r, m, h => by
    simp only [List.map_cons, List.mem_cons, not_or] at h
    unfold bindC
    rw [bindC_not h.2]
    split
    · rfl
    · exact if_neg h.1
theorem bindC_at {k : Str → Option NameKind} {y : Str} {v : Value} (hk : k y ≠ some .local) : ∀ {r : List (Str × Value)} {m : Str → Option Value}, (r.map (·.1)).Nodup → (y, v) ∈ r → bindC k r m y = some v
  | (n, u) :: r, m, hn, h => by
    simp only [List.map_cons, List.nodup_cons] at hn
    unfold bindC
    rcases List.mem_cons.mp h with h | h
    · cases h
      rw [bindC_not hn.1, if_neg hk, if_pos rfl]
    · exact bindC_at hk hn.2 h

theorem zip_fst : ∀ {ps : List Str} {vs : List Value}, vs.length = ps.length → (ps.zip vs).map (·.1) = ps
  | [], _, _ => rfl
  | p :: ps, v :: vs, h => by
    rw [List.zip_cons_cons, List.map_cons, zip_fst (by simpa using h)]

/-- a def and its term -/
structure FnAt (K : Cx) (ft : List Str) (zp : Bool) (f : Nat) (fn : Fn) : Prop where
  out : ∃ d ∈ recsOf K.p, ft[f]? = some d.name ∧ ∃ ps fuel, paramsOf d.params = some ps ∧ csL (cs zp fuel ft d.scope (varsOf ps d.scope)) d.body = some fn.body ∧ fn.np = ps.length ∧ fn.nv = (varsOf ps d.scope).length ∧ ps.Nodup ∧
    d.scope.isCoroutine = false ∧ d.scope.isGenerator = false ∧ d.scope.kind = .function ∧ ∀ p ∈ ps, isVarK (d.scope.names.lookup p) = true

theorem call_env {A : Around} {s : Shared} {R : Result → Shared → Prop} {a : Addr} {o : Obj} {fd : FuncData} {body : List Stmt} {vals : List Value} {binds : List (Str × Value)}
    (hroom : A.depth < recursionLimit) (ho : s.heap.get? a = some o) (hdata : o.data = .func fd) (hlim : s.heap.NoLimit) (hcd : s.heap.CodeRec fd.code fd.qualname)
    (hbody : fd.body = .stmts body) (hbind : bindArgs fd ⟨vals, []⟩ = pure binds) (hclo : fd.closure = [])
    (hkind : ∀ x ∈ binds, fd.scope.names.lookup x.1 = some .local ∨ (fd.scope.names.lookup x.1 = some .cell ∧ ((cellsFrom (s.heap.objs.size + 1) fd.scope.names []).lookup x.1).isSome = true))
    (h : ∀ s₁, s.toks ≤ s₁.toks → InCallC s (callEnvC fd s.heap.objs.size a).locals (bindL (callEnvC fd s.heap.objs.size a).kindOf binds fun _ => none) (callEnvC fd s.heap.objs.size a).cells
        (bindC (callEnvC fd s.heap.objs.size a).kindOf binds fun _ => none) s₁ →
      ∀ E, Wp K.M (A.deeper (callEnvC fd s.heap.objs.size a)) (execs body (callEnvC fd s.heap.objs.size a)) (fun f s' => R (.ok (.ret (match f with | .ret v => v | _ => .none))) s') E s₁)
    (hco : fd.scope.isCoroutine = false) (hgen : fd.scope.isGenerator = false) (hk : fd.scope.kind = .function) :
    Cp K.M A (.call (.ref a) ⟨vals, []⟩) R s := by
  refine ⟨codeAny_call_function hroom ho hdata hco hgen hbody hcd ?_⟩
  rw [hbind, hclo]
  refine wpAny_pure (Wp.untok ⟨wpAny_newFunctionEnv_cells hk hkind fun env he s' x => ?_⟩).out
  subst he
  exact fun hle => ⟨hlim.keeps x.toInCall.keep, codeAny_func (h s' hle x _).out⟩

theorem fn_runs (G : Glb K ft) (S : Sound K ft m C) {zp : Bool} (hz : zp = true → ZipOk K C m) {f : Nat} {fn : Fn} (D : FnAt K ft zp f fn) {args : List PV} {r : PV} (hr : run C fn args = some r) : Runs K ft (m + 1) f args r := by
  obtain ⟨d, hd, hf, ps, fuel, hps, hcs, hnp, hnv, hnd, hco, hgen, hk, hpk⟩ := D.out
  intro name A s τ X vs fa hname hfa hroom hT tok hvs hX R hR
  rw [hf] at hname
  cases hname
  obtain ⟨a, o, pm, code, doc, h1, h2, h3, h4⟩ := hT.top.fn d hd
  rw [h1] at hfa
  cases hfa
  unfold run at hr
  split at hr
  · rename_i hlen
    have hlen : args.length = ps.length := by rw [← hnp]; exact eq_of_beq hlen
    have hvl : vs.length = ps.length := by rw [hvs.length, hlen]
    split at hr
    · rename_i v hex
      cases hr
      have hL := get_size s.heap
      have hge : ∀ c, s.heap.objs.size ≤ c → s.heap.get? c = none := fun c hc => by
        cases e : s.heap.get? c with
        | none => rfl
        | some o => exact absurd (Heap.lt_size e) (Nat.not_lt.mpr hc)
      have hcellx : ∀ x, d.scope.names.lookup x = some .cell → ∃ c, (cellsFrom (s.heap.objs.size + 1) d.scope.names []).lookup x = some c := fun x hx => by
        obtain ⟨c, hc, _⟩ := cellsFrom_own (x := x) 0 d.scope.names (s.heap.push { cls := .type "frame", data := .dict #[] }) [] (Nat.zero_le _) (.inr (lookup_mem hx))
        rw [Heap.size_push] at hc
        exact ⟨c, hc⟩
      refine call_env (K := K) (Nat.lt_of_le_of_lt (Nat.le_add_right _ _) hroom.depth) h2 h3 hT.top.nolimit h4 rfl (bind_ok hps hnd hvl) rfl (fun x hx => ?_) (fun s₁ htk IC E => ?_) hco hgen hk
      · have hxp : x.1 ∈ ps := by
          have : x.1 ∈ (ps.zip vs).map (·.1) := List.mem_map_of_mem hx
          rwa [zip_fst hvl] at this
        have := hpk _ hxp
        cases hl : d.scope.names.lookup x.1 with
        | none => rw [hl] at this; cases this
        | some k =>
          rw [hl] at this
          have hcase : k = .local ∨ k = .cell := by cases k <;> first | (exact .inl rfl) | (exact .inr rfl) | (cases this; done)
          rcases hcase with rfl | rfl
          · exact .inl hl
          · obtain ⟨c, hc⟩ := hcellx _ hl
            exact .inr ⟨hl, by show ((cellsFrom (s.heap.objs.size + 1) d.scope.names []).lookup x.1).isSome = true; rw [hc]; rfl⟩
      · generalize henv : callEnvC (docDef d.name d.params d.body d.scope pm code doc) s.heap.objs.size fa = env at IC ⊢
        have e1 : env.scope = d.scope := by rw [← henv]; rfl
        have e2 : env.locals = s.heap.objs.size := by rw [← henv]; rfl
        have e3 : env.globals = mainGlobals := by rw [← henv]; rfl
        have e4 : env.builtins = builtinsNs := by rw [← henv]; rfl
        have e5 : env.cells = cellsFrom (s.heap.objs.size + 1) d.scope.names [] := by rw [← henv]; rfl
        have hkof : ∀ y, env.kindOf y = d.scope.names.lookup y := fun y => by show env.scope.names.lookup y = _; rw [e1]
        have hext : Ext s τ s₁ τ := by
          obtain ⟨h', tk, rfl⟩ := IC.toInCall.same
          exact .of IC.toInCall.keep tok htk
        have hlo : ∀ b, Lo env b → s.heap.get? b = none := fun b hb => by
          rcases hb with rfl | ⟨n, hn⟩
          · rw [e2]; exact hL
          · have := IC.above n b (PySem.mem_of_lookup hn)
            rw [e2] at this
            exact hge b (Nat.le_of_lt this)
        have F : Fr K m d.scope (varsOf ps d.scope) (A.deeper env) env s τ X s₁ τ (fun _ => none) (args.map .v ++ List.replicate (fn.nv - fn.np) .no) := by
          refine ⟨⟨hroom.handled, ?_, ?_⟩, hT, hext, hX.keep hext.keep, fun j a h => (by cases h), fun b hb hx => ?_, hlo, fun j a h => (by cases h), fun j a h => (by cases h), fun i j a h => (by cases h), fun i c h => ?_, fun i a h => (by cases h), ⟨_, IC.toInCall.ns⟩, fun n c hc => ⟨⟨_, IC.cell n c hc⟩, ?_⟩, fun n n' c h h' => name_of_addr IC.apart (PySem.mem_of_lookup h) (PySem.mem_of_lookup h'),
            ⟨e1, hk, e3, e4, fun y i p g0 g1 g2 g3 => ?_, fun x hx => by rw [e5]; exact hcellx x hx⟩⟩
          · have := hroom.depth
            show A.depth + 1 + m < recursionLimit
            omega
          · have := hroom.units
            show A.units + 3 + 100 * m + 100 < cLine
            omega
          · obtain ⟨o', ho'⟩ := hX b hx
            rw [hlo b hb] at ho'; cases ho'
          · exfalso
            rcases Nat.lt_or_ge i args.length with hi | hi
            · rw [List.getElem?_append_left (by simpa using hi), List.getElem?_map] at h
              rw [List.getElem?_eq_getElem hi] at h
              cases h
            · rw [List.getElem?_append_right (by simpa using hi)] at h
              have := List.mem_of_getElem? h
              rw [List.mem_replicate] at this
              cases this.2
          · have := IC.above n c (PySem.mem_of_lookup hc)
            exact Nat.ne_of_gt this
          · have hi : i < args.length := by
              rcases Nat.lt_or_ge i args.length with hi | hi
              · exact hi
              · rw [List.getElem?_append_right (by simpa using hi)] at g3
                cases hh : (List.replicate (fn.nv - fn.np) Sl.no)[i - (args.map Sl.v).length]? with
                | none => rw [hh] at g3; cases g3
                | some sl =>
                  have := List.mem_of_getElem? hh
                  rw [List.mem_replicate] at this
                  rw [hh, this.2] at g3
                  cases g3
            rw [List.getElem?_append_left (by simpa using hi), List.getElem?_map, List.getElem?_eq_getElem hi] at g3
            simp only [Option.map, Option.bind, Sl.val, Option.some.injEq] at g3
            subst g3
            obtain ⟨u, hu, hrd⟩ := hvs.get (List.getElem?_eq_getElem hi)
            have hip : i < ps.length := by rw [← hlen]; exact hi
            have hyi : ps[i] = y := by
              obtain ⟨z1, z2, _⟩ := List.findIdx?_eq_some_iff_getElem.mp g2
              have := eq_of_beq z2
              rw [← this]
              exact (List.getElem_append_left hip).symm
            have hmem : (y, u) ∈ ps.zip vs := by
              have hiv : i < vs.length := by rw [hvl]; exact hip
              rw [List.getElem?_eq_getElem hiv] at hu
              cases hu
              rw [← hyi]
              have : (ps.zip vs)[i]'(by rw [List.length_zip]; omega) = (ps[i], vs[i]) := List.getElem_zip
              rw [← this]
              exact List.getElem_mem _
            have hndz : ((ps.zip vs).map (·.1)).Nodup := by rw [zip_fst hvl]; exact hnd
            refine ⟨u, ?_, (Rd.more (N := fun b => s.heap.get? b = none) (fun _ q => q) hrd).ext hext |>.less fun b hb => ?_⟩
            · cases hl : d.scope.names.lookup y with
              | none => rw [hl] at g1; cases g1
              | some k =>
                rw [hl] at g1
                have hcase : k = .local ∨ k = .cell := by cases k <;> first | (exact .inl rfl) | (exact .inr rfl) | (cases g1; done)
                rcases hcase with rfl | rfl
                · exact .inl ⟨by rw [hkof, hl], _, IC.toInCall.ns, bindL_at (by rw [hkof, hl]) hndz hmem⟩
                · obtain ⟨c, hc⟩ := hcellx y hl
                  have hc' : env.cells.lookup y = some c := by rw [e5]; exact hc
                  refine .inr ⟨by rw [hkof, hl], c, hc', ?_⟩
                  have := IC.cell y c hc'
                  rw [bindC_at (by rw [hkof, hl]; decide) hndz hmem] at this
                  exact this
            · rcases hb with hb | hb | ⟨j, hb⟩
              · exact .inl hb
              · exact .inr (hlo b hb)
              · cases hb
        have hbody := exs_ok (csL_ok (cs_ok G S hz fuel d.scope (varsOf ps d.scope)) hcs)
        refine hbody _ env s τ X s₁ τ _ _ _ F hex _ E ⟨fun _ h => (by cases h), fun p hp v' s' τ' x' rd' => ?_⟩
        cases hp
        exact hR v' s' τ' x' rd'
    · cases hr
  · cases hr

end
end Mine
namespace Mine
open PySem PySem.W PyProof.Rows

theorem script_rd {K : Cx} {g : Hp} {X : Addr → Prop} : ∀ {vs : List Value} {ns : List Int}, IntsAre vs ns → RdL K g X vs (ns.map .int)
  | [], [], _ => rfl
  | v :: vs, n :: ns, h => by
    cases h with
    | cons _ t h2 => exact ⟨_, _, rfl, ⟨t, rfl⟩, script_rd h2⟩

theorem top_ok {K : Cx} {ft : List Str} {m f : Nat} {name : Str} {fa a : Addr} {vs : List Value} {ns : List Int} {s₁ : Shared} {c : ClaimW} {cl : Str → Option Addr} {mean : ExcName → Option Value} {args : List WData}
    (T : K.T s₁.heap) (tk : 0 < s₁.toks) (pl : s₁.heap.get? a = some { cls := .type "list", data := .seq vs.toArray }) (hI : IntsAre vs ns) (hr : Runs K ft m f [.list (ns.map .int)] (.bool true)) (hf : ft[f]? = some name) (hm : K.mg name = some (.ref fa))
    (room : Room m callerA) (hg : s₁.gens = #[]) (h1 : ∀ cls, c.raises args cls = false) (h2 : c.post args (.bool true) args = true) {E : Value → Shared → Prop} :
    wpAny K.M callerA (call (.ref fa) [.ref a]) (fun v s' => GoodWG c cl mean args s₁ (.ok (.ret v)) s') E s₁ := by
  refine wpAny_call (hr name callerA s₁ (fun _ _ => False) (fun _ => False) [.ref a] fa hf hm room T ⟨tk, fun _ _ h => h.elim, fun _ _ _ h => h.elim⟩ ⟨.ref a, [], rfl, ⟨a, vs, rfl, fun h => h, ⟨_, pl⟩, script_rd hI⟩, rfl⟩ (fun _ h => h.elim) _ fun v s' τ' x rd => ?_).out
  cases rd
  exact GoodW.toG ⟨.inl ⟨_, _, [], rfl, h1, ReadsW.bool true, h2, fun _ => ⟨List.nodup_nil, fun _ hm => (nomatch hm)⟩⟩, x.keep, x.os, by rw [x.gens, hg]⟩
end Mine
namespace Mine
open PySem PySem.W PyProof.Rows

noncomputable def nodupB : List Str → Bool
  | [] => true
  | x :: r => !(r.contains x) && nodupB r
theorem nodupB_ok : ∀ {l : List Str}, nodupB l = true → l.Nodup
  | [], _ => List.nodup_nil
  | x :: r, h => by
    unfold nodupB at h
    rw [Bool.and_eq_true] at h
    refine List.nodup_cons.mpr ⟨fun hm => ?_, nodupB_ok h.2⟩
    have := h.1
    simp [hm] at this

/-- a def's record, compiled -/
noncomputable def fnOfRec (zp : Bool) (fuel : Nat) (ft : List Str) (d : DefRec) : Option Fn :=
  match paramsOf d.params with
  | some ps => if nodupB ps && !d.scope.isCoroutine && !d.scope.isGenerator && d.scope.kind == .function && ps.all (fun p => isVarK (d.scope.names.lookup p)) then
      match csL (cs zp fuel ft d.scope (varsOf ps d.scope)) d.body with
      | some b => some ⟨ps.length, (varsOf ps d.scope).length, b⟩
      | Option.none => Option.none
    else Option.none
  | Option.none => Option.none

noncomputable def tabOf (zp : Bool) (fuel : Nat) (ft : List Str) (p : Program) : List (Str × Option Fn) := (recsOf p).map fun d => (d.name, fnOfRec zp fuel ft d)

theorem fnAt_of {K : Cx} {zp : Bool} {fuel : Nat} {ft : List Str} {tab : List (Str × Option Fn)} (h : tabOf zp fuel ft K.p = tab) (hft : tab.map (·.1) = ft) {f : Nat} {name : Str} {fn : Fn} (e : tab[f]? = some (name, some fn)) : FnAt K ft zp f fn := by
  subst h
  unfold tabOf at e
  rw [List.getElem?_map, Option.map_eq_some_iff] at e
  obtain ⟨d, hd, he⟩ := e
  have hmem : d ∈ recsOf K.p := List.mem_of_getElem? hd
  have hname : ft[f]? = some d.name := by
    rw [← hft]
    unfold tabOf
    rw [List.getElem?_map, List.getElem?_map, hd]
    rfl
  have hfn : fnOfRec zp fuel ft d = some fn := congrArg Prod.snd he
  unfold fnOfRec at hfn
  split at hfn
  · rename_i ps hps
    split at hfn
    · rename_i hc
      simp only [Bool.and_eq_true, Bool.not_eq_true'] at hc
      split at hfn
      · rename_i b hb
        cases hfn
        exact ⟨d, hmem, hname, ps, fuel, hps, hb, rfl, rfl, nodupB_ok hc.1.1.1.1, hc.1.1.1.2, hc.1.1.2, eq_of_beq hc.1.2, fun p hp => List.all_eq_true.mp hc.2 p hp⟩
      · cases hfn
    · cases hfn
  · cases hfn

/-- the top's names -/
theorem glb_of {K : Cx} {h : Heap} {zp : Bool} {fuel : Nat} {ft : List Str} {tab : List (Str × Option Fn)} (T : Top K.p K.loose K.mean K.mg K.mb h) (e : tabOf zp fuel ft K.p = tab) (hft : tab.map (·.1) = ft)
    (hfree : ["len", "sum", "int", "min", "max", "range", "list", "tuple", "sorted", "zip"].all (fun (x : String) => !(startupNames.contains (Str.ofString x)) && !(K.loose.contains (Str.ofString x)) && !(((recsOf K.p).map (·.name)).contains (Str.ofString x)) && !(((litsOf K.p).map (·.1)).contains (Str.ofString x)) && !(((clssOf K.p K.loose).map (·.name)).contains (Str.ofString x))) = true)
    (hdbg : ft.all (fun x => !(x == ("__debug__" : Str))) = true) : Glb K ft := by
  have hmg : ∀ x : String, x ∈ ["len", "sum", "int", "min", "max", "range", "list", "tuple", "sorted", "zip"] → K.mg (Str.ofString x) = none := fun x hx => by
    have := List.all_eq_true.mp hfree x hx
    simp only [Bool.and_eq_true, Bool.not_eq_true'] at this
    have nm : ∀ {l : List Str}, l.contains (Str.ofString x) = false → Str.ofString x ∉ l := fun {l} h hm => by
      rw [List.contains_iff_mem.mpr hm] at h; cases h
    exact T.free _ (nm this.1.1.1.1) (nm this.1.1.1.2) (nm this.1.1.2) (nm this.1.2) (nm this.2)
  refine ⟨fun name hm => ?_, fun f hf => by simpa using List.all_eq_true.mp hdbg f hf, fun f b hb => ?_, hmg "zip" (by simp), ?_⟩
  · rw [← hft, ← e] at hm
    unfold tabOf at hm
    rw [List.map_map, List.mem_map] at hm
    obtain ⟨d, hd, rfl⟩ := hm
    exact ⟨d, hd, rfl⟩
  · unfold bltOf at hb
    have go : ∀ (x : String) (b' : Blt), x ∈ ["len", "sum", "int", "min", "max", "range", "list", "tuple", "sorted", "zip"] → bootBuiltins (Str.ofString x) = some (bltV b') → Str.ofString x ≠ ("__name__" : Str) → f = Str.ofString x → some b' = some b → K.mg f = none ∧ K.mb f = some (bltV b) := by
      intro x b' hx hbb hn hf hbe
      cases hbe
      subst hf
      exact ⟨hmg x hx, by rw [T.builtins _ hn]; exact hbb⟩
    repeat' split at hb
    all_goals first
      | (cases hb; done)
      | (rename_i hq; exact go "len" .len (by simp) (by rfl) (by decide) (eq_of_beq hq) hb)
      | (rename_i hq; exact go "sum" .sum (by simp) (by rfl) (by decide) (eq_of_beq hq) hb)
      | (rename_i hq; exact go "int" .int (by simp) (by rfl) (by decide) (eq_of_beq hq) hb)
      | (rename_i hq; exact go "min" .min (by simp) (by rfl) (by decide) (eq_of_beq hq) hb)
      | (rename_i hq; exact go "max" .max (by simp) (by rfl) (by decide) (eq_of_beq hq) hb)
      | (rename_i hq; exact go "range" .range (by simp) (by rfl) (by decide) (eq_of_beq hq) hb)
      | (rename_i hq; exact go "list" .list (by simp) (by rfl) (by decide) (eq_of_beq hq) hb)
      | (rename_i hq; exact go "tuple" .tuple (by simp) (by rfl) (by decide) (eq_of_beq hq) hb)
      | (rename_i hq; exact go "sorted" .sorted (by simp) (by rfl) (by decide) (eq_of_beq hq) hb)
  · rw [T.builtins _ (by decide)]; rfl
end Mine
namespace Mine
open PySem

theorem szOk_of {n : Nat} (h : n ≤ 1000000) : szOk n = true := Nat.ble_eq_true_of_le h

/-! ## the oracles, level by level -/
abbrev Lv := List (Option (Nat × Fn))
noncomputable def lvl (fs : Lv) : Nat → Orc
  | 0 => fun _ _ => none
  | n + 1 => fun f args => match fs[f]? with
    | some (some (l, fn)) => match Nat.beq l (n + 1) with
      | true => run (lvl fs n) fn args
      | false => lvl fs n f args
    | _ => none
theorem lvl_succ {fs : Lv} {f l n : Nat} {fn : Fn} (h : fs[f]? = some (some (l, fn))) (args : List PV) : lvl fs (n + 1) f args = (match Nat.beq l (n + 1) with | true => run (lvl fs n) fn args | false => lvl fs n f args) := by
  rw [lvl]; dsimp only; rw [h]
theorem lvl_at {fs : Lv} {f l : Nat} {fn : Fn} (h : fs[f]? = some (some (l + 1, fn))) {args : List PV} : ∀ {n : Nat}, l < n → lvl fs n f args = run (lvl fs l) fn args
  | 0, hn => by omega
  | n + 1, hn => by
    rw [lvl_succ h]
    cases hb : Nat.beq (l + 1) (n + 1) with
    | true =>
      have : l = n := by have := Nat.eq_of_beq_eq_true hb; omega
      subst this
      rfl
    | false =>
      have : l ≠ n := by intro e; subst e; rw [Nat.beq_refl] at hb; cases hb
      exact lvl_at h (by omega)

/-! ## running statements -/
theorem exs_nxt {C : Orc} {a : Mine.S} {l : SL} {ρ ρ' : Ρ} (h : ex C a ρ = some (.nxt ρ')) : exs C (.cons a l) ρ = exs C l ρ' := by
  rw [exs, h]
theorem exs_ret {C : Orc} {a : Mine.S} {l : SL} {ρ : Ρ} {v : PV} (h : ex C a ρ = some (.ret v)) : exs C (.cons a l) ρ = some (.ret v) := by
  rw [exs, h]
theorem exs_one {C : Orc} {a : Mine.S} {ρ : Ρ} {r : Res} (h : ex C a ρ = some r) : exs C (.cons a .nil) ρ = some r := by
  rw [exs, h]
  cases r with
  | nxt ρ => rfl
  | ret v => rfl
theorem ex_iteT {C : Orc} {c : Mine.X} {a b : SL} {ρ : Ρ} (h : ev C c ρ = some (.bool true)) : ex C (.ite c a b) ρ = exs C a ρ := by
  rw [ex, h]; rfl
theorem ex_iteF {C : Orc} {c : Mine.X} {a b : SL} {ρ : Ρ} (h : ev C c ρ = some (.bool false)) : ex C (.ite c a b) ρ = exs C b ρ := by
  rw [ex, h]; rfl
theorem xx_asg {C : Orc} {i : Nat} {own : Bool} {e : Mine.X} {ρ : Ρ} {v : PV} (h : ev C e ρ = some v) : ex C (.asg i own e) ρ = (setAt (dropFor ρ e v) i (if own && isFresh e then .o v else .v v)).map .nxt := by
  rw [ex, h]
theorem xx_unp {C : Orc} {is : List Nat} {own : Bool} {e : Mine.X} {ρ : Ρ} {vs : List PV} (h : ev C e ρ = some (.tup vs)) : ex C (.unp is own e) ρ = (setEach (dropAt ρ (al e)) (own && isTupOfNil e) is vs).map .nxt := by
  rw [ex, h]
theorem xx_ret {C : Orc} {e : Mine.X} {ρ : Ρ} {v : PV} (h : ev C e ρ = some v) : ex C (.ret e) ρ = some (.ret v) := by
  rw [ex, h]; rfl
theorem run_of {C : Orc} {f : Fn} {args : List PV} {v : PV} (h1 : args.length = f.np) (h2 : exs C f.body (args.map .v ++ List.replicate (f.nv - f.np) .no) = some (.ret v)) : run C f args = some v := by
  unfold run; rw [h1, h2]; simp
theorem ex_fr {C : Orc} {is : List Nat} {iter : Mine.X} {b : SL} {ρ : Ρ} {x : PV} {items : List PV} (h1 : ev C iter ρ = some x) (h2 : itemsOf x = some items) :
    ex C (.fr is iter b) ρ = forEach (fun ρ v => match bindEach ρ is v with | some ρ' => exs C b ρ' | Option.none => Option.none) items (dropAt ρ (al iter)) := by
  rw [ex, h1]; dsimp only
  first | (rw [h2]; done) | (rw [h2]; rfl)
end Mine
namespace Mine
open PySem

theorem mapC_if {f : PV → Option Bool} {g : PV → Option PV} {p : PV → Bool} {h : PV → PV} : ∀ {l : List PV}, (∀ v ∈ l, f v = some (p v)) → (∀ v ∈ l, p v = true → g v = some (h v)) → mapC f g l = some ((l.filter p).map h)
  | [], _, _ => rfl
  | x :: r, h1, h2 => by
    have ih := mapC_if (l := r) (fun v hv => h1 v (List.mem_cons_of_mem _ hv)) (fun v hv => h2 v (List.mem_cons_of_mem _ hv))
    rw [mapC, h1 x (List.mem_cons_self ..)]
    cases hp : p x with
    | true =>
      dsimp only
      rw [h2 x (List.mem_cons_self ..) hp]
      dsimp only
      rw [ih, List.filter_cons_of_pos hp]
      rfl
    | false =>
      dsimp only
      rw [ih, List.filter_cons_of_neg (by rw [hp]; decide)]
theorem ev_comp_if {C : Orc} {elt iter cond : Mine.X} {ρ : Ρ} {x : PV} {items : List PV} {p : PV → Bool} {g : PV → PV} (h1 : ev C iter ρ = some x) (h2 : itemsOf x = some items)
    (h3 : ∀ v ∈ items, ev C cond (.v v :: ρ) = some (.bool (p v))) (h4 : ∀ v ∈ items, p v = true → ev C elt (.v v :: ρ) = some (g v)) : ev C (.comp elt iter cond) ρ = some (.list ((items.filter p).map g)) := by
  rw [ev, h1]
  dsimp only
  rw [h2]
  dsimp only
  rw [mapC_if (p := p) (h := g) (fun v hv => by rw [h3 v hv]; rfl) h4]
  rfl
theorem ev_comp_all {C : Orc} {elt iter : Mine.X} {ρ : Ρ} {x : PV} {items : List PV} {g : PV → PV} (h1 : ev C iter ρ = some x) (h2 : itemsOf x = some items)
    (h4 : ∀ v ∈ items, ev C elt (.v v :: ρ) = some (g v)) : ev C (.comp elt iter (.cst (.bool true))) ρ = some (.list (items.map g)) := by
  rw [ev_comp_if (p := fun _ => true) (g := g) h1 h2 (fun _ _ => rfl) (fun v hv _ => h4 v hv)]
  congr 3
  exact List.filter_eq_self.mpr fun _ _ => rfl
/-- over range(3) -/
theorem xv_rpl {C : Orc} {o : Mine.X} {ρ : Ρ} {s t : List Nat} {c : Nat} (h : ev C o ρ = some (.str s)) (hz : szOk ((s.length + 1) * (t.length + 1)) = true) : ev C (.rpl o c t) ρ = some (.str (replaceC s c t)) := by
  rw [ev, h]; dsimp only; rw [if_pos hz]
theorem ev_comp3 {C : Orc} {elt : Mine.X} {ρ : Ρ} {a b c : PV} (h0 : ev C elt (.v (.int ((0 : Nat) : Int)) :: ρ) = some a) (h1 : ev C elt (.v (.int ((1 : Nat) : Int)) :: ρ) = some b) (h2 : ev C elt (.v (.int ((2 : Nat) : Int)) :: ρ) = some c) :
    ev C (.comp elt (.blt .range (.cons (.cst (.int 3)) .nil)) (.cst (.bool true))) ρ = some (.list [a, b, c]) := by
  have h3 : ev C (.blt .range (.cons (.cst (.int 3)) .nil)) ρ = some (.rng 3) := rfl
  have h4 : itemsOf (.rng 3) = some [.int ((0 : Nat) : Int), .int ((1 : Nat) : Int), .int ((2 : Nat) : Int)] := rfl
  rw [ev, h3]
  dsimp only
  rw [h4]
  simp only [mapC, h0, h1, h2, Option.map]
  simp only [ev, truth]
theorem xv_call {C : Orc} {f : Nat} {l : XL} {ρ : Ρ} {vs : List PV} {r : PV} (h : evL C l ρ = some vs) (h2 : C f vs = some r) : ev C (.call f l) ρ = some r := by
  rw [ev, h]; exact h2
theorem xv_bin {C : Orc} {op : Operator} {a b : Mine.X} {ρ : Ρ} {x y r : PV} (h1 : ev C a ρ = some x) (h2 : ev C b ρ = some y) (h : binop op x y = some r) : ev C (.bin op a b) ρ = some r := by
  rw [ev, h1]; dsimp only; rw [h2]; exact h
theorem xv_cmp {C : Orc} {op : CmpOp} {a b : Mine.X} {ρ : Ρ} {x y : PV} {r : Bool} (h1 : ev C a ρ = some x) (h2 : ev C b ρ = some y) (h : cmpop op x y = some r) : ev C (.cmp op a b) ρ = some (.bool r) := by
  rw [ev, h1]; dsimp only; rw [h2]; dsimp only; rw [h]; rfl
theorem xv_sub {C : Orc} {a b : Mine.X} {ρ : Ρ} {x y r : PV} (h1 : ev C a ρ = some x) (h2 : ev C b ρ = some y) (h : getI x y = some r) : ev C (.sub a b) ρ = some r := by
  rw [ev, h1]; dsimp only; rw [h2]; exact h
theorem ev_blt1 {C : Orc} {b : Blt} {a : Mine.X} {ρ : Ρ} {x r : PV} (h1 : ev C a ρ = some x) (h : blt b [x] = some r) : ev C (.blt b (.cons a .nil)) ρ = some r := by
  rw [ev, evL, h1]; exact h
theorem ev_iteT {C : Orc} {c a b : Mine.X} {ρ : Ρ} {r : PV} (h1 : ev C c ρ = some (.bool true)) (h : ev C a ρ = some r) : ev C (.ite c a b) ρ = some r := by
  rw [ev, h1]; exact h
theorem ev_iteF {C : Orc} {c a b : Mine.X} {ρ : Ρ} {r : PV} (h1 : ev C c ρ = some (.bool false)) (h : ev C b ρ = some r) : ev C (.ite c a b) ρ = some r := by
  rw [ev, h1]; exact h
theorem evL2 {C : Orc} {a b : Mine.X} {ρ : Ρ} {x y : PV} (h1 : ev C a ρ = some x) (h2 : ev C b ρ = some y) : evL C (.cons a (.cons b .nil)) ρ = some [x, y] := by
  rw [evL, h1]; dsimp only; rw [evL, h2]; rfl
theorem evL1 {C : Orc} {a : Mine.X} {ρ : Ρ} {x : PV} (h1 : ev C a ρ = some x) : evL C (.cons a .nil) ρ = some [x] := by
  rw [evL, h1]; rfl
theorem evL3 {C : Orc} {a b c : Mine.X} {ρ : Ρ} {x y z : PV} (h1 : ev C a ρ = some x) (h2 : ev C b ρ = some y) (h3 : ev C c ρ = some z) : evL C (.cons a (.cons b (.cons c .nil))) ρ = some [x, y, z] := by
  rw [evL, h1]; dsimp only; rw [evL2 h2 h3]
theorem xv_slc {C : Orc} {a lo hi st : Mine.X} {ρ : Ρ} {x l h t r : PV} (h1 : ev C a ρ = some x) (h2 : ev C lo ρ = some l) (h3 : ev C hi ρ = some h) (h4 : ev C st ρ = some t) (e : slice x l h t = some r) : ev C (.slc a lo hi st) ρ = some r := by
  rw [ev, h1]; dsimp only; rw [h2]; dsimp only; rw [h3]; dsimp only; rw [h4]; exact e

/-! ### slices -/
theorem clipN {d m : Nat} (n : Nat) : clip d m (.int n) = some (if n < m then n else m) := by
  simp only [clip, Int.toNat_natCast, Int.ofNat_lt]
  rw [if_neg (by omega)]
theorem sliceL_to {α : Type} {s : List α} {n : Nat} : sliceL s .none (.int n) .none = some (s.take n) := by
  have h1 : clip 0 s.length .none = some 0 := rfl
  simp only [sliceL, clipN, h1, List.drop_zero, Nat.sub_zero]
  split
  · rfl
  · rw [List.take_of_length_le (by omega), List.take_of_length_le (by omega)]
theorem sliceL_from {α : Type} {s : List α} {n : Nat} : sliceL s (.int n) .none .none = some (s.drop n) := by
  have h1 : clip s.length s.length .none = some s.length := rfl
  simp only [sliceL, clipN, h1]
  congr 1
  split
  · rw [List.take_of_length_le (by rw [List.length_drop]; omega)]
  · rw [List.drop_of_length_le (by omega), List.drop_of_length_le (by omega)]; simp
theorem slc_to {s : List PV} {n : Nat} (h : s.length ≤ 1000000) : slice (.list s) .none (.int n) .none = some (.list (s.take n)) := by
  simp only [slice, szOk_of h, if_true, sliceL_to, Option.map]
theorem slc_from {s : List PV} {n : Nat} (h : s.length ≤ 1000000) : slice (.list s) (.int n) .none .none = some (.list (s.drop n)) := by
  simp only [slice, szOk_of h, if_true, sliceL_from, Option.map]
theorem getN {l : List PV} {n : Nat} {v : PV} (h : l.length ≤ 1000000) (e : l[n]? = some v) : getI (.list l) (.int n) = some v := by
  have hl : n < l.length := by
    rcases Nat.lt_or_ge n l.length with h | h
    · exact h
    · rw [List.getElem?_eq_none h] at e; cases e
  have : idx (n : Int) l.length = some n := by
    unfold idx
    rw [if_pos (szOk_of h), if_neg (by omega), if_pos (by omega)]
    simp
  simp only [getI, this, e]
/-! ### numbers -/
theorem natEqInt (a b : Nat) : (((a : Nat) : Int) == ((b : Nat) : Int)) = Nat.beq a b := by
  cases h : Nat.beq a b with
  | true => rw [Nat.eq_of_beq_eq_true h]; simp
  | false =>
    rw [beq_eq_false_iff_ne]; intro e
    rw [Int.ofNat_inj.mp e, Nat.beq_refl] at h; cases h
/-- the remainder of any number -/
noncomputable def rem (i : Int) (b : Nat) : Nat := (i.fmod (b : Int)).toNat
theorem fmod_nn (i : Int) {b : Nat} (hb : 0 < b) : 0 ≤ i.fmod (b : Int) := by
  rw [Int.fmod_eq_emod_of_nonneg _ (by omega)]
  exact Int.emod_nonneg _ (by omega)
theorem rem_lt {i : Int} {b : Nat} (hb : 0 < b) : rem i b < b := by
  have h1 := fmod_nn i hb
  have h2 : i.fmod (b : Int) < b := by
    rw [Int.fmod_eq_emod_of_nonneg _ (by omega)]
    exact Int.emod_lt_of_pos _ (by omega)
  unfold rem; omega
theorem modI (i : Int) (b : Nat) (hb : 0 < b) : binop .Mod (.int i) (.int b) = some (.int ((rem i b : Nat) : Int)) := by
  have h1 := fmod_nn i hb
  simp only [binop, binI, rem]
  rw [if_pos (by simp; omega), Int.toNat_of_nonneg h1]
theorem divI (i : Int) (b : Nat) (hb : 0 < b) (hs : b ≤ 4294967296) : binop .FloorDiv (.int i) (.int b) = some (.int (i.fdiv (b : Int))) := by
  simp only [binop, binI]
  rw [if_pos]
  rw [Bool.and_eq_true]
  exact ⟨by simp; omega, Nat.ble_eq_true_of_le (by simpa using hs)⟩
theorem addN (a b : Nat) : binop .Add (.int a) (.int b) = some (.int ((a + b : Nat) : Int)) := by
  simp only [binop, binI]; rfl
theorem eqN (a b : Nat) : cmpop .Eq (.int a) (.int b) = some (Nat.beq a b) := by
  show some (((a : Nat) : Int) == ((b : Nat) : Int)) = _
  rw [natEqInt]
theorem lenL {l : List PV} (h : l.length ≤ 1000000) : blt .len [.list l] = some (.int l.length) := by
  show ifz (szOk l.length) _ = _
  rw [szOk_of h]; rfl
theorem lenS {l : List Nat} (h : l.length ≤ 1000000) : blt .len [.str l] = some (.int l.length) := by
  show ifz (szOk l.length) _ = _
  rw [szOk_of h]; rfl
end Mine
namespace Mine
open PySem
noncomputable def p_rgb_to_hsv : Fn := ⟨3, 12, (.cons (.asg 3 true (.blt .max (.cons (.var 0) (.cons (.var 1) (.cons (.var 2) .nil))))) (.cons (.asg 4 true (.blt .min (.cons (.var 0) (.cons (.var 1) (.cons (.var 2) .nil))))) (.cons (.asg 5 true (.bin .Sub (.var 3) (.var 4))) (.cons (.asg 6 true (.var 3)) (.cons (.ite (.cmp .Eq (.var 4) (.var 3)) (.cons (.ret (.tup (.cons (.cst (.flt 0)) (.cons (.cst (.flt 0)) (.cons (.var 6) .nil))))) .nil) .nil) (.cons (.asg 7 true (.bin .Div (.var 5) (.var 3))) (.cons (.asg 8 true (.bin .Div (.bin .Sub (.var 3) (.var 0)) (.var 5))) (.cons (.asg 9 true (.bin .Div (.bin .Sub (.var 3) (.var 1)) (.var 5))) (.cons (.asg 10 true (.bin .Div (.bin .Sub (.var 3) (.var 2)) (.var 5))) (.cons (.ite (.cmp .Eq (.var 0) (.var 3)) (.cons (.asg 11 true (.bin .Sub (.var 10) (.var 9))) .nil) (.cons (.ite (.cmp .Eq (.var 1) (.var 3)) (.cons (.asg 11 true (.bin .Sub (.bin .Add (.cst (.flt 4611686018427387904)) (.var 8)) (.var 10))) .nil) (.cons (.asg 11 true (.bin .Sub (.bin .Add (.cst (.flt 4616189618054758400)) (.var 9)) (.var 8))) .nil)) .nil)) (.cons (.asg 11 true (.bin .Mod (.bin .Div (.var 11) (.cst (.flt 4618441417868443648))) (.cst (.flt 4607182418800017408)))) (.cons (.ret (.tup (.cons (.var 11) (.cons (.var 7) (.cons (.var 6) .nil))))) .nil))))))))))))⟩
noncomputable def p_hsv_to_rgb : Fn := ⟨3, 8, (.cons (.ite (.cmp .Eq (.var 1) (.cst (.flt 0))) (.cons (.ret (.tup (.cons (.var 2) (.cons (.var 2) (.cons (.var 2) .nil))))) .nil) .nil) (.cons (.asg 3 true (.blt .int (.cons (.bin .Mult (.var 0) (.cst (.flt 4618441417868443648))) .nil))) (.cons (.asg 4 true (.bin .Sub (.bin .Mult (.var 0) (.cst (.flt 4618441417868443648))) (.var 3))) (.cons (.asg 5 true (.bin .Mult (.var 2) (.bin .Sub (.cst (.flt 4607182418800017408)) (.var 1)))) (.cons (.asg 6 true (.bin .Mult (.var 2) (.bin .Sub (.cst (.flt 4607182418800017408)) (.bin .Mult (.var 1) (.var 4))))) (.cons (.asg 7 true (.bin .Mult (.var 2) (.bin .Sub (.cst (.flt 4607182418800017408)) (.bin .Mult (.var 1) (.bin .Sub (.cst (.flt 4607182418800017408)) (.var 4)))))) (.cons (.asg 3 true (.bin .Mod (.var 3) (.cst (.int 6)))) (.cons (.ite (.cmp .Eq (.var 3) (.cst (.int 0))) (.cons (.ret (.tup (.cons (.var 2) (.cons (.var 7) (.cons (.var 5) .nil))))) .nil) .nil) (.cons (.ite (.cmp .Eq (.var 3) (.cst (.int 1))) (.cons (.ret (.tup (.cons (.var 6) (.cons (.var 2) (.cons (.var 5) .nil))))) .nil) .nil) (.cons (.ite (.cmp .Eq (.var 3) (.cst (.int 2))) (.cons (.ret (.tup (.cons (.var 5) (.cons (.var 2) (.cons (.var 7) .nil))))) .nil) .nil) (.cons (.ite (.cmp .Eq (.var 3) (.cst (.int 3))) (.cons (.ret (.tup (.cons (.var 5) (.cons (.var 6) (.cons (.var 2) .nil))))) .nil) .nil) (.cons (.ite (.cmp .Eq (.var 3) (.cst (.int 4))) (.cons (.ret (.tup (.cons (.var 7) (.cons (.var 5) (.cons (.var 2) .nil))))) .nil) .nil) (.cons (.ite (.cmp .Eq (.var 3) (.cst (.int 5))) (.cons (.ret (.tup (.cons (.var 2) (.cons (.var 5) (.cons (.var 6) .nil))))) .nil) .nil) .nil)))))))))))))⟩
noncomputable def p_escape_cdata : Fn := ⟨1, 1, (.cons (.tr (.cons (.ite (.cmp .In (.cst (.str [38])) (.var 0)) (.cons (.asg 0 true (.rpl (.var 0) 38 [38, 97, 109, 112, 59])) .nil) .nil) (.cons (.ite (.cmp .In (.cst (.str [60])) (.var 0)) (.cons (.asg 0 true (.rpl (.var 0) 60 [38, 108, 116, 59])) .nil) .nil) (.cons (.ite (.cmp .In (.cst (.str [62])) (.var 0)) (.cons (.asg 0 true (.rpl (.var 0) 62 [38, 103, 116, 59])) .nil) .nil) (.cons (.ret (.var 0)) .nil))))) .nil)⟩
noncomputable def p_escape_attrib : Fn := ⟨1, 1, (.cons (.tr (.cons (.ite (.cmp .In (.cst (.str [38])) (.var 0)) (.cons (.asg 0 true (.rpl (.var 0) 38 [38, 97, 109, 112, 59])) .nil) .nil) (.cons (.ite (.cmp .In (.cst (.str [60])) (.var 0)) (.cons (.asg 0 true (.rpl (.var 0) 60 [38, 108, 116, 59])) .nil) .nil) (.cons (.ite (.cmp .In (.cst (.str [62])) (.var 0)) (.cons (.asg 0 true (.rpl (.var 0) 62 [38, 103, 116, 59])) .nil) .nil) (.cons (.ite (.cmp .In (.cst (.str [34])) (.var 0)) (.cons (.asg 0 true (.rpl (.var 0) 34 [38, 113, 117, 111, 116, 59])) .nil) .nil) (.cons (.ite (.cmp .In (.cst (.str [13])) (.var 0)) (.cons (.asg 0 true (.rpl (.var 0) 13 [38, 35, 49, 51, 59])) .nil) .nil) (.cons (.ite (.cmp .In (.cst (.str [10])) (.var 0)) (.cons (.asg 0 true (.rpl (.var 0) 10 [38, 35, 49, 48, 59])) .nil) .nil) (.cons (.ite (.cmp .In (.cst (.str [9])) (.var 0)) (.cons (.asg 0 true (.rpl (.var 0) 9 [38, 35, 48, 57, 59])) .nil) .nil) (.cons (.ret (.var 0)) .nil))))))))) .nil)⟩
noncomputable def p_escape_attrib_html : Fn := ⟨1, 1, (.cons (.tr (.cons (.ite (.cmp .In (.cst (.str [38])) (.var 0)) (.cons (.asg 0 true (.rpl (.var 0) 38 [38, 97, 109, 112, 59])) .nil) .nil) (.cons (.ite (.cmp .In (.cst (.str [62])) (.var 0)) (.cons (.asg 0 true (.rpl (.var 0) 62 [38, 103, 116, 59])) .nil) .nil) (.cons (.ite (.cmp .In (.cst (.str [34])) (.var 0)) (.cons (.asg 0 true (.rpl (.var 0) 34 [38, 113, 117, 111, 116, 59])) .nil) .nil) (.cons (.ret (.var 0)) .nil))))) .nil)⟩
noncomputable def p_escape_cdata_c14n : Fn := ⟨1, 1, (.cons (.tr (.cons (.ite (.cmp .In (.cst (.str [38])) (.var 0)) (.cons (.asg 0 true (.rpl (.var 0) 38 [38, 97, 109, 112, 59])) .nil) .nil) (.cons (.ite (.cmp .In (.cst (.str [60])) (.var 0)) (.cons (.asg 0 true (.rpl (.var 0) 60 [38, 108, 116, 59])) .nil) .nil) (.cons (.ite (.cmp .In (.cst (.str [62])) (.var 0)) (.cons (.asg 0 true (.rpl (.var 0) 62 [38, 103, 116, 59])) .nil) .nil) (.cons (.ite (.cmp .In (.cst (.str [13])) (.var 0)) (.cons (.asg 0 true (.rpl (.var 0) 13 [38, 35, 120, 68, 59])) .nil) .nil) (.cons (.ret (.var 0)) .nil)))))) .nil)⟩
noncomputable def p_escape_attrib_c14n : Fn := ⟨1, 1, (.cons (.tr (.cons (.ite (.cmp .In (.cst (.str [38])) (.var 0)) (.cons (.asg 0 true (.rpl (.var 0) 38 [38, 97, 109, 112, 59])) .nil) .nil) (.cons (.ite (.cmp .In (.cst (.str [60])) (.var 0)) (.cons (.asg 0 true (.rpl (.var 0) 60 [38, 108, 116, 59])) .nil) .nil) (.cons (.ite (.cmp .In (.cst (.str [34])) (.var 0)) (.cons (.asg 0 true (.rpl (.var 0) 34 [38, 113, 117, 111, 116, 59])) .nil) .nil) (.cons (.ite (.cmp .In (.cst (.str [9])) (.var 0)) (.cons (.asg 0 true (.rpl (.var 0) 9 [38, 35, 120, 57, 59])) .nil) .nil) (.cons (.ite (.cmp .In (.cst (.str [10])) (.var 0)) (.cons (.asg 0 true (.rpl (.var 0) 10 [38, 35, 120, 65, 59])) .nil) .nil) (.cons (.ite (.cmp .In (.cst (.str [13])) (.var 0)) (.cons (.asg 0 true (.rpl (.var 0) 13 [38, 35, 120, 68, 59])) .nil) .nil) (.cons (.ret (.var 0)) .nil)))))))) .nil)⟩
noncomputable def p_law_written : Fn := ⟨2, 2, (.cons (.ite (.cmp .Eq (.var 0) (.cst (.int 0))) (.cons (.ret (.call 3 (.cons (.var 1) .nil))) .nil) .nil) (.cons (.ite (.cmp .Eq (.var 0) (.cst (.int 1))) (.cons (.ret (.call 4 (.cons (.var 1) .nil))) .nil) .nil) (.cons (.ite (.cmp .Eq (.var 0) (.cst (.int 2))) (.cons (.ret (.call 5 (.cons (.var 1) .nil))) .nil) .nil) (.cons (.ite (.cmp .Eq (.var 0) (.cst (.int 3))) (.cons (.ret (.call 6 (.cons (.var 1) .nil))) .nil) .nil) (.cons (.ret (.call 7 (.cons (.var 1) .nil))) .nil)))))⟩
end Mine
namespace Mine
open PySem

theorem replaceC_flatMap (s : List Nat) (f : Nat → List Nat) (c : Nat) (t : List Nat) : replaceC (s.flatMap f) c t = s.flatMap fun x => replaceC (f x) c t := by
  unfold replaceC
  rw [List.flatMap_assoc]
theorem replaceC_id {s : List Nat} {c : Nat} {t : List Nat} (h : s.contains c = false) : replaceC s c t = s := by
  induction s with
  | nil => rfl
  | cons x s ih =>
    rw [List.contains_cons, Bool.or_eq_false_iff] at h
    show (if x == c then t else [x]) ++ replaceC s c t = x :: s
    rw [ih h.2]
    have : (x == c) = false := by
      have := h.1
      simp at this ⊢
      exact fun e => this e.symm
    rw [this]; rfl

/-- one line of an escape: if the sign is in the text, it is replaced -/
noncomputable def stepS (c : Nat) (t : List Nat) : Mine.S := .ite (.cmp .In (.cst (.str [c])) (.var 0)) (.cons (.asg 0 true (.rpl (.var 0) c t)) .nil) .nil

theorem step_ok {C : Orc} {c : Nat} {t s : List Nat} (hz : szOk ((s.length + 1) * (t.length + 1)) = true) : ex C (stepS c t) [.v (.str s)] = some (.nxt [.v (.str (replaceC s c t))]) := by
  unfold stepS
  have hc : ev C (.cmp .In (.cst (.str [c])) (.var 0)) [.v (.str s)] = some (.bool (s.contains c)) := xv_cmp rfl rfl rfl
  cases h : s.contains c with
  | true =>
    rw [h] at hc
    exact (ex_iteT hc).trans (exs_one ((xx_asg (xv_rpl rfl hz)).trans rfl))
  | false =>
    rw [h] at hc
    rw [replaceC_id h]
    exact (ex_iteF hc).trans rfl
end Mine
namespace Mine
open PySem

noncomputable def rp : List (Nat × List Nat) → List Nat → List Nat
  | [], s => s
  | (c, t) :: r, s => rp r (replaceC s c t)
noncomputable def toSL : List (Nat × List Nat) → SL
  | [] => .cons (.ret (.var 0)) .nil
  | (c, t) :: r => .cons (stepS c t) (toSL r)
noncomputable def small : List (Nat × List Nat) → List Nat → Bool
  | [], s => Nat.ble s.length 6
  | (c, t) :: r, s => Nat.ble s.length 6 && (Nat.ble t.length 6 && small r (replaceC s c t))

theorem len_flatMap {s : List Nat} {f : Nat → List Nat} (h : ∀ x, (f x).length ≤ 6) : (s.flatMap f).length ≤ 6 * s.length := by
  induction s with
  | nil => simp
  | cons x s ih => rw [List.flatMap_cons, List.length_append, List.length_cons]; have := h x; omega
theorem small_le {l : List (Nat × List Nat)} {s : List Nat} (h : small l s = true) : s.length ≤ 6 := by
  cases l with
  | nil => exact Nat.le_of_ble_eq_true h
  | cons a r => obtain ⟨c, t⟩ := a; unfold small at h; rw [Bool.and_eq_true] at h; exact Nat.le_of_ble_eq_true h.1

theorem toSL_ok {C : Orc} {s : List Nat} (hs : s.length ≤ 10000) : ∀ {l : List (Nat × List Nat)} {f : Nat → List Nat}, (∀ x, small l (f x) = true) →
    exs C (toSL l) [.v (.str (s.flatMap f))] = some (.ret (.str (s.flatMap fun x => rp l (f x))))
  | [], f, h => by simp only [toSL, exs, ex, ev, List.getElem?_cons_zero, Sl.val, Option.map, rp]
  | (c, t) :: r, f, h => by
    have h6 : ∀ x, (f x).length ≤ 6 := fun x => small_le (h x)
    have ht : t.length ≤ 6 := by
      have := h 0; unfold small at this; rw [Bool.and_eq_true, Bool.and_eq_true] at this; exact Nat.le_of_ble_eq_true this.2.1
    have hr : ∀ x, small r (replaceC (f x) c t) = true := fun x => by
      have := h x; unfold small at this; rw [Bool.and_eq_true, Bool.and_eq_true] at this; exact this.2.2
    have hz : szOk (((s.flatMap f).length + 1) * (t.length + 1)) = true := szOk_of (by
      have h1 := len_flatMap (s := s) h6
      calc ((s.flatMap f).length + 1) * (t.length + 1) ≤ 60001 * 7 := Nat.mul_le_mul (by omega) (by omega)
        _ ≤ 1000000 := by decide)
    show exs C (.cons (stepS c t) (toSL r)) _ = _
    unfold exs
    rw [step_ok hz, replaceC_flatMap]
    exact toSL_ok hs hr

theorem rp_other : ∀ {l : List (Nat × List Nat)} {x : Nat}, (l.all fun p => !(p.1 == x)) = true → rp l [x] = [x]
  | [], _, _ => rfl
  | (c, t) :: r, x, h => by
    rw [List.all_cons, Bool.and_eq_true] at h
    have h1 : (c == x) = false := by simpa using h.1
    have : replaceC [x] c t = [x] := replaceC_id (by
      rw [List.contains_cons, h1]; rfl)
    unfold rp; rw [this]; exact rp_other h.2
theorem small_other : ∀ {l : List (Nat × List Nat)} {x : Nat}, (l.all fun p => !(p.1 == x)) = true → (l.all fun p => Nat.ble p.2.length 6) = true → small l [x] = true
  | [], _, _, _ => rfl
  | (c, t) :: r, x, h, h' => by
    rw [List.all_cons, Bool.and_eq_true] at h h'
    have h1 : (c == x) = false := by simpa using h.1
    have : replaceC [x] c t = [x] := replaceC_id (by
      rw [List.contains_cons, h1]; rfl)
    unfold small; rw [this, small_other h.2 h'.2, h'.1]; rfl

/-- the lines of the escapes -/
noncomputable def stepsOf : Nat → List (Nat × List Nat)
  | 0 => [(38, [38, 97, 109, 112, 59]), (60, [38, 108, 116, 59]), (62, [38, 103, 116, 59])]
  | 1 => [(38, [38, 97, 109, 112, 59]), (60, [38, 108, 116, 59]), (62, [38, 103, 116, 59]), (34, [38, 113, 117, 111, 116, 59]), (13, [38, 35, 49, 51, 59]), (10, [38, 35, 49, 48, 59]), (9, [38, 35, 48, 57, 59])]
  | 2 => [(38, [38, 97, 109, 112, 59]), (62, [38, 103, 116, 59]), (34, [38, 113, 117, 111, 116, 59])]
  | 3 => [(38, [38, 97, 109, 112, 59]), (60, [38, 108, 116, 59]), (62, [38, 103, 116, 59]), (13, [38, 35, 120, 68, 59])]
  | _ => [(38, [38, 97, 109, 112, 59]), (60, [38, 108, 116, 59]), (34, [38, 113, 117, 111, 116, 59]), (9, [38, 35, 120, 57, 59]), (10, [38, 35, 120, 65, 59]), (13, [38, 35, 120, 68, 59])]

noncomputable def lookT (x : Nat) : List (Nat × List Nat) → List Nat
  | [] => [x]
  | (c, t) :: r => match Nat.beq c x with | true => t | false => lookT x r
noncomputable def esc (k : Nat) (s : List Nat) : List Nat := s.flatMap fun x => lookT x (stepsOf k)

theorem lookT_other : ∀ {l : List (Nat × List Nat)} {x : Nat}, (l.all fun p => !(p.1 == x)) = true → lookT x l = [x]
  | [], _, _ => rfl
  | (c, t) :: r, x, h => by
    rw [List.all_cons, Bool.and_eq_true] at h
    have h1 : (c == x) = false := by simpa using h.1
    have h2 : Nat.beq c x = false := by
      cases hb : Nat.beq c x with
      | false => rfl
      | true => rw [Nat.eq_of_beq_eq_true hb] at h1; simp at h1
    unfold lookT; rw [h2]; exact lookT_other h.2

/-- each sign by itself -/
theorem lines_ok (l : List (Nat × List Nat)) (h : (l.all fun p => small l [p.1] && rp l [p.1] == lookT p.1 l) = true) (h' : (l.all fun p => Nat.ble p.2.length 6) = true) (x : Nat) : small l [x] = true ∧ rp l [x] = lookT x l := by
  cases hb : (l.all fun p => !(p.1 == x)) with
  | true => exact ⟨small_other hb h', by rw [rp_other hb, lookT_other hb]⟩
  | false =>
    have : ¬ (∀ p ∈ l, !(p.1 == x)) := by
      intro hh; rw [List.all_eq_true.mpr hh] at hb; cases hb
    have : ∃ p ∈ l, p.1 = x := by
      refine Classical.byContradiction fun hn => this fun p hp => ?_
      simp only [Bool.not_eq_true', beq_eq_false_iff_ne, ne_eq]
      exact fun e => hn ⟨p, hp, e⟩
    obtain ⟨p, hp, rfl⟩ := this
    have := List.all_eq_true.mp h p hp
    rw [Bool.and_eq_true] at this
    exact ⟨this.1, eq_of_beq this.2⟩

theorem lines_run {C : Orc} {s : List Nat} (hs : s.length ≤ 10000) (l : List (Nat × List Nat)) (h : (l.all fun p => small l [p.1] && rp l [p.1] == lookT p.1 l) = true) (h' : (l.all fun p => Nat.ble p.2.length 6) = true) :
    run C ⟨1, 1, .cons (.tr (toSL l)) .nil⟩ [.str s] = some (.str (s.flatMap fun x => lookT x l)) := by
  have e := toSL_ok (C := C) hs (l := l) (f := fun x => [x]) fun x => (lines_ok l h h' x).1
  have e1 : (s.flatMap fun x => [x]) = s := by simp
  rw [e1] at e
  have e2 : (s.flatMap fun x => rp l [x]) = s.flatMap fun x => lookT x l := by
    congr 1; funext x; exact (lines_ok l h h' x).2
  rw [e2] at e
  unfold run
  simp only [List.length_cons, List.length_nil, beq_self_eq_true, if_true, List.map, Nat.sub_self, List.replicate, List.append_nil, exs, ex, e]

theorem esc_len (k : Nat) (s : List Nat) : (esc k s).length ≤ 6 * s.length := by
  refine len_flatMap fun x => ?_
  match k with
  | 0 => have := lines_ok (stepsOf 0) (by decide) (by decide) x; rw [← this.2]; exact rpl _ this.1
  | 1 => have := lines_ok (stepsOf 1) (by decide) (by decide) x; rw [← this.2]; exact rpl _ this.1
  | 2 => have := lines_ok (stepsOf 2) (by decide) (by decide) x; rw [← this.2]; exact rpl _ this.1
  | 3 => have := lines_ok (stepsOf 3) (by decide) (by decide) x; rw [← this.2]; exact rpl _ this.1
  | k + 4 => have := lines_ok (stepsOf 4) (by decide) (by decide) x; show (lookT x (stepsOf 4)).length ≤ 6; rw [← this.2]; exact rpl _ this.1
where rpl : ∀ (l : List (Nat × List Nat)) {s : List Nat}, small l s = true → (rp l s).length ≤ 6
  | [], _, h => small_le h
  | (c, t) :: r, s, h => by
    unfold small at h; rw [Bool.and_eq_true, Bool.and_eq_true] at h; exact rpl r h.2.2

/-- which text the escape at f is of -/
noncomputable def escAt : Nat → Option Nat
  | 3 => some 0
  | 4 => some 1
  | 5 => some 2
  | 6 => some 3
  | 7 => some 4
  | _ => none
noncomputable def escFn : Nat → Option Fn
  | 3 => some p_escape_cdata
  | 4 => some p_escape_attrib
  | 5 => some p_escape_attrib_html
  | 6 => some p_escape_cdata_c14n
  | 7 => some p_escape_attrib_c14n
  | _ => none
theorem esc_run {C : Orc} {s : List Nat} (hs : s.length ≤ 10000) : ∀ {f k : Nat} {fn : Fn}, escAt f = some k → escFn f = some fn → run C fn [.str s] = some (.str (esc k s))
  | 3, _, _, rfl, rfl => lines_run hs (stepsOf 0) (by decide) (by decide)
  | 4, _, _, rfl, rfl => lines_run hs (stepsOf 1) (by decide) (by decide)
  | 5, _, _, rfl, rfl => lines_run hs (stepsOf 2) (by decide) (by decide)
  | 6, _, _, rfl, rfl => lines_run hs (stepsOf 3) (by decide) (by decide)
  | 7, _, _, rfl, rfl => lines_run hs (stepsOf 4) (by decide) (by decide)

theorem written_run {k : Nat} (hk : k < 5) {s : List Nat} {C : Orc} (hC : ∀ f k, escAt f = some k → C f [.str s] = some (.str (esc k s))) : run C p_law_written [.int k, .str s] = some (.str (esc k s)) := by
  have no : ∀ (k c : Nat) (b l : SL), Nat.beq k c = false → exs C (.cons (.ite (.cmp .Eq (.var 0) (.cst (.int c))) b .nil) l) [.v (.int k), .v (.str s)] = exs C l [.v (.int k), .v (.str s)] := fun k c b l h => exs_nxt ((ex_iteF (xv_cmp rfl rfl ((eqN k c).trans (by rw [h])))).trans rfl)
  have yes : ∀ (k c f j : Nat) (l : SL), Nat.beq k c = true → escAt f = some j → exs C (.cons (.ite (.cmp .Eq (.var 0) (.cst (.int c))) (.cons (.ret (.call f (.cons (.var 1) .nil))) .nil) .nil) l) [.v (.int k), .v (.str s)] = some (.ret (.str (esc j s))) := fun k c f j l h hj => exs_ret ((ex_iteT (xv_cmp rfl rfl ((eqN k c).trans (by rw [h])))).trans (exs_one (xx_ret (xv_call (evL1 rfl) (hC f j hj)))))
  match k, hk with
  | 0, _ => exact run_of rfl (yes 0 0 3 0 _ rfl rfl)
  | 1, _ => exact run_of rfl ((no 1 0 _ _ rfl).trans (yes 1 1 4 1 _ rfl rfl))
  | 2, _ => exact run_of rfl ((no 2 0 _ _ rfl).trans ((no 2 1 _ _ rfl).trans (yes 2 2 5 2 _ rfl rfl)))
  | 3, _ => exact run_of rfl ((no 3 0 _ _ rfl).trans ((no 3 1 _ _ rfl).trans ((no 3 2 _ _ rfl).trans (yes 3 3 6 3 _ rfl rfl))))
  | 4, _ => exact run_of rfl ((no 4 0 _ _ rfl).trans ((no 4 1 _ _ rfl).trans ((no 4 2 _ _ rfl).trans ((no 4 3 _ _ rfl).trans (exs_one (xx_ret (xv_call (evL1 rfl) (hC 7 4 rfl))))))))
end Mine
namespace Mine
open PySem

noncomputable def natsV (l : List Nat) : PV := .list (l.map fun (n : Nat) => PV.int n)
theorem addS {a b : List Nat} (h : a.length + b.length ≤ 1000000) : binop .Add (.str a) (.str b) = some (.str (a ++ b)) := by
  simp only [binop]; rw [if_pos (szOk_of h)]
theorem addL {a b : List PV} (h : a.length + b.length ≤ 1000000) : binop .Add (.list a) (.list b) = some (.list (a ++ b)) := by
  simp only [binop]; rw [if_pos (szOk_of h)]
theorem mulS {a : List Nat} {n : Nat} (hn : n ≤ 1000) (h : a.length * n ≤ 1000000) : binop .Mult (.str a) (.int n) = some (.str (rep a n)) := by
  simp only [binop]
  rw [if_pos (by rw [Bool.and_eq_true]; exact ⟨Nat.ble_eq_true_of_le (by simpa using hn), szOk_of (by simpa using h)⟩)]
  rfl
theorem rep_len {α : Type} {l : List α} : ∀ {n : Nat}, (rep l n).length = l.length * n
  | 0 => rfl
  | n + 1 => by rw [rep, List.length_append, rep_len, Nat.mul_succ]; omega
theorem ev_tup2 {C : Orc} {a b : Mine.X} {ρ : Ρ} {x y : PV} (h1 : ev C a ρ = some x) (h2 : ev C b ρ = some y) : ev C (.tup (.cons a (.cons b .nil))) ρ = some (.tup [x, y]) := by
  rw [ev, evL2 h1 h2]; rfl
theorem ev_tup3 {C : Orc} {a b c : Mine.X} {ρ : Ρ} {x y z : PV} (h1 : ev C a ρ = some x) (h2 : ev C b ρ = some y) (h3 : ev C c ρ = some z) : ev C (.tup (.cons a (.cons b (.cons c .nil)))) ρ = some (.tup [x, y, z]) := by
  rw [ev, evL3 h1 h2 h3]; rfl
theorem xx_app {C : Orc} {i : Nat} {e : Mine.X} {ρ : Ρ} {v : PV} {l : List PV} (h : ev C e ρ = some v) (h2 : (dropFor ρ e v)[i]? = some (.o (.list l))) (h3 : l.length ≤ 1000000) : ex C (.app i e) ρ = (setAt (dropFor ρ e v) i (.o (.list (l ++ [v])))).map .nxt := by
  rw [ex, h]; dsimp only; rw [h2]; dsimp only; rw [if_pos (szOk_of h3)]
theorem itemsL {l : List PV} (h : l.length ≤ 1000000) : itemsOf (.list l) = some l := by
  simp only [itemsOf]; rw [if_pos (szOk_of h)]
theorem items_rng {n : Nat} (h : n ≤ 100000) : itemsOf (.rng (n : Int)) = some ((List.range' 0 n).map fun (k : Nat) => PV.int (k : Int)) := by
  simp only [itemsOf, upto, List.range_eq_range', Int.toNat_natCast, Int.natAbs_natCast]
  rw [if_pos (Nat.ble_eq_true_of_le h)]
theorem rng_nat {n : Nat} (h : n ≤ 4294967296) : blt .range [.int (n : Int)] = some (.rng n) := by
  show ifz (smallInt (n : Int)) _ = _
  rw [show smallInt (n : Int) = true from Nat.ble_eq_true_of_le (by simpa using h)]; rfl
theorem intsOf_map : ∀ {ns : List Int}, intsOf (ns.map PV.int) = some ns
  | [] => rfl
  | n :: r => by rw [List.map_cons, intsOf, intsOf_map]; rfl
theorem sum_ints {ns : List Int} (h : ns.length ≤ 1000000) : blt .sum [.list (ns.map PV.int)] = some (.int ns.sum) := by
  show ifz (szOk (ns.map PV.int).length) (obind (intsOf (ns.map PV.int)) _) = _
  rw [szOk_of (by rw [List.length_map]; exact h), intsOf_map]; rfl
/-! ### loops -/
noncomputable def fstep (C : Orc) (is : List Nat) (b : SL) (ρ : Ρ) (v : PV) : Option Res := match bindEach ρ is v with | some ρ' => exs C b ρ' | Option.none => Option.none
theorem fstep_of {C : Orc} {is : List Nat} {b : SL} {ρ ρ' : Ρ} {v : PV} (h : bindEach ρ is v = some ρ') : fstep C is b ρ v = exs C b ρ' := by
  unfold fstep; rw [h]
theorem xx_for {C : Orc} {is : List Nat} {iter : Mine.X} {b : SL} {ρ : Ρ} {x : PV} {items : List PV} (h1 : ev C iter ρ = some x) (h2 : itemsOf x = some items) :
    ex C (.fr is iter b) ρ = forEach (fstep C is b) items (dropAt ρ (al iter)) := ex_fr h1 h2
theorem forEach_nxt {step : Ρ → PV → Option Res} {x : PV} {r : List PV} {ρ ρ' : Ρ} (h : step ρ x = some (.nxt ρ')) : forEach step (x :: r) ρ = forEach step r ρ' := by
  rw [forEach, h]
theorem forEach3 {step : Ρ → PV → Option Res} {a b c : PV} {ρ0 ρ1 ρ2 ρ3 : Ρ} (h0 : step ρ0 a = some (.nxt ρ1)) (h1 : step ρ1 b = some (.nxt ρ2)) (h2 : step ρ2 c = some (.nxt ρ3)) : forEach step [a, b, c] ρ0 = some (.nxt ρ3) := by
  rw [forEach_nxt h0, forEach_nxt h1, forEach_nxt h2]; rfl
end Mine
namespace Mine
open PySem PySem.W PyProof.Rows

theorem Runs.more {K : Cx} {ft : List Str} {n f : Nat} {args : List PV} {r : PV} (h : Runs K ft n f args r) : Runs K ft (n + 1) f args r :=
  fun name A s τ X vs fa h1 h2 hr h3 h4 h5 h6 R hR => h name A s τ X vs fa h1 h2 (hr.less (by omega)) h3 h4 h5 h6 R hR

theorem lvl_sound {K : Cx} {ft : List Str} (G : Glb K ft) {fs : Lv} {zp : Bool} (hz : zp = true → ∀ n, Sound K ft n (lvl fs n) → ZipOk K (lvl fs n) n) (D : ∀ f l fn, fs[f]? = some (some (l, fn)) → FnAt K ft zp f fn) : ∀ n, Sound K ft n (lvl fs n)
  | 0 => fun f args r h => by cases h
  | n + 1 => fun f args r h => by
    have ih := lvl_sound G hz D n
    unfold lvl at h
    split at h
    · rename_i l fn e
      split at h
      · exact fn_runs G ih (fun z => hz z n ih) (D f l fn e) h
      · exact (ih f args r h).more
    · cases h

/-- all the defs at once -/
theorem fnAt_lv {K : Cx} {zp : Bool} {fuel : Nat} {ft : List Str} {tab : List (Str × Option Fn)} {fs : Lv} (h : tabOf zp fuel ft K.p = tab) (hft : tab.map (·.1) = ft) (hfs : fs.map (·.map (·.2)) = tab.map (·.2)) : ∀ f l fn, fs[f]? = some (some (l, fn)) → FnAt K ft zp f fn := fun f l fn e => by
  have h1 : (fs.map (·.map (·.2)))[f]? = some (some fn) := by rw [List.getElem?_map, e]; rfl
  rw [hfs, List.getElem?_map, Option.map_eq_some_iff] at h1
  obtain ⟨⟨name, o⟩, h2, h3⟩ := h1
  cases h3
  exact fnAt_of h hft h2
end Mine
open PySem PySem.W PySem.W.X PyProof.Rows
set_option maxHeartbeats 8000000
namespace Mine
noncomputable def freeNames : List String := ["len", "sum", "int", "min", "max", "range", "list", "tuple", "sorted", "zip"]
theorem finish {p : Program} {loose : List Str} {mean : ExcName → Option Value} {mg mb : Str → Option Value} {prog : Program} {w : World} {s₁ : Shared} (T : Top p loose mean mg mb s₁.heap) (nb : NoneBooked s₁.heap) (tk : 0 < s₁.toks)
    {zp : Bool} {fuel : Nat} {tab : List (Str × Option Fn)} {fs : Lv} (ht : tabOf zp fuel (tab.map (·.1)) p = tab) (hfs : fs.map (·.map (·.2)) = tab.map (·.2))
    (hfree : freeNames.all (fun (x : String) => !(startupNames.contains (Str.ofString x)) && !(loose.contains (Str.ofString x)) && !(((recsOf p).map (·.name)).contains (Str.ofString x)) && !(((litsOf p).map (·.1)).contains (Str.ofString x)) && !(((clssOf p loose).map (·.name)).contains (Str.ofString x))) = true)
    (hdbg : (tab.map (·.1)).all (fun x => !(x == ("__debug__" : Str))) = true) (hz : zp = true → Glb ⟨prog, w, p, loose, mean, mg, mb⟩ (tab.map (·.1)) → ∀ n C, ZipOk ⟨prog, w, p, loose, mean, mg, mb⟩ C n)
    {f l : Nat} {fn : Fn} {name : Str} (hf : fs[f]? = some (some (l + 1, fn))) (hn : (tab.map (·.1))[f]? = some name) {fa a : Addr} {vs : List Value} {ns : List Int} (hm : mg name = some (.ref fa))
    (pl : s₁.heap.get? a = some { cls := .type "list", data := .seq vs.toArray }) (hI : IntsAre vs ns) (hr : run (lvl fs l) fn [.list (ns.map .int)] = some (.bool true)) (room : Room (l + 1) callerA) (hg : s₁.gens = #[])
    {c : ClaimW} {cl : Str → Option Addr} {mean' : ExcName → Option Value} {args : List WData} (h1 : ∀ cls, c.raises args cls = false) (h2 : c.post args (.bool true) args = true) {E : Value → Shared → Prop} :
    wpAny (model prog w) callerA (call (.ref fa) [.ref a]) (fun v s' => GoodWG c cl mean' args s₁ (.ok (.ret v)) s') E s₁ := by
  let K : Cx := ⟨prog, w, p, loose, mean, mg, mb⟩
  have G : Glb K (tab.map (·.1)) := glb_of (K := K) (h := s₁.heap) T ht rfl hfree hdbg
  have S := lvl_sound (K := K) G (fs := fs) (zp := zp) (fun z n _ => hz z G n _) (fnAt_lv ht rfl hfs)
  have hr' : lvl fs (l + 1) f [.list (ns.map .int)] = some (.bool true) := by rw [lvl_at hf (by omega)]; exact hr
  exact top_ok (K := K) ⟨T, nb⟩ tk pl hI (S (l + 1) f _ _ hr') hn hm room hg h1 h2
end Mine
namespace Mine
open PySem PySem.W PySem.W.X PyProof.Rows

/-! ## what is seen of the top's end -/
noncomputable def isDef : Stmt → Bool
  | .FunctionDef .. => true
  | _ => false
noncomputable def viewOf (p : Program) : Program := { p with main := { p.main with body := p.main.body.filter isDef } }
noncomputable def obsM (s : Shared) : Bool := match s.heap.isNs cStatics with
  | true => match s.heap.nsMap cStatics sharingNotToldKey with
    | none => Nat.blt 0 s.toks
    | some _ => false
  | false => false
theorem obs_ok {R : WRecords} {w : World} {s₀ s₁ : Shared} {ns : List Int} {a : Addr} {as : List Addr} (y : obsM s₀ = true) (L : Laid R w s₀ s₁ [ofPy (PyData.list (ns.map PyData.int))] [.ref a] as) : NoneBooked s₁.heap ∧ 0 < s₁.toks := by
  unfold obsM at y
  cases h1 : s₀.heap.isNs cStatics with
  | false => rw [h1] at y; cases y
  | true =>
    rw [h1] at y
    dsimp only at y
    cases h2 : s₀.heap.nsMap cStatics sharingNotToldKey with
    | some v => rw [h2] at y; cases y
    | none =>
      rw [h2] at y
      exact ⟨⟨_, (Heap.Ns.of_isNs h1).keeps L.keeps, h2⟩, Nat.lt_of_lt_of_le (Nat.le_of_ble_eq_true y) (script_toks L rfl)⟩
end Mine
namespace Mine
open PySem
noncomputable def p_law_ages : Fn := ⟨2, 6, (.cons (.asg 2 true (.lst .nil)) (.cons (.fr [3] (.blt .range (.cons (.blt .len (.cons (.var 0) .nil)) .nil)) (.cons (.ite (.cmp .Eq (.sub (.var 0) (.var 3)) (.cst (.str [38]))) (.cons (.unp [4, 5] false (.tup (.cons (.slc (.var 0) (.bin .Add (.var 3) (.cst (.int 1))) (.cst .none) (.cst .none)) (.cons (.ite (.cmp .Eq (.var 1) (.cst (.str [38]))) (.cst (.int 0)) (.cst (.int 1))) .nil)))) (.cons (.whl (.cmp .Eq (.slc (.var 4) (.cst .none) (.cst (.int 4)) (.cst .none)) (.cst (.str [97, 109, 112, 59]))) (.cons (.unp [4, 5] false (.tup (.cons (.slc (.var 4) (.cst (.int 4)) (.cst .none) (.cst .none)) (.cons (.bin .Add (.var 5) (.cst (.int 1))) .nil)))) .nil)) (.cons (.app 2 (.var 5)) .nil))) (.cons (.ite (.cmp .Eq (.sub (.var 0) (.var 3)) (.var 1)) (.cons (.app 2 (.cst (.int 0))) .nil) .nil) .nil)) .nil)) (.cons (.ret (.var 2)) .nil)))⟩
noncomputable def p_law_spelled : Fn := ⟨3, 4, (.cons (.asg 3 true (.bin .Add (.lst (.cons (.cst (.str [97, 109, 112, 59])) (.cons (.cst (.str [108, 116, 59])) (.cons (.cst (.str [103, 116, 59])) (.cons (.cst (.str [113, 117, 111, 116, 59])) .nil))))) (.ite (.cmp .Eq (.var 2) (.cst (.int 1))) (.lst (.cons (.cst (.str [35, 49, 51, 59])) (.cons (.cst (.str [35, 49, 48, 59])) (.cons (.cst (.str [35, 48, 57, 59])) .nil)))) (.lst (.cons (.cst (.str [35, 120, 68, 59])) (.cons (.cst (.str [35, 120, 65, 59])) (.cons (.cst (.str [35, 120, 57, 59])) .nil))))))) (.cons (.ret (.ite (.cmp .Gt (.var 1) (.cst (.int 0))) (.bin .Add (.bin .Add (.cst (.str [38])) (.bin .Mult (.cst (.str [97, 109, 112, 59])) (.bin .Sub (.var 1) (.cst (.int 1))))) (.sub (.var 3) (.mth .index (.cst (.str [38, 60, 62, 34, 13, 10, 9])) (.cons (.var 0) .nil)))) (.var 0))) .nil))⟩
noncomputable def p_law_texts : Fn := ⟨3, 9, (.cons (.asg 3 true (.lst (.cons (.cst (.str [])) (.cons (.cst (.str [])) (.cons (.cst (.str [])) .nil))))) (.cons (.fr [4] (.var 0) (.cons (.asg 3 true (.comp (.call 8 (.cons (.var 2) (.cons (.var 0) .nil))) (.var 3) (.cst (.bool true)))) (.cons (.augI 3 (.var 4) .Add (.sub (.var 2) (.var 4))) .nil))) (.cons (.asg 5 true (.bin .Mult (.lst (.cons (.cst (.int 3)) .nil)) (.blt .len (.cons (.var 0) .nil)))) (.cons (.fr [4] (.blt .range (.cons (.cst (.int 3)) .nil)) (.cons (.fr [6] (.call 9 (.cons (.sub (.var 3) (.var 4)) (.cons (.sub (.var 2) (.var 4)) .nil))) (.cons (.ite (.cmp .Lt (.var 6) (.blt .len (.cons (.var 5) .nil))) (.cons (.setI 5 (.var 6) (.var 4)) .nil) .nil) .nil)) .nil)) (.cons (.asg 7 true (.slc (.blt .list (.cons (.blt .range (.cons (.blt .len (.cons (.var 5) .nil)) .nil)) .nil)) (.cst .none) (.cst .none) (.neg (.cst (.int 1))))) (.cons (.asg 8 true (.comp (.mth .join (.cst (.str [])) (.cons (.comp (.call 10 (.cons (.sub (.var 4) (.var 1)) (.cons (.var 0) (.cons (.var 3) .nil)))) (.var 8) (.cmp .Eq (.sub (.var 7) (.var 0)) (.var 1))) .nil)) (.blt .range (.cons (.cst (.int 3)) .nil)) (.cst (.bool true)))) (.cons (.ret (.ite (.cmp .Eq (.var 3) (.var 8)) (.var 5) (.lst .nil))) .nil)))))))⟩
noncomputable def p_law_paint : Fn := ⟨1, 1, (.cons (.ret (.call 1 (.cons (.bin .Div (.var 0) (.cst (.int 3))) (.cons (.cst (.flt 4607182418800017408)) (.cons (.cst (.flt 4607182418800017408)) .nil))))) .nil)⟩
noncomputable def p_law_mixes : Fn := ⟨1, 4, (.cons (.asg 1 true (.lst (.cons (.lst (.cons (.cst (.flt 0)) (.cons (.cst (.flt 0)) (.cons (.cst (.flt 0)) .nil)))) .nil))) (.cons (.fr [2] (.var 0) (.cons (.asg 3 true (.call 12 (.cons (.var 2) .nil))) (.cons (.app 1 (.comp (.bin .Div (.bin .Add (.sub (.sub (.var 2) (.neg (.cst (.int 1)))) (.var 0)) (.sub (.var 4) (.var 0))) (.cst (.int 2))) (.blt .range (.cons (.cst (.int 3)) .nil)) (.cst (.bool true)))) .nil))) (.cons (.ret (.var 1)) .nil)))⟩
noncomputable def p_law_peeled : Fn := ⟨2, 10, (.cons (.asg 2 true (.lst .nil)) (.cons (.fr [3] (.blt .range (.cons (.var 1) .nil)) (.cons (.unp [4, 5, 6] false (.call 0 (.cons (.sub (.var 0) (.cst (.int 0))) (.cons (.sub (.var 0) (.cst (.int 1))) (.cons (.sub (.var 0) (.cst (.int 2))) .nil))))) (.cons (.asg 7 true (.call 1 (.cons (.var 4) (.cons (.var 5) (.cons (.var 6) .nil))))) (.cons (.ite (.cmp .NotEq (.comp (.blt .int (.cons (.bin .Add (.bin .Mult (.bin .Pow (.cst (.int 2)) (.var 2)) (.var 0)) (.cst (.flt 4602678819172646912))) .nil)) (.var 7) (.cst (.bool true))) (.comp (.blt .int (.cons (.bin .Mult (.bin .Pow (.cst (.int 2)) (.var 2)) (.var 0)) .nil)) (.var 0) (.cst (.bool true)))) (.cons (.ret (.lst .nil)) .nil) .nil) (.cons (.asg 8 true (.bin .Mod (.blt .int (.cons (.bin .Add (.bin .Mult (.cst (.int 3)) (.var 4)) (.cst (.flt 4602678819172646912))) .nil)) (.cst (.int 3)))) (.cons (.app 2 (.var 8)) (.cons (.asg 9 true (.call 12 (.cons (.var 8) .nil))) (.cons (.asg 0 true (.comp (.bin .Sub (.bin .Mult (.cst (.int 2)) (.sub (.var 1) (.var 0))) (.sub (.var 10) (.var 0))) (.blt .range (.cons (.cst (.int 3)) .nil)) (.cst (.bool true)))) .nil)))))))) (.cons (.ret (.ite (.cmp .Eq (.call 0 (.cons (.sub (.var 0) (.cst (.int 0))) (.cons (.sub (.var 0) (.cst (.int 1))) (.cons (.sub (.var 0) (.cst (.int 2))) .nil)))) (.tup (.cons (.cst (.flt 0)) (.cons (.cst (.flt 0)) (.cons (.cst (.flt 0)) .nil))))) (.var 2) (.lst .nil))) .nil)))⟩
noncomputable def p_law_steps : Fn := ⟨1, 3, (.cons (.asg 1 true (.comp (.bin .Add (.slc (.var 1) (.cst .none) (.neg (.cst (.int 1))) (.cst .none)) (.var 0)) (.cst (.str [114, 103, 98])) (.cmp .NotEq (.var 0) (.sub (.var 1) (.neg (.cst (.int 1))))))) (.cons (.asg 2 true (.mth .rstrip (.var 0) (.cons (.sub (.var 0) (.neg (.cst (.int 1)))) .nil))) (.cons (.ite (.var 2) (.cons (.app 1 (.bin .Add (.bin .Add (.slc (.var 2) (.cst .none) (.neg (.cst (.int 1))) (.cst .none)) (.sub (.var 0) (.neg (.cst (.int 1))))) (.bin .Mult (.sub (.var 2) (.neg (.cst (.int 1)))) (.bin .Sub (.blt .len (.cons (.var 0) .nil)) (.blt .len (.cons (.var 2) .nil)))))) .nil) .nil) (.cons (.ret (.var 1)) .nil))))⟩
noncomputable def p_law_ways : Fn := ⟨1, 6, (.cons (.asg 1 true (.dic (.cons (.var 0) (.cons (.cst (.int 0)) .nil)))) (.cons (.asg 2 true (.lst (.cons (.var 0) .nil))) (.cons (.whl (.var 2) (.cons (.asg 3 true (.lst .nil)) (.cons (.fr [4] (.var 2) (.cons (.fr [5] (.call 15 (.cons (.var 4) .nil)) (.cons (.ite (.cmp .NotIn (.var 5) (.var 1)) (.cons (.setI 1 (.var 5) (.bin .Add (.sub (.var 1) (.var 4)) (.cst (.int 1)))) (.cons (.app 3 (.var 5)) .nil)) .nil) .nil)) .nil)) (.cons (.asg 2 true (.var 3)) .nil)))) (.cons (.ret (.var 1)) .nil))))⟩
noncomputable def p_law_across : Fn := ⟨2, 7, (.cons (.asg 2 true (.bin .Sub (.blt .len (.cons (.var 0) .nil)) (.cst (.int 1)))) (.cons (.whl (.cmp .Eq (.sub (.var 0) (.var 2)) (.sub (.var 1) (.var 2))) (.cons (.unp [0, 1, 2] false (.tup (.cons (.slc (.var 0) (.cst .none) (.var 2) (.cst .none)) (.cons (.slc (.var 1) (.cst .none) (.var 2) (.cst .none)) (.cons (.bin .Sub (.var 2) (.cst (.int 1))) .nil))))) (.cons (.ite (.cmp .Lt (.var 2) (.cst (.int 0))) (.cons (.ret (.cst (.int 0))) .nil) .nil) .nil))) (.cons (.asg 3 true (.comp (.sub (.call 13 (.cons (.slc (.var 0) (.cst .none) (.var 3) (.cst .none)) .nil)) (.var 3)) (.tup (.cons (.var 0) (.cons (.var 1) .nil))) (.cst (.bool true)))) (.cons (.unp [4, 5] false (.tup (.cons (.bin .Pow (.cst (.int 2)) (.var 2)) (.cons (.bin .Sub (.bin .Sub (.cst (.int 3)) (.sub (.var 0) (.var 2))) (.sub (.var 1) (.var 2))) .nil)))) (.cons (.asg 6 true (.bin .Sub (.bin .Sub (.bin .Mult (.cst (.int 2)) (.var 4)) (.cst (.int 1))) (.bin .Mult (.var 4) (.bin .Add (.sub (.sub (.var 3) (.cst (.int 0))) (.sub (.var 1) (.var 2))) (.sub (.sub (.var 3) (.cst (.int 1))) (.sub (.var 0) (.var 2))))))) (.cons (.ret (.blt .min (.cons (.var 6) (.cons (.bin .Sub (.bin .Sub (.bin .Mult (.cst (.int 3)) (.var 4)) (.cst (.int 1))) (.bin .Mult (.var 4) (.bin .Add (.sub (.sub (.var 3) (.cst (.int 0))) (.var 5)) (.sub (.sub (.var 3) (.cst (.int 1))) (.var 5))))) .nil)))) .nil))))))⟩
noncomputable def p_law : Fn := ⟨1, 12, (.cons (.asg 1 true (.ite (.cmp .Gt (.blt .len (.cons (.var 0) .nil)) (.cst (.int 6))) (.cst (.int 4)) (.cst (.int 3)))) (.cons (.asg 2 true (.bin .Add (.slc (.var 0) (.cst .none) (.cst (.int 8)) (.cst .none)) (.slc (.lst (.cons (.cst (.int 0)) (.cons (.cst (.int 1)) (.cons (.cst (.int 2)) (.cons (.cst (.int 1)) (.cons (.cst (.int 2)) (.cons (.cst (.int 2)) (.cons (.cst (.int 0)) (.cons (.cst (.int 1)) .nil))))))))) (.blt .len (.cons (.var 0) .nil)) (.cst .none) (.cst .none)))) (.cons (.asg 3 true (.comp (.comp (.bin .Mod (.var 0) (.cst (.int 3))) (.slc (.var 3) (.var 0) (.bin .Add (.var 0) (.var 2)) (.cst .none)) (.cst (.bool true))) (.tup (.cons (.cst (.int 0)) (.cons (.cst (.int 4)) .nil))) (.cst (.bool true)))) (.cons (.asg 4 true (.blt .sum (.cons (.var 0) .nil))) (.cons (.asg 5 true (.sub (.tup (.cons (.cst (.str [38, 60, 62])) (.cons (.cst (.str [38, 60, 62, 34, 13, 10, 9])) (.cons (.cst (.str [38, 62, 34])) (.cons (.cst (.str [38, 60, 62, 13])) (.cons (.cst (.str [38, 60, 34, 13, 10, 9])) .nil)))))) (.bin .Mod (.var 4) (.cst (.int 5))))) (.cons (.asg 7 true (.comp (.sub (.var 6) (.bin .Mod (.bin .Add (.bin .FloorDiv (.var 5) (.cst (.int 5))) (.var 0)) (.blt .len (.cons (.var 6) .nil)))) (.blt .range (.cons (.cst (.int 3)) .nil)) (.cst (.bool true)))) (.cons (.asg 8 true (.lst .nil)) (.cons (.fr [9] (.var 3) (.cons (.ite (.cmp .NotEq (.call 11 (.cons (.var 9) (.cons (.bin .Mod (.var 4) (.cst (.int 5))) (.cons (.var 7) .nil)))) (.slc (.var 9) (.cst .none) (.cst .none) (.neg (.cst (.int 1))))) (.cons (.ret (.cst (.bool false))) .nil) .nil) (.cons (.ite (.cmp .NotEq (.call 14 (.cons (.sub (.call 13 (.cons (.var 9) .nil)) (.var 1)) (.cons (.var 1) .nil))) (.slc (.var 9) (.cst .none) (.cst .none) (.neg (.cst (.int 1))))) (.cons (.ret (.cst (.bool false))) .nil) .nil) (.cons (.app 8 (.mth .join (.cst (.str [])) (.cons (.comp (.sub (.cst (.str [114, 103, 98])) (.var 0)) (.slc (.var 9) (.cst .none) (.cst .none) (.neg (.cst (.int 1)))) (.cst (.bool true))) .nil))) .nil)))) (.cons (.asg 10 true (.call 16 (.cons (.sub (.var 8) (.cst (.int 0))) .nil))) (.cons (.asg 11 true (.sub (.call 13 (.cons (.sub (.var 3) (.cst (.int 0))) .nil)) (.var 1))) (.cons (.fr [6] (.blt .range (.cons (.cst (.int 3)) .nil)) (.cons (.ite (.cmp .NotEq (.sub (.var 10) (.bin .Mult (.sub (.cst (.str [114, 103, 98])) (.var 6)) (.var 1))) (.bin .Sub (.bin .Mult (.bin .Pow (.cst (.int 2)) (.var 1)) (.bin .Sub (.cst (.flt 4607182418800017408)) (.sub (.var 11) (.var 6)))) (.cst (.int 1)))) (.cons (.ret (.cst (.bool false))) .nil) .nil) .nil)) (.cons (.ret (.cmp .Eq (.sub (.var 10) (.sub (.var 8) (.cst (.int 1)))) (.call 17 (.cons (.sub (.var 3) (.cst (.int 0))) (.cons (.sub (.var 3) (.cst (.int 1))) .nil))))) .nil))))))))))))⟩
end Mine
namespace Mine
open PySem

noncomputable def beqL : List Nat → List Nat → Bool
  | [], [] => true
  | a :: r, b :: q => match Nat.beq a b with | true => beqL r q | false => false
  | _, _ => false
theorem beqL_eq : ∀ {a b : List Nat}, beqL a b = (a == b)
  | [], [] => rfl
  | [], _ :: _ => rfl
  | _ :: _, [] => rfl
  | a :: r, b :: q => by
    unfold beqL
    rw [List.cons_beq_cons]
    cases h : Nat.beq a b with
    | true => rw [Nat.eq_of_beq_eq_true h]; simpa using beqL_eq
    | false =>
      have : (a == b) = false := by
        rw [beq_eq_false_iff_ne]; intro e; subst e; rw [Nat.beq_refl] at h; cases h
      rw [this]; rfl
noncomputable def ampT : List Nat := [97, 109, 112, 59]
noncomputable def amps : Nat → List Nat → Nat
  | 0, _ => 0
  | n + 1, l => match beqL (l.take 4) ampT with | true => amps n (l.drop 4) + 1 | false => 0
noncomputable def agesAt (s x : Nat) (r : List Nat) : List Nat :=
  match Nat.beq x 38 with
    | true => [(match Nat.beq s 38 with | true => 0 | false => 1) + amps 1000 r]
    | false => match Nat.beq x s with
      | true => [0]
      | false => []
noncomputable def agesF (s : Nat) : List Nat → List Nat
  | [] => []
  | x :: r => agesAt s x r ++ agesF s r

theorem natBeq (a b : Nat) : Nat.beq a b = (a == b) := by
  cases h : Nat.beq a b with
  | true => rw [Nat.eq_of_beq_eq_true h]; simp
  | false => symm; rw [beq_eq_false_iff_ne]; intro e; subst e; rw [Nat.beq_refl] at h; cases h

theorem sliceS {s : List Nat} {lo hi : PV} {a b : Nat} (hs : s.length ≤ 1000000) (h1 : clip 0 s.length lo = some a) (h2 : clip s.length s.length hi = some b) : slice (.str s) lo hi .none = some (.str ((s.drop a).take (b - a))) := by
  simp only [slice, szOk_of hs, sliceL, h1, h2, if_true, Option.map]
theorem clip_nat {d m : Nat} (n : Nat) : clip d m (.int n) = some (if n < m then n else m) := by
  simp only [clip, Int.toNat_natCast, Int.ofNat_lt]
  rw [if_neg (by omega)]
theorem sliceS_to {s : List Nat} {n : Nat} (hs : s.length ≤ 1000000) : slice (.str s) .none (.int n) .none = some (.str (s.take n)) := by
  rw [sliceS hs rfl (b := if n < s.length then n else s.length) (clip_nat n)]
  simp only [List.drop_zero, Nat.sub_zero]
  split
  · rfl
  · rw [List.take_of_length_le (by omega), List.take_of_length_le (by omega)]
theorem sliceS_from {s : List Nat} {n : Nat} (hs : s.length ≤ 1000000) : slice (.str s) (.int n) .none .none = some (.str (s.drop n)) := by
  rw [sliceS hs (a := if n < s.length then n else s.length) (clip_nat n) rfl]
  congr 2
  split
  · rw [List.take_of_length_le (by rw [List.length_drop]; omega)]
  · rw [List.drop_of_length_le (by omega), List.drop_of_length_le (by omega)]; simp

noncomputable def agesTest : Mine.X := .cmp .Eq (.slc (.var 4) (.cst .none) (.cst (.int 4)) (.cst .none)) (.cst (.str [97, 109, 112, 59]))
noncomputable def agesTurn : SL := .cons (.unp [4, 5] false (.tup (.cons (.slc (.var 4) (.cst (.int 4)) (.cst .none) (.cst .none)) (.cons (.bin .Add (.var 5) (.cst (.int 1))) .nil)))) .nil
noncomputable def agesBody : SL := .cons (.ite (.cmp .Eq (.sub (.var 0) (.var 3)) (.cst (.str [38]))) (.cons (.unp [4, 5] false (.tup (.cons (.slc (.var 0) (.bin .Add (.var 3) (.cst (.int 1))) (.cst .none) (.cst .none)) (.cons (.ite (.cmp .Eq (.var 1) (.cst (.str [38]))) (.cst (.int 0)) (.cst (.int 1))) .nil)))) (.cons (.whl agesTest agesTurn) (.cons (.app 2 (.var 5)) .nil))) (.cons (.ite (.cmp .Eq (.sub (.var 0) (.var 3)) (.var 1)) (.cons (.app 2 (.cst (.int 0))) .nil) .nil) .nil)) .nil

theorem ages_while {C : Orc} {t s acc pl : Sl} : ∀ (n : Nat) (l : List Nat) (a : Nat), l.length < n → l.length ≤ 1000000 →
    ∃ l', whileN (fun ρ => match ev C agesTest ρ with | some x => truth x | Option.none => Option.none) (fun ρ => exs C agesTurn ρ) n [t, s, acc, pl, .v (.str l), .v (.int a)] = some (.nxt [t, s, acc, pl, .v (.str l'), .v (.int ((a + amps n l : Nat)))])
  | 0, l, a, h, _ => by omega
  | n + 1, l, a, h, hz => by
    have e : ev C agesTest [t, s, acc, pl, .v (.str l), .v (.int a)] = some (.bool (beqL (l.take 4) ampT)) := by
      have := sliceS_to (s := l) (n := 4) hz
      simp only [agesTest, ev, List.getElem?_cons_succ, List.getElem?_cons_zero, Sl.val]
      rw [show ((4 : Int)) = ((4 : Nat) : Int) from rfl, this]
      simp only [cmpop, pyEq, pyEqN, Option.map, beqL_eq, ampT]
    unfold whileN
    simp only [e, truth]
    cases hb : beqL (l.take 4) ampT with
    | false => exact ⟨l, by unfold amps; rw [hb]; simp⟩
    | true =>
      have hl : 4 ≤ l.length := by
        rw [beqL_eq] at hb
        have := congrArg List.length (eq_of_beq hb)
        simp [ampT] at this
        omega
      have e2 : exs C agesTurn [t, s, acc, pl, .v (.str l), .v (.int a)] = some (.nxt [t, s, acc, pl, .v (.str (l.drop 4)), .v (.int ((a + 1 : Nat) : Int))]) := by
        have := sliceS_from (s := l) (n := 4) hz
        simp only [agesTurn, exs, ex, ev, evL, List.getElem?_cons_succ, List.getElem?_cons_zero, Sl.val]
        rw [show ((4 : Int)) = ((4 : Nat) : Int) from rfl, this]
        simp [binop, binI, szOk, dropAt, al, alL, mixes, Sl.drop, setEach, setAt, Nat.blt]
      rw [e2]
      obtain ⟨l', h'⟩ := ages_while (C := C) (t := t) (s := s) (acc := acc) (pl := pl) n (l.drop 4) (a + 1) (by rw [List.length_drop]; omega) (by rw [List.length_drop]; omega)
      refine ⟨l', ?_⟩
      have e3 : a + amps (n + 1) l = a + 1 + amps n (l.drop 4) := by
        rw [amps, hb]; dsimp; omega
      rw [e3]
      exact h'

theorem setAt_eq {ρ : Ρ} {i : Nat} {x : Sl} (h : i < ρ.length) : setAt ρ i x = some (ρ.set i x) := by
  unfold setAt
  rw [if_pos]
  exact Nat.ble_eq_true_of_le h

theorem upto_get {n : Nat} : upto n = (List.range n).map fun (k : Nat) => PV.int (k : Int) := rfl

theorem getS {t : List Nat} {i : Nat} (hi : i < t.length) (hz : t.length ≤ 1000000) : getI (.str t) (.int (i : Int)) = some (.str [t[i]]) := by
  have e : idx (i : Int) t.length = some i := by
    unfold idx
    rw [if_pos (szOk_of hz), if_neg (by omega), if_pos (by omega)]
    simp
  simp only [getI, e, List.getElem?_eq_getElem hi, Option.map]

theorem ages_step {C : Orc} {t : List Nat} {s i : Nat} {acc : List PV} {x3 x4 x5 : Sl} (hi : i < t.length) (hz : t.length < 1000) (ha : acc.length ≤ 1000000) :
    ∃ x4' x5', (match bindEach [.v (.str t), .v (.str [s]), .o (.list acc), x3, x4, x5] [3] (.int (i : Int)) with | some ρ' => exs C agesBody ρ' | Option.none => Option.none)
      = some (.nxt [.v (.str t), .v (.str [s]), .o (.list (acc ++ (agesAt s t[i] (t.drop (i + 1))).map fun (n : Nat) => PV.int n)), .v (.int (i : Int)), x4', x5']) := by
  have e0 : bindEach [.v (.str t), .v (.str [s]), .o (.list acc), x3, x4, x5] [3] (.int (i : Int)) = some [.v (.str t), .v (.str [s]), .o (.list acc), .v (.int (i : Int)), x4, x5] := rfl
  rw [e0]
  have eg := getS hi (by omega)
  have ec : ev C (.cmp .Eq (.sub (.var 0) (.var 3)) (.cst (.str [38]))) [.v (.str t), .v (.str [s]), .o (.list acc), .v (.int (i : Int)), x4, x5] = some (.bool (t[i] == 38)) := by
    simp [ev, Sl.val, eg, cmpop, pyEq, pyEqN]
  have ec2 : ev C (.cmp .Eq (.sub (.var 0) (.var 3)) (.var 1)) [.v (.str t), .v (.str [s]), .o (.list acc), .v (.int (i : Int)), x4, x5] = some (.bool (t[i] == s)) := by
    simp [ev, Sl.val, eg, cmpop, pyEq, pyEqN]
  unfold agesAt
  rw [natBeq, natBeq, natBeq]
  unfold agesBody
  cases h1 : (t[i] == 38) with
  | true =>
    rw [h1] at ec
    have es := sliceS_from (s := t) (n := i + 1) (by omega)
    obtain ⟨l', hw⟩ := ages_while (C := C) (t := .v (.str t)) (s := .v (.str [s])) (acc := .o (.list acc)) (pl := .v (.int (i : Int))) 1000 (t.drop (i + 1)) (match s == 38 with | true => 0 | false => 1) (by rw [List.length_drop]; omega) (by rw [List.length_drop]; omega)
    have eb : binop .Add (.int (i : Int)) (.int 1) = some (.int ((i + 1 : Nat) : Int)) := by simp [binop, binI]
    refine ⟨.v (.str l'), .v (.int (((match s == 38 with | true => 0 | false => 1) + amps 1000 (t.drop (i + 1)) : Nat) : Int)), ?_⟩
    refine exs_one ?_
    rw [ex_iteT ec]
    have e1 : ex C (.unp [4, 5] false (.tup (.cons (.slc (.var 0) (.bin .Add (.var 3) (.cst (.int 1))) (.cst .none) (.cst .none)) (.cons (.ite (.cmp .Eq (.var 1) (.cst (.str [38]))) (.cst (.int 0)) (.cst (.int 1))) .nil)))) [.v (.str t), .v (.str [s]), .o (.list acc), .v (.int (i : Int)), x4, x5] = some (.nxt [.v (.str t), .v (.str [s]), .o (.list acc), .v (.int (i : Int)), .v (.str (t.drop (i + 1))), .v (.int ((match s == 38 with | true => 0 | false => 1 : Nat) : Int))]) := by
      have e3 : ([s] == [38]) = (s == 38) := by simp
      have e4 : ev C (.tup (.cons (.slc (.var 0) (.bin .Add (.var 3) (.cst (.int 1))) (.cst .none) (.cst .none)) (.cons (.ite (.cmp .Eq (.var 1) (.cst (.str [38]))) (.cst (.int 0)) (.cst (.int 1))) .nil))) [.v (.str t), .v (.str [s]), .o (.list acc), .v (.int (i : Int)), x4, x5] = some (.tup [.str (t.drop (i + 1)), .int ((match s == 38 with | true => 0 | false => 1 : Nat) : Int)]) := by
        simp only [ev, evL, List.getElem?_cons_succ, List.getElem?_cons_zero, Sl.val, eb, es, cmpop, pyEq, pyEqN, e3]
        cases s == 38 <;> rfl
      rw [ex, e4]
      rfl
    rw [exs_nxt e1]
    have e2 : ex C (.whl agesTest agesTurn) [.v (.str t), .v (.str [s]), .o (.list acc), .v (.int (i : Int)), .v (.str (t.drop (i + 1))), .v (.int ((match s == 38 with | true => 0 | false => 1 : Nat) : Int))] = _ := hw
    rw [exs_nxt e2]
    refine exs_one ?_
    simp [ex, ev, Sl.val, dropFor, scalar, szOk_of ha, setAt, Nat.blt]
  | false =>
    rw [h1] at ec
    refine ⟨x4, x5, ?_⟩
    refine exs_one ?_
    rw [ex_iteF ec]
    refine exs_one ?_
    cases h2 : (t[i] == s) with
    | true =>
      rw [h2] at ec2
      rw [ex_iteT ec2]
      refine exs_one ?_
      simp [ex, ev, dropFor, scalar, szOk_of ha, setAt, Nat.blt]
    | false =>
      rw [h2] at ec2
      rw [ex_iteF ec2, exs]
      simp

theorem ages_loop {C : Orc} {t : List Nat} {s : Nat} (hz : t.length < 1000) : ∀ (n i : Nat) {acc : List PV} {x3 x4 x5 : Sl}, i + n = t.length → acc.length + n ≤ 1000000 →
    ∃ x3' x4' x5', forEach (fun ρ v => match bindEach ρ [3] v with | some ρ' => exs C agesBody ρ' | Option.none => Option.none) ((List.range' i n).map fun (k : Nat) => PV.int (k : Int)) [.v (.str t), .v (.str [s]), .o (.list acc), x3, x4, x5]
      = some (.nxt [.v (.str t), .v (.str [s]), .o (.list (acc ++ (agesF s (t.drop i)).map fun (n : Nat) => PV.int n)), x3', x4', x5'])
  | 0, i, acc, x3, x4, x5, h, _ => ⟨x3, x4, x5, by
      rw [List.drop_of_length_le (by omega)]
      simp [forEach, agesF]⟩
  | n + 1, i, acc, x3, x4, x5, h, ha => by
    obtain ⟨y4, y5, e⟩ := ages_step (C := C) (s := s) (acc := acc) (x3 := x3) (x4 := x4) (x5 := x5) (t := t) (i := i) (by omega) hz (by omega)
    have hle : (agesAt s t[i] (t.drop (i + 1))).length ≤ 1 := by
      unfold agesAt
      split
      · simp
      · split <;> simp
    obtain ⟨z3, z4, z5, e'⟩ := ages_loop (C := C) (s := s) hz n (i + 1) (acc := acc ++ (agesAt s t[i] (t.drop (i + 1))).map fun (n : Nat) => PV.int n) (x3 := .v (.int (i : Int))) (x4 := y4) (x5 := y5) (by omega) (by rw [List.length_append, List.length_map]; omega)
    refine ⟨z3, z4, z5, ?_⟩
    rw [List.range'_succ, List.map_cons]
    unfold forEach
    rw [e]
    dsimp only
    rw [e']
    rw [List.drop_eq_getElem_cons (by omega : i < t.length), agesF, List.map_append, List.append_assoc]

theorem items_len {n : Nat} (h : n ≤ 100000) : itemsOf (.rng (n : Int)) = some ((List.range' 0 n).map fun (k : Nat) => PV.int (k : Int)) := by
  simp only [itemsOf, upto, List.range_eq_range', Int.toNat_natCast, Int.natAbs_natCast]
  rw [if_pos (Nat.ble_eq_true_of_le h)]
theorem ev_rng_len {C : Orc} {t : List Nat} {ρ : Ρ} {e : Mine.X} (h : ev C e ρ = some (.str t)) (ht : t.length ≤ 100000) : ev C (.blt .range (.cons (.blt .len (.cons e .nil)) .nil)) ρ = some (.rng t.length) :=
  ev_blt1 (ev_blt1 h (lenS (by omega))) (rng_nat (by omega))

theorem ages_run {C : Orc} {t : List Nat} {s : Nat} (hz : t.length < 1000) : run C p_law_ages [.str t, .str [s]] = some (.list ((agesF s t).map fun (n : Nat) => PV.int n)) := by
  obtain ⟨z3, z4, z5, e⟩ := ages_loop (C := C) (s := s) hz t.length 0 (acc := []) (x3 := .no) (x4 := .no) (x5 := .no) (by omega) (by simp; omega)
  refine run_of rfl ?_
  show exs C (.cons (.asg 2 true (.lst .nil)) (.cons (.fr [3] (.blt .range (.cons (.blt .len (.cons (.var 0) .nil)) .nil)) agesBody) (.cons (.ret (.var 2)) .nil))) [.v (.str t), .v (.str [s]), .no, .no, .no, .no] = _
  rw [exs_nxt (ρ' := [.v (.str t), .v (.str [s]), .o (.list []), .no, .no, .no]) rfl]
  have e1 := ex_fr (is := [3]) (b := agesBody) (ev_rng_len (C := C) (t := t) (ρ := [.v (.str t), .v (.str [s]), .o (.list []), .no, .no, .no]) (e := .var 0) rfl (by omega)) (items_len (by omega))
  rw [exs_nxt (e1.trans e)]
  simp [exs, ex, ev, Sl.val]
end Mine
namespace Mine
open PySem

noncomputable def tailOf (k s : Nat) : List Nat :=
  lookT s ((38, ampT) :: (60, [108, 116, 59]) :: (62, [103, 116, 59]) :: (34, [113, 117, 111, 116, 59]) ::
    (match Nat.beq k 1 with | true => [(13, [35, 49, 51, 59]), (10, [35, 49, 48, 59]), (9, [35, 48, 57, 59])] | false => [(13, [35, 120, 68, 59]), (10, [35, 120, 65, 59]), (9, [35, 120, 57, 59])]))
noncomputable def spellF (s age k : Nat) : List Nat := match age with
  | 0 => [s]
  | a + 1 => 38 :: (rep ampT a ++ tailOf k s)
noncomputable def signsOf : Nat → List Nat
  | 0 => [38, 60, 62]
  | 1 => [38, 60, 62, 34, 13, 10, 9]
  | 2 => [38, 62, 34]
  | 3 => [38, 60, 62, 13]
  | _ => [38, 60, 34, 13, 10, 9]
noncomputable def intsV (l : List Nat) : List PV := l.map fun (n : Nat) => PV.int n
noncomputable def signV (l : List Nat) : PV := .list (l.map fun n => .str [n])

noncomputable def bitS (s : Nat) : Bool → List Nat
  | true => [s]
  | false => []
noncomputable def txB (k s : Nat) : List Bool → List Nat → List Nat
  | [], t => t
  | b :: r, t => txB k s r (esc k t ++ bitS s b)
noncomputable def bits (c : Nat) (row : List Nat) : List Bool := row.map fun x => Nat.beq x c
noncomputable def agesB : List Bool → List Nat
  | [] => []
  | true :: r => r.length :: agesB r
  | false :: r => agesB r
noncomputable def dueB (k s : Nat) : List Bool → List Nat
  | [] => []
  | true :: r => spellF s r.length k ++ dueB k s r
  | false :: r => dueB k s r
noncomputable def chkB (k s : Nat) (b : List Bool) : Bool := beqL (agesF s (txB k s b [])) (agesB b) && beqL (txB k s b []) (dueB k s b) && Nat.blt (txB k s b []).length 1000
noncomputable def boolsOf : Nat → List (List Bool)
  | 0 => [[]]
  | n + 1 => (boolsOf n).flatMap fun r => [true :: r, false :: r]
theorem chk0 : ((signsOf 0).all fun s => (boolsOf 3 ++ boolsOf 4).all fun b => chkB 0 s b) = true := by decide +kernel
theorem chk1 : ((signsOf 1).all fun s => (boolsOf 3 ++ boolsOf 4).all fun b => chkB 1 s b) = true := by decide +kernel
theorem chk2 : ((signsOf 2).all fun s => (boolsOf 3 ++ boolsOf 4).all fun b => chkB 2 s b) = true := by decide +kernel
theorem chk3 : ((signsOf 3).all fun s => (boolsOf 3 ++ boolsOf 4).all fun b => chkB 3 s b) = true := by decide +kernel
theorem chk4 : ((signsOf 4).all fun s => (boolsOf 3 ++ boolsOf 4).all fun b => chkB 4 s b) = true := by decide +kernel

theorem mem_boolsOf : ∀ {b : List Bool}, b ∈ boolsOf b.length
  | [] => by simp [boolsOf]
  | x :: r => by
    rw [List.length_cons, boolsOf, List.mem_flatMap]
    exact ⟨r, mem_boolsOf, by cases x <;> simp⟩

theorem chk_all {k s : Nat} {b : List Bool} (hk : k < 5) (hs : s ∈ signsOf k) (hb : b.length = 3 ∨ b.length = 4) :
    agesF s (txB k s b []) = agesB b ∧ txB k s b [] = dueB k s b ∧ (txB k s b []).length < 1000 := by
  have hm : b ∈ boolsOf 3 ++ boolsOf 4 := by
    rw [List.mem_append]
    rcases hb with h | h
    · exact .inl (h ▸ mem_boolsOf)
    · exact .inr (h ▸ mem_boolsOf)
  have : chkB k s b = true := by
    match k, hk with
    | 0, _ => exact List.all_eq_true.mp (List.all_eq_true.mp chk0 s hs) b hm
    | 1, _ => exact List.all_eq_true.mp (List.all_eq_true.mp chk1 s hs) b hm
    | 2, _ => exact List.all_eq_true.mp (List.all_eq_true.mp chk2 s hs) b hm
    | 3, _ => exact List.all_eq_true.mp (List.all_eq_true.mp chk3 s hs) b hm
    | 4, _ => exact List.all_eq_true.mp (List.all_eq_true.mp chk4 s hs) b hm
  unfold chkB at this
  rw [Bool.and_eq_true, Bool.and_eq_true, beqL_eq, beqL_eq] at this
  exact ⟨eq_of_beq this.1.1, eq_of_beq this.1.2, Nat.le_of_ble_eq_true this.2⟩

/-! ### the first loop -/
noncomputable def txBody : SL := .cons (.asg 3 true (.comp (.call 8 (.cons (.var 2) (.cons (.var 0) .nil))) (.var 3) (.cst (.bool true)))) (.cons (.augI 3 (.var 4) .Add (.sub (.var 2) (.var 4))) .nil)

theorem tx_step {C : Orc} {R X5 X6 X7 X8 x4 : Sl} {k : Nat} {s0 s1 s2 l : Nat} {t0 t1 t2 : List Nat} (hl : l < 3)
    (h0 : C 8 [.int k, .str t0] = some (.str (esc k t0))) (h1 : C 8 [.int k, .str t1] = some (.str (esc k t1))) (h2 : C 8 [.int k, .str t2] = some (.str (esc k t2)))
    (b0 : (esc k t0).length ≤ 900000) (b1 : (esc k t1).length ≤ 900000) (b2 : (esc k t2).length ≤ 900000) :
    (match bindEach [R, .v (.int k), .v (signV [s0, s1, s2]), .o (.list [.str t0, .str t1, .str t2]), x4, X5, X6, X7, X8] [4] (.int (l : Int)) with | some ρ' => exs C txBody ρ' | Option.none => Option.none)
      = some (.nxt [R, .v (.int k), .v (signV [s0, s1, s2]), .o (.list [.str (esc k t0 ++ bitS s0 (Nat.beq l 0)), .str (esc k t1 ++ bitS s1 (Nat.beq l 1)), .str (esc k t2 ++ bitS s2 (Nat.beq l 2))]), .v (.int (l : Int)), X5, X6, X7, X8]) := by
  have e0 : bindEach [R, .v (.int k), .v (signV [s0, s1, s2]), .o (.list [.str t0, .str t1, .str t2]), x4, X5, X6, X7, X8] [4] (.int (l : Int)) = some [R, .v (.int k), .v (signV [s0, s1, s2]), .o (.list [.str t0, .str t1, .str t2]), .v (.int (l : Int)), X5, X6, X7, X8] := rfl
  rw [e0]
  dsimp only
  have e1 : ex C (.asg 3 true (.comp (.call 8 (.cons (.var 2) (.cons (.var 0) .nil))) (.var 3) (.cst (.bool true)))) [R, .v (.int k), .v (signV [s0, s1, s2]), .o (.list [.str t0, .str t1, .str t2]), .v (.int (l : Int)), X5, X6, X7, X8] = some (.nxt [R, .v (.int k), .v (signV [s0, s1, s2]), .o (.list [.str (esc k t0), .str (esc k t1), .str (esc k t2)]), .v (.int (l : Int)), X5, X6, X7, X8]) := by
    have e2 : ev C (.comp (.call 8 (.cons (.var 2) (.cons (.var 0) .nil))) (.var 3) (.cst (.bool true))) [R, .v (.int k), .v (signV [s0, s1, s2]), .o (.list [.str t0, .str t1, .str t2]), .v (.int (l : Int)), X5, X6, X7, X8] = some (.list [.str (esc k t0), .str (esc k t1), .str (esc k t2)]) := by
      simp [ev, evL, Sl.val, itemsOf, szOk, mapC, truth, h0, h1, h2]
    rw [ex, e2]
    rfl
  unfold txBody
  rw [exs_nxt e1]
  refine exs_one ?_
  have w0 : szOk ((esc k t0).length + 1) = true := szOk_of (by omega)
  have w1 : szOk ((esc k t1).length + 1) = true := szOk_of (by omega)
  have w2 : szOk ((esc k t2).length + 1) = true := szOk_of (by omega)
  match l, hl with
  | 0, _ => simp [ex, ev, Sl.val, getI, idx, szOk_of, signV, augop, w0, storeI, setAt, Nat.blt, bitS, Nat.beq]
  | 1, _ => simp [ex, ev, Sl.val, getI, idx, szOk_of, signV, augop, w1, storeI, setAt, Nat.blt, bitS, Nat.beq]
  | 2, _ => simp [ex, ev, Sl.val, getI, idx, szOk_of, signV, augop, w2, storeI, setAt, Nat.blt, bitS, Nat.beq]

theorem tx_loop {C : Orc} {R X5 X6 X7 X8 : Sl} {k : Nat} {s0 s1 s2 : Nat} (hw : ∀ t, t.length ≤ 10000 → C 8 [.int k, .str t] = some (.str (esc k t))) : ∀ (row : List Nat) {t0 t1 t2 : List Nat} {x4 : Sl}, (∀ x ∈ row, x < 3) →
    (t0.length + 1) * 7 ^ row.length ≤ 10000 → (t1.length + 1) * 7 ^ row.length ≤ 10000 → (t2.length + 1) * 7 ^ row.length ≤ 10000 →
    ∃ x4', forEach (fun ρ v => match bindEach ρ [4] v with | some ρ' => exs C txBody ρ' | Option.none => Option.none) (intsV row) [R, .v (.int k), .v (signV [s0, s1, s2]), .o (.list [.str t0, .str t1, .str t2]), x4, X5, X6, X7, X8]
      = some (.nxt [R, .v (.int k), .v (signV [s0, s1, s2]), .o (.list [.str (txB k s0 (bits 0 row) t0), .str (txB k s1 (bits 1 row) t1), .str (txB k s2 (bits 2 row) t2)]), x4', X5, X6, X7, X8])
  | [], t0, t1, t2, x4, _, _, _, _ => ⟨x4, rfl⟩
  | l :: row, t0, t1, t2, x4, hr, b0, b1, b2 => by
    have key : ∀ {t : List Nat}, (t.length + 1) * 7 ^ (row.length + 1) ≤ 10000 → t.length ≤ 10000 ∧ (esc k t).length ≤ 900000 := fun {t} h => by
      have h1 : 1 ≤ 7 ^ (row.length + 1) := Nat.one_le_pow _ _ (by omega)
      have h2 : (t.length + 1) * 1 ≤ (t.length + 1) * 7 ^ (row.length + 1) := Nat.mul_le_mul (Nat.le_refl _) h1
      have h3 := esc_len k t
      omega
    have nxt : ∀ {t : List Nat} {s : Nat} {b : Bool}, (t.length + 1) * 7 ^ (row.length + 1) ≤ 10000 → ((esc k t ++ bitS s b).length + 1) * 7 ^ row.length ≤ 10000 := fun {t s b} h => by
      have h3 := esc_len k t
      have h4 : (bitS s b).length ≤ 1 := by cases b <;> simp [bitS]
      rw [Nat.pow_succ] at h
      calc ((esc k t ++ bitS s b).length + 1) * 7 ^ row.length ≤ ((t.length + 1) * 7) * 7 ^ row.length := Nat.mul_le_mul (by rw [List.length_append]; omega) (Nat.le_refl _)
        _ = (t.length + 1) * (7 ^ row.length * 7) := by rw [Nat.mul_assoc, Nat.mul_comm 7]
        _ ≤ 10000 := h
    have e := tx_step (C := C) (R := R) (X5 := X5) (X6 := X6) (X7 := X7) (X8 := X8) (x4 := x4) (k := k) (s0 := s0) (s1 := s1) (s2 := s2) (l := l) (t0 := t0) (t1 := t1) (t2 := t2) (hr l (by simp)) (hw _ (key b0).1) (hw _ (key b1).1) (hw _ (key b2).1) (key b0).2 (key b1).2 (key b2).2
    obtain ⟨x', e'⟩ := tx_loop (R := R) (X5 := X5) (X6 := X6) (X7 := X7) (X8 := X8) (s0 := s0) (s1 := s1) (s2 := s2) hw row (t0 := esc k t0 ++ bitS s0 (Nat.beq l 0)) (t1 := esc k t1 ++ bitS s1 (Nat.beq l 1)) (t2 := esc k t2 ++ bitS s2 (Nat.beq l 2)) (x4 := .v (.int (l : Int))) (fun x hx => hr x (by simp [hx])) (nxt b0) (nxt b1) (nxt b2)
    refine ⟨x', ?_⟩
    show forEach _ (.int (l : Int) :: intsV row) _ = _
    unfold forEach
    rw [e]
    exact e'
end Mine
namespace Mine
open PySem

theorem mulL {a : List PV} {n : Nat} (hn : n ≤ 1000) (h : a.length * n ≤ 1000000) : binop .Mult (.list a) (.int n) = some (.list (rep a n)) := by
  simp only [binop]
  rw [if_pos (by rw [Bool.and_eq_true]; exact ⟨Nat.ble_eq_true_of_le (by simpa using hn), szOk_of (by simpa using h)⟩)]
  rfl

/-! ### rows -/
noncomputable def rowsN : Nat → List (List Nat)
  | 0 => [[]]
  | n + 1 => (rowsN n).flatMap fun r => [0 :: r, 1 :: r, 2 :: r]
theorem mem_rowsN : ∀ {r : List Nat}, (∀ x ∈ r, x < 3) → r ∈ rowsN r.length
  | [], _ => by simp [rowsN]
  | x :: r, h => by
    rw [List.length_cons, rowsN, List.mem_flatMap]
    have hx := h x (by simp)
    refine ⟨r, mem_rowsN fun y hy => h y (by simp [hy]), ?_⟩
    match x, hx with
    | 0, _ => simp
    | 1, _ => simp
    | 2, _ => simp
noncomputable def put1 (c : Nat) (r : List Nat) (a : Nat) : List Nat := match Nat.blt a r.length with
  | true => r.set a c
  | false => r
noncomputable def setAll (c : Nat) : List Nat → List Nat → List Nat
  | [], r => r
  | a :: l, r => setAll c l (put1 c r a)
noncomputable def threes : Nat → List Nat
  | 0 => []
  | n + 1 => 3 :: threes n
noncomputable def downs (n : Nat) : List Nat := (List.range n).reverse
noncomputable def filt (c : Nat) (r : List Nat) : List Nat → List Nat
  | [] => []
  | a :: l => match Nat.beq (r.getD a 9) c with
    | true => a :: filt c r l
    | false => filt c r l
noncomputable def chkRow (r : List Nat) : Bool := match r.reverse with
  | q => beqL (setAll 2 (agesB (bits 2 r)) (setAll 1 (agesB (bits 1 r)) (setAll 0 (agesB (bits 0 r)) (threes r.length)))) q && (beqL (filt 0 q (downs r.length)) (agesB (bits 0 r)) && (beqL (filt 1 q (downs r.length)) (agesB (bits 1 r)) && beqL (filt 2 q (downs r.length)) (agesB (bits 2 r))))
theorem rows_chk : ((rowsN 3 ++ rowsN 4).all chkRow) = true := by decide +kernel
structure RowOk (r : List Nat) : Prop where
  set : setAll 2 (agesB (bits 2 r)) (setAll 1 (agesB (bits 1 r)) (setAll 0 (agesB (bits 0 r)) (threes r.length))) = r.reverse
  filt : ∀ c, c < 3 → filt c r.reverse (downs r.length) = agesB (bits c r)
theorem row_ok {r : List Nat} (h : ∀ x ∈ r, x < 3) (hl : r.length = 3 ∨ r.length = 4) : RowOk r := by
  have hm : r ∈ rowsN 3 ++ rowsN 4 := by
    have := mem_rowsN h
    rcases hl with e | e <;> rw [e] at this
    · exact List.mem_append_left _ this
    · exact List.mem_append_right _ this
  have := List.all_eq_true.mp rows_chk r hm
  unfold chkRow at this
  simp only [Bool.and_eq_true, beqL_eq] at this
  obtain ⟨h0, h1, h2, h3⟩ := this
  refine ⟨eq_of_beq h0, fun c hc => ?_⟩
  match c, hc with
  | 0, _ => exact eq_of_beq h1
  | 1, _ => exact eq_of_beq h2
  | 2, _ => exact eq_of_beq h3
theorem dueB_flat (k s : Nat) : ∀ (b : List Bool), dueB k s b = (agesB b).flatMap fun a => spellF s a k
  | [] => rfl
  | true :: r => by unfold dueB agesB; rw [dueB_flat k s r, List.flatMap_cons]
  | false :: r => by unfold dueB agesB; rw [dueB_flat k s r]
theorem filt_eq (c : Nat) (r : List Nat) : ∀ (l : List Nat), filt c r l = l.filter fun a => Nat.beq (r.getD a 9) c
  | [] => rfl
  | a :: l => by
    unfold filt
    rw [List.filter_cons, filt_eq c r l]
    cases Nat.beq (r.getD a 9) c <;> rfl
theorem put1_len {c a : Nat} {r : List Nat} : (put1 c r a).length = r.length := by
  unfold put1
  cases Nat.blt a r.length <;> simp
theorem setAll_len {c : Nat} : ∀ {l r : List Nat}, (setAll c l r).length = r.length
  | [], _ => rfl
  | a :: l, r => by unfold setAll; rw [setAll_len, put1_len]
theorem threes_rep : ∀ {n : Nat}, rep [PV.int 3] n = (threes n).map fun (n : Nat) => PV.int n
  | 0 => rfl
  | n + 1 => by rw [rep, threes_rep]; rfl

/-! ### spelled -/
noncomputable def tailsV (k : Nat) : PV := .list ([PV.str [97, 109, 112, 59], PV.str [108, 116, 59], PV.str [103, 116, 59], PV.str [113, 117, 111, 116, 59]] ++
  (match Nat.beq k 1 with | true => [PV.str [35, 49, 51, 59], PV.str [35, 49, 48, 59], PV.str [35, 48, 57, 59]] | false => [PV.str [35, 120, 68, 59], PV.str [35, 120, 65, 59], PV.str [35, 120, 57, 59]]))
noncomputable def seven : List Nat := [38, 60, 62, 34, 13, 10, 9]
theorem xv_mth1 {C : Orc} {m : Mth} {o a : Mine.X} {ρ : Ρ} {x y r : PV} (h1 : ev C o ρ = some x) (h2 : ev C a ρ = some y) (h : mth m x [y] = some r) : ev C (.mth m o (.cons a .nil)) ρ = some r := by
  rw [ev, h1]; dsimp only; rw [evL1 h2]; exact h
theorem tails_ev {C : Orc} {k : Nat} (hk : k < 5) {S A : Sl} : ev C (.bin .Add (.lst (.cons (.cst (.str [97, 109, 112, 59])) (.cons (.cst (.str [108, 116, 59])) (.cons (.cst (.str [103, 116, 59])) (.cons (.cst (.str [113, 117, 111, 116, 59])) .nil))))) (.ite (.cmp .Eq (.var 2) (.cst (.int 1))) (.lst (.cons (.cst (.str [35, 49, 51, 59])) (.cons (.cst (.str [35, 49, 48, 59])) (.cons (.cst (.str [35, 48, 57, 59])) .nil)))) (.lst (.cons (.cst (.str [35, 120, 68, 59])) (.cons (.cst (.str [35, 120, 65, 59])) (.cons (.cst (.str [35, 120, 57, 59])) .nil)))))) [S, A, .v (.int (k : Nat)), .no] = some (tailsV k) := by
  match k, hk with
  | 0, _ => rfl
  | 1, _ => rfl
  | 2, _ => rfl
  | 3, _ => rfl
  | 4, _ => rfl
theorem tail_get {k s : Nat} (hk : k < 5) (h : s ∈ seven) : ∃ j, mth .index (.str seven) [.str [s]] = some (.int (j : Nat)) ∧ getI (tailsV k) (.int (j : Nat)) = some (.str (tailOf k s)) ∧ (tailOf k s).length ≤ 5 := by
  have go : ∀ s ∈ seven, ∃ j, mth .index (.str seven) [.str [s]] = some (.int (j : Nat)) ∧ getI (tailsV 0) (.int (j : Nat)) = some (.str (tailOf 0 s)) ∧ (tailOf 0 s).length ≤ 5 ∧ getI (tailsV 1) (.int (j : Nat)) = some (.str (tailOf 1 s)) ∧ (tailOf 1 s).length ≤ 5 := by
    intro s hs
    simp only [seven, List.mem_cons, List.not_mem_nil, or_false] at hs
    rcases hs with rfl | rfl | rfl | rfl | rfl | rfl | rfl
    · exact ⟨0, rfl, rfl, by decide, rfl, by decide⟩
    · exact ⟨1, rfl, rfl, by decide, rfl, by decide⟩
    · exact ⟨2, rfl, rfl, by decide, rfl, by decide⟩
    · exact ⟨3, rfl, rfl, by decide, rfl, by decide⟩
    · exact ⟨4, rfl, rfl, by decide, rfl, by decide⟩
    · exact ⟨5, rfl, rfl, by decide, rfl, by decide⟩
    · exact ⟨6, rfl, rfl, by decide, rfl, by decide⟩
  obtain ⟨j, h1, h2, h3, h4, h5⟩ := go s h
  match k, hk with
  | 0, _ => exact ⟨j, h1, h2, h3⟩
  | 1, _ => exact ⟨j, h1, h4, h5⟩
  | 2, _ => exact ⟨j, h1, h2, h3⟩
  | 3, _ => exact ⟨j, h1, h2, h3⟩
  | 4, _ => exact ⟨j, h1, h2, h3⟩

theorem spelled_run {C : Orc} {k s a : Nat} (hk : k < 5) (hs : s ∈ seven) (ha : a ≤ 100) : run C p_law_spelled [.str [s], .int a, .int k] = some (.str (spellF s a k)) := by
  refine run_of rfl ?_
  refine (exs_nxt (ρ' := [.v (.str [s]), .v (.int (a : Nat)), .v (.int (k : Nat)), .v (tailsV k)]) ?_).trans ?_
  · exact (xx_asg (tails_ev hk)).trans rfl
  refine exs_one (xx_ret ?_)
  have hc : ev C (.cmp .Gt (.var 1) (.cst (.int 0))) [.v (.str [s]), .v (.int (a : Nat)), .v (.int (k : Nat)), .v (tailsV k)] = some (.bool (decide ((0 : Int) < (a : Int)))) := xv_cmp rfl rfl rfl
  cases a with
  | zero => exact ev_iteF hc rfl
  | succ a =>
    have hd : decide ((0 : Int) < ((a + 1 : Nat) : Int)) = true := decide_eq_true (by omega)
    rw [hd] at hc
    obtain ⟨j, h1, h2, h3⟩ := tail_get hk hs
    have hsub : binop .Sub (.int ((a + 1 : Nat) : Int)) (.int 1) = some (.int (a : Nat)) := by
      simp only [binop, binI]
      congr 2; omega
    refine ev_iteT hc (xv_bin (xv_bin rfl (xv_bin rfl (xv_bin rfl rfl hsub) (mulS (by omega) (by simp; omega))) (addS ?_)) (xv_sub rfl (xv_mth1 rfl rfl h1) h2) ((addS ?_).trans ?_))
    · rw [rep_len]; simp; omega
    · rw [List.length_append, rep_len]; simp; omega
    · rfl
end Mine
namespace Mine
open PySem

noncomputable def setBody : SL := .cons (.ite (.cmp .Lt (.var 6) (.blt .len (.cons (.var 5) .nil))) (.cons (.setI 5 (.var 6) (.var 4)) .nil) .nil) .nil
noncomputable def colBody : SL := .cons (.fr [6] (.call 9 (.cons (.sub (.var 3) (.var 4)) (.cons (.sub (.var 2) (.var 4)) .nil))) setBody) .nil

theorem xx_setI {C : Orc} {i : Nat} {k e : Mine.X} {ρ : Ρ} {v kv c c' : PV} (h1 : ev C e ρ = some v) (h2 : ev C k ρ = some kv) (h3 : (dropFor ρ e v)[i]? = some (.o c)) (h4 : storeI c kv v = some c') : ex C (.setI i k e) ρ = (setAt (dropFor ρ e v) i (.o c')).map .nxt := by
  rw [ex, h1]; dsimp only; rw [h2]; dsimp only; rw [h3]; dsimp only; rw [h4]
theorem store_nat {r : List Nat} {a c : Nat} (h : a < r.length) (hr : r.length ≤ 1000000) : storeI (natsV r) (.int (a : Nat)) (.int (c : Nat)) = some (natsV (r.set a c)) := by
  show (if (szOk (r.map fun (n : Nat) => PV.int n).length && (decide (0 ≤ (a : Int)) && decide ((a : Int) < (r.map fun (n : Nat) => PV.int n).length))) = true then some (PV.list ((r.map fun (n : Nat) => PV.int n).set (a : Int).toNat (.int (c : Nat)))) else none) = _
  rw [if_pos]
  · unfold natsV; rw [List.map_set]; rfl
  · rw [Bool.and_eq_true, Bool.and_eq_true]
    exact ⟨szOk_of (by rw [List.length_map]; exact hr), decide_eq_true (by omega), decide_eq_true (by rw [List.length_map]; omega)⟩

section
variable {C : Orc} {x0 x1 x2 x3 x7 x8 : Sl}
theorem set_step {c a : Nat} {r : List Nat} (hr : r.length ≤ 1000) {x6 : Sl} : fstep C [6] setBody [x0, x1, x2, x3, .v (.int (c : Nat)), .o (natsV r), x6, x7, x8] (.int (a : Nat)) = some (.nxt [x0, x1, x2, x3, .v (.int (c : Nat)), .o (natsV (put1 c r a)), .v (.int (a : Nat)), x7, x8]) := by
  have e0 : bindEach [x0, x1, x2, x3, .v (.int (c : Nat)), .o (natsV r), x6, x7, x8] [6] (.int (a : Nat)) = some [x0, x1, x2, x3, .v (.int (c : Nat)), .o (natsV r), .v (.int (a : Nat)), x7, x8] := rfl
  rw [fstep_of e0]
  have hc : ev C (.cmp .Lt (.var 6) (.blt .len (.cons (.var 5) .nil))) [x0, x1, x2, x3, .v (.int (c : Nat)), .o (natsV r), .v (.int (a : Nat)), x7, x8] = some (.bool (decide ((a : Int) < ((r.map fun (n : Nat) => PV.int n).length : Int)))) :=
    xv_cmp rfl (ev_blt1 rfl (lenL (by rw [List.length_map]; omega))) rfl
  unfold setBody put1
  refine exs_one (r := .nxt _) ?_
  cases hb : Nat.blt a r.length with
  | true =>
    have hlt : a < r.length := Nat.le_of_ble_eq_true hb
    rw [decide_eq_true (by rw [List.length_map]; omega)] at hc
    refine (ex_iteT hc).trans (exs_one (r := .nxt _) ((xx_setI (v := .int (c : Nat)) (kv := .int (a : Nat)) rfl rfl rfl (store_nat hlt (by omega))).trans rfl))
  | false =>
    have hge : ¬ a < r.length := fun h => by
      have : Nat.blt a r.length = true := Nat.ble_eq_true_of_le h
      rw [this] at hb; cases hb
    rw [decide_eq_false (by rw [List.length_map]; omega)] at hc
    exact (ex_iteF hc).trans rfl

theorem set_loop {c : Nat} : ∀ (l : List Nat) {r : List Nat} {x6 : Sl}, r.length ≤ 1000 → ∃ y6, forEach (fstep C [6] setBody) (l.map fun (n : Nat) => PV.int n) [x0, x1, x2, x3, .v (.int (c : Nat)), .o (natsV r), x6, x7, x8] = some (.nxt [x0, x1, x2, x3, .v (.int (c : Nat)), .o (natsV (setAll c l r)), y6, x7, x8])
  | [], r, x6, _ => ⟨x6, rfl⟩
  | a :: l, r, x6, hr => by
    obtain ⟨y6, e⟩ := set_loop l (r := put1 c r a) (x6 := .v (.int (a : Nat))) (by rw [put1_len]; exact hr)
    exact ⟨y6, (forEach_nxt (set_step hr)).trans e⟩
end

theorem col_step {C : Orc} {x0 x1 x4 x6 x7 x8 : Sl} {x3 : Sl} {t0 t1 t2 : List Nat} {s0 s1 s2 c : Nat} (hc : c < 3) {r : List Nat} (hr : r.length ≤ 1000) {ages : Nat → List Nat} (hx3 : x3.val = some (.list [.str t0, .str t1, .str t2]))
    (h0 : C 9 [.str t0, .str [s0]] = some (natsV (ages 0))) (h1 : C 9 [.str t1, .str [s1]] = some (natsV (ages 1))) (h2 : C 9 [.str t2, .str [s2]] = some (natsV (ages 2))) (hl : ∀ c, (ages c).length ≤ 1000) :
    ∃ y6, fstep C [4] colBody [x0, x1, .v (signV [s0, s1, s2]), x3, x4, .o (natsV r), x6, x7, x8] (.int (c : Nat)) = some (.nxt [x0, x1, .v (signV [s0, s1, s2]), x3.drop, .v (.int (c : Nat)), .o (natsV (setAll c (ages c) r)), y6, x7, x8]) := by
  have e0 : bindEach [x0, x1, .v (signV [s0, s1, s2]), x3, x4, .o (natsV r), x6, x7, x8] [4] (.int (c : Nat)) = some [x0, x1, .v (signV [s0, s1, s2]), x3, .v (.int (c : Nat)), .o (natsV r), x6, x7, x8] := rfl
  rw [fstep_of e0]
  obtain ⟨y6, e⟩ := set_loop (C := C) (x0 := x0) (x1 := x1) (x2 := .v (signV [s0, s1, s2])) (x3 := x3.drop) (x7 := x7) (x8 := x8) (c := c) (ages c) (r := r) (x6 := x6) hr
  refine ⟨y6, ?_⟩
  unfold colBody
  refine exs_one (r := .nxt _) ?_
  have hv : ev C (.var 3) [x0, x1, .v (signV [s0, s1, s2]), x3, .v (.int (c : Nat)), .o (natsV r), x6, x7, x8] = some (.list [.str t0, .str t1, .str t2]) := hx3
  have hcall : ev C (.call 9 (.cons (.sub (.var 3) (.var 4)) (.cons (.sub (.var 2) (.var 4)) .nil))) [x0, x1, .v (signV [s0, s1, s2]), x3, .v (.int (c : Nat)), .o (natsV r), x6, x7, x8] = some (natsV (ages c)) := by
    match c, hc with
    | 0, _ => exact xv_call (evL2 (xv_sub hv rfl rfl) (xv_sub rfl rfl rfl)) h0
    | 1, _ => exact xv_call (evL2 (xv_sub hv rfl rfl) (xv_sub rfl rfl rfl)) h1
    | 2, _ => exact xv_call (evL2 (xv_sub hv rfl rfl) (xv_sub rfl rfl rfl)) h2
  exact (xx_for hcall (itemsL (by rw [List.length_map]; have := hl c; omega))).trans e

/-! ### what is due -/
theorem strsOf_map {f : Nat → List Nat} : ∀ {l : List Nat}, strsOf (l.map fun x => PV.str (f x)) = some (l.map f)
  | [] => rfl
  | x :: r => by rw [List.map_cons, strsOf, strsOf_map]; rfl
theorem join_ok {l : List Nat} {f : Nat → List Nat} (h : (l.flatMap f).length ≤ 1000000) : mth .join (.str []) [.list (l.map fun x => PV.str (f x))] = some (.str (l.flatMap f)) := by
  show obind (strsOf (l.map fun x => PV.str (f x))) (fun ss => ifz (szOk ss.flatten.length) (some (PV.str ss.flatten))) = _
  rw [strsOf_map]
  show ifz (szOk (l.map f).flatten.length) (some (PV.str (l.map f).flatten)) = _
  rw [← List.flatMap_def, szOk_of h]; rfl
noncomputable def ageIs (c : Nat) (q : List Nat) : PV → Bool
  | .int (.ofNat a) => Nat.beq (q.getD a 9) c
  | _ => false
noncomputable def ageG (s k : Nat) : PV → PV
  | .int (.ofNat a) => .str (spellF s a k)
  | _ => .none

theorem nats_get {l : List Nat} {i : Nat} (hi : i < l.length) (h : l.length ≤ 1000000) (d : Nat) : getI (natsV l) (.int (i : Nat)) = some (.int ((l.getD i d : Nat) : Int)) := by
  refine getN (by rw [List.length_map]; exact h) ?_
  rw [List.getElem?_map, List.getD_eq_getElem?_getD, List.getElem?_eq_getElem hi]; rfl

theorem due_ev {C : Orc} {x0 x3 x4 x6 x8 : Sl} {k n c : Nat} {s0 s1 s2 : Nat} {q : List Nat} (hc : c < 3) (hq : q.length = n) (hn : n ≤ 100) (h10 : ∀ s ∈ [s0, s1, s2], ∀ a, a ≤ 100 → C 10 [.str [s], .int (a : Nat), .int k] = some (.str (spellF s a k))) (hsz : ((filt c q (downs n)).flatMap fun a => spellF ([s0, s1, s2].getD c 0) a k).length ≤ 1000000) :
    ev C (.mth .join (.cst (.str [])) (.cons (.comp (.call 10 (.cons (.sub (.var 4) (.var 1)) (.cons (.var 0) (.cons (.var 3) .nil)))) (.var 8) (.cmp .Eq (.sub (.var 7) (.var 0)) (.var 1))) .nil)) (.v (.int (c : Nat)) :: [x0, .v (.int (k : Nat)), .v (signV [s0, s1, s2]), x3, x4, .o (natsV q), x6, .v (natsV (downs n)), x8])
      = some (.str ((filt c q (downs n)).flatMap fun a => spellF ([s0, s1, s2].getD c 0) a k)) := by
  have hm : ∀ v ∈ (downs n).map (fun (a : Nat) => PV.int a), ∃ a, a < n ∧ v = .int (a : Nat) := fun v hv => by
    obtain ⟨a, ha, rfl⟩ := List.mem_map.mp hv
    unfold downs at ha
    rw [List.mem_reverse, List.mem_range] at ha
    exact ⟨a, ha, rfl⟩
  have hs : getI (signV [s0, s1, s2]) (.int (c : Nat)) = some (.str [[s0, s1, s2].getD c 0]) ∧ [s0, s1, s2].getD c 0 ∈ [s0, s1, s2] := by
    match c, hc with
    | 0, _ => exact ⟨rfl, by simp⟩
    | 1, _ => exact ⟨rfl, by simp⟩
    | 2, _ => exact ⟨rfl, by simp⟩
  generalize [s0, s1, s2].getD c 0 = s at hs hsz ⊢
  have e := ev_comp_if (C := C) (elt := .call 10 (.cons (.sub (.var 4) (.var 1)) (.cons (.var 0) (.cons (.var 3) .nil)))) (iter := .var 8) (cond := .cmp .Eq (.sub (.var 7) (.var 0)) (.var 1)) (ρ := .v (.int (c : Nat)) :: [x0, .v (.int (k : Nat)), .v (signV [s0, s1, s2]), x3, x4, .o (natsV q), x6, .v (natsV (downs n)), x8])
    (x := natsV (downs n)) (items := (downs n).map fun (a : Nat) => PV.int a) (p := ageIs c q) (g := ageG s k) rfl (itemsL (by unfold downs; simp; omega))
    (fun v hv => by
      obtain ⟨a, ha, rfl⟩ := hm v hv
      exact xv_cmp (xv_sub rfl rfl (nats_get (by omega) (by omega) 9)) rfl (eqN _ _))
    (fun v hv _ => by
      obtain ⟨a, ha, rfl⟩ := hm v hv
      exact xv_call (evL3 (xv_sub rfl rfl hs.1) rfl rfl) (h10 s hs.2 a (by omega)))
  refine xv_mth1 rfl e ?_
  rw [List.filter_map, List.map_map]
  have : ((downs n).filter (ageIs c q ∘ fun (a : Nat) => PV.int a)) = filt c q (downs n) := by rw [filt_eq]; rfl
  rw [this]
  exact join_ok (f := fun a => spellF s a k) hsz
end Mine
namespace Mine
open PySem

theorem eq_strs3 {a b c : List Nat} : cmpop .Eq (.list [.str a, .str b, .str c]) (.list [.str a, .str b, .str c]) = some true := by
  show (if [PV.str a, .str b, .str c].length == [PV.str a, .str b, .str c].length then pyEqs (pyEqN 7) [.str a, .str b, .str c] [.str a, .str b, .str c] else some false) = some true
  refine (if_pos rfl).trans ?_
  have e : ∀ x : List Nat, pyEqN 7 (.str x) (.str x) = some true := fun x => by
    show some (x == x) = _
    rw [beq_self_eq_true]
  rw [pyEqs, e]
  dsimp only
  rw [pyEqs, e]
  dsimp only
  rw [pyEqs, e]
  rfl

theorem bits_len {c : Nat} {row : List Nat} : (bits c row).length = row.length := by unfold bits; simp
theorem texts_run {C : Orc} {k s0 s1 s2 : Nat} {row : List Nat} (hk : k < 5) (hs0 : s0 ∈ signsOf k) (hs1 : s1 ∈ signsOf k) (hs2 : s2 ∈ signsOf k) (hr : ∀ x ∈ row, x < 3) (hl : row.length = 3 ∨ row.length = 4)
    (h8 : ∀ t, t.length ≤ 10000 → C 8 [.int k, .str t] = some (.str (esc k t))) (h9 : ∀ t s, t.length < 1000 → C 9 [.str t, .str [s]] = some (natsV (agesF s t)))
    (h10 : ∀ s ∈ [s0, s1, s2], ∀ a, a ≤ 100 → C 10 [.str [s], .int (a : Nat), .int k] = some (.str (spellF s a k))) :
    run C p_law_texts [natsV row, .int k, signV [s0, s1, s2]] = some (natsV row.reverse) := by
  have hn : row.length ≤ 4 := by omega
  obtain ⟨a0, d0, z0⟩ := chk_all (b := bits 0 row) hk hs0 (by rw [bits_len]; exact hl)
  obtain ⟨a1, d1, z1⟩ := chk_all (b := bits 1 row) hk hs1 (by rw [bits_len]; exact hl)
  obtain ⟨a2, d2, z2⟩ := chk_all (b := bits 2 row) hk hs2 (by rw [bits_len]; exact hl)
  have ok := row_ok hr hl
  obtain ⟨x4, e1⟩ := tx_loop (C := C) (R := .v (natsV row)) (X5 := .no) (X6 := .no) (X7 := .no) (X8 := .no) (s0 := s0) (s1 := s1) (s2 := s2) h8 row (t0 := []) (t1 := []) (t2 := []) (x4 := .no) hr
    (by rcases hl with e | e <;> rw [e] <;> decide) (by rcases hl with e | e <;> rw [e] <;> decide) (by rcases hl with e | e <;> rw [e] <;> decide)
  generalize hT0 : txB k s0 (bits 0 row) [] = T0 at *
  generalize hT1 : txB k s1 (bits 1 row) [] = T1 at *
  generalize hT2 : txB k s2 (bits 2 row) [] = T2 at *
  refine run_of rfl ?_
  refine (exs_nxt (ρ' := [.v (natsV row), .v (.int (k : Nat)), .v (signV [s0, s1, s2]), .o (.list [.str [], .str [], .str []]), .no, .no, .no, .no, .no]) ?_).trans ?_
  · exact (xx_asg (v := .list [.str [], .str [], .str []]) rfl).trans rfl
  refine (exs_nxt (ρ' := [.v (natsV row), .v (.int (k : Nat)), .v (signV [s0, s1, s2]), .o (.list [.str T0, .str T1, .str T2]), x4, .no, .no, .no, .no]) ?_).trans ?_
  · exact (xx_for (b := txBody) (x := natsV row) (items := intsV row) rfl (itemsL (by rw [List.length_map]; omega))).trans e1
  refine (exs_nxt (ρ' := [.v (natsV row), .v (.int (k : Nat)), .v (signV [s0, s1, s2]), .o (.list [.str T0, .str T1, .str T2]), x4, .o (natsV (threes row.length)), .no, .no, .no]) ?_).trans ?_
  · refine (xx_asg (v := natsV (threes row.length)) (xv_bin (x := .list [.int 3]) (y := .int (row.length : Nat)) rfl (ev_blt1 rfl ((lenL (by rw [List.length_map]; omega)).trans (by rw [List.length_map]))) ((mulL (by omega) (by simp; omega)).trans ?_))).trans rfl
    rw [threes_rep]; rfl
  have tl : (threes row.length).length = row.length := by
    have := congrArg List.length (threes_rep (n := row.length))
    rw [rep_len, List.length_map] at this
    simp at this; omega
  have g9 : ∀ {t s : _} {b : List Bool}, t.length < 1000 → agesF s t = agesB b → C 9 [.str t, .str [s]] = some (natsV (agesB b)) := fun h e => by rw [h9 _ _ h, e]
  have al : ∀ c, (agesB (bits c row)).length ≤ 1000 := fun c => by
    have : ∀ b : List Bool, (agesB b).length ≤ b.length := fun b => by
      induction b with
      | nil => exact Nat.le_refl _
      | cons x r ih => cases x <;> simp [agesB] <;> omega
    have h1 := this (bits c row)
    rw [bits_len] at h1; omega
  obtain ⟨y6, c0⟩ := col_step (C := C) (x0 := .v (natsV row)) (x1 := .v (.int (k : Nat))) (x4 := x4) (x6 := .no) (x7 := .no) (x8 := .no) (x3 := .o (.list [.str T0, .str T1, .str T2])) (t0 := T0) (t1 := T1) (t2 := T2) (s0 := s0) (s1 := s1) (s2 := s2) (c := 0) (by omega) (r := threes row.length) (by omega) (ages := fun c => agesB (bits c row)) rfl (g9 z0 a0) (g9 z1 a1) (g9 z2 a2) al
  obtain ⟨y6', c1⟩ := col_step (C := C) (x0 := .v (natsV row)) (x1 := .v (.int (k : Nat))) (x4 := .v (.int ((0 : Nat) : Int))) (x6 := y6) (x7 := .no) (x8 := .no) (x3 := .v (.list [.str T0, .str T1, .str T2])) (t0 := T0) (t1 := T1) (t2 := T2) (s0 := s0) (s1 := s1) (s2 := s2) (c := 1) (by omega) (r := setAll 0 (agesB (bits 0 row)) (threes row.length)) (by rw [setAll_len]; omega) (ages := fun c => agesB (bits c row)) rfl (g9 z0 a0) (g9 z1 a1) (g9 z2 a2) al
  obtain ⟨y6'', c2⟩ := col_step (C := C) (x0 := .v (natsV row)) (x1 := .v (.int (k : Nat))) (x4 := .v (.int ((1 : Nat) : Int))) (x6 := y6') (x7 := .no) (x8 := .no) (x3 := .v (.list [.str T0, .str T1, .str T2])) (t0 := T0) (t1 := T1) (t2 := T2) (s0 := s0) (s1 := s1) (s2 := s2) (c := 2) (by omega) (r := setAll 1 (agesB (bits 1 row)) (setAll 0 (agesB (bits 0 row)) (threes row.length))) (by rw [setAll_len, setAll_len]; omega) (ages := fun c => agesB (bits c row)) rfl (g9 z0 a0) (g9 z1 a1) (g9 z2 a2) al
  rw [ok.set] at c2
  have rl : row.reverse.length = row.length := List.length_reverse
  refine (exs_nxt (ρ' := [.v (natsV row), .v (.int (k : Nat)), .v (signV [s0, s1, s2]), .v (.list [.str T0, .str T1, .str T2]), .v (.int ((2 : Nat) : Int)), .o (natsV row.reverse), y6'', .no, .no]) ?_).trans ?_
  · exact (xx_for (b := colBody) (x := .rng 3) (items := [.int ((0 : Nat) : Int), .int ((1 : Nat) : Int), .int ((2 : Nat) : Int)]) rfl rfl).trans (forEach3 c0 c1 c2)
  refine (exs_nxt (ρ' := [.v (natsV row), .v (.int (k : Nat)), .v (signV [s0, s1, s2]), .v (.list [.str T0, .str T1, .str T2]), .v (.int ((2 : Nat) : Int)), .o (natsV row.reverse), y6'', .v (natsV (downs row.length)), .no]) ?_).trans ?_
  · refine (xx_asg (v := natsV (downs row.length)) (xv_slc (ev_blt1 (x := .rng (row.length : Int)) (r := natsV (List.range row.length)) (ev_blt1 (ev_blt1 rfl ((lenL (by rw [List.length_map]; omega)).trans (by rw [List.length_map, rl]))) (rng_nat (by omega))) ?_) rfl rfl rfl ?_)).trans rfl
    · show ifz (Nat.ble (row.length : Int).natAbs 100000) _ = _
      rw [show Nat.ble (row.length : Int).natAbs 100000 = true from Nat.ble_eq_true_of_le (by simp; omega)]; rfl
    · show (if szOk ((List.range row.length).map fun (n : Nat) => PV.int n).length = true then (sliceL ((List.range row.length).map fun (n : Nat) => PV.int n) .none .none (.int (-1))).map PV.list else none) = _
      rw [if_pos (szOk_of (by simp; omega))]
      show some (PV.list ((List.range row.length).map fun (n : Nat) => PV.int n).reverse) = _
      rw [← List.map_reverse]; rfl
  have due : ∀ c s T, c < 3 → [s0, s1, s2].getD c 0 = s → T = dueB k s (bits c row) → T.length < 1000 → ev C (.mth .join (.cst (.str [])) (.cons (.comp (.call 10 (.cons (.sub (.var 4) (.var 1)) (.cons (.var 0) (.cons (.var 3) .nil)))) (.var 8) (.cmp .Eq (.sub (.var 7) (.var 0)) (.var 1))) .nil)) (.v (.int (c : Nat)) :: [.v (natsV row), .v (.int (k : Nat)), .v (signV [s0, s1, s2]), .v (.list [.str T0, .str T1, .str T2]), .v (.int ((2 : Nat) : Int)), .o (natsV row.reverse), y6'', .v (natsV (downs row.length)), .no]) = some (.str T) := fun c s T hc hs hT hz => by
    have ef : ((filt c row.reverse (downs row.length)).flatMap fun a => spellF ([s0, s1, s2].getD c 0) a k) = T := by rw [ok.filt c hc, hs, hT, dueB_flat]
    have := due_ev (C := C) (x0 := .v (natsV row)) (x3 := .v (.list [.str T0, .str T1, .str T2])) (x4 := .v (.int ((2 : Nat) : Int))) (x6 := y6'') (x8 := .no) hc rl (by omega) h10 (by rw [ef]; omega)
    rw [ef] at this
    exact this
  refine (exs_nxt (ρ' := [.v (natsV row), .v (.int (k : Nat)), .v (signV [s0, s1, s2]), .v (.list [.str T0, .str T1, .str T2]), .v (.int ((2 : Nat) : Int)), .o (natsV row.reverse), y6'', .v (natsV (downs row.length)), .o (.list [.str T0, .str T1, .str T2])]) ?_).trans ?_
  · exact (xx_asg (ev_comp3 (due 0 s0 T0 (by omega) rfl d0 z0) (due 1 s1 T1 (by omega) rfl d1 z1) (due 2 s2 T2 (by omega) rfl d2 z2))).trans rfl
  exact exs_one (xx_ret (ev_iteT (xv_cmp rfl rfl eq_strs3) rfl))
end Mine
namespace Mine
open PySem

noncomputable def p_tab : List (Str × Option Fn) := [(Str.ofString "rgb_to_hsv", some p_rgb_to_hsv), (Str.ofString "hsv_to_rgb", some p_hsv_to_rgb), (Str.ofString "_raise_serialization_error", none), (Str.ofString "_escape_cdata", some p_escape_cdata), (Str.ofString "_escape_attrib", some p_escape_attrib), (Str.ofString "_escape_attrib_html", some p_escape_attrib_html), (Str.ofString "_escape_cdata_c14n", some p_escape_cdata_c14n), (Str.ofString "_escape_attrib_c14n", some p_escape_attrib_c14n), (Str.ofString "_law_written", some p_law_written), (Str.ofString "_law_ages", some p_law_ages), (Str.ofString "_law_spelled", some p_law_spelled), (Str.ofString "_law_texts", some p_law_texts), (Str.ofString "_law_paint", some p_law_paint), (Str.ofString "_law_mixes", some p_law_mixes), (Str.ofString "_law_peeled", some p_law_peeled), (Str.ofString "_law_steps", some p_law_steps), (Str.ofString "_law_ways", some p_law_ways), (Str.ofString "_law_across", some p_law_across), (Str.ofString "law", some p_law), ]
noncomputable def fs3 : Lv := [some (1, p_rgb_to_hsv), some (1, p_hsv_to_rgb), none, some (1, p_escape_cdata), some (1, p_escape_attrib), some (1, p_escape_attrib_html), some (1, p_escape_cdata_c14n), some (1, p_escape_attrib_c14n), some (2, p_law_written), some (1, p_law_ages), some (1, p_law_spelled), some (3, p_law_texts), some (2, p_law_paint), some (3, p_law_mixes), some (3, p_law_peeled), some (1, p_law_steps), some (2, p_law_ways), some (4, p_law_across), some (5, p_law)]

abbrev N3 := Nat × Nat × Nat
noncomputable def f16 : Nat → UInt64
  | 0 => 0
  | 1 => 4589168020290535424
  | 2 => 4593671619917905920
  | 3 => 4595923419731591168
  | 4 => 4598175219545276416
  | 5 => 4599301119452119040
  | 6 => 4600427019358961664
  | 7 => 4601552919265804288
  | 8 => 4602678819172646912
  | 9 => 4603241769126068224
  | 10 => 4603804719079489536
  | 11 => 4604367669032910848
  | 12 => 4604930618986332160
  | 13 => 4605493568939753472
  | 14 => 4606056518893174784
  | 15 => 4606619468846596096
  | _ => 4607182418800017408
noncomputable def sx (n : Nat) : PV := .flt (f16 n)
noncomputable def isN (d c : Nat) : Nat := match Nat.beq d c with | true => 16 | false => 0
noncomputable def mixV (s : N3) : PV := .list [sx s.1, sx s.2.1, sx s.2.2]
noncomputable def paintV (l : Nat) : PV := .tup [sx (isN l 0), sx (isN l 1), sx (isN l 2)]
/-- one layer more -/
noncomputable def lay (s : N3) (l : Nat) : N3 := ((s.1 + isN l 0) / 2, (s.2.1 + isN l 1) / 2, (s.2.2 + isN l 2) / 2)
noncomputable def mixOf (r : List Nat) : N3 := r.foldl lay (0, 0, 0)

noncomputable def rngOf : Nat → List Nat
  | 0 => []
  | n + 1 => n :: rngOf n
theorem paint_all : [0, 1, 2].map (fun (l : Nat) => obind (binop .Div (.int l) (.int 3)) fun h => run (lvl fs3 0) p_hsv_to_rgb [h, .flt 4607182418800017408, .flt 4607182418800017408]) = [0, 1, 2].map fun l => some (paintV l) := by kernel_rfl
theorem half_all : (rngOf 8).map (fun m => [0, 16].map fun p => obind (binop .Add (sx (2 * m)) (sx p)) fun x => binop .Div x (.int 2)) = (rngOf 8).map fun m => [0, 16].map fun p => some (sx (m + p / 2)) := by kernel_rfl
noncomputable def as3 : PV → Option (PV × PV × PV)
  | .tup [a, b, c] => some (a, b, c)
  | _ => none
noncomputable def half : PV := .flt 4602678819172646912
noncomputable def upF (n : Nat) (x : PV) : Option PV := obind (binop .Pow (.int 2) (.int n)) fun q => obind (binop .Mult q x) fun y => obind (binop .Add y half) fun z => blt .int [z]
noncomputable def dnF (n : Nat) (x : PV) : Option PV := obind (binop .Pow (.int 2) (.int n)) fun q => obind (binop .Mult q x) fun y => blt .int [y]
noncomputable def layF (h : PV) : Option PV := obind (binop .Mult (.int 3) h) fun y => obind (binop .Add y half) fun z => obind (blt .int [z]) fun i => binop .Mod i (.int 3)
noncomputable def telF (n : Nat) (s : N3) : Option PV := obind (run (lvl fs3 0) p_rgb_to_hsv [sx s.1, sx s.2.1, sx s.2.2]) fun r => obind (as3 r) fun h => obind (run (lvl fs3 0) p_hsv_to_rgb [h.1, h.2.1, h.2.2]) fun k => obind (as3 k) fun b =>
  obind (upF n b.1) fun i => obind (upF n b.2.1) fun j => obind (upF n b.2.2) fun k => obind (layF h.1) fun l => some (.list [i, j, k, l])
noncomputable def telV (q : Nat) (r : List Nat) : PV := match mixOf r with
  | s => .list [.int ((s.1 / q : Nat) : Int), .int ((s.2.1 / q : Nat) : Int), .int ((s.2.2 / q : Nat) : Int), .int ((r.getLastD 0 : Nat) : Int)]
theorem tel_a : (rowsN 1 ++ rowsN 2).map (fun r => (telF 3 (mixOf r), telF 4 (mixOf r))) = (rowsN 1 ++ rowsN 2).map fun r => (some (telV 2 r), some (telV 1 r)) := by kernel_rfl
theorem tel_b : (rowsN 3).map (fun r => (telF 3 (mixOf r), telF 4 (mixOf r))) = (rowsN 3).map fun r => (some (telV 2 r), some (telV 1 r)) := by kernel_rfl
theorem tel_0 : (rowsN 3).map (fun r => telF 4 (mixOf (0 :: r))) = (rowsN 3).map fun r => some (telV 1 (0 :: r)) := by kernel_rfl
theorem tel_1 : (rowsN 3).map (fun r => telF 4 (mixOf (1 :: r))) = (rowsN 3).map fun r => some (telV 1 (1 :: r)) := by kernel_rfl
theorem tel_2 : (rowsN 3).map (fun r => telF 4 (mixOf (2 :: r))) = (rowsN 3).map fun r => some (telV 1 (2 :: r)) := by kernel_rfl
theorem dn4 : (rngOf 16).map (fun m => dnF 4 (sx m)) = (rngOf 16).map fun m => some (.int (m : Nat)) := by kernel_rfl
theorem dn3 : (rngOf 8).map (fun m => dnF 3 (sx (2 * m))) = (rngOf 8).map fun m => some (.int (m : Nat)) := by kernel_rfl
theorem dbl_all : (rngOf 8).map (fun m => [0, 16].map fun p => obind (binop .Mult (.int 2) (sx (m + p / 2))) fun x => binop .Sub x (sx p)) = (rngOf 8).map fun m => [0, 16].map fun _ => some (sx (2 * m)) := by kernel_rfl
theorem black_all : obind (run (lvl fs3 0) p_rgb_to_hsv [sx 0, sx 0, sx 0]) (fun r => obind (cmpop .Eq r (.tup [.flt 0, .flt 0, .flt 0])) fun b => some (PV.bool b)) = some (.bool true) := by kernel_rfl
end Mine
namespace Mine
open PySem

noncomputable def allL (f : Nat → Bool) : List Nat → Bool
  | [] => true
  | k :: r => match f k with | true => allL f r | false => false
theorem allL_at {f : Nat → Bool} : ∀ {l : List Nat}, allL f l = true → ∀ x ∈ l, f x = true
  | y :: r, h, x, hx => by
    unfold allL at h
    cases e : f y with
    | false => rw [e] at h; cases h
    | true =>
      rw [e] at h
      rcases List.mem_cons.mp hx with rfl | hx
      · exact e
      · exact allL_at h x hx
theorem mem_rngOf : ∀ {n m : Nat}, m < n → m ∈ rngOf n
  | n + 1, m, h => by
    unfold rngOf
    rcases Nat.lt_or_ge m n with h' | h'
    · exact List.mem_cons_of_mem _ (mem_rngOf h')
    · have : m = n := by omega
      subst this; exact List.mem_cons_self ..
theorem paint_at {l : Nat} (h : l < 3) : ∃ q, binop .Div (.int l) (.int 3) = some q ∧ run (lvl fs3 0) p_hsv_to_rgb [q, .flt 4607182418800017408, .flt 4607182418800017408] = some (paintV l) := by
  have := List.map_inj_left.mp paint_all l (by simp; omega)
  exact obind_inv this
theorem paint_run {C : Orc} (h1 : ∀ args, C 1 args = run (lvl fs3 0) p_hsv_to_rgb args) {l : Nat} (h : l < 3) : run C p_law_paint [.int l] = some (paintV l) := by
  obtain ⟨q, e1, e2⟩ := paint_at h
  exact run_of rfl (exs_one (xx_ret (xv_call (evL3 (xv_bin rfl rfl e1) rfl rfl) ((h1 _).trans e2))))

theorem isN_01 (l c : Nat) : isN l c = 0 ∨ isN l c = 16 := by
  unfold isN
  cases Nat.beq l c with
  | true => exact .inr rfl
  | false => exact .inl rfl
theorem half_at {m p : Nat} (hm : m < 16) (he : m % 2 = 0) (hp : p = 0 ∨ p = 16) : ∃ x, binop .Add (sx m) (sx p) = some x ∧ binop .Div x (.int 2) = some (sx ((m + p) / 2)) := by
  have h1 := List.map_inj_left.mp half_all (m / 2) (mem_rngOf (by omega))
  have h2 := List.map_inj_left.mp h1 p (by simp; omega)
  rw [show 2 * (m / 2) = m by omega, show m / 2 + p / 2 = (m + p) / 2 by omega] at h2
  exact obind_inv h2
theorem dbl_at {m p : Nat} (hm : m < 16) (he : m % 2 = 0) (hp : p = 0 ∨ p = 16) : ∃ x, binop .Mult (.int 2) (sx ((m + p) / 2)) = some x ∧ binop .Sub x (sx p) = some (sx m) := by
  have h1 := List.map_inj_left.mp dbl_all (m / 2) (mem_rngOf (by omega))
  have h2 := List.map_inj_left.mp h1 p (by simp; omega)
  rw [show m / 2 + p / 2 = (m + p) / 2 by omega, show 2 * (m / 2) = m by omega] at h2
  exact obind_inv h2

/-- a mix with r halvings left -/
def Mx (r : Nat) (s : N3) : Prop := (s.1 < 16 ∧ s.1 % 2 ^ r = 0) ∧ (s.2.1 < 16 ∧ s.2.1 % 2 ^ r = 0) ∧ (s.2.2 < 16 ∧ s.2.2 % 2 ^ r = 0)
noncomputable def halfB (r m p : Nat) : Bool := match Nat.beq (Nat.mod m (Nat.pow 2 (Nat.succ r))) 0 with
  | false => true
  | true => match Nat.blt (Nat.div (Nat.add m p) 2) 16 with
    | false => false
    | true => match Nat.beq (Nat.mod (Nat.div (Nat.add m p) 2) (Nat.pow 2 r)) 0 with
      | false => false
      | true => Nat.beq (Nat.mod m 2) 0
theorem half_tab : allL (fun r => allL (fun m => allL (halfB r m) [0, 16]) (rngOf 16)) (rngOf 4) = true := by kernel_rfl
theorem half_ok {r m p : Nat} (hr : r < 4) (hm : m < 16) (h : m % 2 ^ (r + 1) = 0) (hp : p = 0 ∨ p = 16) : (m + p) / 2 < 16 ∧ ((m + p) / 2) % 2 ^ r = 0 ∧ m % 2 = 0 := by
  have hp : p ∈ [0, 16] := by
    rcases hp with rfl | rfl
    · exact List.mem_cons_self ..
    · exact List.mem_cons_of_mem _ (List.mem_cons_self ..)
  have e := allL_at (allL_at (allL_at half_tab r (mem_rngOf hr)) m (mem_rngOf hm)) p hp
  unfold halfB at e
  have h0 : Nat.beq (Nat.mod m (Nat.pow 2 (Nat.succ r))) 0 = true := by rw [show Nat.mod m (Nat.pow 2 (Nat.succ r)) = 0 from h]; rfl
  rw [h0] at e
  dsimp only at e
  cases h1 : Nat.blt (Nat.div (Nat.add m p) 2) 16 with
  | false => rw [h1] at e; cases e
  | true =>
    rw [h1] at e
    dsimp only at e
    cases h2 : Nat.beq (Nat.mod (Nat.div (Nat.add m p) 2) (Nat.pow 2 r)) 0 with
    | false => rw [h2] at e; cases e
    | true =>
      rw [h2] at e
      exact ⟨Nat.blt_eq.mp h1, Nat.eq_of_beq_eq_true h2, Nat.eq_of_beq_eq_true e⟩
theorem Mx.lay {r : Nat} {s : N3} (hr : r < 4) (h : Mx (r + 1) s) (l : Nat) : Mx r (lay s l) ∧ s.1 % 2 = 0 ∧ s.2.1 % 2 = 0 ∧ s.2.2 % 2 = 0 := by
  obtain ⟨⟨a1, a2⟩, ⟨b1, b2⟩, c1, c2⟩ := h
  have x := half_ok hr a1 a2 (isN_01 l 0)
  have y := half_ok hr b1 b2 (isN_01 l 1)
  have z := half_ok hr c1 c2 (isN_01 l 2)
  exact ⟨⟨⟨x.1, x.2.1⟩, ⟨y.1, y.2.1⟩, z.1, z.2.1⟩, x.2.2, y.2.2, z.2.2⟩
theorem mx_of : ∀ {r : List Nat} {s : N3} {k : Nat}, k + r.length ≤ 4 → Mx (k + r.length) s → Mx k (r.foldl lay s)
  | [], _, _, _, h => h
  | l :: r, s, k, hk, h => by
    rw [List.length_cons] at hk h
    exact mx_of (r := r) (by omega) (Mx.lay (r := k + r.length) (by omega) h l).1
theorem mx_zero (r : Nat) : Mx r (0, 0, 0) := ⟨⟨by decide, Nat.zero_mod _⟩, ⟨by decide, Nat.zero_mod _⟩, by decide, Nat.zero_mod _⟩
theorem mixOf_mx {r : List Nat} {k : Nat} (h : k + r.length ≤ 4) : Mx k (mixOf r) := mx_of h (mx_zero _)
theorem mixOf_snoc (r : List Nat) (l : Nat) : mixOf (r ++ [l]) = lay (mixOf r) l := by
  unfold mixOf; rw [List.foldl_append]; rfl

/-! ### the mixes -/
noncomputable def scanM : List Nat → N3 → List N3
  | [], s => [s]
  | l :: r, s => s :: scanM r (lay s l)
noncomputable def mxBody : SL := .cons (.asg 3 true (.call 12 (.cons (.var 2) .nil))) (.cons (.app 1 (.comp (.bin .Div (.bin .Add (.sub (.sub (.var 2) (.neg (.cst (.int 1)))) (.var 0)) (.sub (.var 4) (.var 0))) (.cst (.int 2))) (.blt .range (.cons (.cst (.int 3)) .nil)) (.cst (.bool true)))) .nil)
theorem get_last {l : List PV} {x : PV} (h : l.length ≤ 1000) : getI (.list (l ++ [x])) (.int (-1)) = some x := by
  have : idx (-1) (l ++ [x]).length = some l.length := by
    unfold idx
    rw [if_pos (szOk_of (by simp; omega)), if_pos (by omega), if_pos (by simp; omega)]
    congr 1; simp; omega
  simp only [getI, this]
  simp
theorem mx_step {C : Orc} (h12 : ∀ l : Nat, l < 3 → C 12 [.int l] = some (paintV l)) {x0 x2 x3 : Sl} {A : List N3} {s : N3} {r l : Nat} (hr : r < 4) (hs : Mx (r + 1) s) (hl : l < 3) (hA : A.length ≤ 100) :
    fstep C [2] mxBody [x0, .o (.list ((A ++ [s]).map mixV)), x2, x3] (.int (l : Nat)) = some (.nxt [x0, .o (.list (((A ++ [s]) ++ [lay s l]).map mixV)), .v (.int (l : Nat)), .v (paintV l)]) := by
  have e0 : bindEach [x0, .o (.list ((A ++ [s]).map mixV)), x2, x3] [2] (.int (l : Nat)) = some [x0, .o (.list ((A ++ [s]).map mixV)), .v (.int (l : Nat)), x3] := rfl
  rw [fstep_of e0]
  unfold mxBody
  refine (exs_nxt (ρ' := [x0, .o (.list ((A ++ [s]).map mixV)), .v (.int (l : Nat)), .v (paintV l)]) ?_).trans ?_
  · exact (xx_asg (v := paintV l) (xv_call (evL1 rfl) (h12 l hl))).trans rfl
  refine exs_one (r := .nxt _) ?_
  obtain ⟨_, q0, q1, q2⟩ := hs.lay hr l
  have gl : getI (.list ((A ++ [s]).map mixV)) (.int (-1)) = some (mixV s) := by
    rw [List.map_append]
    exact get_last (by rw [List.length_map]; omega)
  obtain ⟨u0, v0, w0⟩ := half_at hs.1.1 q0 (isN_01 l 0)
  obtain ⟨u1, v1, w1⟩ := half_at hs.2.1.1 q1 (isN_01 l 1)
  obtain ⟨u2, v2, w2⟩ := half_at hs.2.2.1 q2 (isN_01 l 2)
  refine (xx_app (v := mixV (lay s l)) (l := (A ++ [s]).map mixV) (ev_comp3 (xv_bin (xv_bin (xv_sub (xv_sub rfl rfl gl) rfl rfl) (xv_sub rfl rfl rfl) v0) rfl w0) (xv_bin (xv_bin (xv_sub (xv_sub rfl rfl gl) rfl rfl) (xv_sub rfl rfl rfl) v1) rfl w1) (xv_bin (xv_bin (xv_sub (xv_sub rfl rfl gl) rfl rfl) (xv_sub rfl rfl rfl) v2) rfl w2)) rfl (by rw [List.length_map, List.length_append]; simp; omega)).trans ?_
  rw [List.map_append (l₁ := A ++ [s])]; rfl
theorem mx_loop {C : Orc} (h12 : ∀ l : Nat, l < 3 → C 12 [.int l] = some (paintV l)) {x0 : Sl} : ∀ (row : List Nat) {x2 x3 : Sl} {A : List N3} {s : N3}, row.length ≤ 4 → Mx row.length s → (∀ l ∈ row, l < 3) → A.length + row.length ≤ 100 →
    ∃ y2 y3, forEach (fstep C [2] mxBody) (row.map fun (l : Nat) => PV.int l) [x0, .o (.list ((A ++ [s]).map mixV)), x2, x3] = some (.nxt [x0, .o (.list ((A ++ scanM row s).map mixV)), y2, y3])
  | [], x2, x3, A, s, _, _, _, _ => ⟨x2, x3, rfl⟩
  | l :: row, x2, x3, A, s, h4, hs, hl, hA => by
    rw [List.length_cons] at h4 hs hA
    have e := mx_step h12 (x0 := x0) (x2 := x2) (x3 := x3) (A := A) (s := s) (r := row.length) (by omega) hs (hl l (by simp)) (by omega)
    obtain ⟨y2, y3, e'⟩ := mx_loop h12 (x0 := x0) row (x2 := .v (.int (l : Nat))) (x3 := .v (paintV l)) (A := A ++ [s]) (s := lay s l) (by omega) (hs.lay (by omega) l).1 (fun x hx => hl x (by simp [hx])) (by rw [List.length_append]; simp; omega)
    refine ⟨y2, y3, (forEach_nxt e).trans (e'.trans ?_)⟩
    rw [List.append_assoc]; rfl
theorem mixes_run {C : Orc} (h12 : ∀ l : Nat, l < 3 → C 12 [.int l] = some (paintV l)) {row : List Nat} (h4 : row.length ≤ 4) (hl : ∀ l ∈ row, l < 3) : run C p_law_mixes [natsV row] = some (.list ((scanM row (0, 0, 0)).map mixV)) := by
  obtain ⟨y2, y3, e⟩ := mx_loop h12 (x0 := .v (natsV row)) row (x2 := .no) (x3 := .no) (A := []) (s := (0, 0, 0)) h4 (mx_zero _) hl (by simp; omega)
  refine run_of rfl ?_
  refine (exs_nxt (ρ' := [.v (natsV row), .o (.list [mixV (0, 0, 0)]), .no, .no]) ?_).trans ?_
  · exact (xx_asg (v := .list [mixV (0, 0, 0)]) rfl).trans rfl
  refine (exs_nxt ((xx_for (b := mxBody) (x := natsV row) rfl (itemsL (by rw [List.length_map]; omega))).trans e)).trans ?_
  exact exs_one (xx_ret rfl)
theorem scan_get : ∀ {row : List Nat} {s : N3}, (scanM row s)[row.length]? = some (row.foldl lay s)
  | [], s => rfl
  | l :: row, s => by
    rw [scanM, List.length_cons, List.getElem?_cons_succ]
    exact scan_get
theorem scan_len : ∀ {row : List Nat} {s : N3}, (scanM row s).length = row.length + 1
  | [], _ => rfl
  | l :: row, s => by rw [scanM, List.length_cons, scan_len, List.length_cons]
theorem mix_get {row : List Nat} (h : row.length ≤ 4) : getI (.list ((scanM row (0, 0, 0)).map mixV)) (.int (row.length : Nat)) = some (mixV (mixOf row)) := by
  refine getN (by rw [List.length_map, scan_len]; omega) ?_
  rw [List.getElem?_map, scan_get]; rfl
end Mine
namespace Mine
open PySem

noncomputable def peBody : SL := (.cons (.unp [4, 5, 6] false (.call 0 (.cons (.sub (.var 0) (.cst (.int 0))) (.cons (.sub (.var 0) (.cst (.int 1))) (.cons (.sub (.var 0) (.cst (.int 2))) .nil))))) (.cons (.asg 7 true (.call 1 (.cons (.var 4) (.cons (.var 5) (.cons (.var 6) .nil))))) (.cons (.ite (.cmp .NotEq (.comp (.blt .int (.cons (.bin .Add (.bin .Mult (.bin .Pow (.cst (.int 2)) (.var 2)) (.var 0)) (.cst (.flt 4602678819172646912))) .nil)) (.var 7) (.cst (.bool true))) (.comp (.blt .int (.cons (.bin .Mult (.bin .Pow (.cst (.int 2)) (.var 2)) (.var 0)) .nil)) (.var 0) (.cst (.bool true)))) (.cons (.ret (.lst .nil)) .nil) .nil) (.cons (.asg 8 true (.bin .Mod (.blt .int (.cons (.bin .Add (.bin .Mult (.cst (.int 3)) (.var 4)) (.cst (.flt 4602678819172646912))) .nil)) (.cst (.int 3)))) (.cons (.app 2 (.var 8)) (.cons (.asg 9 true (.call 12 (.cons (.var 8) .nil))) (.cons (.asg 0 true (.comp (.bin .Sub (.bin .Mult (.cst (.int 2)) (.sub (.var 1) (.var 0))) (.sub (.var 10) (.var 0))) (.blt .range (.cons (.cst (.int 3)) .nil)) (.cst (.bool true)))) .nil)))))))
theorem as3_inv {x : PV} {p : PV × PV × PV} (h : as3 x = some p) : x = .tup [p.1, p.2.1, p.2.2] := by
  cases x <;> first | (cases h; done) | skip
  rename_i l
  rcases l with _ | ⟨a, _ | ⟨b, _ | ⟨c, _ | ⟨d, q⟩⟩⟩⟩
  · cases h
  · cases h
  · cases h
  · cases h; rfl
  · cases h
theorem ev_c3 {C : Orc} {elt iter : Mine.X} {ρ : Ρ} {v a b c x y z : PV} (h : ev C iter ρ = some v) (hi : itemsOf v = some [a, b, c]) (h0 : ev C elt (.v a :: ρ) = some x) (h1 : ev C elt (.v b :: ρ) = some y) (h2 : ev C elt (.v c :: ρ) = some z) :
    ev C (.comp elt iter (.cst (.bool true))) ρ = some (.list [x, y, z]) := by
  rw [ev, h]
  dsimp only
  rw [hi]
  simp only [mapC, h0, h1, h2, Option.map]
  simp only [ev, truth]
theorem ne_ints3 {a b c : Int} : cmpop .NotEq (.list [.int a, .int b, .int c]) (.list [.int a, .int b, .int c]) = some false := by
  have e : ∀ x : Int, pyEqN 7 (.int x) (.int x) = some true := fun x => by
    show some (x == x) = _
    rw [beq_self_eq_true]
  show (pyEqs (pyEqN 7) [PV.int a, .int b, .int c] [PV.int a, .int b, .int c]).map (!·) = some false
  rw [pyEqs, e]
  dsimp only
  rw [pyEqs, e]
  dsimp only
  rw [pyEqs, e]
  rfl
theorem up_ev {C : Orc} {ρ : Ρ} {n : Nat} {x r : PV} (h : upF n x = some r) (hn : ρ[1]? = some (.v (.int (n : Nat)))) : ev C (.blt .int (.cons (.bin .Add (.bin .Mult (.bin .Pow (.cst (.int 2)) (.var 2)) (.var 0)) (.cst (.flt 4602678819172646912))) .nil)) (.v x :: ρ) = some r := by
  obtain ⟨q, h1, e1⟩ := obind_inv h
  obtain ⟨y, h2, e2⟩ := obind_inv e1
  obtain ⟨z, h3, e3⟩ := obind_inv e2
  have hv : ev C (.var 2) (.v x :: ρ) = some (.int (n : Nat)) := by rw [ev, List.getElem?_cons_succ, hn]; rfl
  exact ev_blt1 (xv_bin (xv_bin (xv_bin rfl hv h1) rfl h2) rfl h3) e3
theorem dn_ev {C : Orc} {ρ : Ρ} {n : Nat} {x r : PV} (h : dnF n x = some r) (hn : ρ[1]? = some (.v (.int (n : Nat)))) : ev C (.blt .int (.cons (.bin .Mult (.bin .Pow (.cst (.int 2)) (.var 2)) (.var 0)) .nil)) (.v x :: ρ) = some r := by
  obtain ⟨q, h1, e1⟩ := obind_inv h
  obtain ⟨y, h2, e2⟩ := obind_inv e1
  have hv : ev C (.var 2) (.v x :: ρ) = some (.int (n : Nat)) := by rw [ev, List.getElem?_cons_succ, hn]; rfl
  exact ev_blt1 (xv_bin (xv_bin rfl hv h1) rfl h2) e2
theorem lay_ev {C : Orc} {ρ : Ρ} {h r : PV} (e : layF h = some r) (hv : ev C (.var 4) ρ = some h) : ev C (.bin .Mod (.blt .int (.cons (.bin .Add (.bin .Mult (.cst (.int 3)) (.var 4)) (.cst (.flt 4602678819172646912))) .nil)) (.cst (.int 3))) ρ = some r := by
  obtain ⟨y, h1, e1⟩ := obind_inv e
  obtain ⟨z, h2, e2⟩ := obind_inv e1
  obtain ⟨i, h3, e3⟩ := obind_inv e2
  exact xv_bin (ev_blt1 (xv_bin (xv_bin rfl hv h1) rfl h2) h3) rfl e3

/-- what is told of the mix of r ++ [l] -/
structure Tel (n : Nat) (s : N3) (l : Nat) : Prop where
  out : ∃ h sh v x y z : PV, ∃ i j k : Int, run (lvl fs3 0) p_rgb_to_hsv [sx s.1, sx s.2.1, sx s.2.2] = some (.tup [h, sh, v]) ∧ run (lvl fs3 0) p_hsv_to_rgb [h, sh, v] = some (.tup [x, y, z]) ∧
    upF n x = some (.int i) ∧ upF n y = some (.int j) ∧ upF n z = some (.int k) ∧ dnF n (sx s.1) = some (.int i) ∧ dnF n (sx s.2.1) = some (.int j) ∧ dnF n (sx s.2.2) = some (.int k) ∧ layF h = some (.int (l : Nat))
theorem tel_of {n q : Nat} {s : N3} {r : List Nat} {l : Nat} (h : telF n s = some (.list [.int ((s.1 / q : Nat) : Int), .int ((s.2.1 / q : Nat) : Int), .int ((s.2.2 / q : Nat) : Int), .int ((l : Nat) : Int)])) (da : dnF n (sx s.1) = some (.int ((s.1 / q : Nat) : Int))) (db : dnF n (sx s.2.1) = some (.int ((s.2.1 / q : Nat) : Int))) (dc : dnF n (sx s.2.2) = some (.int ((s.2.2 / q : Nat) : Int))) : Tel n s l := by
  obtain ⟨rr, h1, e1⟩ := obind_inv h
  obtain ⟨hh, h2, e2⟩ := obind_inv e1
  obtain ⟨kk, h3, e3⟩ := obind_inv e2
  obtain ⟨b, h4, e4⟩ := obind_inv e3
  obtain ⟨i, h5, e5⟩ := obind_inv e4
  obtain ⟨j, h6, e6⟩ := obind_inv e5
  obtain ⟨k, h7, e7⟩ := obind_inv e6
  obtain ⟨ll, h8, e8⟩ := obind_inv e7
  have a1 := as3_inv h2
  have a2 := as3_inv h4
  subst a1
  subst a2
  simp only [Option.some.injEq, PV.list.injEq, List.cons.injEq, and_true] at e8
  obtain ⟨rfl, rfl, rfl, rfl⟩ := e8
  exact ⟨⟨hh.1, hh.2.1, hh.2.2, b.1, b.2.1, b.2.2, _, _, _, h1, h3, h5, h6, h7, da, db, dc, h8⟩⟩

theorem dn_at4 {m : Nat} (h : m < 16) : dnF 4 (sx m) = some (.int ((m / 1 : Nat) : Int)) := by
  rw [Nat.div_one]
  exact List.map_inj_left.mp dn4 m (mem_rngOf h)
theorem dn_at3 {m : Nat} (h : m < 16) (he : m % 2 = 0) : dnF 3 (sx m) = some (.int ((m / 2 : Nat) : Int)) := by
  have := List.map_inj_left.mp dn3 (m / 2) (mem_rngOf (by omega))
  rwa [show 2 * (m / 2) = m by omega] at this
theorem tel_short {r : List Nat} (h : ∀ x ∈ r, x < 3) (h1 : 1 ≤ r.length) (h3 : r.length ≤ 3) : telF 3 (mixOf r) = some (telV 2 r) ∧ telF 4 (mixOf r) = some (telV 1 r) := by
  have hm := mem_rowsN h
  have key : (telF 3 (mixOf r), telF 4 (mixOf r)) = (some (telV 2 r), some (telV 1 r)) := by
    have hc : r.length = 1 ∨ r.length = 2 ∨ r.length = 3 := by omega
    rcases hc with e | e | e
    · rw [e] at hm; exact List.map_inj_left.mp tel_a _ (List.mem_append_left _ hm)
    · rw [e] at hm; exact List.map_inj_left.mp tel_a _ (List.mem_append_right _ hm)
    · rw [e] at hm; exact List.map_inj_left.mp tel_b _ hm
  exact ⟨congrArg Prod.fst key, congrArg Prod.snd key⟩
theorem tel_long {x : Nat} {q : List Nat} (hx : x < 3) (hq : ∀ y ∈ q, y < 3) (h3 : q.length = 3) : telF 4 (mixOf (x :: q)) = some (telV 1 (x :: q)) := by
  have hm := mem_rowsN hq
  rw [h3] at hm
  rcases x with _ | _ | _ | x
  · exact List.map_inj_left.mp tel_0 _ hm
  · exact List.map_inj_left.mp tel_1 _ hm
  · exact List.map_inj_left.mp tel_2 _ hm
  · exact absurd hx (Nat.not_lt.mpr (Nat.le_add_left 3 x))
theorem tel_four {r : List Nat} (h : ∀ x ∈ r, x < 3) (h1 : 1 ≤ r.length) (h4 : r.length ≤ 4) : telF 4 (mixOf r) = some (telV 1 r) := by
  rcases Nat.lt_or_ge r.length 4 with hl | hl
  · exact (tel_short h h1 (Nat.le_of_lt_succ hl)).2
  · rcases r with _ | ⟨x, q⟩
    · exact absurd h1 (Nat.not_succ_le_zero 0)
    · exact tel_long (h x (List.mem_cons_self ..)) (fun y hy => h y (List.mem_cons_of_mem _ hy)) (Nat.succ.inj (Nat.le_antisymm h4 hl))
theorem tel_at {n : Nat} (hn : n = 3 ∨ n = 4) {r : List Nat} {l : Nat} (hr : ∀ x ∈ r ++ [l], x < 3) (hl : (r ++ [l]).length ≤ n) : Tel n (mixOf (r ++ [l])) l := by
  have hlast : (r ++ [l]).getLastD 0 = l := by rw [List.getLastD_eq_getLast?, List.getLast?_concat]; rfl
  have hpos : 1 ≤ (r ++ [l]).length := by rw [List.length_append]; exact Nat.le_add_left 1 _
  rcases hn with rfl | rfl
  · have M := mixOf_mx (r := r ++ [l]) (k := 1) (by rw [Nat.add_comm]; exact Nat.succ_le_succ hl)
    have ht := (tel_short hr hpos hl).1
    unfold telV at ht
    rw [hlast] at ht
    exact tel_of (r := r) ht (dn_at3 M.1.1 M.1.2) (dn_at3 M.2.1.1 M.2.1.2) (dn_at3 M.2.2.1 M.2.2.2)
  · have M := mixOf_mx (r := r ++ [l]) (k := 0) (by rw [Nat.zero_add]; exact hl)
    have ht := tel_four hr hpos hl
    unfold telV at ht
    rw [hlast] at ht
    exact tel_of (r := r) ht (dn_at4 M.1.1) (dn_at4 M.2.1.1) (dn_at4 M.2.2.1)

section
variable {C : Orc} (c0 : ∀ args, C 0 args = run (lvl fs3 0) p_rgb_to_hsv args) (c1 : ∀ args, C 1 args = run (lvl fs3 0) p_hsv_to_rgb args) (h12 : ∀ l : Nat, l < 3 → C 12 [.int l] = some (paintV l))
include c0 c1 h12
theorem pe_step {n : Nat} {s : N3} {l k : Nat} (T : Tel n (lay s l) l) (hl : l < 3) (hk : k < 4) (hs : Mx (k + 1) s) {acc : List Nat} (hA : acc.length ≤ 100) {x0 x3 x4 x5 x6 x7 x8 x9 : Sl} (hx : x0 = .v (mixV (lay s l)) ∨ x0 = .o (mixV (lay s l))) (age : Int) :
    ∃ y4 y5 y6 y7 y8 y9, fstep C [3] peBody [x0, .v (.int (n : Nat)), .o (natsV acc), x3, x4, x5, x6, x7, x8, x9] (.int age) = some (.nxt [.o (mixV s), .v (.int (n : Nat)), .o (natsV (acc ++ [l])), .v (.int age), y4, y5, y6, y7, y8, y9]) := by
  obtain ⟨h, sh, v, x, y, z, i, j, k', t1, t2, u1, u2, u3, d1, d2, d3, tl⟩ := T.out
  refine ⟨.v h, .v sh, .v v, .v (.tup [x, y, z]), .v (.int (l : Nat)), .v (paintV l), ?_⟩
  have e0 : bindEach [x0, .v (.int (n : Nat)), .o (natsV acc), x3, x4, x5, x6, x7, x8, x9] [3] (.int age) = some [x0, .v (.int (n : Nat)), .o (natsV acc), .v (.int age), x4, x5, x6, x7, x8, x9] := rfl
  rw [fstep_of e0]
  unfold peBody
  refine (exs_nxt (ρ' := [.v (mixV (lay s l)), .v (.int (n : Nat)), .o (natsV acc), .v (.int age), .v h, .v sh, .v v, x7, x8, x9]) ?_).trans ?_
  · rcases hx with rfl | rfl
    · exact (xx_unp (xv_call (evL3 (xv_sub rfl rfl rfl) (xv_sub rfl rfl rfl) (xv_sub rfl rfl rfl)) ((c0 _).trans t1))).trans rfl
    · exact (xx_unp (xv_call (evL3 (xv_sub rfl rfl rfl) (xv_sub rfl rfl rfl) (xv_sub rfl rfl rfl)) ((c0 _).trans t1))).trans rfl
  refine (exs_nxt (ρ' := [.v (mixV (lay s l)), .v (.int (n : Nat)), .o (natsV acc), .v (.int age), .v h, .v sh, .v v, .v (.tup [x, y, z]), x8, x9]) ?_).trans ?_
  · exact (xx_asg (v := .tup [x, y, z]) (xv_call (evL3 rfl rfl rfl) ((c1 _).trans t2))).trans rfl
  refine (exs_nxt (ρ' := [.v (mixV (lay s l)), .v (.int (n : Nat)), .o (natsV acc), .v (.int age), .v h, .v sh, .v v, .v (.tup [x, y, z]), x8, x9]) ?_).trans ?_
  · exact (ex_iteF (xv_cmp (ev_c3 rfl rfl (up_ev u1 rfl) (up_ev u2 rfl) (up_ev u3 rfl)) (ev_c3 rfl rfl (dn_ev d1 rfl) (dn_ev d2 rfl) (dn_ev d3 rfl)) ne_ints3)).trans rfl
  refine (exs_nxt (ρ' := [.v (mixV (lay s l)), .v (.int (n : Nat)), .o (natsV acc), .v (.int age), .v h, .v sh, .v v, .v (.tup [x, y, z]), .v (.int (l : Nat)), x9]) ?_).trans ?_
  · exact (xx_asg (v := .int (l : Nat)) (lay_ev tl rfl)).trans rfl
  refine (exs_nxt (ρ' := [.v (mixV (lay s l)), .v (.int (n : Nat)), .o (natsV (acc ++ [l])), .v (.int age), .v h, .v sh, .v v, .v (.tup [x, y, z]), .v (.int (l : Nat)), x9]) ?_).trans ?_
  · refine (xx_app (v := .int (l : Nat)) (l := acc.map fun (n : Nat) => PV.int n) rfl rfl (by rw [List.length_map]; omega)).trans ?_
    unfold natsV; rw [List.map_append]; rfl
  refine (exs_nxt (ρ' := [.v (mixV (lay s l)), .v (.int (n : Nat)), .o (natsV (acc ++ [l])), .v (.int age), .v h, .v sh, .v v, .v (.tup [x, y, z]), .v (.int (l : Nat)), .v (paintV l)]) ?_).trans ?_
  · exact (xx_asg (v := paintV l) (xv_call (evL1 rfl) (h12 l hl))).trans rfl
  obtain ⟨_, q0, q1, q2⟩ := hs.lay hk l
  obtain ⟨a0, b0, g0⟩ := dbl_at hs.1.1 q0 (isN_01 l 0)
  obtain ⟨a1, b1, g1⟩ := dbl_at hs.2.1.1 q1 (isN_01 l 1)
  obtain ⟨a2, b2, g2⟩ := dbl_at hs.2.2.1 q2 (isN_01 l 2)
  exact exs_one (r := .nxt _) ((xx_asg (v := mixV s) (ev_comp3 (xv_bin (xv_bin rfl (xv_sub rfl rfl rfl) b0) (xv_sub rfl rfl rfl) g0) (xv_bin (xv_bin rfl (xv_sub rfl rfl rfl) b1) (xv_sub rfl rfl rfl) g1) (xv_bin (xv_bin rfl (xv_sub rfl rfl rfl) b2) (xv_sub rfl rfl rfl) g2))).trans rfl)

theorem pe_loop {n : Nat} (hn : n = 3 ∨ n = 4) : ∀ (m : Nat) (r : List Nat), r.length = m → r.length ≤ n → (∀ x ∈ r, x < 3) → ∀ (i : Nat) {acc : List Nat} {x0 x3 x4 x5 x6 x7 x8 x9 : Sl}, acc.length + m ≤ 100 → (x0 = .v (mixV (mixOf r)) ∨ x0 = .o (mixV (mixOf r))) →
    ∃ y0 y3 y4 y5 y6 y7 y8 y9, (y0 = .v (mixV (0, 0, 0)) ∨ y0 = .o (mixV (0, 0, 0))) ∧ forEach (fstep C [3] peBody) ((List.range' i m).map fun (a : Nat) => PV.int a) [x0, .v (.int (n : Nat)), .o (natsV acc), x3, x4, x5, x6, x7, x8, x9]
      = some (.nxt [y0, .v (.int (n : Nat)), .o (natsV (acc ++ r.reverse)), y3, y4, y5, y6, y7, y8, y9])
  | 0, r, hr, _, _, i, acc, x0, x3, x4, x5, x6, x7, x8, x9, _, hx => by
    have : r = [] := List.length_eq_zero_iff.mp hr
    subst this
    exact ⟨x0, x3, x4, x5, x6, x7, x8, x9, hx, by simp [forEach]⟩
  | m + 1, r, hr, hle, h3, i, acc, x0, x3, x4, x5, x6, x7, x8, x9, hA, hx => by
    obtain ⟨r', l, rfl⟩ : ∃ r' l, r = r' ++ [l] := by
      rcases List.eq_nil_or_concat r with e | ⟨r', l, e⟩
      · subst e; cases hr
      · exact ⟨r', l, by simpa using e⟩
    rw [List.length_append] at hr
    simp at hr
    rw [mixOf_snoc] at hx
    have T := tel_at hn h3 hle
    rw [mixOf_snoc] at T
    have hl : l < 3 := h3 l (by simp)
    have hle' : r'.length + 1 ≤ n := by rw [List.length_append] at hle; simpa using hle
    obtain ⟨y4, y5, y6, y7, y8, y9, e⟩ := pe_step c0 c1 h12 T hl (k := 3 - r'.length) (by omega) (by
      have := mixOf_mx (r := r') (k := 3 - r'.length + 1) (by omega)
      exact this) (acc := acc) (by omega) (x3 := x3) (x4 := x4) (x5 := x5) (x6 := x6) (x7 := x7) (x8 := x8) (x9 := x9) hx (i : Int)
    obtain ⟨z0, z3, z4, z5, z6, z7, z8, z9, hz, e'⟩ := pe_loop hn m r' hr (by omega) (fun x hx => h3 x (by simp [hx])) (i + 1) (acc := acc ++ [l]) (x0 := .o (mixV (mixOf r'))) (x3 := .v (.int (i : Int))) (x4 := y4) (x5 := y5) (x6 := y6) (x7 := y7) (x8 := y8) (x9 := y9) (by rw [List.length_append]; simp; omega) (.inr rfl)
    refine ⟨z0, z3, z4, z5, z6, z7, z8, z9, hz, ?_⟩
    rw [List.range'_succ, List.map_cons, List.reverse_append]
    refine (forEach_nxt e).trans (e'.trans ?_)
    rw [List.append_assoc]; rfl

theorem peeled_run {n : Nat} (hn : n = 3 ∨ n = 4) {r : List Nat} (hr : r.length = n) (h3 : ∀ x ∈ r, x < 3) : run C p_law_peeled [mixV (mixOf r), .int n] = some (natsV r.reverse) := by
  obtain ⟨y0, y3, y4, y5, y6, y7, y8, y9, hy, e⟩ := pe_loop c0 c1 h12 hn n r hr (by omega) h3 0 (acc := []) (x0 := .v (mixV (mixOf r))) (x3 := .no) (x4 := .no) (x5 := .no) (x6 := .no) (x7 := .no) (x8 := .no) (x9 := .no) (by simp; omega) (.inl rfl)
  refine run_of rfl ?_
  refine (exs_nxt (ρ' := [.v (mixV (mixOf r)), .v (.int (n : Nat)), .o (natsV []), .no, .no, .no, .no, .no, .no, .no]) ?_).trans ?_
  · exact (xx_asg (v := natsV []) rfl).trans rfl
  refine (exs_nxt ((xx_for (b := peBody) (x := .rng (n : Int)) (ev_blt1 rfl (rng_nat (by omega))) (items_rng (by omega))).trans e)).trans ?_
  obtain ⟨bl, b1, b2⟩ := obind_inv black_all
  obtain ⟨t, b3, b4⟩ := obind_inv b2
  cases b4
  refine exs_one (xx_ret (ev_iteT (xv_cmp (xv_call (evL3 (xv_sub (x := mixV (0, 0, 0)) ?_ rfl (r := sx 0) rfl) (xv_sub (x := mixV (0, 0, 0)) ?_ rfl (r := sx 0) rfl) (xv_sub (x := mixV (0, 0, 0)) ?_ rfl (r := sx 0) rfl)) ((c0 _).trans b1)) rfl b3) rfl))
  all_goals (rcases hy with rfl | rfl <;> rfl)
end
end Mine
namespace Mine
open PySem

/-! ## places by number -/
noncomputable def letter : Nat → Nat
  | 0 => 114
  | 1 => 103
  | _ => 98
noncomputable def plC : Nat → Nat → List Nat
  | 0, _ => []
  | n + 1, p => plC n (p / 3) ++ [letter (p % 3)]
/-- how many last letters are alike -/
noncomputable def tail3 (d : Nat) : Nat → Nat → Nat
  | 0, _ => 0
  | n + 1, p => match Nat.beq (p % 3) d with
    | true => tail3 d n (p / 3) + 1
    | false => 0
noncomputable def stepsC (n p : Nat) : List Nat :=
  (match p % 3 with
   | 0 => [p + 1, p + 2]
   | 1 => [p - 1, p + 1]
   | _ => [p - 2, p - 1]) ++
  (match tail3 (p % 3) n p with
   | t => match Nat.blt t n with
     | true => match p / 3 ^ t with
       | h => [(h - h % 3 + p % 3) * 3 ^ t + (h % 3) * ((3 ^ t - 1) / 2)]
     | false => [])
theorem steps3 : (rngOf 27).map (fun p => run (lvl fs3 0) p_law_steps [.str (plC 3 p)]) = (rngOf 27).map fun p => some (.list ((stepsC 3 p).map fun q => PV.str (plC 3 q))) := by kernel_rfl
theorem steps4 : (rngOf 81).map (fun p => run (lvl fs3 0) p_law_steps [.str (plC 4 p)]) = (rngOf 81).map fun p => some (.list ((stepsC 4 p).map fun q => PV.str (plC 4 q))) := by kernel_rfl
theorem le_four {n : Nat} (hn : n = 3 ∨ n = 4) : n ≤ 4 := by
  rcases hn with rfl | rfl
  · decide
  · decide
theorem mem34 {n : Nat} (hn : n = 3 ∨ n = 4) : n ∈ [3, 4] := by
  rcases hn with rfl | rfl
  · exact List.mem_cons_self ..
  · exact List.mem_cons_of_mem _ (List.mem_cons_self ..)
theorem near_ok : allL (fun n => allL (fun p => allL (fun q => Nat.blt q (3 ^ n)) (stepsC n p) && Nat.blt (stepsC n p).length 4) (rngOf (3 ^ n))) [3, 4] = true := by decide +kernel

theorem letter_inj {a b : Nat} (ha : a < 3) (hb : b < 3) (h : letter a = letter b) : a = b := by
  match a, b, ha, hb with
  | 0, 0, _, _ => rfl
  | 1, 1, _, _ => rfl
  | 2, 2, _, _ => rfl
  | 0, 1, _, _ => cases h
  | 0, 2, _, _ => cases h
  | 1, 0, _, _ => cases h
  | 1, 2, _, _ => cases h
  | 2, 0, _, _ => cases h
  | 2, 1, _, _ => cases h
theorem plC_inj : ∀ {n p q : Nat}, p < 3 ^ n → q < 3 ^ n → plC n p = plC n q → p = q
  | 0, p, q, hp, hq, _ => by simp at hp hq; omega
  | n + 1, p, q, hp, hq, h => by
    unfold plC at h
    have h1 := List.append_inj' h rfl
    rw [Nat.pow_succ] at hp hq
    have e1 := plC_inj (n := n) (p := p / 3) (q := q / 3) (by omega) (by omega) h1.1
    have e2 := letter_inj (Nat.mod_lt p (by omega)) (Nat.mod_lt q (by omega)) (by simpa using h1.2)
    omega

/-! ## distances in one number -/
noncomputable def getW (N p : Nat) : Nat := Nat.mod (Nat.div N (Nat.pow 32 p)) 32
noncomputable def setW (N p v : Nat) : Nat := Nat.add N (Nat.mul v (Nat.pow 32 p))
theorem getW_same {N p v : Nat} (h : getW N p = 0) (hv : v < 32) : getW (setW N p v) p = v := by
  show (N + v * 32 ^ p) / 32 ^ p % 32 = v
  have h : N / 32 ^ p % 32 = 0 := h
  rw [Nat.add_mul_div_right _ _ (Nat.pow_pos (by omega))]
  omega
theorem getW_low {N p v q : Nat} (hq : q < p) : getW (setW N p v) q = getW N q := by
  show (N + v * 32 ^ p) / 32 ^ q % 32 = N / 32 ^ q % 32
  obtain ⟨d, rfl⟩ : ∃ d, p = q + 1 + d := ⟨p - (q + 1), by omega⟩
  rw [show v * 32 ^ (q + 1 + d) = (32 * (v * 32 ^ d)) * 32 ^ q by rw [Nat.pow_add, Nat.pow_succ]; ac_rfl]
  rw [Nat.add_mul_div_right _ _ (Nat.pow_pos (by omega))]
  omega
theorem getW_high {N p v q : Nat} (h : getW N p = 0) (hv : v < 32) (hq : p < q) : getW (setW N p v) q = getW N q := by
  show (N + v * 32 ^ p) / 32 ^ q % 32 = N / 32 ^ q % 32
  have h : N / 32 ^ p % 32 = 0 := h
  obtain ⟨d, rfl⟩ : ∃ d, q = p + (1 + d) := ⟨q - (p + 1), by omega⟩
  rw [Nat.pow_add, ← Nat.div_div_eq_div_mul, ← Nat.div_div_eq_div_mul, Nat.add_mul_div_right _ _ (Nat.pow_pos (by omega)), Nat.pow_add, ← Nat.div_div_eq_div_mul, ← Nat.div_div_eq_div_mul]
  congr 2
  omega
theorem getW_other {N p v q : Nat} (h : getW N p = 0) (hv : v < 32) (hq : q ≠ p) : getW (setW N p v) q = getW N q := by
  rcases Nat.lt_or_gt_of_ne hq with h' | h'
  · exact getW_low h'
  · exact getW_high h hv h'

/-! ## the search, by numbers -/
noncomputable def force {β : Type} (N : Nat) (f : Nat → β) : β := match N with
  | 0 => f 0
  | k + 1 => f (k + 1)
theorem force_eq {β : Type} {N : Nat} {f : Nat → β} : force N f = f N := by cases N <;> rfl
noncomputable def inn (v : Nat) : List Nat → Nat → List Nat → (Nat → List Nat → Bool) → Bool
  | [], N, fr, k => k N fr
  | o :: r, N, fr, k => match getW N o with
    | 0 => force (setW N o v) fun N' => inn v r N' (fr ++ [o]) k
    | _ + 1 => inn v r N fr k
noncomputable def lev (n : Nat) : List Nat → Nat → List Nat → (Nat → List Nat → Bool) → Bool
  | [], N, fr, k => k N fr
  | p :: r, N, fr, k => force (Nat.add (getW N p) 1) fun v => match Nat.blt v 32 with
    | true => inn v (stepsC n p) N fr fun N' fr' => lev n r N' fr' k
    | false => false
noncomputable def bfs (n : Nat) : Nat → Nat → List Nat → (Nat → Bool) → Bool
  | 0, _, _, _ => false
  | _ + 1, N, [], k => k N
  | f + 1, N, p :: r, k => lev n (p :: r) N [] fun N' fr' => bfs n f N' fr' k

/-! ## the rules -/
noncomputable def innBody : SL := (.cons (.ite (.cmp .NotIn (.var 5) (.var 1)) (.cons (.setI 1 (.var 5) (.bin .Add (.sub (.var 1) (.var 4)) (.cst (.int 1)))) (.cons (.app 3 (.var 5)) .nil)) .nil) .nil)
noncomputable def levBody : SL := .cons (.fr [5] (.call 15 (.cons (.var 4) .nil)) innBody) .nil
noncomputable def wayBody : SL := .cons (.asg 3 true (.lst .nil)) (.cons (.fr [4] (.var 2) levBody) (.cons (.asg 2 true (.var 3)) .nil))
end Mine
namespace Mine
open PySem

noncomputable def plV (n p : Nat) : PV := .str (plC n p)
noncomputable def dv : Nat → Option PV
  | 0 => none
  | v + 1 => some (.int (v : Nat))
structure Rel (n : Nat) (l : List (List Nat × PV)) (N : Nat) : Prop where
  look : ∀ p, p < 3 ^ n → look (plC n p) l = dv (getW N p)
  keys : ∃ ps : List Nat, l.map (·.1) = ps.map (plC n) ∧ ps.Nodup ∧ ∀ p ∈ ps, p < 3 ^ n ∧ getW N p ≠ 0

theorem look_put {k : List Nat} {v : PV} : ∀ {l : List (List Nat × PV)}, look k l = none → put k v l = l ++ [(k, v)]
  | [], _ => rfl
  | (k', v') :: r, h => by
    unfold look at h
    unfold put
    cases hb : k' == k with
    | true => rw [hb] at h; cases h
    | false =>
      rw [hb] at h
      rw [if_neg Bool.false_ne_true] at h ⊢
      rw [look_put h]; rfl
theorem look_new {k k' : List Nat} {v : PV} : ∀ {l : List (List Nat × PV)}, look k l = none → look k' (l ++ [(k, v)]) = if k == k' then some v else look k' l
  | [], _ => rfl
  | (a, b) :: r, h => by
    unfold look at h
    cases hb : a == k with
    | true => rw [hb] at h; cases h
    | false =>
      rw [hb, if_neg Bool.false_ne_true] at h
      have e := look_new (k' := k') (v := v) h
      rw [List.cons_append]
      unfold look
      rw [e]
      cases ha : a == k' with
      | true =>
        have : (k == k') = false := by
          have ha := eq_of_beq ha
          subst ha
          rw [beq_eq_false_iff_ne] at hb ⊢
          exact fun q => hb q.symm
        rw [this]; rfl
      | false => rfl
theorem nodup_len : ∀ {N : Nat} {ps : List Nat}, ps.Nodup → (∀ p ∈ ps, p < N) → ps.length ≤ N
  | 0, ps, _, h => by
    cases ps with
    | nil => exact Nat.le_refl _
    | cons a r => exact absurd (h a (List.mem_cons_self ..)) (Nat.not_lt_zero _)
  | N + 1, ps, hn, h => by
    have := nodup_len (N := N) (hn.erase N) fun p hp => by
      have := (hn.mem_erase_iff).mp hp
      have := h p this.2
      omega
    have e := List.length_erase (a := N) (l := ps)
    split at e <;> omega
theorem Rel.len {n N : Nat} {l : List (List Nat × PV)} (h : Rel n l N) (hn : n ≤ 4) : l.length ≤ 81 := by
  obtain ⟨ps, e, nd, b⟩ := h.keys
  have h1 : l.length = ps.length := by have := congrArg List.length e; simpa using this
  have h2 := nodup_len nd fun p hp => (b p hp).1
  have h3 : 3 ^ n ≤ 3 ^ 4 := Nat.pow_le_pow_right (by omega) hn
  omega
theorem Rel.put {n N q v : Nat} {l : List (List Nat × PV)} (h : Rel n l N) (hq : q < 3 ^ n) (h0 : getW N q = 0) (hv : v + 1 < 32) : Rel n (l ++ [(plC n q, .int (v : Nat))]) (setW N q (v + 1)) := by
  have hl : Mine.look (plC n q) l = none := by rw [h.look q hq, h0]; rfl
  refine ⟨fun p hp => ?_, ?_⟩
  · rw [look_new hl]
    by_cases e : q = p
    · subst e
      rw [beq_self_eq_true, if_pos rfl, getW_same h0 hv]; rfl
    · have : (plC n q == plC n p) = false := beq_eq_false_iff_ne.mpr fun c => e (plC_inj hq hp c)
      rw [this, if_neg Bool.false_ne_true, h.look p hp, getW_other h0 hv (Ne.symm e)]
  · obtain ⟨ps, e, nd, b⟩ := h.keys
    have hnew : q ∉ ps := fun hq => (b q hq).2 h0
    refine ⟨ps ++ [q], by rw [List.map_append, List.map_append, e]; rfl, ?_, fun p hp => ?_⟩
    · rw [List.nodup_append]
      exact ⟨nd, by simp, fun a ha c hc => by rw [List.mem_singleton.mp hc]; exact fun q => hnew (q ▸ ha)⟩
    · rcases List.mem_append.mp hp with hp | hp
      · have hne : p ≠ q := fun c => hnew (c ▸ hp)
        exact ⟨(b p hp).1, by rw [getW_other h0 hv hne]; exact (b p hp).2⟩
      · rw [List.mem_singleton.mp hp]
        exact ⟨hq, by rw [getW_same h0 hv]; omega⟩
end Mine
namespace Mine
open PySem

/-- what a search has found and what it has still to look at -/
structure Front (n : Nat) (l : List (List Nat × PV)) (N : Nat) (fr : List Nat) : Prop where
  rel : Rel n l N
  len : fr.length ≤ l.length
  has : ∀ x ∈ fr, x < 3 ^ n ∧ getW N x ≠ 0
/-- nothing found is lost -/
noncomputable def Up (N N' : Nat) : Prop := ∀ x, getW N x ≠ 0 → getW N' x = getW N x
theorem Up.trans {a b c : Nat} (h : Up a b) (g : Up b c) : Up a c := fun x hx => (g x (by rw [h x hx]; exact hx)).trans (h x hx)

theorem setN {l : List (List Nat × PV)} {k : List Nat} {v : PV} (h : l.length ≤ 1000000) (hl : look k l = none) : storeI (.dict l) (.str k) v = some (.dict (l ++ [(k, v)])) := by
  show (if szOk l.length then some (PV.dict (put k v l)) else Option.none) = _
  rw [szOk_of h, if_pos rfl, look_put hl]
theorem inn_ok {C : Orc} {n : Nat} (hn : n ≤ 4) {st x2 : Sl} {p u : Nat} (hp : p < 3 ^ n) (hu : u + 2 < 32) {k : Nat → List Nat → Bool} : ∀ (os : List Nat) (N : Nat) (fr : List Nat) (l : List (List Nat × PV)) (x5 : Sl),
    Front n l N fr → getW N p = u + 1 → (∀ o ∈ os, o < 3 ^ n) → inn (u + 2) os N fr k = true →
    ∃ N' fr' l' x5', Front n l' N' fr' ∧ Up N N' ∧ k N' fr' = true ∧
      forEach (fstep C [5] innBody) (os.map (plV n)) [st, .o (.dict l), x2, .o (.list (fr.map (plV n))), .v (plV n p), x5] = some (.nxt [st, .o (.dict l'), x2, .o (.list (fr'.map (plV n))), .v (plV n p), x5'])
  | [], N, fr, l, x5, F, _, _, h => ⟨N, fr, l, x5, F, fun _ _ => rfl, h, rfl⟩
  | o :: r, N, fr, l, x5, F, hg, ho, h => by
    have hol := ho o (List.mem_cons_self ..)
    have hr : ∀ q ∈ r, q < 3 ^ n := fun q hq => ho q (List.mem_cons_of_mem _ hq)
    have hb : bindEach [st, .o (.dict l), x2, .o (.list (fr.map (plV n))), .v (plV n p), x5] [5] (plV n o) = some [st, .o (.dict l), x2, .o (.list (fr.map (plV n))), .v (plV n p), .v (plV n o)] := rfl
    have hlen := F.rel.len hn
    have hlk := F.rel.look o hol
    have hin : ev C (.cmp .NotIn (.var 5) (.var 1)) [st, .o (.dict l), x2, .o (.list (fr.map (plV n))), .v (plV n p), .v (plV n o)] = some (.bool (!(look (plC n o) l).isSome)) := xv_cmp rfl rfl rfl
    unfold inn at h
    cases hw : getW N o with
    | succ w =>
      rw [hw] at h
      obtain ⟨N', fr', l', x5', F', U, hk, he⟩ := inn_ok hn hp hu r N fr l (.v (plV n o)) F hg hr h
      refine ⟨N', fr', l', x5', F', U, hk, ?_⟩
      rw [List.map_cons, forEach_nxt (ρ' := [st, .o (.dict l), x2, .o (.list (fr.map (plV n))), .v (plV n p), .v (plV n o)]) ?_]
      · exact he
      · rw [fstep_of hb]
        refine exs_one (r := .nxt _) ((ex_iteF ?_).trans rfl)
        rw [hin, hlk, hw]; rfl
    | zero =>
      rw [hw] at h
      dsimp only at h
      rw [force_eq] at h
      have hpo : p ≠ o := fun e => by subst e; rw [hw] at hg; cases hg
      have hnone : look (plC n o) l = none := by rw [hlk, hw]; rfl
      have F1 : Front n (l ++ [(plC n o, .int ((u + 1 : Nat) : Int))]) (setW N o (u + 2)) (fr ++ [o]) := ⟨F.rel.put hol hw hu, by
        rw [List.length_append, List.length_append]
        exact Nat.add_le_add_right F.len 1, fun x hx => by
        rcases List.mem_append.mp hx with hx | hx
        · have h1 := F.has x hx
          have hne : x ≠ o := fun e => h1.2 (e ▸ hw)
          exact ⟨h1.1, by rw [getW_other hw hu hne]; exact h1.2⟩
        · rw [List.mem_singleton.mp hx]
          exact ⟨hol, by rw [getW_same hw hu]; omega⟩⟩
      have hg1 : getW (setW N o (u + 2)) p = u + 1 := by rw [getW_other hw hu hpo, hg]
      obtain ⟨N', fr', l', x5', F', U, hk, he⟩ := inn_ok hn hp hu r (setW N o (u + 2)) (fr ++ [o]) _ (.v (plV n o)) F1 hg1 hr h
      refine ⟨N', fr', l', x5', F', ?_, hk, ?_⟩
      · refine Up.trans (fun x hx => ?_) U
        exact getW_other hw hu fun e => hx (e ▸ hw)
      rw [List.map_cons, forEach_nxt (ρ' := [st, .o (.dict (l ++ [(plC n o, .int ((u + 1 : Nat) : Int))])), x2, .o (.list ((fr ++ [o]).map (plV n))), .v (plV n p), .v (plV n o)]) ?_]
      · exact he
      · rw [fstep_of hb]
        refine exs_one (r := .nxt _) ((ex_iteT ?_).trans ?_)
        · rw [hin, hnone]; rfl
        have hget : getI (.dict l) (plV n p) = some (.int (u : Nat)) := by
          show look (plC n p) l = _
          rw [F.rel.look p hp, hg]; rfl
        have hadd : ev C (.bin .Add (.sub (.var 1) (.var 4)) (.cst (.int 1))) [st, .o (.dict l), x2, .o (.list (fr.map (plV n))), .v (plV n p), .v (plV n o)] = some (.int ((u + 1 : Nat) : Int)) := xv_bin (xv_sub rfl rfl hget) rfl (addN u 1)
        have hset : ex C (.setI 1 (.var 5) (.bin .Add (.sub (.var 1) (.var 4)) (.cst (.int 1)))) [st, .o (.dict l), x2, .o (.list (fr.map (plV n))), .v (plV n p), .v (plV n o)] = some (.nxt [st, .o (.dict (l ++ [(plC n o, .int ((u + 1 : Nat) : Int))])), x2, .o (.list (fr.map (plV n))), .v (plV n p), .v (plV n o)]) := by
          rw [ex, hadd]
          have e5 : ev C (.var 5) [st, .o (.dict l), x2, .o (.list (fr.map (plV n))), .v (plV n p), .v (plV n o)] = some (plV n o) := rfl
          dsimp only
          rw [e5]
          show (match storeI (.dict l) (.str (plC n o)) (.int ((u + 1 : Nat) : Int)) with | some c' => _ | Option.none => Option.none) = _
          rw [setN (by omega) hnone]
          rfl
        refine (exs_nxt hset).trans (exs_one (r := .nxt _) ?_)
        refine (xx_app (v := plV n o) (l := fr.map (plV n)) rfl rfl ?_).trans ?_
        · have := F.len
          rw [List.length_map]; omega
        · rw [List.map_append]; rfl
end Mine
namespace Mine
open PySem

theorem near_at {n p : Nat} (hn : n = 3 ∨ n = 4) (hp : p < 3 ^ n) : (∀ q ∈ stepsC n p, q < 3 ^ n) ∧ (stepsC n p).length < 4 := by
  have h := allL_at (allL_at near_ok n (by rcases hn with rfl | rfl <;> simp)) p (mem_rngOf hp)
  rw [Bool.and_eq_true] at h
  exact ⟨fun q hq => Nat.blt_eq.mp (allL_at h.1 q hq), Nat.blt_eq.mp h.2⟩

section
variable {C : Orc} {n : Nat} (hn : n = 3 ∨ n = 4) (h15 : ∀ p, p < 3 ^ n → C 15 [plV n p] = some (.list ((stepsC n p).map (plV n))))
include hn h15
theorem lev_ok {st x2 : Sl} {k : Nat → List Nat → Bool} : ∀ (ps : List Nat) (N : Nat) (fr : List Nat) (l : List (List Nat × PV)) (x4 x5 : Sl),
    Front n l N fr → (∀ p ∈ ps, p < 3 ^ n ∧ getW N p ≠ 0) → lev n ps N fr k = true →
    ∃ N' fr' l' x4' x5', Front n l' N' fr' ∧ k N' fr' = true ∧
      forEach (fstep C [4] levBody) (ps.map (plV n)) [st, .o (.dict l), x2, .o (.list (fr.map (plV n))), x4, x5] = some (.nxt [st, .o (.dict l'), x2, .o (.list (fr'.map (plV n))), x4', x5'])
  | [], N, fr, l, x4, x5, F, _, h => ⟨N, fr, l, x4, x5, F, h, rfl⟩
  | p :: r, N, fr, l, x4, x5, F, hp, h => by
    obtain ⟨hpl, hpw⟩ := hp p (List.mem_cons_self ..)
    unfold lev at h
    rw [force_eq] at h
    cases hw : getW N p with
    | zero => exact absurd hw hpw
    | succ u =>
      rw [hw] at h
      have hb : bindEach [st, .o (.dict l), x2, .o (.list (fr.map (plV n))), x4, x5] [4] (plV n p) = some [st, .o (.dict l), x2, .o (.list (fr.map (plV n))), .v (plV n p), x5] := rfl
      cases hv : Nat.blt (Nat.add (u + 1) 1) 32 with
      | false => rw [hv] at h; cases h
      | true =>
        rw [hv] at h
        have hu : u + 2 < 32 := Nat.blt_eq.mp hv
        obtain ⟨ns, nl⟩ := near_at hn hpl
        obtain ⟨N1, fr1, l1, x51, F1, U1, hk1, he1⟩ := inn_ok (C := C) (st := st) (x2 := x2) (by omega) hpl hu (stepsC n p) N fr l x5 F hw ns h
        obtain ⟨N', fr', l', x4', x5', F', hk, he⟩ := lev_ok r N1 fr1 l1 (.v (plV n p)) x51 F1 (fun q hq => by
          have h1 := hp q (List.mem_cons_of_mem _ hq)
          exact ⟨h1.1, by rw [U1 q h1.2]; exact h1.2⟩) hk1
        refine ⟨N', fr', l', x4', x5', F', hk, ?_⟩
        rw [List.map_cons, forEach_nxt (ρ' := [st, .o (.dict l1), x2, .o (.list (fr1.map (plV n))), .v (plV n p), x51]) ?_]
        · exact he
        · rw [fstep_of hb]
          refine exs_one (r := .nxt _) ((xx_for (xv_call (evL1 rfl) (h15 p hpl)) (itemsL (by rw [List.length_map]; omega))).trans ?_)
          exact he1
theorem bfs_ok {st : Sl} {k : Nat → Bool} : ∀ (f N : Nat) (ps : List Nat) (l : List (List Nat × PV)) (x2 x3 x4 x5 : Sl), Front n l N ps → x2.val = some (.list (ps.map (plV n))) → bfs n f N ps k = true →
    ∃ N' l' x2' x3' x4' x5', Rel n l' N' ∧ k N' = true ∧
      whileN (fun ρ => match ev C (.var 2) ρ with | some x => truth x | Option.none => Option.none) (fun ρ => exs C wayBody ρ) f [st, .o (.dict l), x2, x3, x4, x5] = some (.nxt [st, .o (.dict l'), x2', x3', x4', x5'])
  | 0, _, _, _, _, _, _, _, _, _, h => by cases h
  | f + 1, N, [], l, x2, x3, x4, x5, F, h2, h => by
    refine ⟨N, l, x2, x3, x4, x5, F.rel, h, ?_⟩
    have e : ev C (.var 2) [st, .o (.dict l), x2, x3, x4, x5] = some (.list []) := h2
    unfold whileN
    rw [e]; rfl
  | f + 1, N, p :: r, l, x2, x3, x4, x5, F, h2, h => by
    have e : ev C (.var 2) [st, .o (.dict l), x2, x3, x4, x5] = some (.list ((p :: r).map (plV n))) := h2
    have hln := F.rel.len (by omega)
    have hfl := F.len
    obtain ⟨N1, fr1, l1, x41, x51, F1, hk1, he1⟩ := lev_ok hn h15 (C := C) (st := st) (x2 := .v (.list ((p :: r).map (plV n)))) (p :: r) N [] l x4 x5 ⟨F.rel, Nat.zero_le _, fun _ hx => by cases hx⟩ F.has h
    obtain ⟨N', l', x2', x3', x4', x5', R, hk, hw⟩ := bfs_ok f N1 fr1 l1 (.v (.list (fr1.map (plV n)))) (.v (.list (fr1.map (plV n)))) x41 x51 F1 rfl hk1
    refine ⟨N', l', x2', x3', x4', x5', R, hk, ?_⟩
    unfold whileN
    rw [e]
    have ht : truth (.list ((p :: r).map (plV n))) = some true := by
      show (if szOk ((p :: r).map (plV n)).length then some (!((p :: r).map (plV n)).isEmpty) else Option.none) = _
      rw [szOk_of (by rw [List.length_map]; omega)]; rfl
    dsimp only
    rw [ht]
    dsimp only
    have hs : exs C wayBody [st, .o (.dict l), x2, x3, x4, x5] = some (.nxt [st, .o (.dict l1), .v (.list (fr1.map (plV n))), .v (.list (fr1.map (plV n))), x41, x51]) := by
      unfold wayBody
      refine (exs_nxt (ρ' := [st, .o (.dict l), x2, .o (.list []), x4, x5]) ((xx_asg (v := .list []) rfl).trans rfl)).trans ?_
      have hd : dropAt [st, .o (.dict l), x2, .o (.list []), x4, x5] (al (.var 2)) = [st, .o (.dict l), .v (.list ((p :: r).map (plV n))), .o (.list []), x4, x5] := by
        cases x2 with
        | no => cases h2
        | v q => cases h2; rfl
        | o q => cases h2; rfl
      refine (exs_nxt (ρ' := [st, .o (.dict l1), .v (.list ((p :: r).map (plV n))), .o (.list (fr1.map (plV n))), x41, x51]) ?_).trans ?_
      · have e2 : ev C (.var 2) [st, .o (.dict l), x2, .o (.list []), x4, x5] = some (.list ((p :: r).map (plV n))) := h2
        refine (xx_for (x := .list ((p :: r).map (plV n))) (items := (p :: r).map (plV n)) e2 (itemsL (by rw [List.length_map]; omega))).trans ?_
        rw [hd]
        exact he1
      · exact exs_one (r := .nxt _) ((xx_asg (v := .list (fr1.map (plV n))) rfl).trans rfl)
    rw [hs]
    exact hw
end
end Mine
namespace Mine
open PySem

/-! ## what the search must find -/
noncomputable def isD (d j : Nat) : Nat := match Nat.beq d j with | true => 1 | false => 0
/-- how much of the colour j, in units of the lowest layer -/
noncomputable def numC (j : Nat) : Nat → Nat → Nat
  | 0, _ => 0
  | c + 1, p => Nat.add (isD (Nat.mod p 3) j) (Nat.mul 2 (numC j c (Nat.div p 3)))
noncomputable def nmin (a b : Nat) : Nat := match Nat.ble a b with | true => a | false => b
noncomputable def digC (p c : Nat) : Nat := Nat.mod (Nat.div p (Nat.pow 3 c)) 3
noncomputable def straightC (c x y s t : Nat) : Nat := Nat.sub (Nat.sub (Nat.mul 2 (Nat.pow 2 c)) 1) (Nat.add (numC y c s) (numC x c t))
noncomputable def viaC (c z s t : Nat) : Nat := Nat.sub (Nat.sub (Nat.mul 3 (Nat.pow 2 c)) 1) (Nat.add (numC z c s) (numC z c t))
noncomputable def acrC : Nat → Nat → Nat → Nat
  | 0, _, _ => 0
  | c + 1, s, t => match Nat.beq (digC s c) (digC t c) with
    | true => acrC c s t
    | false => nmin (straightC c (digC s c) (digC t c) s t) (viaC c (Nat.sub (Nat.sub 3 (digC s c)) (digC t c)) s t)
/-- j at every place -/
noncomputable def pure : Nat → Nat → Nat
  | 0, _ => 0
  | n + 1, j => Nat.add j (Nat.mul 3 (pure n j))
noncomputable def fin (n s N : Nat) : Bool := match allL (fun j => Nat.beq (getW N (pure n j)) (Nat.sub (Nat.pow 2 n) (numC j n s))) [0, 1, 2] with
  | true => allL (fun t => Nat.beq (getW N t) (Nat.add (acrC n s t) 1)) (rngOf (Nat.pow 3 n))
  | false => false
noncomputable def good (n s : Nat) : Bool := bfs n whileMost (setW 0 s 1) [s] (fin n s)
noncomputable def fromN (a : Nat) : Nat → List Nat
  | 0 => []
  | k + 1 => a :: fromN (Nat.add a 1) k
theorem mem_from {p : Nat} : ∀ {k a : Nat}, a ≤ p → p < a + k → p ∈ fromN a k
  | 0, a, h, h' => by omega
  | k + 1, a, h, h' => by
    rcases Nat.eq_or_lt_of_le h with e | e
    · subst e; exact List.mem_cons_self ..
    · exact List.mem_cons_of_mem _ (mem_from (a := a + 1) (by omega) (by omega))
theorem good3 : allL (good 3) (fromN 0 27) = true := by kernel_rfl
theorem good4a : allL (good 4) (fromN 0 16) = true := by kernel_rfl
theorem good4b : allL (good 4) (fromN 16 16) = true := by kernel_rfl
theorem good4c : allL (good 4) (fromN 32 16) = true := by kernel_rfl
theorem good4d : allL (good 4) (fromN 48 16) = true := by kernel_rfl
theorem good4e : allL (good 4) (fromN 64 17) = true := by kernel_rfl
theorem good_at {n p : Nat} (hn : n = 3 ∨ n = 4) (hp : p < 3 ^ n) : good n p = true := by
  rcases hn with rfl | rfl
  · exact allL_at good3 p (mem_from (by omega) (by omega))
  · rcases Nat.lt_or_ge p 16 with h1 | h1
    · exact allL_at good4a p (mem_from (by omega) (by omega))
    rcases Nat.lt_or_ge p 32 with h2 | h2
    · exact allL_at good4b p (mem_from (by omega) (by omega))
    rcases Nat.lt_or_ge p 48 with h3 | h3
    · exact allL_at good4c p (mem_from (by omega) (by omega))
    rcases Nat.lt_or_ge p 64 with h4 | h4
    · exact allL_at good4d p (mem_from (by omega) (by omega))
    · exact allL_at good4e p (mem_from (by omega) (by omega))
theorem getW_zero {p : Nat} : getW 0 p = 0 := by
  show 0 / 32 ^ p % 32 = 0
  rw [Nat.zero_div]
theorem rel_nil {n : Nat} : Rel n [] 0 := ⟨fun p _ => by rw [getW_zero]; rfl, [], rfl, List.nodup_nil, fun _ h => by cases h⟩
theorem ways_run {C : Orc} {n p : Nat} (hn : n = 3 ∨ n = 4) (h15 : ∀ p, p < 3 ^ n → C 15 [plV n p] = some (.list ((stepsC n p).map (plV n)))) (hp : p < 3 ^ n) :
    ∃ l N, run C p_law_ways [plV n p] = some (.dict l) ∧ Rel n l N ∧ fin n p N = true := by
  have F : Front n [(plC n p, .int ((0 : Nat) : Int))] (setW 0 p 1) [p] := ⟨rel_nil.put hp getW_zero (by omega), Nat.le_refl _, fun x hx => by
    rw [List.mem_singleton.mp hx]
    exact ⟨hp, by rw [getW_same getW_zero (by omega)]; omega⟩⟩
  obtain ⟨N, l, x2, x3, x4, x5, R, hf, hw⟩ := bfs_ok (C := C) hn h15 (st := .v (plV n p)) (k := fin n p) whileMost (setW 0 p 1) [p] _ (.o (.list [plV n p])) .no .no .no F rfl (good_at hn hp)
  refine ⟨l, N, ?_, R, hf⟩
  refine run_of rfl ?_
  refine (exs_nxt (ρ' := [.v (plV n p), .o (.dict [(plC n p, .int ((0 : Nat) : Int))]), .no, .no, .no, .no]) ((xx_asg (v := .dict [(plC n p, .int ((0 : Nat) : Int))]) rfl).trans rfl)).trans ?_
  refine (exs_nxt (ρ' := [.v (plV n p), .o (.dict [(plC n p, .int ((0 : Nat) : Int))]), .o (.list [plV n p]), .no, .no, .no]) ((xx_asg (v := .list [plV n p]) rfl).trans rfl)).trans ?_
  have e : ex C (.whl (.var 2) wayBody) [.v (plV n p), .o (.dict [(plC n p, .int ((0 : Nat) : Int))]), .o (.list [plV n p]), .no, .no, .no] = _ := hw
  refine (exs_nxt e).trans ?_
  exact exs_one (xx_ret rfl)
end Mine
namespace Mine
open PySem

/-! ## rows by number -/
noncomputable def rowC : Nat → Nat → List Nat
  | 0, _ => []
  | n + 1, p => Nat.mod p 3 :: rowC n (Nat.div p 3)
theorem row_len : ∀ {n p : Nat}, (rowC n p).length = n
  | 0, _ => rfl
  | n + 1, _ => by rw [rowC, List.length_cons, row_len]
theorem row_lt : ∀ {n p : Nat}, ∀ x ∈ rowC n p, x < 3
  | n + 1, p, x, h => by
    rcases List.mem_cons.mp h with rfl | h
    · exact Nat.mod_lt _ (by omega)
    · exact row_lt x h
theorem digC_lt {p c : Nat} : digC p c < 3 := Nat.mod_lt _ (by omega)
theorem row_get : ∀ {n c p : Nat}, c < n → (rowC n p)[c]? = some (digC p c)
  | n + 1, 0, p, _ => by
    show some (p % 3) = some (p / 3 ^ 0 % 3)
    rw [Nat.pow_zero, Nat.div_one]
  | n + 1, c + 1, p, h => by
    rw [rowC, List.getElem?_cons_succ, row_get (by omega)]
    show some (p / 3 / 3 ^ c % 3) = some (p / 3 ^ (c + 1) % 3)
    rw [Nat.div_div_eq_div_mul, Nat.pow_succ, Nat.mul_comm (3 ^ c)]
theorem row_take : ∀ {n c p : Nat}, c ≤ n → (rowC n p).take c = rowC c p
  | _, 0, _, _ => rfl
  | n + 1, c + 1, p, h => by
    rw [rowC, List.take_succ_cons, row_take (by omega)]; rfl
theorem get_row {n c p : Nat} (h : c < n) (hn : n ≤ 4) : getI (natsV (rowC n p)) (.int (c : Nat)) = some (.int (digC p c : Nat)) := by
  refine getN (by rw [List.length_map, row_len]; omega) ?_
  rw [List.getElem?_map, row_get h]; rfl
theorem cut_row {n c p : Nat} (h : c ≤ n) (hn : n ≤ 4) : slice (natsV (rowC n p)) .none (.int (c : Nat)) .none = some (natsV (rowC c p)) := by
  refine (slc_to (by rw [List.length_map, row_len]; omega)).trans ?_
  rw [← List.map_take, row_take h]; rfl

/-! ## mixes by number -/
noncomputable def same3 (a b : N3) : Bool := match Nat.beq a.1 b.1 with
  | true => match Nat.beq a.2.1 b.2.1 with
    | true => Nat.beq a.2.2 b.2.2
    | false => false
  | false => false
theorem same3_eq {a b : N3} (h : same3 a b = true) : a = b := by
  obtain ⟨a0, a1, a2⟩ := a
  obtain ⟨b0, b1, b2⟩ := b
  unfold same3 at h
  cases h0 : Nat.beq a0 b0 with
  | false => rw [h0] at h; cases h
  | true =>
    rw [h0] at h
    dsimp only at h
    cases h1 : Nat.beq a1 b1 with
    | false => rw [h1] at h; cases h
    | true =>
      rw [h1] at h
      dsimp only at h
      rw [Nat.eq_of_beq_eq_true h0, Nat.eq_of_beq_eq_true h1, Nat.eq_of_beq_eq_true h]
noncomputable def upN (c m : Nat) : Nat := Nat.mul m (Nat.pow 2 (Nat.sub 4 c))
theorem mix_tab : allL (fun c => allL (fun p => same3 (mixOf (rowC c p)) (upN c (numC 0 c p), upN c (numC 1 c p), upN c (numC 2 c p))) (rngOf 81)) (rngOf 5) = true := by kernel_rfl
theorem mix_num {c p : Nat} (hc : c ≤ 4) (hp : p < 81) : mixOf (rowC c p) = (upN c (numC 0 c p), upN c (numC 1 c p), upN c (numC 2 c p)) :=
  same3_eq (allL_at (allL_at mix_tab c (mem_rngOf (by omega))) p (mem_rngOf hp))
theorem isD_le {a b : Nat} : isD a b ≤ 1 := by
  unfold isD
  cases Nat.beq a b with
  | true => exact Nat.le_refl _
  | false => exact Nat.zero_le _
theorem num_lt {j : Nat} : ∀ {c p : Nat}, numC j c p < 2 ^ c
  | 0, _ => Nat.one_pos
  | c + 1, p => by
    have h1 := num_lt (j := j) (c := c) (p := Nat.div p 3)
    have h2 := isD_le (a := Nat.mod p 3) (b := j)
    show isD (Nat.mod p 3) j + 2 * numC j c (Nat.div p 3) < 2 ^ (c + 1)
    rw [Nat.pow_succ]; omega
theorem get_mix {c p j : Nat} (hc : c ≤ 4) (hp : p < 81) (hj : j < 3) : getI (mixV (mixOf (rowC c p))) (.int (j : Nat)) = some (sx (upN c (numC j c p))) := by
  rw [mix_num hc hp]
  match j, hj with
  | 0, _ => rfl
  | 1, _ => rfl
  | 2, _ => rfl

/-! ## the sums in floats -/
noncomputable def fl (n : Nat) : PV := .flt (Float64.ofInt n)
noncomputable def twoTo (c : Nat) : PV := .int ((2 : Int) ^ c)
noncomputable def gapF (k c a b : Nat) : Option PV := obind (binop .Mult (.int k) (twoTo c)) fun u => obind (binop .Sub u (.int 1)) fun v => obind (binop .Add (sx (upN c a)) (sx (upN c b))) fun w => obind (binop .Mult (twoTo c) w) fun x => binop .Sub v x
noncomputable def gapN (k c a b : Nat) : Nat := Nat.sub (Nat.sub (Nat.mul k (Nat.pow 2 c)) 1) (Nat.add a b)
theorem gap_all : [2, 3].map (fun k => (rngOf 4).map fun c => (rngOf (Nat.pow 2 c)).map fun a => (rngOf (Nat.pow 2 c)).map fun b => gapF k c a b) = [2, 3].map fun k => (rngOf 4).map fun c => (rngOf (Nat.pow 2 c)).map fun a => (rngOf (Nat.pow 2 c)).map fun b => some (fl (gapN k c a b)) := by kernel_rfl
theorem gap_at {k c a b : Nat} (hk : k = 2 ∨ k = 3) (hc : c < 4) (ha : a < 2 ^ c) (hb : b < 2 ^ c) : gapF k c a b = some (fl (gapN k c a b)) :=
  List.map_inj_left.mp (List.map_inj_left.mp (List.map_inj_left.mp (List.map_inj_left.mp gap_all k (by simp; omega)) c (mem_rngOf hc)) a (mem_rngOf ha)) b (mem_rngOf hb)
theorem min_all : (rngOf 16).map (fun a => (rngOf 24).map fun b => blt .min [fl a, fl b]) = (rngOf 16).map fun a => (rngOf 24).map fun b => some (fl (nmin a b)) := by kernel_rfl
theorem eq_all : (rngOf 24).map (fun (a : Nat) => cmpop .Eq (.int (a : Nat)) (fl a)) = (rngOf 24).map fun _ => some true := by kernel_rfl
theorem colF_all : [3, 4].map (fun n => (rngOf (Nat.pow 2 n)).map fun m => obind (binop .Sub (.flt 4607182418800017408) (sx (upN n m))) fun x => obind (binop .Mult (twoTo n) x) fun y => binop .Sub y (.int 1)) = [3, 4].map fun n => (rngOf (Nat.pow 2 n)).map fun m => some (fl (Nat.sub (Nat.sub (Nat.pow 2 n) m) 1)) := by kernel_rfl
theorem pow_two {c : Nat} (h : c ≤ 4) : binop .Pow (.int 2) (.int (c : Nat)) = some (twoTo c) := by
  match c, h with
  | 0, _ => rfl
  | 1, _ => rfl
  | 2, _ => rfl
  | 3, _ => rfl
  | 4, _ => rfl
end Mine
namespace Mine
open PySem

noncomputable def acTest : Mine.X := .cmp .Eq (.sub (.var 0) (.var 2)) (.sub (.var 1) (.var 2))
noncomputable def acTurn : SL := (.cons (.unp [0, 1, 2] false (.tup (.cons (.slc (.var 0) (.cst .none) (.var 2) (.cst .none)) (.cons (.slc (.var 1) (.cst .none) (.var 2) (.cst .none)) (.cons (.bin .Sub (.var 2) (.cst (.int 1))) .nil))))) (.cons (.ite (.cmp .Lt (.var 2) (.cst (.int 0))) (.cons (.ret (.cst (.int 0))) .nil) .nil) .nil))
noncomputable def acW (C : Orc) (f : Nat) (ρ : Ρ) : Option Res := whileN (fun ρ => match ev C acTest ρ with | some x => truth x | Option.none => Option.none) (fun ρ => exs C acTurn ρ) f ρ
theorem acW_done {C : Orc} {f : Nat} {ρ : Ρ} (h : ev C acTest ρ = some (.bool false)) : acW C (f + 1) ρ = some (.nxt ρ) := by
  unfold acW whileN; rw [h]; rfl
theorem acW_nxt {C : Orc} {f : Nat} {ρ ρ' : Ρ} (h : ev C acTest ρ = some (.bool true)) (h2 : exs C acTurn ρ = some (.nxt ρ')) : acW C (f + 1) ρ = acW C f ρ' := by
  unfold acW; rw [whileN, h]; dsimp only [truth]; rw [h2]
theorem acW_ret {C : Orc} {f : Nat} {ρ : Ρ} {v : PV} (h : ev C acTest ρ = some (.bool true)) (h2 : exs C acTurn ρ = some (.ret v)) : acW C (f + 1) ρ = some (.ret v) := by
  unfold acW; rw [whileN, h]; dsimp only [truth]; rw [h2]
theorem acrT {c s t : Nat} (h : Nat.beq (digC s c) (digC t c) = true) : acrC (c + 1) s t = acrC c s t := by
  rw [acrC, h]
theorem ac_while {C : Orc} {s t : Nat} {x3 x4 x5 x6 : Sl} : ∀ (c f : Nat), c < f → c < 4 →
    (acrC (c + 1) s t = 0 ∧ acW C f [.v (natsV (rowC (c + 1) s)), .v (natsV (rowC (c + 1) t)), .v (.int (c : Nat)), x3, x4, x5, x6] = some (.ret (.int 0))) ∨
    ∃ d, d < 4 ∧ acrC (c + 1) s t = acrC (d + 1) s t ∧ Nat.beq (digC s d) (digC t d) = false ∧ acW C f [.v (natsV (rowC (c + 1) s)), .v (natsV (rowC (c + 1) t)), .v (.int (c : Nat)), x3, x4, x5, x6] = some (.nxt [.v (natsV (rowC (d + 1) s)), .v (natsV (rowC (d + 1) t)), .v (.int (d : Nat)), x3, x4, x5, x6])
  | _, 0, h, _ => absurd h (Nat.not_lt_zero _)
  | c, f + 1, h, h4 => by
    have ht : ev C acTest [.v (natsV (rowC (c + 1) s)), .v (natsV (rowC (c + 1) t)), .v (.int (c : Nat)), x3, x4, x5, x6] = some (.bool (Nat.beq (digC s c) (digC t c))) :=
      xv_cmp (xv_sub rfl rfl (get_row (Nat.lt_succ_self c) h4)) (xv_sub rfl rfl (get_row (Nat.lt_succ_self c) h4)) (eqN _ _)
    cases hb : Nat.beq (digC s c) (digC t c) with
    | false =>
      rw [hb] at ht
      exact .inr ⟨c, h4, rfl, hb, acW_done ht⟩
    | true =>
      rw [hb] at ht
      have hu : ex C (.unp [0, 1, 2] false (.tup (.cons (.slc (.var 0) (.cst .none) (.var 2) (.cst .none)) (.cons (.slc (.var 1) (.cst .none) (.var 2) (.cst .none)) (.cons (.bin .Sub (.var 2) (.cst (.int 1))) .nil))))) [.v (natsV (rowC (c + 1) s)), .v (natsV (rowC (c + 1) t)), .v (.int (c : Nat)), x3, x4, x5, x6] = some (.nxt [.v (natsV (rowC c s)), .v (natsV (rowC c t)), .v (.int ((c : Nat) - 1 : Int)), x3, x4, x5, x6]) :=
        (xx_unp (vs := [natsV (rowC c s), natsV (rowC c t), .int ((c : Nat) - 1 : Int)]) (ev_tup3 (xv_slc rfl rfl rfl rfl (cut_row (Nat.le_succ c) h4)) (xv_slc rfl rfl rfl rfl (cut_row (Nat.le_succ c) h4)) rfl)).trans rfl
      match c, h with
      | 0, _ => exact .inl ⟨acrT hb, acW_ret ht ((exs_nxt hu).trans rfl)⟩
      | c + 1, h =>
        rw [show (((c + 1 : Nat) : Int) - 1) = (c : Int) by omega] at hu
        have hs : exs C acTurn [.v (natsV (rowC (c + 1 + 1) s)), .v (natsV (rowC (c + 1 + 1) t)), .v (.int ((c + 1 : Nat) : Int)), x3, x4, x5, x6] = some (.nxt [.v (natsV (rowC (c + 1) s)), .v (natsV (rowC (c + 1) t)), .v (.int (c : Nat)), x3, x4, x5, x6]) := by
          refine (exs_nxt hu).trans (exs_one (r := .nxt _) ((ex_iteF (xv_cmp (x := .int (c : Nat)) (y := .int 0) rfl rfl ?_)).trans rfl))
          show some (decide ((c : Int) < 0)) = some false
          rw [decide_eq_false (by omega)]
        rw [acW_nxt ht hs, acrT hb]
        exact ac_while c f (by omega) (by omega)

theorem ev_c2 {C : Orc} {elt iter : Mine.X} {ρ : Ρ} {v a b x y : PV} (h : ev C iter ρ = some v) (hi : itemsOf v = some [a, b]) (h0 : ev C elt (.v a :: ρ) = some x) (h1 : ev C elt (.v b :: ρ) = some y) :
    ev C (.comp elt iter (.cst (.bool true))) ρ = some (.list [x, y]) := by
  rw [ev, h]
  dsimp only
  rw [hi]
  simp only [mapC, h0, h1, Option.map]
  simp only [ev, truth]
theorem xv_blt {C : Orc} {b : Blt} {l : XL} {ρ : Ρ} {vs : List PV} {r : PV} (h : evL C l ρ = some vs) (e : blt b vs = some r) : ev C (.blt b l) ρ = some r := by
  rw [ev, h]; exact e
theorem subN {a b : Nat} (h : b ≤ a) : binop .Sub (.int a) (.int b) = some (.int ((Nat.sub a b : Nat) : Int)) := by
  show some (PV.int ((a : Int) - b)) = some (.int ((a - b : Nat) : Int))
  rw [Int.ofNat_sub h]
theorem gap_ev {C : Orc} {ρ : Ρ} {k c a b : Nat} {u v : Mine.X} (hk : k = 2 ∨ k = 3) (hc : c < 4) (ha : a < 2 ^ c) (hb : b < 2 ^ c) (hw : ev C (.var 4) ρ = some (twoTo c)) (hu : ev C u ρ = some (sx (upN c a))) (hv : ev C v ρ = some (sx (upN c b))) :
    ev C (.bin .Sub (.bin .Sub (.bin .Mult (.cst (.int (k : Nat))) (.var 4)) (.cst (.int 1))) (.bin .Mult (.var 4) (.bin .Add u v))) ρ = some (fl (gapN k c a b)) := by
  obtain ⟨p, h1, e1⟩ := obind_inv (gap_at hk hc ha hb)
  obtain ⟨q, h2, e2⟩ := obind_inv e1
  obtain ⟨r, h3, e3⟩ := obind_inv e2
  obtain ⟨x, h4, e4⟩ := obind_inv e3
  exact xv_bin (xv_bin (xv_bin rfl hw h1) rfl h2) (xv_bin hw (xv_bin hu hv h3) h4) e4
theorem gap_lt {k c a b : Nat} (hc : c < 4) : gapN k c a b < k * 8 ∨ k = 0 := by
  have h : 2 ^ c ≤ 2 ^ 3 := Nat.pow_le_pow_right (by omega) (by omega)
  have h2 : k * 2 ^ c ≤ k * 8 := Nat.mul_le_mul (Nat.le_refl k) h
  have h0 : 1 ≤ 2 ^ c := Nat.one_le_two_pow
  have h3 : k * 1 ≤ k * 2 ^ c := Nat.mul_le_mul (Nat.le_refl k) h0
  show k * 2 ^ c - 1 - (a + b) < k * 8 ∨ k = 0
  omega
theorem third_lt {x y : Nat} (hx : x < 3) (hy : y < 3) (h : Nat.beq x y = false) : Nat.sub (Nat.sub 3 x) y < 3 ∧ y ≤ Nat.sub 3 x := by
  have : x ≠ y := fun e => by subst e; rw [Nat.beq_refl] at h; cases h
  show 3 - x - y < 3 ∧ y ≤ 3 - x
  omega
theorem across_run {C : Orc} (h13 : ∀ r : List Nat, r.length ≤ 4 → (∀ l ∈ r, l < 3) → C 13 [natsV r] = some (.list ((scanM r (0, 0, 0)).map mixV))) {n s t : Nat} (hn : n = 3 ∨ n = 4) (hs : s < 81) (ht : t < 81) :
    ∃ r, run C p_law_across [natsV (rowC n s), natsV (rowC n t)] = some r ∧ cmpop .Eq (.int (acrC n s t : Nat)) r = some true := by
  obtain ⟨c, rfl, hc⟩ : ∃ c, n = c + 1 ∧ c < 4 := ⟨n - 1, by omega, by omega⟩
  have e1 : ex C (.asg 2 true (.bin .Sub (.blt .len (.cons (.var 0) .nil)) (.cst (.int 1)))) [.v (natsV (rowC (c + 1) s)), .v (natsV (rowC (c + 1) t)), .no, .no, .no, .no, .no] = some (.nxt [.v (natsV (rowC (c + 1) s)), .v (natsV (rowC (c + 1) t)), .v (.int (c : Nat)), .no, .no, .no, .no]) := by
    refine (xx_asg (v := .int (c : Nat)) (xv_bin (x := .int ((c + 1 : Nat) : Int)) (y := .int ((1 : Nat) : Int)) (ev_blt1 rfl ?_) rfl (subN (by omega)))).trans rfl
    refine (lenL (by rw [List.length_map, row_len]; omega)).trans ?_
    rw [List.length_map, row_len]
  rcases ac_while (C := C) (s := s) (t := t) (x3 := .no) (x4 := .no) (x5 := .no) (x6 := .no) c whileMost (Nat.lt_of_lt_of_le hc (by decide)) hc with ⟨e0, ew⟩ | ⟨d, hd, ea, hb, ew⟩
  · refine ⟨.int 0, run_of rfl ((exs_nxt e1).trans ?_), by rw [e0]; rfl⟩
    have ew : ex C (.whl acTest acTurn) [.v (natsV (rowC (c + 1) s)), .v (natsV (rowC (c + 1) t)), .v (.int (c : Nat)), .no, .no, .no, .no] = _ := ew
    exact exs_ret ew
  · have ew : ex C (.whl acTest acTurn) [.v (natsV (rowC (c + 1) s)), .v (natsV (rowC (c + 1) t)), .v (.int (c : Nat)), .no, .no, .no, .no] = _ := ew
    have hx := digC_lt (p := s) (c := d)
    have hy := digC_lt (p := t) (c := d)
    obtain ⟨hz, hzle⟩ := third_lt hx hy hb
    rw [ea, acrC, hb]
    dsimp only
    have n4 : ∀ {j p : Nat}, numC j d p < 2 ^ d := num_lt
    have b2 : gapN 2 d (numC (digC t d) d s) (numC (digC s d) d t) < 16 := by
      rcases gap_lt (k := 2) (a := numC (digC t d) d s) (b := numC (digC s d) d t) hd with h | h <;> omega
    have b3 : gapN 3 d (numC (Nat.sub (Nat.sub 3 (digC s d)) (digC t d)) d s) (numC (Nat.sub (Nat.sub 3 (digC s d)) (digC t d)) d t) < 24 := by
      rcases gap_lt (k := 3) (a := numC (Nat.sub (Nat.sub 3 (digC s d)) (digC t d)) d s) (b := numC (Nat.sub (Nat.sub 3 (digC s d)) (digC t d)) d t) hd with h | h <;> omega
    have hm := List.map_inj_left.mp (List.map_inj_left.mp min_all _ (mem_rngOf b2)) _ (mem_rngOf b3)
    have hlt : nmin (gapN 2 d (numC (digC t d) d s) (numC (digC s d) d t)) (gapN 3 d (numC (Nat.sub (Nat.sub 3 (digC s d)) (digC t d)) d s) (numC (Nat.sub (Nat.sub 3 (digC s d)) (digC t d)) d t)) < 24 := by
      unfold nmin
      split <;> omega
    refine ⟨_, run_of rfl ((exs_nxt e1).trans ((exs_nxt ew).trans ?_)), List.map_inj_left.mp eq_all _ (mem_rngOf hlt)⟩
    have low : ∀ {p : Nat} {ρ : Ρ}, p < 81 → ρ[0]? = some (.v (natsV (rowC (d + 1) p))) → ρ[3]? = some (.v (.int (d : Nat))) → ev C (.sub (.call 13 (.cons (.slc (.var 0) (.cst .none) (.var 3) (.cst .none)) .nil)) (.var 3)) ρ = some (mixV (mixOf (rowC d p))) := fun {p ρ} hp h0 h3 => by
      have v0 : ev C (.var 0) ρ = some (natsV (rowC (d + 1) p)) := by rw [ev, h0]; rfl
      have v3 : ev C (.var 3) ρ = some (.int (d : Nat)) := by rw [ev, h3]; rfl
      refine xv_sub (xv_call (evL1 (xv_slc v0 rfl v3 rfl (cut_row (Nat.le_succ d) hd))) (h13 _ (by rw [row_len]; omega) row_lt)) v3 ?_
      have := mix_get (row := rowC d p) (by rw [row_len]; omega)
      rwa [row_len] at this
    refine (exs_nxt (ρ' := [.v (natsV (rowC (d + 1) s)), .v (natsV (rowC (d + 1) t)), .v (.int (d : Nat)), .o (.list [mixV (mixOf (rowC d s)), mixV (mixOf (rowC d t))]), .no, .no, .no]) ((xx_asg (v := .list [mixV (mixOf (rowC d s)), mixV (mixOf (rowC d t))]) (ev_c2 (v := .tup [natsV (rowC (d + 1) s), natsV (rowC (d + 1) t)]) rfl rfl (low hs rfl rfl) (low ht rfl rfl))).trans rfl)).trans ?_
    refine (exs_nxt (ρ' := [.v (natsV (rowC (d + 1) s)), .v (natsV (rowC (d + 1) t)), .v (.int (d : Nat)), .o (.list [mixV (mixOf (rowC d s)), mixV (mixOf (rowC d t))]), .v (twoTo d), .v (.int (Nat.sub (Nat.sub 3 (digC s d)) (digC t d) : Nat)), .no]) ((xx_unp (vs := [twoTo d, .int (Nat.sub (Nat.sub 3 (digC s d)) (digC t d) : Nat)]) (ev_tup2 (xv_bin rfl rfl (pow_two (by omega))) (xv_bin (xv_bin (x := .int ((3 : Nat) : Int)) rfl (xv_sub rfl rfl (get_row (Nat.lt_succ_self d) hd)) (subN (by omega))) (xv_sub rfl rfl (get_row (Nat.lt_succ_self d) hd)) (subN hzle)))).trans rfl)).trans ?_
    have pick : ∀ {p j i : Nat} {ρ : Ρ} {x : Mine.X}, p < 81 → j < 3 → ev C (.sub (.var 3) (.cst (.int i))) ρ = some (mixV (mixOf (rowC d p))) → ev C x ρ = some (.int (j : Nat)) → ev C (.sub (.sub (.var 3) (.cst (.int i))) x) ρ = some (sx (upN d (numC j d p))) := fun hp hj h1 h2 => xv_sub h1 h2 (get_mix (by omega) hp hj)
    refine (exs_nxt (ρ' := [.v (natsV (rowC (d + 1) s)), .v (natsV (rowC (d + 1) t)), .v (.int (d : Nat)), .o (.list [mixV (mixOf (rowC d s)), mixV (mixOf (rowC d t))]), .v (twoTo d), .v (.int (Nat.sub (Nat.sub 3 (digC s d)) (digC t d) : Nat)), .v (fl (gapN 2 d (numC (digC t d) d s) (numC (digC s d) d t)))]) ((xx_asg (v := fl (gapN 2 d (numC (digC t d) d s) (numC (digC s d) d t))) (gap_ev (k := 2) (.inl rfl) hd n4 n4 rfl (pick (i := 0) hs hy rfl (xv_sub rfl rfl (get_row (Nat.lt_succ_self d) hd))) (pick (i := 1) ht hx rfl (xv_sub rfl rfl (get_row (Nat.lt_succ_self d) hd))))).trans rfl)).trans ?_
    refine exs_one (xx_ret ?_)
    have e3 := gap_ev (C := C) (ρ := [.v (natsV (rowC (d + 1) s)), .v (natsV (rowC (d + 1) t)), .v (.int (d : Nat)), .o (.list [mixV (mixOf (rowC d s)), mixV (mixOf (rowC d t))]), .v (twoTo d), .v (.int (Nat.sub (Nat.sub 3 (digC s d)) (digC t d) : Nat)), .v (fl (gapN 2 d (numC (digC t d) d s) (numC (digC s d) d t)))]) (k := 3) (.inr rfl) hd (n4 (j := Nat.sub (Nat.sub 3 (digC s d)) (digC t d)) (p := s)) (n4 (j := Nat.sub (Nat.sub 3 (digC s d)) (digC t d)) (p := t)) rfl (pick (i := 0) (x := .var 5) hs hz rfl rfl) (pick (i := 1) (x := .var 5) ht hz rfl rfl)
    have el := evL2 (C := C) (a := .var 6) (x := fl (gapN 2 d (numC (digC t d) d s) (numC (digC s d) d t))) rfl e3
    exact xv_blt el hm
end Mine
namespace Mine
open PySem

/-! ## the parts, at their levels -/
theorem esc_lv {n : Nat} (hn : 1 ≤ n) {s : List Nat} (hs : s.length ≤ 10000) : ∀ f k, escAt f = some k → lvl fs3 n f [.str s] = some (.str (esc k s))
  | 3, _, rfl => (lvl_at (l := 0) rfl hn).trans (esc_run hs (f := 3) rfl rfl)
  | 4, _, rfl => (lvl_at (l := 0) rfl hn).trans (esc_run hs (f := 4) rfl rfl)
  | 5, _, rfl => (lvl_at (l := 0) rfl hn).trans (esc_run hs (f := 5) rfl rfl)
  | 6, _, rfl => (lvl_at (l := 0) rfl hn).trans (esc_run hs (f := 6) rfl rfl)
  | 7, _, rfl => (lvl_at (l := 0) rfl hn).trans (esc_run hs (f := 7) rfl rfl)
theorem seven_of {k s : Nat} (hk : k < 5) (h : s ∈ signsOf k) : s ∈ seven := by
  have : ∀ k ∈ [0, 1, 2, 3, 4], (signsOf k).all (fun s => seven.contains s) = true := by decide +kernel
  have h1 := List.all_eq_true.mp (this k (by simp; omega)) s h
  simpa using h1
theorem texts_lv {k s0 s1 s2 : Nat} {row : List Nat} (hk : k < 5) (hs0 : s0 ∈ signsOf k) (hs1 : s1 ∈ signsOf k) (hs2 : s2 ∈ signsOf k) (hr : ∀ x ∈ row, x < 3) (hl : row.length = 3 ∨ row.length = 4) :
    lvl fs3 4 11 [natsV row, .int k, signV [s0, s1, s2]] = some (natsV row.reverse) := by
  refine (lvl_at (l := 2) rfl (by omega)).trans (texts_run hk hs0 hs1 hs2 hr hl (fun t ht => ?_) (fun t s ht => ?_) (fun s hs a ha => ?_))
  · exact (lvl_at (l := 1) rfl (by omega)).trans (written_run hk (esc_lv (by omega) ht))
  · exact (lvl_at (l := 0) rfl (by omega)).trans (ages_run ht)
  · refine (lvl_at (l := 0) rfl (by omega)).trans (spelled_run hk (seven_of hk ?_) ha)
    rcases List.mem_cons.mp hs with rfl | hs
    · exact hs0
    · rcases List.mem_cons.mp hs with rfl | hs
      · exact hs1
      · rw [List.mem_singleton.mp hs]; exact hs2
theorem hsv_lv {n : Nat} (hn : 1 ≤ n) (args : List PV) : lvl fs3 n 1 args = run (lvl fs3 0) p_hsv_to_rgb args := lvl_at (l := 0) rfl hn
theorem rgb_lv {n : Nat} (hn : 1 ≤ n) (args : List PV) : lvl fs3 n 0 args = run (lvl fs3 0) p_rgb_to_hsv args := lvl_at (l := 0) rfl hn
theorem paint_lv {n : Nat} (hn : 2 ≤ n) {l : Nat} (hl : l < 3) : lvl fs3 n 12 [.int l] = some (paintV l) := (lvl_at (l := 1) rfl hn).trans (paint_run (hsv_lv (by omega)) hl)
theorem mixes_lv {n : Nat} (hn : 3 ≤ n) {row : List Nat} (h4 : row.length ≤ 4) (hl : ∀ l ∈ row, l < 3) : lvl fs3 n 13 [natsV row] = some (.list ((scanM row (0, 0, 0)).map mixV)) :=
  (lvl_at (l := 2) rfl hn).trans (mixes_run (fun _ h => paint_lv (by omega) h) h4 hl)
theorem peeled_lv {n : Nat} (hn : n = 3 ∨ n = 4) {r : List Nat} (hr : r.length = n) (h3 : ∀ x ∈ r, x < 3) : lvl fs3 4 14 [mixV (mixOf r), .int n] = some (natsV r.reverse) :=
  (lvl_at (l := 2) rfl (by omega)).trans (peeled_run (rgb_lv (by omega)) (hsv_lv (by omega)) (fun _ h => paint_lv (by omega) h) hn hr h3)
theorem steps_lv {n p : Nat} (hn : n = 3 ∨ n = 4) (hp : p < 3 ^ n) : lvl fs3 1 15 [plV n p] = some (.list ((stepsC n p).map (plV n))) := by
  refine (lvl_at (l := 0) rfl (by omega)).trans ?_
  rcases hn with rfl | rfl
  · exact List.map_inj_left.mp steps3 p (mem_rngOf hp)
  · exact List.map_inj_left.mp steps4 p (mem_rngOf hp)
theorem ways_lv {n p : Nat} (hn : n = 3 ∨ n = 4) (hp : p < 3 ^ n) : ∃ l N, lvl fs3 4 16 [plV n p] = some (.dict l) ∧ Rel n l N ∧ fin n p N = true := by
  obtain ⟨l, N, h1, h2, h3⟩ := ways_run (C := lvl fs3 1) hn (fun _ h => steps_lv hn h) hp
  exact ⟨l, N, (lvl_at (l := 1) rfl (by omega)).trans h1, h2, h3⟩
theorem across_lv {n s t : Nat} (hn : n = 3 ∨ n = 4) (hs : s < 81) (ht : t < 81) : ∃ r, lvl fs3 4 17 [natsV (rowC n s), natsV (rowC n t)] = some r ∧ cmpop .Eq (.int (acrC n s t : Nat)) r = some true := by
  obtain ⟨r, h1, h2⟩ := across_run (C := lvl fs3 3) (fun _ h g => mixes_lv (by omega) h g) hn hs ht
  exact ⟨r, (lvl_at (l := 3) rfl (by omega)).trans h1, h2⟩

/-! ## plain helps -/
theorem code_of : ∀ {r : List Nat}, (∀ x ∈ r, x < 3) → ∃ s, s < 3 ^ r.length ∧ rowC r.length s = r
  | [], _ => ⟨0, Nat.one_pos, rfl⟩
  | x :: r, h => by
    obtain ⟨s, h1, h2⟩ := code_of (r := r) fun y hy => h y (List.mem_cons_of_mem _ hy)
    have hx := h x (List.mem_cons_self ..)
    refine ⟨x + 3 * s, ?_, ?_⟩
    · rw [List.length_cons, Nat.pow_succ]; omega
    · have e1 : Nat.mod (x + 3 * s) 3 = x := by show (x + 3 * s) % 3 = x; omega
      have e2 : Nat.div (x + 3 * s) 3 = s := by show (x + 3 * s) / 3 = s; omega
      rw [List.length_cons, rowC, e1, e2, h2]
theorem plC_row : ∀ {n p : Nat}, plC n p = (rowC n p).reverse.map letter
  | 0, _ => rfl
  | n + 1, p => by
    rw [plC, rowC, List.reverse_cons, List.map_append, plC_row]; rfl
theorem ne_nats {a : List Nat} : cmpop .NotEq (natsV a) (natsV a) = some false := by
  have go : ∀ l : List Nat, pyEqs (pyEqN 7) (l.map fun (n : Nat) => PV.int n) (l.map fun (n : Nat) => PV.int n) = some true := fun l => by
    induction l with
    | nil => rfl
    | cons x r ih =>
      have e : pyEqN 7 (.int (x : Nat)) (.int (x : Nat)) = some true := by
        show some (((x : Nat) : Int) == (x : Nat)) = _
        rw [beq_self_eq_true]
      rw [List.map_cons, pyEqs, e]
      dsimp only
      rw [ih]; rfl
  show (pyEqN 8 (natsV a) (natsV a)).map (!·) = _
  have : pyEqN 8 (natsV a) (natsV a) = some true := by
    unfold natsV
    rw [pyEqN, beq_self_eq_true, if_pos rfl]
    exact go a
  rw [this]; rfl
theorem rev_nats {a : List Nat} (h : a.length ≤ 1000) : slice (natsV a) .none .none (.int (-1)) = some (natsV a.reverse) := by
  show (if szOk (a.map fun (n : Nat) => PV.int n).length = true then (sliceL (a.map fun (n : Nat) => PV.int n) .none .none (.int (-1))).map PV.list else none) = _
  rw [if_pos (szOk_of (by rw [List.length_map]; omega))]
  show some (PV.list (a.map fun (n : Nat) => PV.int n).reverse) = _
  rw [← List.map_reverse]; rfl
noncomputable def letterX : Mine.X := .mth .join (.cst (.str [])) (.cons (.comp (.sub (.cst (.str [114, 103, 98])) (.var 0)) (.slc (.var 9) (.cst .none) (.cst .none) (.neg (.cst (.int 1)))) (.cst (.bool true))) .nil)
theorem strs_letters : ∀ {l : List Nat}, strsOf (l.map fun x => PV.str [letter x]) = some (l.map fun x => [letter x]) ∧ (l.map fun x => [letter x]).flatten = l.map letter
  | [] => ⟨rfl, rfl⟩
  | x :: r => by
    obtain ⟨h1, h2⟩ := strs_letters (l := r)
    refine ⟨?_, ?_⟩
    · rw [List.map_cons, strsOf, h1]; rfl
    · rw [List.map_cons, List.flatten_cons, h2]; rfl
theorem letter_get {x : Nat} (h : x < 3) : getI (.str [114, 103, 98]) (.int (x : Nat)) = some (.str [letter x]) := by
  match x, h with
  | 0, _ => rfl
  | 1, _ => rfl
  | 2, _ => rfl
theorem letters_ev {C : Orc} {ρ : Ρ} {n p : Nat} (hn : n ≤ 4) (h9 : ev C (.var 9) ρ = some (natsV (rowC n p))) : ev C letterX ρ = some (plV n p) := by
  have e1 : ev C (.comp (.sub (.cst (.str [114, 103, 98])) (.var 0)) (.slc (.var 9) (.cst .none) (.cst .none) (.neg (.cst (.int 1)))) (.cst (.bool true))) ρ = some (.list ((rowC n p).reverse.map fun x => PV.str [letter x])) := by
    refine (ev_comp_all (g := fun v => match v with | .int i => .str [letter i.toNat] | _ => .none) (xv_slc h9 rfl rfl rfl (rev_nats (by rw [row_len]; omega))) (itemsL (by rw [List.length_map, List.length_reverse, row_len]; omega)) fun v hv => ?_).trans ?_
    · obtain ⟨x, hx, rfl⟩ := List.mem_map.mp hv
      exact xv_sub rfl rfl (letter_get (row_lt x (List.mem_reverse.mp hx)))
    · rw [List.map_map]; rfl
  obtain ⟨h1, h2⟩ := strs_letters (l := (rowC n p).reverse)
  have e2 : mth .join (.str []) [.list ((rowC n p).reverse.map fun x => PV.str [letter x])] = some (plV n p) := by
    have e0 : ∀ L : List PV, mth .join (.str []) [.list L] = obind (strsOf L) fun ss => ifz (szOk ss.flatten.length) (some (.str ss.flatten)) := fun _ => rfl
    rw [e0, h1]
    show ifz (szOk ((rowC n p).reverse.map fun x => [letter x]).flatten.length) (some (PV.str ((rowC n p).reverse.map fun x => [letter x]).flatten)) = _
    rw [h2, szOk_of (by rw [List.length_map, List.length_reverse, row_len]; omega), ← plC_row]; rfl
  exact xv_mth1 rfl e1 e2
end Mine
namespace Mine
open PySem

/-! ## the two rows -/
noncomputable def rowBody : SL := (.cons (.ite (.cmp .NotEq (.call 11 (.cons (.var 9) (.cons (.bin .Mod (.var 4) (.cst (.int 5))) (.cons (.var 7) .nil)))) (.slc (.var 9) (.cst .none) (.cst .none) (.neg (.cst (.int 1))))) (.cons (.ret (.cst (.bool false))) .nil) .nil) (.cons (.ite (.cmp .NotEq (.call 14 (.cons (.sub (.call 13 (.cons (.var 9) .nil)) (.var 1)) (.cons (.var 1) .nil))) (.slc (.var 9) (.cst .none) (.cst .none) (.neg (.cst (.int 1))))) (.cons (.ret (.cst (.bool false))) .nil) .nil) (.cons (.app 8 letterX) .nil)))
noncomputable def colBody3 : SL := (.cons (.ite (.cmp .NotEq (.sub (.var 10) (.bin .Mult (.sub (.cst (.str [114, 103, 98])) (.var 6)) (.var 1))) (.bin .Sub (.bin .Mult (.bin .Pow (.cst (.int 2)) (.var 1)) (.bin .Sub (.cst (.flt 4607182418800017408)) (.sub (.var 11) (.var 6)))) (.cst (.int 1)))) (.cons (.ret (.cst (.bool false))) .nil) .nil) .nil)

theorem mix_ev {n p : Nat} (hn : n = 3 ∨ n = 4) {ρ : Ρ} {x : Mine.X} (hx : ev (lvl fs3 4) x ρ = some (natsV (rowC n p))) (h1 : ev (lvl fs3 4) (.var 1) ρ = some (.int (n : Nat))) : ev (lvl fs3 4) (.sub (.call 13 (.cons x .nil)) (.var 1)) ρ = some (mixV (mixOf (rowC n p))) := by
  refine xv_sub (xv_call (evL1 hx) (mixes_lv (by omega) (by rw [row_len]; omega) row_lt)) h1 ?_
  have := mix_get (row := rowC n p) (by rw [row_len]; omega)
  rwa [row_len] at this

theorem row_step {n p k s0 s1 s2 : Nat} {tot : Int} (hn : n = 3 ∨ n = 4) (hk : rem tot 5 = k) (hs0 : s0 ∈ signsOf k) (hs1 : s1 ∈ signsOf k) (hs2 : s2 ∈ signsOf k) {x0 x2 x3 x5 x6 x9 x10 x11 : Sl} {acc : List PV} (ha : acc.length ≤ 100) :
    fstep (lvl fs3 4) [9] rowBody [x0, .v (.int (n : Nat)), x2, x3, .v (.int tot), x5, x6, .o (signV [s0, s1, s2]), .o (.list acc), x9, x10, x11] (natsV (rowC n p)) = some (.nxt [x0, .v (.int (n : Nat)), x2, x3, .v (.int tot), x5, x6, .o (signV [s0, s1, s2]), .o (.list (acc ++ [plV n p])), .v (natsV (rowC n p)), x10, x11]) := by
  have hk5 : k < 5 := hk ▸ rem_lt (by omega)
  rw [fstep_of (ρ' := [x0, .v (.int (n : Nat)), x2, x3, .v (.int tot), x5, x6, .o (signV [s0, s1, s2]), .o (.list acc), .v (natsV (rowC n p)), x10, x11]) rfl]
  unfold rowBody
  refine (exs_nxt ((ex_iteF (xv_cmp (xv_call (evL3 (x := natsV (rowC n p)) (y := .int (k : Nat)) rfl (xv_bin rfl rfl ((modI tot 5 (by omega)).trans (by rw [hk]))) rfl) (texts_lv hk5 hs0 hs1 hs2 row_lt (by rw [row_len]; exact hn))) (xv_slc rfl rfl rfl rfl (rev_nats (by rw [row_len]; omega))) ne_nats)).trans rfl)).trans ?_
  refine (exs_nxt ((ex_iteF (xv_cmp (xv_call (evL2 (mix_ev (p := p) hn rfl rfl) rfl) (peeled_lv hn row_len row_lt)) (xv_slc rfl rfl rfl rfl (rev_nats (by rw [row_len]; omega))) ne_nats)).trans rfl)).trans ?_
  exact exs_one (r := .nxt _) ((xx_app (v := plV n p) (l := acc) (letters_ev (by omega) rfl) rfl (by omega)).trans rfl)

/-! ## the three corners -/
theorem pure_lt {n j : Nat} (hj : j < 3) : pure n j < 3 ^ n := by
  induction n with
  | zero => exact Nat.one_pos
  | succ n ih =>
    show j + 3 * pure n j < 3 ^ (n + 1)
    rw [Nat.pow_succ]; omega
theorem pure_rep {n j : Nat} (hn : n = 3 ∨ n = 4) (hj : j < 3) : rep [letter j] n = plC n (pure n j) := by
  rcases hn with rfl | rfl
  · match j, hj with
    | 0, _ => rfl
    | 1, _ => rfl
    | 2, _ => rfl
  · match j, hj with
    | 0, _ => rfl
    | 1, _ => rfl
    | 2, _ => rfl
theorem fin_pure {n s N j : Nat} (h : fin n s N = true) (hj : j < 3) : getW N (pure n j) = 2 ^ n - numC j n s := by
  unfold fin at h
  cases h1 : allL (fun j => Nat.beq (getW N (pure n j)) (Nat.sub (Nat.pow 2 n) (numC j n s))) [0, 1, 2] with
  | false => rw [h1] at h; cases h
  | true => exact Nat.eq_of_beq_eq_true (allL_at h1 j (by simp; omega))
theorem fin_all {n s N t : Nat} (h : fin n s N = true) (ht : t < 3 ^ n) : getW N t = acrC n s t + 1 := by
  unfold fin at h
  cases h1 : allL (fun j => Nat.beq (getW N (pure n j)) (Nat.sub (Nat.pow 2 n) (numC j n s))) [0, 1, 2] with
  | false => rw [h1] at h; cases h
  | true => rw [h1] at h; exact Nat.eq_of_beq_eq_true (allL_at h t (mem_rngOf ht))
theorem ne_of_eq {a b : PV} (h : cmpop .Eq a b = some true) : cmpop .NotEq a b = some false := by
  show (pyEq a b).map (!·) = _
  have h : pyEq a b = some true := h
  rw [h]; rfl
theorem col_step3 {n s N j : Nat} {l : List (List Nat × PV)} (hn : n = 3 ∨ n = 4) (hs : s < 81) (R : Rel n l N) (hf : fin n s N = true) (hj : j < 3) {x0 x2 x3 x4 x5 x6 x7 x8 x9 x10 x11 : Sl} (h10 : x10.val = some (.dict l)) (h11 : x11.val = some (mixV (mixOf (rowC n s)))) :
    fstep (lvl fs3 4) [6] colBody3 [x0, .v (.int (n : Nat)), x2, x3, x4, x5, x6, x7, x8, x9, x10, x11] (.int (j : Nat)) = some (.nxt [x0, .v (.int (n : Nat)), x2, x3, x4, x5, .v (.int (j : Nat)), x7, x8, x9, x10, x11]) := by
  rw [fstep_of (ρ' := [x0, .v (.int (n : Nat)), x2, x3, x4, x5, .v (.int (j : Nat)), x7, x8, x9, x10, x11]) rfl]
  have hnum : numC j n s < 2 ^ n := num_lt
  have hg := fin_pure hf hj
  have hlook : getI (.dict l) (.str (plC n (pure n j))) = some (.int (2 ^ n - numC j n s - 1 : Nat)) := by
    show look _ l = _
    rw [R.look _ (pure_lt hj), hg]
    obtain ⟨w, hw⟩ : ∃ w, 2 ^ n - numC j n s = w + 1 := ⟨2 ^ n - numC j n s - 1, by omega⟩
    rw [hw]; rfl
  have hc := List.map_inj_left.mp (List.map_inj_left.mp colF_all n (by simp; omega)) (numC j n s) (mem_rngOf hnum)
  obtain ⟨x, h1, e1⟩ := obind_inv hc
  obtain ⟨y, h2, h3⟩ := obind_inv e1
  have hlt : 2 ^ n - numC j n s - 1 < 24 := by
    have : 2 ^ n ≤ 16 := by rcases hn with rfl | rfl <;> decide
    omega
  have hne := ne_of_eq (List.map_inj_left.mp eq_all _ (mem_rngOf hlt))
  have v10 : ev (lvl fs3 4) (.var 10) [x0, .v (.int (n : Nat)), x2, x3, x4, x5, .v (.int (j : Nat)), x7, x8, x9, x10, x11] = some (.dict l) := h10
  have v11 : ev (lvl fs3 4) (.var 11) [x0, .v (.int (n : Nat)), x2, x3, x4, x5, .v (.int (j : Nat)), x7, x8, x9, x10, x11] = some (mixV (mixOf (rowC n s))) := h11
  unfold colBody3
  exact exs_one (r := .nxt _) ((ex_iteF (xv_cmp (xv_sub v10 (xv_bin (xv_sub rfl rfl (letter_get hj)) rfl ((mulS (by omega) (by simp; omega)).trans (by rw [pure_rep hn hj]))) hlook) (xv_bin (xv_bin (xv_bin rfl rfl (pow_two (by omega))) (xv_bin rfl (xv_sub v11 rfl (get_mix (by omega) hs hj)) h1) h2) rfl h3) hne)).trans rfl)
end Mine
namespace Mine
open PySem

noncomputable def pad3 : List Int := [0, 1, 2, 1, 2, 2, 0, 1]
noncomputable def numsOf (ns : List Int) : List Int := ns.take 8 ++ pad3.drop ns.length
theorem nums_len {ns : List Int} : (numsOf ns).length = 8 := by
  unfold numsOf
  rw [List.length_append, List.length_take, List.length_drop]
  show min 8 ns.length + (8 - ns.length) = 8
  omega
noncomputable def rowAt (ns : List Int) (n f : Nat) : List Nat := (((numsOf ns).drop f).take n).map fun i => rem i 3
theorem slc_mid {l : List PV} {f n : Nat} (h : f + n ≤ l.length) (hl : l.length ≤ 1000000) : slice (.list l) (.int (f : Nat)) (.int (f + n : Nat)) .none = some (.list ((l.drop f).take n)) := by
  have e : sliceL l (.int (f : Nat)) (.int (f + n : Nat)) .none = some ((l.drop f).take n) := by
    simp only [sliceL, clipN]
    congr 2
    · split <;> split <;> omega
    · congr 1
      split <;> omega
  show (if szOk l.length = true then (sliceL l (.int (f : Nat)) (.int (f + n : Nat)) .none).map PV.list else none) = _
  rw [if_pos (szOk_of hl), e]; rfl
theorem rowAt_ok {ns : List Int} {n f : Nat} (h : f + n ≤ 8) : (rowAt ns n f).length = n ∧ ∀ x ∈ rowAt ns n f, x < 3 := by
  constructor
  · unfold rowAt
    rw [List.length_map, List.length_take, List.length_drop, nums_len]; omega
  · intro x hx
    obtain ⟨i, _, rfl⟩ := List.mem_map.mp hx
    exact rem_lt (by omega)
noncomputable def rowX : Mine.X := .comp (.bin .Mod (.var 0) (.cst (.int 3))) (.slc (.var 3) (.var 0) (.bin .Add (.var 0) (.var 2)) (.cst .none)) (.cst (.bool true))
theorem row_ev {C : Orc} {ρ : Ρ} {ns : List Int} {n f : Nat} (h : f + n ≤ 8) (h0 : ev C (.var 0) ρ = some (.int (f : Nat))) (h2 : ev C (.var 2) ρ = some (.int (n : Nat))) (h3 : ev C (.var 3) ρ = some (.list ((numsOf ns).map PV.int))) :
    ev C rowX ρ = some (natsV (rowAt ns n f)) := by
  have hl : ((numsOf ns).map PV.int).length = 8 := by rw [List.length_map, nums_len]
  refine (ev_comp_all (g := fun v => match v with | .int i => .int (rem i 3 : Nat) | _ => .none) (xv_slc h3 h0 (xv_bin h0 h2 (addN f n)) rfl (slc_mid (by omega) (by omega))) (itemsL (by rw [List.length_take, List.length_drop]; omega)) fun v hv => ?_).trans ?_
  · rw [← List.map_drop, ← List.map_take] at hv
    obtain ⟨i, _, rfl⟩ := List.mem_map.mp hv
    exact xv_bin rfl rfl (modI i 3 (by omega))
  · rw [← List.map_drop, ← List.map_take, List.map_map]
    show _ = some (PV.list ((rowAt ns n f).map fun (n : Nat) => PV.int n))
    unfold rowAt
    rw [List.map_map]; rfl

theorem signs_pos (k : Nat) : 1 ≤ (signsOf k).length := by
  match k with
  | 0 => decide
  | 1 => decide
  | 2 => decide
  | 3 => decide
  | _ + 4 => show 1 ≤ 6; decide
theorem signs_len {k : Nat} : (signsOf k).length ≤ 7 := by
  match k with
  | 0 => decide
  | 1 => decide
  | 2 => decide
  | 3 => decide
  | _ + 4 => show 6 ≤ 7; decide
theorem sign_ev {C : Orc} {ρ : Ρ} {tot : Int} {k j : Nat} (h0 : ev C (.var 0) ρ = some (.int (j : Nat))) (h5 : ev C (.var 5) ρ = some (.int tot)) (h6 : ev C (.var 6) ρ = some (.str (signsOf k))) :
    ∃ s, s ∈ signsOf k ∧ ev C (.sub (.var 6) (.bin .Mod (.bin .Add (.bin .FloorDiv (.var 5) (.cst (.int 5))) (.var 0)) (.blt .len (.cons (.var 6) .nil)))) ρ = some (.str [s]) := by
  have hp := signs_pos k
  have hr := rem_lt (i := tot.fdiv ((5 : Nat) : Int) + (j : Nat)) hp
  refine ⟨(signsOf k)[rem (tot.fdiv ((5 : Nat) : Int) + (j : Nat)) (signsOf k).length], List.getElem_mem hr, ?_⟩
  have hl := signs_len (k := k)
  exact xv_sub h6 (xv_bin (xv_bin (xv_bin h5 rfl (divI tot 5 (by omega) (by omega))) h0 rfl) (ev_blt1 h6 (lenS (by omega))) (modI _ _ hp)) (getS hr (by omega))

theorem written_get {k : Nat} (hk : k < 5) : getI (.tup [.str [38, 60, 62], .str [38, 60, 62, 34, 13, 10, 9], .str [38, 62, 34], .str [38, 60, 62, 13], .str [38, 60, 34, 13, 10, 9]]) (.int (k : Nat)) = some (.str (signsOf k)) := by
  match k, hk with
  | 0, _ => rfl
  | 1, _ => rfl
  | 2, _ => rfl
  | 3, _ => rfl
  | 4, _ => rfl

theorem law_run {ns : List Int} (hn : ns.length ≤ 63) : run (lvl fs3 4) p_law [.list (ns.map PV.int)] = some (.bool true) := by
  have hl0 : (ns.map PV.int).length = ns.length := List.length_map _
  obtain ⟨n, h34, hcnt⟩ : ∃ n, (n = 3 ∨ n = 4) ∧ ∀ ρ : Ρ, ρ[0]? = some (.v (.list (ns.map PV.int))) → ev (lvl fs3 4) (.ite (.cmp .Gt (.blt .len (.cons (.var 0) .nil)) (.cst (.int 6))) (.cst (.int 4)) (.cst (.int 3))) ρ = some (.int (n : Nat)) := by
    have hc : ∀ ρ : Ρ, ρ[0]? = some (.v (.list (ns.map PV.int))) → ev (lvl fs3 4) (.cmp .Gt (.blt .len (.cons (.var 0) .nil)) (.cst (.int 6))) ρ = some (.bool (decide ((6 : Int) < (ns.length : Nat)))) := fun ρ h => by
      have v0 : ev (lvl fs3 4) (.var 0) ρ = some (.list (ns.map PV.int)) := by rw [ev, h]; rfl
      exact xv_cmp (ev_blt1 v0 ((lenL (by omega)).trans (by rw [hl0]))) rfl rfl
    cases hd : decide ((6 : Int) < (ns.length : Nat)) with
    | true => exact ⟨4, .inr rfl, fun ρ h => ev_iteT (by rw [hc ρ h, hd]) rfl⟩
    | false => exact ⟨3, .inl rfl, fun ρ h => ev_iteF (by rw [hc ρ h, hd]) rfl⟩
  obtain ⟨la, ra⟩ := rowAt_ok (ns := ns) (n := n) (f := 0) (by omega)
  obtain ⟨lb, rb⟩ := rowAt_ok (ns := ns) (n := n) (f := 4) (by omega)
  obtain ⟨s, hs, es⟩ := code_of ra
  obtain ⟨t, ht, et⟩ := code_of rb
  rw [la] at hs es
  rw [lb] at ht et
  have h81 : 3 ^ n ≤ 81 := by rcases h34 with rfl | rfl <;> decide
  obtain ⟨k, hk⟩ : ∃ k, rem ns.sum 5 = k := ⟨_, rfl⟩
  have hk5 : k < 5 := hk ▸ rem_lt (by omega)
  obtain ⟨l, N, hw, R, hf⟩ := ways_lv (p := s) h34 hs
  obtain ⟨r, ha, he⟩ := across_lv (s := s) (t := t) h34 (by omega) (by omega)
  have n4 : n ≤ 4 := by omega
  refine run_of rfl ?_
  refine (exs_nxt (ρ' := [.v (.list (ns.map PV.int)), .v (.int (n : Nat)), .no, .no, .no, .no, .no, .no, .no, .no, .no, .no]) ((xx_asg (hcnt _ rfl)).trans rfl)).trans ?_
  refine (exs_nxt (ρ' := [.v (.list (ns.map PV.int)), .v (.int (n : Nat)), .v (.list ((numsOf ns).map PV.int)), .no, .no, .no, .no, .no, .no, .no, .no, .no]) ?_).trans ?_
  · refine (xx_asg (v := .list ((numsOf ns).map PV.int)) (xv_bin (xv_slc rfl rfl rfl rfl (slc_to (n := 8) (by omega))) (xv_slc (x := .list (pad3.map PV.int)) rfl (ev_blt1 rfl (lenL (by omega))) rfl rfl (slc_from (by simp [pad3]))) ?_)).trans rfl
    rw [addL (by rw [List.length_take, List.length_drop, List.length_map, List.length_map]; simp [pad3]; omega)]
    unfold numsOf
    rw [List.map_append, List.map_take, List.map_drop, hl0]
  refine (exs_nxt (ρ' := [.v (.list (ns.map PV.int)), .v (.int (n : Nat)), .v (.list ((numsOf ns).map PV.int)), .o (.list [natsV (rowC n s), natsV (rowC n t)]), .no, .no, .no, .no, .no, .no, .no, .no]) ?_).trans ?_
  · refine (xx_asg (v := .list [natsV (rowC n s), natsV (rowC n t)]) (ev_c2 (elt := rowX) (a := .int ((0 : Nat) : Int)) (b := .int ((4 : Nat) : Int)) rfl rfl ?_ ?_)).trans rfl
    · rw [es]; exact row_ev (f := 0) (by omega) rfl rfl rfl
    · rw [et]; exact row_ev (f := 4) (by omega) rfl rfl rfl
  refine (exs_nxt (ρ' := [.v (.list (ns.map PV.int)), .v (.int (n : Nat)), .v (.list ((numsOf ns).map PV.int)), .o (.list [natsV (rowC n s), natsV (rowC n t)]), .v (.int ns.sum), .no, .no, .no, .no, .no, .no, .no]) ((xx_asg (v := .int ns.sum) (ev_blt1 rfl (sum_ints (by omega)))).trans rfl)).trans ?_
  refine (exs_nxt (ρ' := [.v (.list (ns.map PV.int)), .v (.int (n : Nat)), .v (.list ((numsOf ns).map PV.int)), .o (.list [natsV (rowC n s), natsV (rowC n t)]), .v (.int ns.sum), .v (.str (signsOf k)), .no, .no, .no, .no, .no, .no]) ((xx_asg (v := .str (signsOf k)) (xv_sub rfl (xv_bin rfl rfl ((modI ns.sum 5 (by omega)).trans (by rw [hk]))) (written_get hk5))).trans rfl)).trans ?_
  obtain ⟨s0, m0, e0⟩ := sign_ev (C := lvl fs3 4) (ρ := .v (.int ((0 : Nat) : Int)) :: [.v (.list (ns.map PV.int)), .v (.int (n : Nat)), .v (.list ((numsOf ns).map PV.int)), .o (.list [natsV (rowC n s), natsV (rowC n t)]), .v (.int ns.sum), .v (.str (signsOf k)), .no, .no, .no, .no, .no, .no]) (k := k) (j := 0) rfl rfl rfl
  obtain ⟨s1, m1, e1⟩ := sign_ev (C := lvl fs3 4) (ρ := .v (.int ((1 : Nat) : Int)) :: [.v (.list (ns.map PV.int)), .v (.int (n : Nat)), .v (.list ((numsOf ns).map PV.int)), .o (.list [natsV (rowC n s), natsV (rowC n t)]), .v (.int ns.sum), .v (.str (signsOf k)), .no, .no, .no, .no, .no, .no]) (k := k) (j := 1) rfl rfl rfl
  obtain ⟨s2, m2, e2⟩ := sign_ev (C := lvl fs3 4) (ρ := .v (.int ((2 : Nat) : Int)) :: [.v (.list (ns.map PV.int)), .v (.int (n : Nat)), .v (.list ((numsOf ns).map PV.int)), .o (.list [natsV (rowC n s), natsV (rowC n t)]), .v (.int ns.sum), .v (.str (signsOf k)), .no, .no, .no, .no, .no, .no]) (k := k) (j := 2) rfl rfl rfl
  refine (exs_nxt (ρ' := [.v (.list (ns.map PV.int)), .v (.int (n : Nat)), .v (.list ((numsOf ns).map PV.int)), .o (.list [natsV (rowC n s), natsV (rowC n t)]), .v (.int ns.sum), .v (.str (signsOf k)), .no, .o (signV [s0, s1, s2]), .no, .no, .no, .no]) ((xx_asg (v := signV [s0, s1, s2]) (ev_comp3 e0 e1 e2)).trans rfl)).trans ?_
  refine (exs_nxt (ρ' := [.v (.list (ns.map PV.int)), .v (.int (n : Nat)), .v (.list ((numsOf ns).map PV.int)), .o (.list [natsV (rowC n s), natsV (rowC n t)]), .v (.int ns.sum), .v (.str (signsOf k)), .no, .o (signV [s0, s1, s2]), .o (.list []), .no, .no, .no]) ((xx_asg (v := .list []) rfl).trans rfl)).trans ?_
  have hrow : ex (lvl fs3 4) (.fr [9] (.var 3) rowBody) [.v (.list (ns.map PV.int)), .v (.int (n : Nat)), .v (.list ((numsOf ns).map PV.int)), .o (.list [natsV (rowC n s), natsV (rowC n t)]), .v (.int ns.sum), .v (.str (signsOf k)), .no, .o (signV [s0, s1, s2]), .o (.list []), .no, .no, .no] = some (.nxt [.v (.list (ns.map PV.int)), .v (.int (n : Nat)), .v (.list ((numsOf ns).map PV.int)), .v (.list [natsV (rowC n s), natsV (rowC n t)]), .v (.int ns.sum), .v (.str (signsOf k)), .no, .o (signV [s0, s1, s2]), .o (.list [plV n s, plV n t]), .v (natsV (rowC n t)), .no, .no]) := by
    refine (xx_for (items := [natsV (rowC n s), natsV (rowC n t)]) rfl rfl).trans ?_
    refine (forEach_nxt (row_step (p := s) (acc := []) h34 hk m0 m1 m2 (by decide))).trans ?_
    exact (forEach_nxt (row_step (p := t) (acc := [plV n s]) h34 hk m0 m1 m2 (by simp))).trans rfl
  refine (exs_nxt hrow).trans ?_
  refine (exs_nxt (ρ' := [.v (.list (ns.map PV.int)), .v (.int (n : Nat)), .v (.list ((numsOf ns).map PV.int)), .v (.list [natsV (rowC n s), natsV (rowC n t)]), .v (.int ns.sum), .v (.str (signsOf k)), .no, .o (signV [s0, s1, s2]), .v (.list [plV n s, plV n t]), .v (natsV (rowC n t)), .v (.dict l), .no]) ((xx_asg (v := .dict l) (xv_call (evL1 (xv_sub rfl rfl rfl)) hw)).trans rfl)).trans ?_
  refine (exs_nxt (ρ' := [.v (.list (ns.map PV.int)), .v (.int (n : Nat)), .v (.list ((numsOf ns).map PV.int)), .v (.list [natsV (rowC n s), natsV (rowC n t)]), .v (.int ns.sum), .v (.str (signsOf k)), .no, .o (signV [s0, s1, s2]), .v (.list [plV n s, plV n t]), .v (natsV (rowC n t)), .v (.dict l), .v (mixV (mixOf (rowC n s)))]) ((xx_asg (v := mixV (mixOf (rowC n s))) (mix_ev (p := s) h34 (xv_sub rfl rfl rfl) rfl)).trans rfl)).trans ?_
  have hs81 : s < 81 := by omega
  refine (exs_nxt ((xx_for (b := colBody3) (x := .rng 3) (items := [.int ((0 : Nat) : Int), .int ((1 : Nat) : Int), .int ((2 : Nat) : Int)]) rfl rfl).trans (forEach3 (col_step3 (j := 0) h34 hs81 R hf (by omega) rfl rfl) (col_step3 (j := 1) h34 hs81 R hf (by omega) rfl rfl) (col_step3 (j := 2) h34 hs81 R hf (by omega) rfl rfl)))).trans ?_
  have hlast : getI (.dict l) (plV n t) = some (.int (acrC n s t : Nat)) := by
    show look _ l = _
    rw [R.look _ ht, fin_all hf ht]; rfl
  exact exs_one (xx_ret (xv_cmp (xv_sub rfl (xv_sub rfl rfl rfl) hlast) (xv_call (evL2 (xv_sub rfl rfl rfl) (xv_sub rfl rfl rfl)) ha) he))
end Mine
open PySem PySem.W PySem.W.X PyProof.Rows
set_option maxHeartbeats 8000000 in
theorem PySem.Challenge.cw_ph0102_03_holds : PySem.Challenge.rw_ph0102_03.Holds := by
  w_on
  refine holds_law (by kernel_rfl) fun said => ?_
  refine holds_openX (q := Mine.viewOf PySem.Challenge.pw_ph0102_03) (loose := []) (Xt := fun s => xlAt (Mine.viewOf PySem.Challenge.pw_ph0102_03) [] s && recOk (RowW.records PySem.Challenge.rw_ph0102_03.row.toRowW) s) (XP := XL (Mine.viewOf PySem.Challenge.pw_ph0102_03) []) (Yf := Mine.obsM) (Ya := fun _ => true) (N := 1600) ?hl (fun s e => xl_of s (Bool.and_eq_true_iff.mp e).1) XL.keeps (by rfl) (by rfl) (by rfl) (fun s e => recFacts_of (Bool.and_eq_true_iff.mp e).2) (by rfl) (by first | assumption | decide +kernel) (by decide +kernel) ⟨rfl, rfl, rfl, rfl, rfl, by decide +kernel⟩ ?hw ?hc
  case hl =>
    intro w
    kernel_rfl
  case hw => w_witness2
  intro w s₀ s₁ mg mb G y fa o pm cd doc dV kV ho hd hcd hD hmg hg args vals as L hpre hlay hrd hwl hlo
  refine Ground.open G ?_
  intro T B D TE TW
  wrow_args hpre hlay hrd hwl hlo
  obtain ⟨nb, tk⟩ := Mine.obs_ok y L
  refine Mine.finish (zp := false) (fuel := 60) (tab := Mine.p_tab) (fs := Mine.fs3) T nb tk (by kernel_rfl) rfl (by decide +kernel) (by decide +kernel) (fun h => by cases h) (f := 18) (l := 4) rfl rfl hmg (script_obj L (by assumption)) (by assumption) (Mine.law_run ?_) ⟨rfl, by decide, by decide⟩ hg (fun _ => rfl) ?_
  · omega
  · first | rfl | wrow_post
