import PyProof.Rows.All
import Wide.All
import OpenK.AllK
import Wide.FinOn
import PySem.Challenge.RW_wn0016_03
set_option Elab.async false
set_option genInjectivity false
set_option genSizeOfSpec false
section
set_option maxRecDepth 100000
namespace Mine
open PySem
/-! A pure evaluator of the part of Python that the three laws use (no heap: values are trees). -/
set_option genInjectivity true in
inductive Key where
  | int (i : Int)
  | str (s : Str)
  deriving DecidableEq
inductive PV where
  | none
  | bool (b : Bool)
  | int (i : Int)
  | str (s : Str)
  | tup (l : List PV)
  | list (l : List PV)
  | dict (l : List (Key × PV))
  | inst (x : PV)
noncomputable def PV.int? : PV → Option Int
  | .int i => some i
  | _ => Option.none
noncomputable def PV.bool? : PV → Option Bool
  | .bool i => some i
  | _ => Option.none
noncomputable def PV.str? : PV → Option Str
  | .str i => some i
  | _ => Option.none
noncomputable def PV.tup? : PV → Option (List PV)
  | .tup i => some i
  | _ => Option.none
noncomputable def PV.list? : PV → Option (List PV)
  | .list i => some i
  | _ => Option.none
noncomputable def PV.dict? : PV → Option (List (Key × PV))
  | .dict i => some i
  | _ => Option.none
noncomputable def PV.inst? : PV → Option PV
  | .inst i => some i
  | _ => Option.none
noncomputable def both {α β γ : Type} (x : Option α) (y : Option β) (f : α → β → Option γ) : Option γ := x.bind fun a => y.bind fun b => f a b
theorem both_inv {α β γ : Type} {x : Option α} {y : Option β} {f : α → β → Option γ} {r : γ} (q : both x y f = some r) : ∃ a b, x = some a ∧ y = some b ∧ f a b = some r := by
  obtain ⟨a, ha, q⟩ := Option.bind_eq_some_iff.mp q
  obtain ⟨b, hb, q⟩ := Option.bind_eq_some_iff.mp q
  exact ⟨a, b, ha, hb, q⟩
theorem PV.int?_inv {d : PV} {i : Int} (q : d.int? = some i) : d = .int i := by cases d <;> first | (cases q; rfl) | nomatch q
theorem PV.bool?_inv {d : PV} {i : Bool} (q : d.bool? = some i) : d = .bool i := by cases d <;> first | (cases q; rfl) | nomatch q
theorem PV.str?_inv {d : PV} {i : Str} (q : d.str? = some i) : d = .str i := by cases d <;> first | (cases q; rfl) | nomatch q
theorem PV.tup?_inv {d : PV} {i : List PV} (q : d.tup? = some i) : d = .tup i := by cases d <;> first | (cases q; rfl) | nomatch q
theorem PV.list?_inv {d : PV} {i : List PV} (q : d.list? = some i) : d = .list i := by cases d <;> first | (cases q; rfl) | nomatch q
theorem PV.dict?_inv {d : PV} {i : List (Key × PV)} (q : d.dict? = some i) : d = .dict i := by cases d <;> first | (cases q; rfl) | nomatch q
theorem PV.inst?_inv {d : PV} {i : PV} (q : d.inst? = some i) : d = .inst i := by cases d <;> first | (cases q; rfl) | nomatch q
noncomputable def Key.pv : Key → PV
  | .int i => .int i
  | .str s => .str s
noncomputable def PV.key : PV → Option Key
  | .int i => some (.int i)
  | .str s => some (.str s)
  | _ => Option.none
noncomputable def dget (l : List (Key × PV)) (k : Key) : Option PV := (l.find? fun kv => decide (kv.1 = k)).map (·.2)
noncomputable def dset (l : List (Key × PV)) (k : Key) (v : PV) : List (Key × PV) :=
  if l.any (fun kv => decide (kv.1 = k)) then l.map (fun kv => if kv.1 = k then (kv.1, v) else kv) else l ++ [(k, v)]
/-- what a local name holds: a value that nothing changes any more, or a container of the frame's own -/
inductive LV where
  | fro (d : PV)
  | own (d : PV)
noncomputable def LV.d : LV → PV
  | .fro d => d
  | .own d => d
structure St where
  loc : List (Str × LV)
  cel : List (Str × LV)
noncomputable def aset (l : List (Str × LV)) (x : Str) (v : LV) : List (Str × LV) := (x, v) :: l
structure Cx where
  sc : Str → Option NameKind
  mu : List Str
noncomputable def St.get (σ : St) (c : Cx) (x : Str) : Option LV := (c.sc x).bind fun k => match k with
  | .local => σ.loc.lookup x
  | .cell => σ.cel.lookup x
  | _ => Option.none
noncomputable def St.set (σ : St) (c : Cx) (x : Str) (v : LV) : Option St := (c.sc x).bind fun k => match k with
  | .local => some { σ with loc := aset σ.loc x v }
  | .cell => some { σ with cel := aset σ.cel x v }
  | _ => Option.none
noncomputable def LV.fro? : LV → Option PV
  | .fro d => some d
  | .own _ => Option.none
noncomputable def LV.own? : LV → Option PV
  | .fro _ => Option.none
  | .own d => some d
theorem LV.fro?_inv {l : LV} {d : PV} (q : l.fro? = some d) : l = .fro d := by cases l <;> first | (cases q; rfl) | nomatch q
theorem LV.own?_inv {l : LV} {d : PV} (q : l.own? = some d) : l = .own d := by cases l <;> first | (cases q; rfl) | nomatch q
noncomputable def LV.freeze : LV → LV
  | .fro d => .fro d
  | .own d => .fro d
noncomputable def St.freeze (σ : St) : St := ⟨σ.loc.map fun p => (p.1, p.2.freeze), σ.cel.map fun p => (p.1, p.2.freeze)⟩
/-! ## operations on values -/
/-- equality, to a depth -/
noncomputable def isIntKey (p : Key × PV) : Bool := match p.1 with
  | .int _ => true
  | .str _ => false
noncomputable def seqEq (f : PV → PV → Option Bool) : List PV → List PV → Option Bool
  | [], ys => some ys.isEmpty
  | _ :: _, [] => some false
  | x :: xs, y :: ys => both (f x y) (seqEq f xs ys) fun a b => some (a && b)
noncomputable def dictEq (f : PV → PV → Option Bool) (ys : List (Key × PV)) : List (Key × PV) → Option Bool
  | [] => some true
  | p :: xs => match dget ys p.1 with
    | Option.none => some false
    | some y => both (f p.2 y) (dictEq f ys xs) fun a b => some (a && b)
noncomputable def peq : Nat → PV → PV → Option Bool
  | 0, _, _ => Option.none
  | n + 1, a, b => match a with
    | .bool x => b.bool?.map fun y => x == y
    | .int x => b.int?.map fun y => x == y
    | .str x => b.str?.map fun y => decide (x = y)
    | .tup xs => b.tup?.bind fun ys => seqEq (peq n) xs ys
    | .list xs => b.list?.bind fun ys => if xs.length = ys.length then seqEq (peq n) xs ys else some false
    | .dict xs => b.dict?.bind fun ys => if xs.all isIntKey && ys.all isIntKey then (if xs.length = ys.length then dictEq (peq n) ys xs else some false) else Option.none
    | .none => Option.none
    | .inst _ => Option.none
noncomputable def strLt (a b : Str) : Bool := decide (a.cps.toList < b.cps.toList)
noncomputable def seqLt (e f : PV → PV → Option Bool) : List PV → List PV → Option Bool
  | [], ys => some (!ys.isEmpty)
  | _ :: _, [] => some false
  | x :: xs, y :: ys => (e x y).bind fun b => if b then seqLt e f xs ys else f x y
noncomputable def seqGt (e f : PV → PV → Option Bool) : List PV → List PV → Option Bool
  | [], _ => some false
  | _ :: _, [] => some true
  | x :: xs, y :: ys => (e x y).bind fun b => if b then seqGt e f xs ys else f x y
/-- the order of two values, to a depth -/
noncomputable def plt : Nat → PV → PV → Option Bool
  | 0, _, _ => Option.none
  | n + 1, a, b => match a with
    | .int x => b.int?.map fun y => decide (x < y)
    | .str x => b.str?.map fun y => strLt x y
    | .tup xs => b.tup?.bind fun ys => seqLt (peq n) (plt n) xs ys
    | .list xs => b.list?.bind fun ys => seqLt (peq n) (plt n) xs ys
    | _ => Option.none
noncomputable def pgt : Nat → PV → PV → Option Bool
  | 0, _, _ => Option.none
  | n + 1, a, b => match a with
    | .int x => b.int?.map fun y => decide (y < x)
    | .str x => b.str?.map fun y => strLt y x
    | .tup xs => b.tup?.bind fun ys => seqGt (peq n) (pgt n) xs ys
    | _ => Option.none
noncomputable def ptruth : PV → Option Bool
  | .bool b => some b
  | .int i => some (i != 0)
  | _ => Option.none
/-- pints small enough to be multiplied -/
noncomputable def mulOk (a b : Int) : Bool := decide (a.natAbs < 2 ^ 4096) && decide (b.natAbs < 2 ^ 4096)
noncomputable def padd (a b : PV) : Option PV := match a with
  | .int x => b.int?.map fun y => .int (x + y)
  | .str x => b.str?.bind fun y => if x.length + y.length ≤ 1000 then some (.str (x ++ y)) else Option.none
  | .list x => b.list?.bind fun y => if x.length + y.length ≤ 100000 then some (.list (x ++ y)) else Option.none
  | .tup x => b.tup?.bind fun y => if x.length + y.length ≤ 100000 then some (.tup (x ++ y)) else Option.none
  | _ => Option.none
noncomputable def pint (op : Operator) (a b : Int) : Option Int := match op with
  | .Sub => some (a - b)
  | .Mult => if mulOk a b then some (a * b) else Option.none
  | .FloorDiv => if b = 0 ∨ 1000000000 < b.natAbs then Option.none else some (a.fdiv b)
  | .Mod => if b = 0 then Option.none else some (a.fmod b)
  | .Pow => if 0 ≤ b ∧ b ≤ 1000 ∧ a.natAbs < 2 ^ 64 then some (a ^ b.toNat) else Option.none
  | .BitOr => some (Builtin.bitOr a b)
  | .BitAnd => some (Builtin.bitAnd a b)
  | _ => Option.none
noncomputable def isAdd : Operator → Bool
  | .Add => true
  | _ => false
noncomputable def pbin (op : Operator) (a b : PV) : Option PV := if isAdd op then padd a b else (both a.int? b.int? (pint op)).map .int
noncomputable def depth : Nat := 6
noncomputable def pin (x : PV) : List PV → Option Bool
  | [] => some false
  | y :: ys => both (peq depth y x) (pin x ys) fun a b => some (a || b)
noncomputable def pmem (a b : PV) : Option Bool := match b with
  | .list l => pin a l
  | .dict l => a.key.map fun k => (dget l k).isSome
  | _ => Option.none
noncomputable def pcmp (op : CmpOp) (a b : PV) : Option Bool := match op with
  | .Eq => peq depth a b
  | .NotEq => (peq depth a b).map (!·)
  | .Lt => plt depth a b
  | .Gt => pgt depth a b
  | .LtE => both a.int? b.int? fun x y => some (decide (x ≤ y))
  | .GtE => both a.int? b.int? fun x y => some (decide (y ≤ x))
  | .In => pmem a b
  | .NotIn => (pmem a b).map (!·)
  | _ => Option.none
noncomputable def okAt (i : Int) : Bool := decide (0 ≤ i) && decide (i < 1000000000)
noncomputable def pget (d k : PV) : Option PV := match d with
  | .list l => k.int?.bind fun i => if okAt i then l[i.toNat]? else Option.none
  | .tup l => k.int?.bind fun i => if okAt i then l[i.toNat]? else Option.none
  | .str s => k.int?.bind fun i => if okAt i then (s.cps[i.toNat]?).map fun c => .str ⟨#[c]⟩ else Option.none
  | .dict l => k.key.bind (dget l)
  | _ => Option.none
/-- a cut with bounds that are written or reckoned, 0 or more; a step of 1 or more -/
noncomputable def cutL {α : Type} (l : List α) (lo hi : Nat) : List α := (l.drop lo).take (hi - lo)
noncomputable def everyNth {α : Type} (n : Nat) : Nat → List α → List α
  | _, [] => []
  | 0, x :: xs => x :: everyNth n (n - 1) xs
  | k + 1, _ :: xs => everyNth n k xs
noncomputable def okCut (lo hi : Option Int) (n : Nat) : Prop := 0 ≤ lo.getD 0 ∧ lo.getD 0 < 1000000 ∧ 0 ≤ hi.getD 0 ∧ hi.getD 0 < 1000000 ∧ n < 1000000
instance (lo hi : Option Int) (n : Nat) : Decidable (okCut lo hi n) := inferInstanceAs (Decidable (_ ∧ _))
noncomputable def pslL (l : List PV) (lo hi st : Option Int) : Option PV := if okCut lo hi l.length then
      match st with
      | Option.none => some (.list (cutL l (lo.getD 0).toNat (hi.getD l.length).toNat))
      | some n => if 0 < n ∧ n < 1000 ∧ hi = Option.none then some (.list (everyNth n.toNat 0 (l.drop (lo.getD 0).toNat))) else Option.none
    else Option.none
noncomputable def pslT (l : List PV) (lo hi : Option Int) : Option PV := if okCut lo hi l.length then some (.tup (cutL l (lo.getD 0).toNat (hi.getD l.length).toNat)) else Option.none
noncomputable def pslS (s : Str) (lo hi : Option Int) : Option PV := if okCut lo hi s.length then some (.str ⟨(cutL s.cps.toList (lo.getD 0).toNat (hi.getD s.length).toNat).toArray⟩) else Option.none
noncomputable def pslice (d : PV) (lo hi st : Option Int) : Option PV := match d with
  | .list l => pslL l lo hi st
  | .tup l => if st.isNone then pslT l lo hi else Option.none
  | .str s => if st.isNone then pslS s lo hi else Option.none
  | _ => Option.none
noncomputable def pints : List PV → Option (List Int)
  | [] => some []
  | d :: r => both d.int? (pints r) fun i l => some (i :: l)
noncomputable def pmax : Int → List Int → Int
  | a, [] => a
  | a, b :: r => pmax (if a < b then b else a) r
noncomputable def plen (d : PV) : Option PV := match d with
  | .list l => if l.length < 1000000000 then some (.int l.length) else Option.none
  | .str s => if s.length < 1000000000 then some (.int s.length) else Option.none
  | _ => Option.none
noncomputable def psum (d : PV) : Option PV := d.list?.bind fun l => (pints l).map fun ns => .int ns.sum
noncomputable def ptuple (d : PV) : Option PV := d.list?.bind fun l => if l.length < 1000000 then some (.tup l) else Option.none
noncomputable def pmaxOf : List Int → Option PV
  | [] => Option.none
  | a :: r => some (.int (pmax a r))
noncomputable def pmaxv (d : PV) : Option PV := d.list?.bind fun l => (pints l).bind pmaxOf
noncomputable def pconst : Const → Option PV
  | .none => some .none
  | .bool b => some (.bool b)
  | .int i => some (.int i)
  | .str s => some (.str s)
  | _ => Option.none
noncomputable def chars (s : Str) : List PV := s.cps.toList.map fun c => .str ⟨#[c]⟩
noncomputable def piter : PV → Option (List PV)
  | .list l => some l
  | .tup l => some l
  | .dict l => some (l.map (·.1.pv))
  | .str s => if s.cps.toList.all (fun c => decide (c < 128)) then some (chars s) else Option.none
  | _ => Option.none
/-! ## the parts of a text -/
inductive EV where
  | name (x : Str) (p : Pos)
  | tup (ts : List Expr) (k : Expr) (p : Pos)
  | sub (b i : Expr) (p : Pos)
  | attr (o : Expr) (m : Str) (p : Pos)
  | call (f : Expr) (a : List Expr) (k : List Keyword) (p : Pos)
  | slice (l h s : Option Expr) (p : Pos)
  | rest
noncomputable def look : Expr → EV
  | .Name x p => .name x p
  | .Tuple ts k p => .tup ts (.Constant .none 0 p) p
  | .Subscript b i p => .sub b i p
  | .Attribute o m p => .attr o m p
  | .Call f a k p => .call f a k p
  | .Slice l h s p => .slice l h s p
  | _ => .rest
noncomputable def EV.says (e : Expr) : EV → Prop
  | .name x p => e = .Name x p
  | .tup ts _ p => ∃ k, e = .Tuple ts k p
  | .sub b i p => e = .Subscript b i p
  | .attr o m p => e = .Attribute o m p
  | .call f a k p => e = .Call f a k p
  | .slice l h s p => e = .Slice l h s p
  | .rest => True
theorem look_says (e : Expr) : (look e).says e := by cases e <;> first | exact rfl | exact ⟨_, rfl⟩ | trivial
noncomputable def asName (e : Expr) : Option Str := match look e with
  | .name x _ => some x
  | _ => Option.none
noncomputable def asTup (e : Expr) : Option (List Expr) := match look e with
  | .tup ts _ _ => some ts
  | _ => Option.none
noncomputable def asSub (e : Expr) : Option (Expr × Expr) := match look e with
  | .sub b i _ => some (b, i)
  | _ => Option.none
noncomputable def asAttr (e : Expr) : Option (Expr × Str × Pos) := match look e with
  | .attr o m p => some (o, m, p)
  | _ => Option.none
noncomputable def asCall (e : Expr) : Option (Expr × List Expr × List Keyword × Pos) := match look e with
  | .call f a k p => some (f, a, k, p)
  | _ => Option.none
noncomputable def asSlice (e : Expr) : Option (Option Expr × Option Expr × Option Expr) := match look e with
  | .slice l h s _ => some (l, h, s)
  | _ => Option.none
noncomputable def one {α : Type} : List α → Option α
  | [] => Option.none
  | a :: r => if r.isEmpty then some a else Option.none
noncomputable def two {α : Type} : List α → Option (α × α)
  | [] => Option.none
  | a :: r => (one r).map fun b => (a, b)
theorem asName_inv {e : Expr} {x : Str} (q : asName e = some x) : ∃ p, e = .Name x p := by
  have h := look_says e
  unfold asName at q
  cases hl : look e with
  | name => rw [hl] at q h; cases q; exact ⟨_, h⟩
  | _ => rw [hl] at q; cases q
theorem asTup_inv {e : Expr} {x : List Expr} (q : asTup e = some x) : ∃ k p, e = .Tuple x k p := by
  have h := look_says e
  unfold asTup at q
  cases hl : look e with
  | tup => rw [hl] at q h; cases q; obtain ⟨k, h⟩ := h; exact ⟨k, _, h⟩
  | _ => rw [hl] at q; cases q
theorem asSub_inv {e : Expr} {x : Expr × Expr} (q : asSub e = some x) : ∃ p, e = .Subscript x.1 x.2 p := by
  have h := look_says e
  unfold asSub at q
  cases hl : look e with
  | sub => rw [hl] at q h; cases q; exact ⟨_, h⟩
  | _ => rw [hl] at q; cases q
theorem asAttr_inv {e : Expr} {x : Expr × Str × Pos} (q : asAttr e = some x) : e = .Attribute x.1 x.2.1 x.2.2 := by
  have h := look_says e
  unfold asAttr at q
  cases hl : look e with
  | attr => rw [hl] at q h; cases q; exact h
  | _ => rw [hl] at q; cases q
theorem asCall_inv {e : Expr} {x : Expr × List Expr × List Keyword × Pos} (q : asCall e = some x) : e = .Call x.1 x.2.1 x.2.2.1 x.2.2.2 := by
  have h := look_says e
  unfold asCall at q
  cases hl : look e with
  | call => rw [hl] at q h; cases q; exact h
  | _ => rw [hl] at q; cases q
theorem asSlice_inv {e : Expr} {x : Option Expr × Option Expr × Option Expr} (q : asSlice e = some x) : ∃ p, e = .Slice x.1 x.2.1 x.2.2 p := by
  have h := look_says e
  unfold asSlice at q
  cases hl : look e with
  | slice => rw [hl] at q h; cases q; exact ⟨_, h⟩
  | _ => rw [hl] at q; cases q
theorem asSlice_none {e : Expr} (q : asSlice e = Option.none) : ∀ a b c d, e ≠ .Slice a b c d := fun _ _ _ _ h => by subst h; nomatch q
theorem one_inv {α : Type} {l : List α} {a : α} (q : one l = some a) : l = [a] := by
  cases l with
  | nil => nomatch q
  | cons b r => cases r with
    | nil => cases q; rfl
    | cons => nomatch q
theorem two_inv {α : Type} {l : List α} {a : α × α} (q : two l = some a) : l = [a.1, a.2] := by
  cases l with
  | nil => nomatch q
  | cons b r =>
    obtain ⟨c, hc, rfl⟩ := Option.map_eq_some_iff.mp q
    rw [one_inv hc]
/-! ## the evaluator -/
inductive Flo where
  | next
  | ret (d : PV)
structure Def where
  name : Str
  params : Arguments
  body : List Stmt
  scope : Scope
/-- the text's plain defs, and the methods of its class -/
structure Tx where
  D : List Def
  M : List Def
structure Itp where
  ev : Cx → St → Expr → Option PV
  ts : Cx → St → Expr → Option Bool
  ex : Cx → St → List Stmt → Option (Flo × St)
  cl : Str → List PV → Option PV
noncomputable def Itp.bot : Itp := ⟨fun _ _ _ => Option.none, fun _ _ _ => Option.none, fun _ _ _ => Option.none, fun _ _ => Option.none⟩
section
variable (T : Tx) (I : Itp)
/-- a value that is looked at and let go: a container of the frame's own too -/
noncomputable def evB (c : Cx) (σ : St) (e : Expr) : Option PV := match asName e with
  | some x => (σ.get c x).map LV.d
  | Option.none => I.ev c σ e
noncomputable def evAll (c : Cx) (σ : St) : List Expr → Option (List PV)
  | [] => some []
  | e :: r => both (I.ev c σ e) (evAll c σ r) fun d l => some (d :: l)
noncomputable def evKey (c : Cx) (σ : St) (k : Option Expr) : Option Key := k.bind fun e => (I.ev c σ e).bind PV.key
noncomputable def evPairs (c : Cx) (σ : St) : List (Option Expr) → List Expr → Option (List (Key × PV))
  | [], vs => if vs.isEmpty then some [] else Option.none
  | _ :: _, [] => Option.none
  | k :: ks, v :: vs => both (evKey I c σ k) (I.ev c σ v) fun key d => (evPairs c σ ks vs).map ((key, d) :: ·)
noncomputable def dsetAll : List (Key × PV) → List (Key × PV) → List (Key × PV)
  | l, [] => l
  | l, (k, v) :: r => dsetAll (dset l k v) r
noncomputable def evOptInt (c : Cx) (σ : St) : Option Expr → Option (Option Int)
  | Option.none => some Option.none
  | some e => (evB I c σ e).bind fun d => d.int?.map some
/-- the word that ends an 'and' or an 'or' -/
noncomputable def stopsAt (op : BoolOp) (b : Bool) : Bool := match op with
  | .And => !b
  | .Or => b
noncomputable def evBool (c : Cx) (σ : St) (op : BoolOp) : List Expr → Option PV
  | [] => Option.none
  | e :: r => if r.isEmpty then I.ev c σ e else (I.ev c σ e).bind fun d => (ptruth d).bind fun b => if stopsAt op b then some d else evBool c σ op r
noncomputable def isName (x : String) (e : Expr) : Bool := match asName e with
  | some y => decide (y = Str.ofString x)
  | Option.none => false
/-- a method's call that is written on one line -/
noncomputable def okM (o : Expr) (ap p : Pos) : Bool := ap.endLine == p.line && !(asCall o).isSome
/-- the one argument of range -/
noncomputable def rangeArg (c : Cx) (e : Expr) : Option Expr := (asCall e).bind fun k => (asName k.1).bind fun x => if x = Str.ofString "range" ∧ c.sc x = some .globalImplicit ∧ k.2.2.1.isEmpty = true then one k.2.1 else Option.none
theorem rangeArg_inv {c : Cx} {e a : Expr} (q : rangeArg c e = some a) : ∃ np p, e = .Call (.Name (Str.ofString "range") np) [a] [] p ∧ c.sc (Str.ofString "range") = some .globalImplicit := by
  obtain ⟨⟨f, args, ks, p⟩, hk, q⟩ := Option.bind_eq_some_iff.mp q
  obtain ⟨x, hx, q⟩ := Option.bind_eq_some_iff.mp q
  have e1 := asCall_inv hk
  obtain ⟨np, e2⟩ := asName_inv hx
  dsimp only at e1 e2 q
  split at q
  · rename_i h
    obtain ⟨rfl, h2, h3⟩ := h
    have e3 := one_inv q
    have e4 := List.isEmpty_iff.mp h3
    subst e2 e3 e4
    exact ⟨np, p, e1, h2⟩
  · cases q
/-- whose method is called without a word -/
noncomputable def meth0 (m : Str) (e : Expr) : Option Expr := (asCall e).bind fun k => (asAttr k.1).bind fun t => if t.2.1 = m ∧ okM t.1 t.2.2 k.2.2.2 = true ∧ k.2.1.isEmpty = true ∧ k.2.2.1.isEmpty = true then some t.1 else Option.none
theorem meth0_inv {m : Str} {e o : Expr} (q : meth0 m e = some o) : ∃ ap p, e = .Call (.Attribute o m ap) [] [] p ∧ okM o ap p = true := by
  obtain ⟨⟨f, args, ks, p⟩, hk, q1⟩ := Option.bind_eq_some_iff.mp q
  clear q
  obtain ⟨⟨o', m', ap⟩, hx, q2⟩ := Option.bind_eq_some_iff.mp q1
  clear q1
  have e1 := asCall_inv hk
  have e2 := asAttr_inv hx
  dsimp only at e1 e2 q2
  split at q2
  · rename_i h
    obtain ⟨rfl, h2, h3, h4⟩ := h
    cases q2
    have e3 := List.isEmpty_iff.mp h3
    have e4 := List.isEmpty_iff.mp h4
    subst e2 e3 e4
    exact ⟨ap, p, e1, h2⟩
  · cases q2
/-- the things that a for, or a comprehension, goes over -/
noncomputable def evRange (c : Cx) (σ : St) (a : Expr) : Option (List PV) := (I.ev c σ a).bind fun d => d.int?.bind fun n => if -100000 ≤ n ∧ n < 100000 then some ((List.range n.toNat).map fun (i : Nat) => .int (i : Int)) else Option.none
noncomputable def evVals (c : Cx) (σ : St) (o : Expr) : Option (List PV) := (I.ev c σ o).bind fun d => d.dict?.map fun l => l.map (·.2)
noncomputable def evIter (c : Cx) (σ : St) (e : Expr) : Option (List PV) := match rangeArg c e with
  | some a => evRange I c σ a
  | Option.none => match meth0 (Str.ofString "values") e with
    | some o => evVals I c σ o
    | Option.none => (I.ev c σ e).bind piter
noncomputable def asgAll (c : Cx) : List Expr → List PV → St → Option St
  | [], ds, σ => if ds.isEmpty then some σ else Option.none
  | _ :: _, [], _ => Option.none
  | t :: ts, d :: ds, σ => (asName t).bind fun x => if c.mu.contains x then Option.none else (σ.set c x (.fro d)).bind fun σ' => asgAll c ts ds σ'
noncomputable def asg (c : Cx) (t : Expr) (d : PV) (σ : St) : Option St := match asName t with
  | some x => if c.mu.contains x then Option.none else σ.set c x (.fro d)
  | Option.none => both (asTup t) d.tup? fun ts l => asgAll c ts l σ
noncomputable def ifsAll (c : Cx) (σ : St) : List Expr → Option Bool
  | [] => some true
  | e :: r => (I.ts c σ e).bind fun b => if b then ifsAll c σ r else some false
noncomputable def compLoop {α : Type} (c : Cx) (g : Comprehension) (inner : St → Option (List α × St)) : List PV → St → Option (List α × St)
  | [], σ => some ([], σ)
  | d :: ds, σ => (asg c g.target d σ).bind fun σ₁ => (ifsAll I c σ₁ g.ifs).bind fun b => if b then (inner σ₁).bind fun r => (compLoop c g inner ds r.2).map fun r' => (r.1 ++ r'.1, r'.2) else compLoop c g inner ds σ₁
noncomputable def compGens {α : Type} (c : Cx) (out : St → Option α) : List Comprehension → St → Option (List α × St)
  | [], σ => (out σ).map fun a => ([a], σ)
  | g :: gs, σ => if g.is_async = 0 then (evIter I c σ g.iter).bind fun ds => compLoop I c g (compGens c out gs) ds σ else Option.none
/-- the names of a comprehension, as it runs: the outer frame's cells are its own -/
noncomputable def relab (sc : Scope) (o : Str → Option NameKind) : Str → Option NameKind := fun x => (sc.names.lookup x).bind fun k => if k = .free ∧ o x = some .cell then some .cell else some k
noncomputable def okName (sc : Scope) (e : Expr) : Bool := match asName e with
  | some x => sc.names.lookup x == some .local || sc.names.lookup x == some .cell
  | Option.none => false
noncomputable def okTgt (sc : Scope) (e : Expr) : Bool := match asTup e with
  | some ts => ts.all (okName sc)
  | Option.none => okName sc e
noncomputable def okScope (sc : Scope) (o : Str → Option NameKind) (σ : St) (gens : List Comprehension) : Bool :=
  sc.kind == .function && sc.names.all (fun p => p.2 != .cell || (σ.cel.lookup p.1).isNone) && sc.names.all (fun p => sc.names.lookup p.1 == some p.2) &&
  sc.names.all (fun p => p.2 != .free || o p.1 == some .cell) && gens.all (fun g => okTgt sc g.target) && (sc.names.lookup (Str.ofString "__debug__")).isNone
noncomputable def evComp {α : Type} (c : Cx) (σ : St) (sc : Scope) (out : Cx → St → Option α) : List Comprehension → Option (List α)
  | [] => Option.none
  | g :: gs => if okScope sc c.sc σ (g :: gs) && g.is_async == 0 then (evIter I c σ g.iter).bind fun ds =>
      (compLoop I ⟨relab sc c.sc, []⟩ g (compGens I ⟨relab sc c.sc, []⟩ (out ⟨relab sc c.sc, []⟩) gs) ds ⟨[], σ.cel⟩).bind fun r => if r.1.length ≤ 100000 then some r.1 else Option.none
    else Option.none
noncomputable def isFun (f : Str) : Bool := T.D.any fun d => decide (d.name = f)
noncomputable def asc : List PV → Bool
  | x :: y :: r => decide (plt depth y x = some false) && asc (y :: r)
  | _ => true
noncomputable def isListV : PV → Bool
  | .list _ => true
  | _ => false
/-- sorted, of lists that stand in their order -/
noncomputable def psorted (l : List PV) : Option (List PV) := if 2 ≤ l.length ∧ l.length < 64 ∧ l.all isListV = true ∧ asc l = true then some l else Option.none
noncomputable def evIsi (c : Cx) (σ : St) (args : List Expr) : Option PV := (two args).bind fun p => if isName "tuple" p.2 && decide (c.sc (Str.ofString "tuple") = some .globalImplicit) then (I.ev c σ p.1).bind fun d => d.int?.map fun _ => .bool false else Option.none
noncomputable def pone (f : Str) (d : PV) : Option PV :=
  if f = Str.ofString "len" then plen d
  else if f = Str.ofString "sum" then psum d
  else if f = Str.ofString "tuple" then ptuple d
  else if f = Str.ofString "max" then pmaxv d
  else if f = Str.ofString "sorted" then (d.list?.bind psorted).map .list
  else Option.none
noncomputable def evCall (c : Cx) (σ : St) (f : Str) (args : List Expr) : Option PV :=
  if c.sc f = some .globalImplicit then
    if isFun T f then (evAll I c σ args).bind (I.cl f)
    else if f = Str.ofString "TupleComp" then (evAll I c σ args).bind fun l => (one l).map .inst
    else if f = Str.ofString "isinstance" then evIsi I c σ args
    else (one args).bind fun a => (evB I c σ a).bind (pone f)
  else Option.none
noncomputable def evGet (c : Cx) (σ : St) (l : List (Key × PV)) (args : List Expr) : Option PV := (two args).bind fun p => both ((I.ev c σ p.1).bind PV.key) (I.ev c σ p.2) fun k d => some ((dget l k).getD d)
noncomputable def evMeth (c : Cx) (σ : St) (o : Expr) (m : Str) (args : List Expr) : Option PV :=
  if m = Str.ofString "get" then ((evB I c σ o).bind PV.dict?).bind fun l => evGet I c σ l args
  else if m = Str.ofString "compare" then ((evB I c σ o).bind PV.inst?).bind fun x => (evAll I c σ args).bind fun ds => I.cl (Str.ofString "TupleComp.compare") (.inst x :: ds)
  else Option.none
noncomputable def isNm (e : Expr) : Bool := (asName e).isSome
noncomputable def pun (op : UnaryOp) (d : PV) : Option PV := match op with
  | .USub => d.int?.map fun i => .int (-i)
  | .Not => (ptruth d).map fun b => .bool (!b)
  | _ => Option.none
noncomputable def evName (c : Cx) (σ : St) (x : Str) : Option PV := (σ.get c x).bind LV.fro?
noncomputable def evBin (c : Cx) (σ : St) (l : Expr) (op : Operator) (r : Expr) : Option PV := both (evB I c σ l) (evB I c σ r) (pbin op)
noncomputable def evUn (c : Cx) (σ : St) (op : UnaryOp) (x : Expr) : Option PV := (evB I c σ x).bind (pun op)
noncomputable def evCmp (c : Cx) (σ : St) (l : Expr) (ops : List CmpOp) (rs : List Expr) : Option Bool := both (one ops) (one rs) fun op r => both (evB I c σ l) (evB I c σ r) (pcmp op)
noncomputable def evIf (c : Cx) (σ : St) (t a b : Expr) : Option PV := (I.ts c σ t).bind fun u => if u then I.ev c σ a else I.ev c σ b
noncomputable def evTup (c : Cx) (σ : St) (es : List Expr) : Option PV := if es.length ≤ 1000 then (evAll I c σ es).map .tup else Option.none
noncomputable def evList (c : Cx) (σ : St) (es : List Expr) : Option PV := if es.length ≤ 1000 then (evAll I c σ es).map .list else Option.none
noncomputable def evDict (c : Cx) (σ : St) (ks : List (Option Expr)) (vs : List Expr) : Option PV := if ks.length ≤ 15 then (evPairs I c σ ks vs).map fun l => .dict (dsetAll [] l) else Option.none
noncomputable def outPair (k v : Expr) (c' : Cx) (σ' : St) : Option (Key × PV) := both ((I.ev c' σ' k).bind PV.key) (I.ev c' σ' v) fun key d => some (key, d)
noncomputable def evSub (c : Cx) (σ : St) (b i : Expr) : Option PV := match asSlice i with
  | some t => (evB I c σ b).bind fun d => (evOptInt I c σ t.1).bind fun l => (evOptInt I c σ t.2.1).bind fun h => (evOptInt I c σ t.2.2).bind fun s => pslice d l h s
  | Option.none => both (evB I c σ b) (I.ev c σ i) pget
noncomputable def evAttr (c : Cx) (σ : St) (b : Expr) (a : Str) : Option PV := if a = Str.ofString "comp_select_list" ∧ isNm b = true then (I.ev c σ b).bind PV.inst? else Option.none
noncomputable def evCallE (c : Cx) (σ : St) (f : Expr) (args : List Expr) (ks : List Keyword) (p : Pos) : Option PV := if ks.isEmpty then
    match asName f with
    | some x => evCall T I c σ x args
    | Option.none => (asAttr f).bind fun t => if okM t.1 t.2.2 p = true ∧ args.length ≤ 10 then evMeth I c σ t.1 t.2.1 args else Option.none
  else Option.none
noncomputable def evStep (c : Cx) (σ : St) (e : Expr) : Option PV := match e with
  | .Constant k _ _ => pconst k
  | .Name x _ => evName c σ x
  | .BinOp l op r _ => evBin I c σ l op r
  | .UnaryOp op x _ => evUn I c σ op x
  | .BoolOp op es _ => evBool I c σ op es
  | .Compare l ops rs _ => (evCmp I c σ l ops rs).map .bool
  | .IfExp t a b _ => evIf I c σ t a b
  | .Tuple es _ _ => evTup I c σ es
  | .List es _ => evList I c σ es
  | .Dict ks vs _ => evDict I c σ ks vs
  | .ListComp elt gens sc _ => (evComp I c σ sc (fun c' σ' => I.ev c' σ' elt) gens).map .list
  | .DictComp k v gens sc _ => (evComp I c σ sc (outPair I k v) gens).map fun l => .dict (dsetAll [] l)
  | .Subscript b i _ => evSub I c σ b i
  | .Attribute b a _ => evAttr I c σ b a
  | .Call f args ks p => evCallE T I c σ f args ks p
  | _ => Option.none
noncomputable def endsAs (op : BoolOp) : Bool := match op with
  | .And => true
  | .Or => false
noncomputable def tsAll (c : Cx) (σ : St) (op : BoolOp) : List Expr → Option Bool
  | [] => some (endsAs op)
  | e :: r => (I.ts c σ e).bind fun b => if stopsAt op b then some b else tsAll c σ op r
noncomputable def tsStep (c : Cx) (σ : St) (e : Expr) : Option Bool := match e with
  | .UnaryOp op x p => (match op with
    | .Not => (I.ts c σ x).map (!·)
    | op => (I.ev c σ (.UnaryOp op x p)).bind ptruth)
  | .BoolOp op es _ => tsAll I c σ op es
  | .IfExp .. => Option.none
  | .Compare l ops rs _ => evCmp I c σ l ops rs
  | e => (I.ev c σ e).bind ptruth
/-- forms that make a container anew -/
noncomputable def isFresh : Expr → Bool
  | .List .. => true
  | .Dict .. => true
  | .DictComp .. => true
  | .ListComp .. => true
  | _ => false
noncomputable def forLoop (c : Cx) (t : Expr) (body : List Stmt) : List PV → St → Option (Flo × St)
  | [], σ => some (.next, σ)
  | d :: ds, σ => (asg c t d σ).bind fun σ₁ => (I.ex c σ₁ body).bind fun r => match r.1 with
    | .next => forLoop c t body ds r.2
    | .ret _ => some r
/-- for k, v in d.items() with plain names -/
noncomputable def forItems (c : Cx) (t : Expr) (body : List Stmt) : List (Key × PV) → St → Option (Flo × St)
  | [], σ => some (.next, σ)
  | p :: ds, σ => (asg c t (.tup [p.1.pv, p.2]) σ).bind fun σ₁ => (I.ex c σ₁ body).bind fun r => match r.1 with
    | .next => forItems c t body ds r.2
    | .ret _ => some r
noncomputable def whileLoop (c : Cx) (t : Expr) (body : List Stmt) : Nat → St → Option (Flo × St)
  | 0, _ => Option.none
  | n + 1, σ => (I.ts c σ t).bind fun b => if b then (I.ex c σ body).bind fun r => match r.1 with
      | .next => whileLoop c t body n r.2
      | .ret _ => some r
    else some (.next, σ)
noncomputable def nextIf (σ' : Option St) : Option (Flo × St) := σ'.map fun s => (.next, s)
noncomputable def twoNames (t : Expr) : Bool := match (asTup t).bind two with
  | some p => isNm p.1 && isNm p.2
  | Option.none => false
noncomputable def exFor (c : Cx) (σ : St) (t it : Expr) (body : List Stmt) : Option (Flo × St) := match meth0 (Str.ofString "items") it with
  | some o => if twoNames t then ((I.ev c σ o).bind PV.dict?).bind fun l => forItems I c t body l σ else Option.none
  | Option.none => (evIter I c σ it).bind fun ds => forLoop I c t body ds σ
noncomputable def exName (c : Cx) (σ : St) (x : Str) (v : Expr) : Option (Flo × St) := (I.ev c σ v).bind fun d =>
  if c.mu.contains x then (if isFresh v then nextIf (σ.set c x (.own d)) else Option.none) else nextIf (σ.set c x (.fro d))
noncomputable def exTup (c : Cx) (σ : St) (t v : Expr) : Option (Flo × St) := if (asTup v).isSome then Option.none else (I.ev c σ v).bind fun d => nextIf (asg c t d σ)
noncomputable def ownDict (c : Cx) (σ : St) (x : Str) : Option (List (Key × PV)) := ((σ.get c x).bind LV.own?).bind PV.dict?
noncomputable def exSub (c : Cx) (σ : St) (b i v : Expr) : Option (Flo × St) := (asName b).bind fun x => if (asSlice i).isSome then Option.none else
  (I.ev c σ v).bind fun d => both (ownDict c σ x) ((I.ev c σ i).bind PV.key) fun l k => if l.length < 100000 then nextIf (σ.set c x (.own (.dict (dset l k d)))) else Option.none
noncomputable def exAssign (c : Cx) (σ : St) (ts : List Expr) (v : Expr) : Option (Flo × St) := (one ts).bind fun t => match asName t with
  | some x => exName I c σ x v
  | Option.none => match asTup t with
    | some _ => exTup I c σ t v
    | Option.none => (asSub t).bind fun p => exSub I c σ p.1 p.2 v
noncomputable def exAugName (c : Cx) (σ : St) (x : Str) (op : Operator) (v : Expr) : Option (Flo × St) := both (((σ.get c x).bind LV.fro?).bind PV.int?) ((evB I c σ v).bind PV.int?) fun a b =>
  if c.mu.contains x then Option.none else (pbin op (.int a) (.int b)).bind fun r => nextIf (σ.set c x (.fro r))
noncomputable def exAugSub (c : Cx) (σ : St) (x y : Str) (op : Operator) (v : Expr) : Option (Flo × St) := both (ownDict c σ x) (((σ.get c y).bind LV.fro?).bind PV.key) fun l k => both ((dget l k).bind PV.int?) ((I.ev c σ v).bind PV.int?) fun a b =>
  (pbin op (.int a) (.int b)).bind fun r => if l.length < 100000 then nextIf (σ.set c x (.own (.dict (dset l k r)))) else Option.none
noncomputable def exAug (c : Cx) (σ : St) (t : Expr) (op : Operator) (v : Expr) : Option (Flo × St) := match asName t with
  | some x => exAugName I c σ x op v
  | Option.none => (asSub t).bind fun p => both (asName p.1) (asName p.2) fun x y => exAugSub I c σ x y op v
noncomputable def exIf (c : Cx) (σ : St) (t : Expr) (a b : List Stmt) : Option (Flo × St) := (I.ts c σ t).bind fun u => if u then I.ex c σ a else I.ex c σ b
noncomputable def exRet (c : Cx) (σ : St) (v : Option Expr) : Option (Flo × St) := v.bind fun e => (I.ev c σ.freeze e).map fun d => (.ret d, σ)
noncomputable def exApp (c : Cx) (σ : St) (x : Str) (a : Expr) : Option (Flo × St) := both (((σ.get c x).bind LV.own?).bind PV.list?) (I.ev c σ a) fun l d => if l.length < 100000 then nextIf (σ.set c x (.own (.list (l ++ [d])))) else Option.none
/-- the name to whose list one thing is added -/
noncomputable def appArg (e : Expr) : Option (Str × Expr) := (asCall e).bind fun k => (asAttr k.1).bind fun t => (asName t.1).bind fun x => if t.2.1 = Str.ofString "append" ∧ (t.2.2.endLine == k.2.2.2.line) = true ∧ k.2.2.1.isEmpty = true then (one k.2.1).map fun a => (x, a) else Option.none
theorem appArg_inv {e : Expr} {r : Str × Expr} (q : appArg e = some r) : ∃ px ap p, e = .Call (.Attribute (.Name r.1 px) (Str.ofString "append") ap) [r.2] [] p ∧ (ap.endLine == p.line) = true := by
  obtain ⟨⟨f, args, ks, p⟩, hk, q1⟩ := Option.bind_eq_some_iff.mp q
  clear q
  obtain ⟨⟨o', m', ap⟩, ht, q2⟩ := Option.bind_eq_some_iff.mp q1
  clear q1
  obtain ⟨x, hx, q3⟩ := Option.bind_eq_some_iff.mp q2
  clear q2
  have e1 := asCall_inv hk
  have e2 := asAttr_inv ht
  obtain ⟨px, e3⟩ := asName_inv hx
  dsimp only at e1 e2 e3 q3
  split at q3
  · rename_i h
    obtain ⟨rfl, h2, h3⟩ := h
    obtain ⟨a, ha, rfl⟩ := Option.map_eq_some_iff.mp q3
    have e4 := one_inv ha
    have e5 := List.isEmpty_iff.mp h3
    subst e3 e2 e4 e5
    exact ⟨px, ap, p, e1, h2⟩
  · cases q3
noncomputable def exExpr (c : Cx) (σ : St) (e : Expr) : Option (Flo × St) := (appArg e).bind fun r => exApp I c σ r.1 r.2
noncomputable def exStep (c : Cx) (σ : St) (s : Stmt) : Option (Flo × St) := match s with
  | .Assign ts v _ => exAssign I c σ ts v
  | .AugAssign t op v _ => exAug I c σ t op v
  | .If t a b _ => exIf I c σ t a b
  | .While t body orelse _ => if orelse.isEmpty then whileLoop I c t body 64 σ else Option.none
  | .For t it body orelse _ => if orelse.isEmpty then exFor I c σ t it body else Option.none
  | .Return v _ => exRet I c σ v
  | .Expr e _ => exExpr I c σ e
  | _ => Option.none
noncomputable def exList (c : Cx) : List Stmt → St → Option (Flo × St)
  | [], σ => some (.next, σ)
  | s :: r, σ => (exStep I c σ s).bind fun u => match u.1 with
    | .next => exList c r u.2
    | .ret _ => some u
/-- the names whose containers a body changes -/
noncomputable def muStmt : Nat → Stmt → List Str
  | 0, _ => []
  | n + 1, s => match s with
    | .Assign [.Subscript (.Name x _) _ _] _ _ => [x]
    | .AugAssign (.Subscript (.Name x _) _ _) _ _ _ => [x]
    | .Expr (.Call (.Attribute (.Name x _) m _) _ _ _) _ => if m = Str.ofString "append" then [x] else []
    | .If _ a b _ => a.flatMap (muStmt n) ++ b.flatMap (muStmt n)
    | .While _ a _ _ => a.flatMap (muStmt n)
    | .For _ _ a _ _ => a.flatMap (muStmt n)
    | _ => []
noncomputable def defCx (d : Def) : Cx := ⟨(fun x => d.scope.names.lookup x), d.body.flatMap (muStmt 8)⟩
noncomputable def bindArgs0 (sc : Str → Option NameKind) : List Arg → List PV → St → Option St
  | [], vs, σ => if vs.isEmpty then some σ else Option.none
  | _ :: _, [], _ => Option.none
  | a :: as, v :: vs, σ => (σ.set ⟨sc, []⟩ a.arg (.fro v)).bind fun σ' => bindArgs0 sc as vs σ'
noncomputable def Flo.val : Flo → PV
  | .ret r => r
  | .next => .none
noncomputable def clStep (f : Str) (args : List PV) : Option PV := ((T.D ++ T.M).find? fun d => decide (d.name = f)).bind fun d =>
  (bindArgs0 (fun x => d.scope.names.lookup x) d.params.args args ⟨[], []⟩).bind fun σ => (I.ex (defCx d) σ d.body).map fun r => r.1.val
noncomputable def step : Itp := ⟨evStep T I, tsStep I, fun c σ b => exList I c b σ, clStep T I⟩
end
noncomputable def run (T : Tx) : Nat → Itp
  | 0 => Itp.bot
  | n + 1 => step T (run T n)
end Mine
end
section
set_option maxRecDepth 100000
namespace Mine
open PySem PySem.Spec PySem.Calls PyProof.Rows
/-! ## keys: ints and texts in one kind -/
noncomputable def Key.is : Key → Value → Bool
  | .int k, v => Value.isInt k v
  | .str x, v => Value.isStrOf x v
noncomputable def Key.val (t : Tok) : Key → Value
  | .int i => .int i t
  | .str s => .str s t
theorem Key.is_shape {k : Key} {v : Value} (h : Key.is k v = true) : ∃ t, v = k.val t := by
  cases k with
  | int i => obtain ⟨t, rfl⟩ := Value.isInt_shape h; exact ⟨t, rfl⟩
  | str x => obtain ⟨t, rfl⟩ := Value.isStrOf_shape h; exact ⟨t, rfl⟩
theorem Key.is_val (k : Key) (t : Tok) : Key.is k (k.val t) = true := by
  cases k with
  | int i => simp [Key.is, Key.val, Value.isInt]
  | str x => simp [Key.is, Key.val, Value.isStrOf]
theorem Key.is_inj (v : Value) (a b : Key) (ha : Key.is a v = true) (hb : Key.is b v = true) : a = b := by
  obtain ⟨t, rfl⟩ := Key.is_shape ha
  obtain ⟨u, h⟩ := Key.is_shape hb
  cases a <;> cases b <;> simp [Key.val] at h <;> simp [h.1]
theorem eqBool_of_ne {prog : Program} {w : World} {A : Around} {E : Value → Shared → Prop} {s : Shared} {u v : Value} {Q : Bool → Shared → Prop}
    (hne : (u == v) = false) (hf : ∀ x t, u ≠ .float x t)
    (h : wpAny (model prog w) A (richCompare .Eq u v) (fun r s' => r = .bool false ∧ Q false s') E s) : wpAny (model prog w) A (eqBool u v) Q E s := by
  unfold eqBool
  refine wpAny_holding ?_
  rw [if_neg (by rw [hne]; exact Bool.false_ne_true)]
  cases u <;> first
    | exact absurd rfl (hf _ _)
    | (refine wpAny_bind (wpAny_mono h (fun r s' hr => ?_) fun _ _ e => e)
       obtain ⟨rfl, hq⟩ := hr
       exact wpAny_truthy_bool hq)
noncomputable def keyKind (prog : Program) (w : World) : KeyKind prog w Key where
  is := Key.is
  hash := fun | .int k => hashInt k | .str x => hashStr w x
  inj := Key.is_inj
  byValue := fun k v h => by obtain ⟨t, rfl⟩ := Key.is_shape h; cases k <;> rfl
  pyHash := fun {A E s k v Q} hv h => by
    obtain ⟨t, rfl⟩ := Key.is_shape hv
    cases k with
    | int i => exact wpAny_pyHash_int h
    | str x => exact wpAny_pyHash_str h
  eqBool := fun {A E s a b u v Q} hu hv h => by
    obtain ⟨t, rfl⟩ := Key.is_shape hu
    obtain ⟨t', rfl⟩ := Key.is_shape hv
    cases a with
    | int i =>
      cases b with
      | int j => exact wpAny_eqBool_int (by rw [show (i == j) = decide (Key.int i = Key.int j) by by_cases q : i = j <;> simp [q]]; exact h)
      | str y =>
        refine eqBool_of_ne (by simp [Key.val]) (by intro x t e; simp [Key.val] at e) ?_
        have := EqMixed.eq_int_str (prog := prog) (w := w) (A := A) (E := E) (s := s) (a := i) (t := t) (b := y) (u := t') (Q := fun r s' => r = .bool false ∧ Q false s') ⟨rfl, by simpa using h⟩
        exact this
    | str x =>
      cases b with
      | int j =>
        refine eqBool_of_ne (by simp [Key.val]) (by intro x t e; simp [Key.val] at e) ?_
        have := EqMixed.eq_str_int (prog := prog) (w := w) (A := A) (E := E) (s := s) (a := x) (t := t) (b := j) (u := t') (Q := fun r s' => r = .bool false ∧ Q false s') ⟨rfl, by simpa using h⟩
        exact this
      | str y => exact wpAny_eqBool_str (by rw [show decide (x = y) = decide (Key.str x = Key.str y) by simp]; exact h)
  «strs» := fun k x t v h => by
    cases k with
    | int i => simp [Key.is, Value.isInt] at h
    | str y =>
      obtain ⟨u, hu⟩ := Value.isStrOf_shape (show Value.isStrOf y (.str x t) = true from h)
      injection hu with hx
      subst hx
      cases v <;> rfl
end Mine
end
section
set_option maxRecDepth 100000
namespace Mine
open PySem PySem.Spec PySem.Calls PyProof.Rows
noncomputable abbrev Ext (h h' : Heap) : Prop := ∀ b o, h.get? b = some o → h'.get? b = some o
theorem Ext.refl (h : Heap) : Ext h h := fun _ _ e => e
theorem Ext.trans {a b c : Heap} (x : Ext a b) (y : Ext b c) : Ext a c := fun b o e => y b o (x b o e)
theorem Ext.push (h : Heap) (o : Obj) : Ext h (h.push o) := fun _ _ e => Heap.get?_push_of_some o e
/-- what is off X stays; what is new in X was not there -/
structure Mv (X : List Addr) (h : Heap) (X' : List Addr) (h' : Heap) : Prop where
  keep : ∀ b o, b ∉ X → h.get? b = some o → h'.get? b = some o
  new : ∀ b ∈ X', b ∈ X ∨ h.get? b = none
theorem Mv.of_ext {X : List Addr} {h h' : Heap} (e : Ext h h') : Mv X h X h' := ⟨fun b o _ q => e b o q, fun _ hb => .inl hb⟩
theorem Mv.off {X X' : List Addr} {h h' : Heap} (m : Mv X h X' h') {a : Addr} {o : Obj} (ha : a ∉ X) (e : h.get? a = some o) : a ∉ X' := fun hm => by
  rcases m.new a hm with q | q
  · exact ha q
  · rw [q] at e; cases e
theorem Mv.anti {X X' : List Addr} {h : Heap} (hs : ∀ b ∈ X', b ∈ X) : Mv X h X' h := ⟨fun _ _ _ e => e, fun b hb => .inl (hs b hb)⟩
theorem Mv.more {X : List Addr} {h h' : Heap} {a : Addr} (hk : ∀ b o, b ∉ X → h.get? b = some o → h'.get? b = some o) (ha : h.get? a = none) : Mv X h (a :: X) h' :=
  ⟨hk, fun b hb => by exact (List.mem_cons.mp hb).elim (fun e => .inr (e ▸ ha)) .inl⟩
theorem isTuple_at {h h' : Heap} {a : Addr} {items : Array Value} (x : h.IsTuple a items) (e : ∀ o, h.get? a = some o → h'.get? a = some o) : h'.IsTuple a items := let ⟨o, ho, r⟩ := x; ⟨o, e o ho, r⟩
theorem isList_at {h h' : Heap} {a : Addr} {items : Array Value} (x : h.IsList a items) (e : ∀ o, h.get? a = some o → h'.get? a = some o) : h'.IsList a items := let ⟨o, ho, r⟩ := x; ⟨o, e o ho, r⟩
theorem dictOf_at {K : Type} [DecidableEq K] {prog : Program} {w : World} {knd : KeyKind prog w K} {h h' : Heap} {a : Addr} {kvs : List (K × Value)} (x : h.DictOf knd a kvs) (e : ∀ o, h.get? a = some o → h'.get? a = some o) : h'.DictOf knd a kvs :=
  let ⟨o, es, ep, ho, r⟩ := x; ⟨o, es, ep, e o ho, r⟩
theorem isTuple_some {h : Heap} {a : Addr} {items : Array Value} (x : h.IsTuple a items) : ∃ o, h.get? a = some o := let ⟨o, ho, _⟩ := x; ⟨o, ho⟩
theorem isList_some {h : Heap} {a : Addr} {items : Array Value} (x : h.IsList a items) : ∃ o, h.get? a = some o := let ⟨o, ho, _⟩ := x; ⟨o, ho⟩
theorem dictOf_some {K : Type} [DecidableEq K] {prog : Program} {w : World} {knd : KeyKind prog w K} {h : Heap} {a : Addr} {kvs : List (K × Value)} (x : h.DictOf knd a kvs) : ∃ o, h.get? a = some o := let ⟨o, _, _, ho, _⟩ := x; ⟨o, ho⟩
noncomputable def theList : Str := Str.ofString "comp_select_list"
/-- the object at a is an instance that bears v -/
noncomputable def IsInst (C : Addr) (h : Heap) (a : Addr) (v : Value) : Prop :=
  ∃ d hs t n, h.get? a = some { cls := .ref C, dict := some d, data := .plain } ∧ h.get? d = some { cls := .type "dict", data := .dict #[⟨hs, .str theList t, v⟩] n } ∧ d ≠ a
mutual
inductive Den (prog : Program) (w : World) (C : Addr) (h : Heap) (X : List Addr) : Value → PV → Prop
  | none : Den prog w C h X .none .none
  | bool (b : Bool) : Den prog w C h X (.bool b) (.bool b)
  | int (i : Int) (t : Tok) : Den prog w C h X (.int i t) (.int i)
  | str (s : Str) (t : Tok) : Den prog w C h X (.str s t) (.str s)
  | tup {a : Addr} {vs : List Value} {ds : List PV} : a ∉ X → h.IsTuple a vs.toArray → DenAll prog w C h X vs ds → Den prog w C h X (.ref a) (.tup ds)
  | list {a : Addr} {vs : List Value} {ds : List PV} : a ∉ X → h.IsList a vs.toArray → DenAll prog w C h X vs ds → Den prog w C h X (.ref a) (.list ds)
  | dict {a : Addr} {kvs : List (Key × Value)} {l : List (Key × PV)} : a ∉ X → (a == sysModules) = false → h.DictOf (keyKind prog w) a kvs → kvs.map (·.1) = l.map (·.1) →
      DenAll prog w C h X (kvs.map (·.2)) (l.map (·.2)) → Den prog w C h X (.ref a) (.dict l)
  | inst {a d : Addr} {hs : Int} {t : Tok} {n : Nat} {v : Value} {x : PV} : a ∉ X → d ∉ X → h.get? a = some { cls := .ref C, dict := some d, data := .plain } →
      h.get? d = some { cls := .type "dict", data := .dict #[⟨hs, .str theList t, v⟩] n } → Den prog w C h X v x → Den prog w C h X (.ref a) (.inst x)
inductive DenAll (prog : Program) (w : World) (C : Addr) (h : Heap) (X : List Addr) : List Value → List PV → Prop
  | nil : DenAll prog w C h X [] []
  | cons {v : Value} {vs : List Value} {d : PV} {ds : List PV} : Den prog w C h X v d → DenAll prog w C h X vs ds → DenAll prog w C h X (v :: vs) (d :: ds)
end
section
variable {prog : Program} {w : World} {C : Addr} {h h' : Heap} {X X' : List Addr}
mutual
theorem Den.mv (m : Mv X h X' h') : ∀ {v : Value} {d : PV}, Den prog w C h X v d → Den prog w C h' X' v d
  | _, _, .none => .none
  | _, _, .bool b => .bool b
  | _, _, .int i t => .int i t
  | _, _, .str s t => .str s t
  | _, _, .tup ha ho r => .tup (let ⟨_, e⟩ := isTuple_some ho; m.off ha e) (isTuple_at ho fun o e => m.keep _ o ha e) (DenAll.mv m r)
  | _, _, .list ha ho r => .list (let ⟨_, e⟩ := isList_some ho; m.off ha e) (isList_at ho fun o e => m.keep _ o ha e) (DenAll.mv m r)
  | _, _, .dict ha hs ho hk r => .dict (let ⟨_, e⟩ := dictOf_some ho; m.off ha e) hs (dictOf_at ho fun o e => m.keep _ o ha e) hk (DenAll.mv m r)
  | _, _, .inst ha hd e1 e2 r => .inst (m.off ha e1) (m.off hd e2) (m.keep _ _ ha e1) (m.keep _ _ hd e2) (Den.mv m r)
theorem DenAll.mv (m : Mv X h X' h') : ∀ {vs : List Value} {ds : List PV}, DenAll prog w C h X vs ds → DenAll prog w C h' X' vs ds
  | _, _, .nil => .nil
  | _, _, .cons a r => .cons (Den.mv m a) (DenAll.mv m r)
end
theorem Den.ext (e : Ext h h') {v : Value} {d : PV} (x : Den prog w C h X v d) : Den prog w C h' X v d := x.mv (.of_ext e)
theorem DenAll.ext (e : Ext h h') {v : List Value} {d : List PV} (x : DenAll prog w C h X v d) : DenAll prog w C h' X v d := x.mv (.of_ext e)
theorem Den.anti (hs : ∀ b ∈ X', b ∈ X) {v : Value} {d : PV} (x : Den prog w C h X v d) : Den prog w C h X' v d := x.mv (.anti hs)
theorem DenAll.anti (hs : ∀ b ∈ X', b ∈ X) {v : List Value} {d : List PV} (x : DenAll prog w C h X v d) : DenAll prog w C h X' v d := x.mv (.anti hs)
/-- what a value that denotes this is -/
noncomputable def DenIs (prog : Program) (w : World) (C : Addr) (h : Heap) (X : List Addr) (v : Value) : PV → Prop
  | .none => v = .none
  | .bool b => v = .bool b
  | .int i => ∃ t, v = .int i t
  | .str s => ∃ t, v = .str s t
  | .tup ds => ∃ a vs, v = .ref a ∧ a ∉ X ∧ h.IsTuple a (vs : List Value).toArray ∧ DenAll prog w C h X vs ds
  | .list ds => ∃ a vs, v = .ref a ∧ a ∉ X ∧ h.IsList a (vs : List Value).toArray ∧ DenAll prog w C h X vs ds
  | .dict l => ∃ a kvs, v = .ref a ∧ a ∉ X ∧ (a == sysModules) = false ∧ h.DictOf (keyKind prog w) a (kvs : List (Key × Value)) ∧ kvs.map (·.1) = l.map (·.1) ∧ DenAll prog w C h X (kvs.map (·.2)) (l.map (·.2))
  | .inst x => ∃ a d hs t n u, v = .ref a ∧ a ∉ X ∧ d ∉ X ∧ h.get? a = some { cls := .ref C, dict := some d, data := .plain } ∧
      h.get? d = some { cls := .type "dict", data := .dict #[⟨hs, .str theList t, u⟩] n } ∧ Den prog w C h X u x
theorem Den.is {v : Value} {d : PV} (x : Den prog w C h X v d) : DenIs prog w C h X v d := by
  cases x with
  | none => exact rfl
  | bool => exact rfl
  | int i t => exact ⟨t, rfl⟩
  | str s t => exact ⟨t, rfl⟩
  | tup a b c => exact ⟨_, _, rfl, a, b, c⟩
  | list a b c => exact ⟨_, _, rfl, a, b, c⟩
  | dict a b c d e => exact ⟨_, _, rfl, a, b, c, d, e⟩
  | inst a b c d e => exact ⟨_, _, _, _, _, _, rfl, a, b, c, d, e⟩
theorem DenAll.nil' {ds : List PV} (x : DenAll prog w C h X [] ds) : ds = [] := by cases x; rfl
theorem DenAll.cons' {v : Value} {vs : List Value} {ds : List PV} (x : DenAll prog w C h X (v :: vs) ds) : ∃ e es, ds = e :: es ∧ Den prog w C h X v e ∧ DenAll prog w C h X vs es := by
  cases x with
  | cons a r => exact ⟨_, _, rfl, a, r⟩
theorem DenAll.nilD {vs : List Value} (x : DenAll prog w C h X vs []) : vs = [] := by cases x; rfl
theorem DenAll.consD {d : PV} {vs : List Value} {ds : List PV} (x : DenAll prog w C h X vs (d :: ds)) : ∃ v us, vs = v :: us ∧ Den prog w C h X v d ∧ DenAll prog w C h X us ds := by
  cases x with
  | cons a r => exact ⟨_, _, rfl, a, r⟩
variable {vs ws : List Value} {ds es : List PV}
theorem DenAll.length (x : DenAll prog w C h X vs ds) : vs.length = ds.length := by
  induction vs generalizing ds with
  | nil => cases x; rfl
  | cons v vs ih => cases x with | cons _ r => rw [List.length_cons, List.length_cons, ih r]
theorem DenAll.append (x : DenAll prog w C h X vs ds) (y : DenAll prog w C h X ws es) : DenAll prog w C h X (vs ++ ws) (ds ++ es) := by
  induction vs generalizing ds with
  | nil => cases x; exact y
  | cons v vs ih => cases x with | cons a r => exact .cons a (ih r)
theorem DenAll.get (x : DenAll prog w C h X vs ds) {i : Nat} {d : PV} (e : ds[i]? = some d) : ∃ v, vs[i]? = some v ∧ Den prog w C h X v d := by
  induction vs generalizing ds i with
  | nil => cases x; simp at e
  | cons v vs ih =>
    cases x with
    | cons a r =>
      cases i with
      | zero => simp at e; subst e; exact ⟨v, rfl, a⟩
      | succ i => exact ih r (by simpa using e)
theorem DenAll.at (x : DenAll prog w C h X vs ds) {i : Nat} {v : Value} {d : PV} (e : vs[i]? = some v) (e' : ds[i]? = some d) : Den prog w C h X v d := by
  obtain ⟨u, hu, hd⟩ := x.get e'
  rw [e] at hu; cases hu; exact hd
theorem DenAll.take (x : DenAll prog w C h X vs ds) (n : Nat) : DenAll prog w C h X (vs.take n) (ds.take n) := by
  induction vs generalizing ds n with
  | nil => cases x; simpa using DenAll.nil
  | cons v vs ih =>
    cases x with
    | cons a r => cases n with
      | zero => exact .nil
      | succ n => exact .cons a (ih r n)
theorem DenAll.drop (x : DenAll prog w C h X vs ds) (n : Nat) : DenAll prog w C h X (vs.drop n) (ds.drop n) := by
  induction vs generalizing ds n with
  | nil => cases x; simpa using DenAll.nil
  | cons v vs ih =>
    cases x with
    | cons a r => cases n with
      | zero => exact .cons a r
      | succ n => exact ih r n
theorem DenAll.mem (x : DenAll prog w C h X vs ds) {v : Value} (hv : v ∈ vs) : ∃ d ∈ ds, Den prog w C h X v d := by
  induction vs generalizing ds with
  | nil => cases hv
  | cons u vs ih =>
    cases x with
    | cons a r =>
      rcases List.mem_cons.mp hv with rfl | q
      · exact ⟨_, List.mem_cons_self, a⟩
      · obtain ⟨d, hd, z⟩ := ih r q
        exact ⟨d, List.mem_cons_of_mem _ hd, z⟩
/-! a key and its value -/
theorem Den.key {v : Value} {d : PV} {k : Key} (x : Den prog w C h X v d) (e : d.key = some k) : (keyKind prog w).is k v = true := by
  cases x <;> simp [PV.key] at e
  · subst e; simp [keyKind, Key.is, Value.isInt]
  · subst e; simp [keyKind, Key.is, Value.isStrOf]
theorem den_of_key {k : Key} {v : Value} (e : (keyKind prog w).is k v = true) : Den prog w C h X v k.pv := by
  obtain ⟨t, rfl⟩ := Key.is_shape (show Key.is k v = true from e)
  cases k
  · exact .int _ _
  · exact .str _ _
/-! dicts: the pairs' values, key by key -/
theorem valueAt_den : ∀ {kvs : List (Key × Value)} {l : List (Key × PV)}, kvs.map (·.1) = l.map (·.1) → DenAll prog w C h X (kvs.map (·.2)) (l.map (·.2)) → ∀ k,
    (dget l k = Option.none ∧ valueAt kvs k = Option.none) ∨ ∃ v d, dget l k = some d ∧ valueAt kvs k = some v ∧ Den prog w C h X v d
  | [], [], _, _, k => .inl ⟨rfl, rfl⟩
  | [], _ :: _, e, _, _ => by simp at e
  | _ :: _, [], e, _, _ => by simp at e
  | (k₁, v) :: kvs, (k₂, d) :: l, e, x, k => by
    simp only [List.map_cons, List.cons.injEq] at e
    obtain ⟨rfl, e⟩ := e
    cases x with
    | cons a r =>
      by_cases hk : k₁ = k
      · exact .inr ⟨v, d, by simp [dget, hk], by simp [valueAt, hk], a⟩
      · have := valueAt_den e r k
        simpa [dget, valueAt, hk] using this
theorem any_keys : ∀ {kvs : List (Key × Value)} {l : List (Key × PV)}, kvs.map (·.1) = l.map (·.1) → ∀ k, (kvs.any fun kv => decide (kv.1 = k)) = l.any fun kv => decide (kv.1 = k)
  | [], [], _, _ => rfl
  | [], _ :: _, e, _ => by simp at e
  | _ :: _, [], e, _ => by simp at e
  | (k₁, v) :: kvs, (k₂, d) :: l, e, k => by
    simp only [List.map_cons, List.cons.injEq] at e
    obtain ⟨rfl, e⟩ := e
    simp [any_keys e k]
theorem put_den {v₀ : Value} {d₀ : PV} (a : Den prog w C h X v₀ d₀) (k : Key) : ∀ {kvs : List (Key × Value)} {l : List (Key × PV)}, kvs.map (·.1) = l.map (·.1) → DenAll prog w C h X (kvs.map (·.2)) (l.map (·.2)) →
    (kvs.map fun kv => if kv.1 = k then (kv.1, v₀) else kv).map (·.1) = (l.map fun kv => if kv.1 = k then (kv.1, d₀) else kv).map (·.1) ∧
    DenAll prog w C h X ((kvs.map fun kv => if kv.1 = k then (kv.1, v₀) else kv).map (·.2)) ((l.map fun kv => if kv.1 = k then (kv.1, d₀) else kv).map (·.2))
  | [], [], _, _ => ⟨rfl, .nil⟩
  | [], _ :: _, e, _ => by simp at e
  | _ :: _, [], e, _ => by simp at e
  | (k₁, v) :: kvs, (k₂, d) :: l, e, x => by
    simp only [List.map_cons, List.cons.injEq] at e
    obtain ⟨rfl, e⟩ := e
    cases x with
    | cons b r =>
      obtain ⟨h1, h2⟩ := put_den a k e r
      by_cases hk : k₁ = k
      · simp only [List.map_cons, hk, if_true]
        exact ⟨by rw [h1], .cons a h2⟩
      · simp only [List.map_cons, hk, if_false]
        exact ⟨by rw [h1], .cons b h2⟩
theorem stored_den {kvs : List (Key × Value)} {l : List (Key × PV)} {k : Key} {v : Value} {d : PV} (e : kvs.map (·.1) = l.map (·.1)) (x : DenAll prog w C h X (kvs.map (·.2)) (l.map (·.2))) (a : Den prog w C h X v d) :
    (stored kvs k v).map (·.1) = (dset l k d).map (·.1) ∧ DenAll prog w C h X ((stored kvs k v).map (·.2)) ((dset l k d).map (·.2)) := by
  unfold stored dset
  rw [any_keys e k]
  split
  · exact put_den a k e x
  · refine ⟨by simp [e], ?_⟩
    rw [List.map_append, List.map_append]
    exact x.append (.cons a .nil)
end
end Mine
end
section
set_option maxRecDepth 100000
namespace Mine
open PySem PySem.Spec PySem.Calls PyProof.Rows
noncomputable abbrev dbg : Str := Str.ofString "__debug__"
noncomputable def bnames : List Str := [Str.ofString "len", Str.ofString "sum", Str.ofString "range", Str.ofString "tuple", Str.ofString "max", Str.ofString "sorted", Str.ofString "isinstance"]
/-- a def of the text stands at a -/
noncomputable def FnAt (h : Heap) (a : Addr) (d : Def) : Prop :=
  ∃ o fd, h.get? a = some o ∧ o.data = .func fd ∧ fd.body = .stmts d.body ∧ fd.scope = d.scope ∧ fd.closure = [] ∧ fd.globals = mainGlobals ∧ fd.builtins = builtinsNs ∧ h.CodeRec fd.code fd.qualname ∧
    (∀ vals : List Value, vals.length = d.params.args.length → bindArgs fd ⟨vals, []⟩ = pure ((d.params.args.map (·.arg)).zip vals)) ∧
    d.scope.kind = .function ∧ d.scope.isCoroutine = false ∧ d.scope.isGenerator = false ∧ d.scope.names.lookup dbg = none
/-- the text's class stands at C, with its two methods -/
noncomputable def ClsOk (T : Tx) (C : Addr) (h : Heap) : Prop :=
  ∃ (K : W.Frag) (fI fc : Addr) (di dc : Def) (p1 p2 p3 p4 : Pos), K.In h ∧ W.makesIn K C = true ∧ W.findIn K (.ref C) "__init__" = some (some (.ref fI)) ∧ W.typeIn K (.ref fI) = some (.type "function") ∧ FnAt h fI di ∧
    di.params.args.map (·.arg) = [Str.ofString "self", theList] ∧ di.body = [Stmt.Assign [.Attribute (.Name (Str.ofString "self") p1) theList p2] (.Name theList p3) p4] ∧
    di.scope.names.lookup (Str.ofString "self") = some .local ∧ di.scope.names.lookup theList = some .local ∧
    W.findIn K (.ref C) "__setattr__" = some (some (.builtin "object.__setattr__")) ∧ W.plainOver K C = true ∧ W.takerIn K C theList = some none ∧ W.hasDictIn K C = true ∧ W.plainGet K C theList = true ∧
    W.findIn K (.ref C) theList = some none ∧ W.findIn K (.ref C) (Str.ofString "compare") = some (some (.ref fc)) ∧ W.isFn K (.ref fc) = true ∧ FnAt h fc dc ∧ (T.D ++ T.M).find? (fun d => decide (d.name = Str.ofString "TupleComp.compare")) = some dc ∧ W.keepIn K (.ref C) = true
structure Glo (T : Tx) (C : Addr) (h : Heap) : Prop where
  g : ∃ mg mb, h.Ns mainGlobals mg ∧ h.Ns builtinsNs mb ∧ (∀ x ∈ bnames, mg x = none ∧ mb x = bootBuiltins x) ∧ (∀ d ∈ T.D, ∃ a, mg d.name = some (.ref a) ∧ FnAt h a d) ∧
    mg (Str.ofString "TupleComp") = some (.ref C)
  nolimit : h.NoLimit
  cls : ClsOk T C h
theorem FnAt.ext {h h' : Heap} {a : Addr} {d : Def} (e : Ext h h') (x : FnAt h a d) : FnAt h' a d :=
  let ⟨o, fd, h1, h2, h3, h4, h5, h6, h7, h8, r⟩ := x; ⟨o, fd, e _ _ h1, h2, h3, h4, h5, h6, h7, h8.keeps e, r⟩
theorem ClsOk.kept {T : Tx} {C : Addr} {h h' : Heap} (k : ∀ b o, h.get? b = some o → h'.get? b = some o) (x : ClsOk T C h) : ClsOk T C h' := by
  obtain ⟨K, fI, fc, di, dc, p1, p2, p3, p4, a1, a2, a3, a4, a5, a6, a7, a8, a9, b1, b2, b3, b4, b5, b6, b7, b8, b9, c⟩ := x
  exact ⟨K, fI, fc, di, dc, p1, p2, p3, p4, a1.keeps k, a2, a3, a4, a5.ext k, a6, a7, a8, a9, b1, b2, b3, b4, b5, b6, b7, b8, b9.ext k, c⟩
theorem Glo.ext {T : Tx} {C : Addr} {h h' : Heap} (e : Ext h h') (x : Glo T C h) : Glo T C h' where
  g := by
    obtain ⟨mg, mb, h1, h2, h3, h4, h5⟩ := x.g
    refine ⟨mg, mb, h1.keeps e, h2.keeps e, h3, fun d hd => ?_, h5⟩
    obtain ⟨a, p, q⟩ := h4 d hd
    exact ⟨a, p, q.ext e⟩
  nolimit := x.nolimit.keeps e
  cls := x.cls.kept e
structure EnvOk (env : Env) (c : Cx) : Prop where
  kind : env.scope.kind = .function
  sc : ∀ x, env.kindOf x = c.sc x
  gl : env.globals = mainGlobals
  bu : env.builtins = builtinsNs
  nodbg : c.sc dbg = none
theorem EnvOk.ne_dbg {env : Env} {c : Cx} (x : EnvOk env c) {n : Str} {k : NameKind} (h : c.sc n = some k) : (n == ("__debug__" : Str)) = false := by
  cases e : n == ("__debug__" : Str) with
  | false => rfl
  | true =>
    have : n = dbg := eq_of_beq e
    rw [this, x.nodbg] at h; cases h
theorem EnvOk.store {env : Env} {c : Cx} (x : EnvOk env c) : (env.scope.kind == .class || (env.scope.kind == .module && env.locals != env.globals)) = false := by rw [x.kind]; rfl
noncomputable def ownD (prog : Program) (w : World) (C : Addr) (h : Heap) (X : List Addr) (a : Addr) : PV → Prop
  | .list ds => ∃ vs : List Value, h.PlainList a vs.toArray ∧ DenAll prog w C h X vs ds
  | .dict l => (a == sysModules) = false ∧ ∃ kvs : List (Key × Value), h.DictOf (keyKind prog w) a kvs ∧ kvs.map (·.1) = l.map (·.1) ∧ DenAll prog w C h X (kvs.map (·.2)) (l.map (·.2))
  | _ => False
noncomputable def LVd (prog : Program) (w : World) (C : Addr) (h : Heap) (X : List Addr) (oa : Option Addr) (v : Value) : LV → Prop
  | .fro d => Den prog w C h X v d
  | .own d => ∃ a, oa = some a ∧ v = .ref a ∧ ownD prog w C h X a d
section
variable {prog : Program} {w : World} {C : Addr}
theorem ownD.move {h h' : Heap} {X X' : List Addr} {a : Addr} {d : PV} (m : Mv X h X' h') (e : ∀ o, h.get? a = some o → h'.get? a = some o) (x : ownD prog w C h X a d) : ownD prog w C h' X' a d := by
  cases d <;> try exact x.elim
  · obtain ⟨vs, hl, hd⟩ := x
    exact ⟨vs, hl.at e, hd.mv m⟩
  · obtain ⟨hs, kvs, hl, hk, hd⟩ := x
    exact ⟨hs, kvs, dictOf_at hl e, hk, hd.mv m⟩
theorem ownD.some {h : Heap} {X : List Addr} {a : Addr} {d : PV} (x : ownD prog w C h X a d) : ∃ o, h.get? a = some o := by
  cases d <;> try exact x.elim
  · obtain ⟨vs, ⟨n, hl⟩, hd⟩ := x; exact ⟨_, hl⟩
  · obtain ⟨hs, kvs, hl, hk, hd⟩ := x; exact dictOf_some hl
theorem ownD.den {h : Heap} {X : List Addr} {a : Addr} {d : PV} (x : ownD prog w C h X a d) (ha : a ∉ X) : Den prog w C h X (.ref a) d := by
  cases d <;> try exact x.elim
  · obtain ⟨vs, hl, hd⟩ := x; exact .list ha hl.isList hd
  · obtain ⟨hs, kvs, hl, hk, hd⟩ := x; exact .dict ha hs hl hk hd
theorem LVd.move {h h' : Heap} {X X' : List Addr} {oa : Option Addr} {v : Value} {lv : LV} (m : Mv X h X' h') (e : ∀ a, oa = some a → ∀ o, h.get? a = some o → h'.get? a = some o) (x : LVd prog w C h X oa v lv) : LVd prog w C h' X' oa v lv := by
  cases lv with
  | fro d => exact Den.mv m x
  | own d => obtain ⟨a, h1, h2, h3⟩ := x; exact ⟨a, h1, h2, h3.move m (e a h1)⟩
end
/-- what the frame may change -/
noncomputable def Wr (env : Env) (c : Cx) (ad : Str → Option Addr) (b : Addr) : Prop :=
  b = env.locals ∨ (∃ x, c.sc x = some .cell ∧ env.cells.lookup x = some b) ∨ ∃ x, ad x = some b
/-- the frame at hand, told -/
structure Inv (prog : Program) (w : World) (C : Addr) (h₀ : Heap) (env : Env) (c : Cx) (h : Heap) (X : List Addr) (ad : Str → Option Addr) (σ : St) : Prop where
  keep : Ext h₀ h
  offb : ∀ b, Wr env c ad b → h₀.get? b = none
  live : ∀ b ∈ X, ∃ o, h.get? b = some o
  Lx : env.locals ∈ X
  ns : ∃ m, h.Ns env.locals m ∧ ∀ x lv, c.sc x = some .local → σ.loc.lookup x = some lv → ∃ v, m x = some v ∧ LVd prog w C h X (ad x) v lv
  cl : ∀ x lv, c.sc x = some .cell → σ.cel.lookup x = some lv → ∃ a v, env.cells.lookup x = some a ∧ h.IsCell a (some v) ∧ LVd prog w C h X (ad x) v lv
  cells : ∀ x, c.sc x = some .cell → ∃ a v, env.cells.lookup x = some a ∧ h.IsCell a v ∧ a ∈ X ∧ a ≠ env.locals
  apart : ∀ x y a, c.sc x = some .cell → c.sc y = some .cell → env.cells.lookup x = some a → env.cells.lookup y = some a → x = y
  adX : ∀ x a, ad x = some a → a ∈ X ∧ a ≠ env.locals ∧ ∀ y, c.sc y = some .cell → env.cells.lookup y ≠ some a
  adinj : ∀ x y a, ad x = some a → ad y = some a → x = y
structure Rm (n : Nat) (A : Around) : Prop where
  handled : A.handled = none
  depth : A.depth + 5 * n + 5 ≤ 990
  units : A.units + 10 * n + 100 ≤ 9900
theorem Rm.le {n m : Nat} {A : Around} (x : Rm n A) (h : m ≤ n) : Rm m A := ⟨x.handled, by have := x.depth; omega, by have := x.units; omega⟩
theorem Rm.deeper {n : Nat} {A : Around} (x : Rm (n + 1) A) (env : Env) : Rm n (A.deeper env) :=
  ⟨x.handled, by have := x.depth; simp only [Around.deeper]; omega, by have := x.units; simp only [Around.deeper]; omega⟩
section
variable {prog : Program} {w : World} {C : Addr} {h₀ : Heap} {env : Env} {c : Cx} {h h' : Heap} {X : List Addr} {ad : Str → Option Addr} {σ : St}
theorem Inv.ext (I : Inv prog w C h₀ env c h X ad σ) (e : Ext h h') : Inv prog w C h₀ env c h' X ad σ where
  keep := I.keep.trans e
  offb := I.offb
  live := fun b hb => let ⟨o, q⟩ := I.live b hb; ⟨o, e _ _ q⟩
  Lx := I.Lx
  ns := let ⟨m, hn, hm⟩ := I.ns; ⟨m, hn.keeps e, fun x lv h1 h2 => let ⟨v, p, q⟩ := hm x lv h1 h2; ⟨v, p, q.move (.of_ext e) fun a _ o => e a o⟩⟩
  cl := fun x lv h1 h2 => let ⟨a, v, p, q, r⟩ := I.cl x lv h1 h2; ⟨a, v, p, q.keeps e, r.move (.of_ext e) fun a _ o => e a o⟩
  cells := fun x hx => let ⟨a, v, p, q, r⟩ := I.cells x hx; ⟨a, v, p, q.keeps e, r⟩
  apart := I.apart
  adX := I.adX
  adinj := I.adinj
/-- a new address is off X -/
theorem Inv.new_off (I : Inv prog w C h₀ env c h X ad σ) {a : Addr} (ha : h.get? a = none) : a ∉ X := fun hm => by
  obtain ⟨o, e⟩ := I.live a hm
  rw [ha] at e; cases e
theorem size_none (h : Heap) : h.get? h.objs.size = none := by
  cases e : h.get? h.objs.size with
  | none => rfl
  | some o => exact absurd (Heap.lt_size e) (Nat.lt_irrefl _)
theorem Inv.size_off (I : Inv prog w C h₀ env c h X ad σ) : h.objs.size ∉ X := I.new_off (size_none h)
/-- what is looked at: frozen, or a container of the frame's own -/
noncomputable def DenB (prog : Program) (w : World) (C : Addr) (h : Heap) (X : List Addr) (v : Value) (d : PV) : Prop := Den prog w C h X v d ∨ ∃ a, v = .ref a ∧ a ∈ X ∧ ownD prog w C h X a d
theorem St.get_cases {σ : St} {c : Cx} {x : Str} {lv : LV} (e : σ.get c x = some lv) : (c.sc x = some .local ∧ σ.loc.lookup x = some lv) ∨ (c.sc x = some .cell ∧ σ.cel.lookup x = some lv) := by
  obtain ⟨k, hk, e⟩ := Option.bind_eq_some_iff.mp e
  cases k <;> first | exact .inl ⟨hk, e⟩ | exact .inr ⟨hk, e⟩ | nomatch e
theorem St.set_cases {σ σ' : St} {c : Cx} {x : Str} {lv : LV} (e : σ.set c x lv = some σ') : (c.sc x = some .local ∧ ⟨aset σ.loc x lv, σ.cel⟩ = σ') ∨ (c.sc x = some .cell ∧ ⟨σ.loc, aset σ.cel x lv⟩ = σ') := by
  obtain ⟨k, hk, e⟩ := Option.bind_eq_some_iff.mp e
  cases k <;> first | exact .inl ⟨hk, Option.some.inj e⟩ | exact .inr ⟨hk, Option.some.inj e⟩ | nomatch e
variable {A : Around} {E : Value → Shared → Prop} {s : Shared}
theorem load_lv {x : Str} {lv : LV} {Q : Value → Shared → Prop} (O : EnvOk env c) (I : Inv prog w C h₀ env c s.heap X ad σ) (e : σ.get c x = some lv)
    (h : ∀ v, LVd prog w C s.heap X (ad x) v lv → Q v s) : wpAny (model prog w) A (loadName env x) Q E s := by
  rcases St.get_cases e with ⟨hk, hl⟩ | ⟨hk, hl⟩
  · obtain ⟨m, hn, hm⟩ := I.ns
    obtain ⟨v, hv, hd⟩ := hm x lv hk hl
    exact wpAny_loadName_local O.kind ((O.sc x).trans hk) hn hv (h v hd)
  · obtain ⟨a, v, ha, hv, hd⟩ := I.cl x lv hk hl
    exact wpAny_loadName_cell O.kind ((O.sc x).trans hk) ha hv (h v hd)
theorem get_ne_dbg {x : Str} {lv : LV} (O : EnvOk env c) (e : σ.get c x = some lv) : (x == ("__debug__" : Str)) = false := by
  rcases St.get_cases e with ⟨hk, _⟩ | ⟨hk, _⟩ <;> exact O.ne_dbg hk
theorem name_lv {x : Str} {p : Pos} {lv : LV} {Q : Value → Shared → Prop} (O : EnvOk env c) (I : Inv prog w C h₀ env c s.heap X ad σ) (e : σ.get c x = some lv)
    (h : ∀ v, LVd prog w C s.heap X (ad x) v lv → Q v s) : wpAny (model prog w) A (eval (.Name x p) env) Q E s :=
  wpAny_Name (load_lv O I e h) (get_ne_dbg O e)
theorem LVd.denB {x : Str} {v : Value} {lv : LV} (I : Inv prog w C h₀ env c h X ad σ) (z : LVd prog w C h X (ad x) v lv) : DenB prog w C h X v lv.d := by
  cases lv with
  | fro d => exact .inl z
  | own d => obtain ⟨a, h1, h2, h3⟩ := z; exact .inr ⟨a, h2, (I.adX x a h1).1, h3⟩
theorem DenB.int {v : Value} {i : Int} (x : DenB prog w C h X v (.int i)) : ∃ t, v = .int i t := by
  rcases x with x | ⟨a, _, _, x⟩
  · cases x; exact ⟨_, rfl⟩
  · exact x.elim
theorem DenB.str {v : Value} {i : Str} (x : DenB prog w C h X v (.str i)) : ∃ t, v = .str i t := by
  rcases x with x | ⟨a, _, _, x⟩
  · cases x; exact ⟨_, rfl⟩
  · exact x.elim
theorem DenB.bool {v : Value} {i : Bool} (x : DenB prog w C h X v (.bool i)) : v = .bool i := by
  rcases x with x | ⟨a, _, _, x⟩
  · cases x; rfl
  · exact x.elim
theorem DenB.tup {v : Value} {l : List PV} (x : DenB prog w C h X v (.tup l)) : ∃ a vs, v = .ref a ∧ h.IsTuple a (vs : List Value).toArray ∧ DenAll prog w C h X vs l ∧ a ∉ X := by
  rcases x with x | ⟨a, _, _, x⟩
  · cases x; exact ⟨_, _, rfl, by assumption, by assumption, by assumption⟩
  · exact x.elim
theorem DenB.list {v : Value} {l : List PV} (x : DenB prog w C h X v (.list l)) : ∃ a vs, v = .ref a ∧ h.IsList a (vs : List Value).toArray ∧ DenAll prog w C h X vs l := by
  rcases x with x | ⟨a, rfl, _, x⟩
  · cases x; exact ⟨_, _, rfl, by assumption, by assumption⟩
  · obtain ⟨vs, hl, hd⟩ := x; exact ⟨a, vs, rfl, hl.isList, hd⟩
theorem DenB.dict {v : Value} {l : List (Key × PV)} (x : DenB prog w C h X v (.dict l)) : ∃ a kvs, v = .ref a ∧ (a == sysModules) = false ∧ h.DictOf (keyKind prog w) a (kvs : List (Key × Value)) ∧ kvs.map (·.1) = l.map (·.1) ∧
    DenAll prog w C h X (kvs.map (·.2)) (l.map (·.2)) := by
  rcases x with x | ⟨a, rfl, _, x⟩
  · cases x; exact ⟨_, _, rfl, by assumption, by assumption, by assumption, by assumption⟩
  · obtain ⟨hs, kvs, hl, hk, hd⟩ := x; exact ⟨a, kvs, rfl, hs, hl, hk, hd⟩
theorem DenB.ext {v : Value} {d : PV} (e : Ext h h') (x : DenB prog w C h X v d) : DenB prog w C h' X v d := by
  rcases x with x | ⟨a, h1, h2, x⟩
  · exact .inl (x.ext e)
  · exact .inr ⟨a, h1, h2, x.move (.of_ext e) fun o q => e a o q⟩
theorem Den.list' {v : Value} {l : List PV} (x : Den prog w C h X v (.list l)) : ∃ a vs, v = .ref a ∧ h.IsList a (vs : List Value).toArray ∧ DenAll prog w C h X vs l ∧ a ∉ X := by
  cases x; exact ⟨_, _, rfl, by assumption, by assumption, by assumption⟩
theorem Den.dict' {v : Value} {l : List (Key × PV)} (x : Den prog w C h X v (.dict l)) : ∃ a kvs, v = .ref a ∧ (a == sysModules) = false ∧ h.DictOf (keyKind prog w) a (kvs : List (Key × Value)) ∧ kvs.map (·.1) = l.map (·.1) ∧
    DenAll prog w C h X (kvs.map (·.2)) (l.map (·.2)) ∧ a ∉ X := by
  cases x; exact ⟨_, _, rfl, by assumption, by assumption, by assumption, by assumption, by assumption⟩
theorem Den.inst' {v : Value} {x : PV} (z : Den prog w C h X v (.inst x)) : ∃ a d hs t n u, v = .ref a ∧ h.get? a = some { cls := .ref C, dict := some d, data := .plain } ∧
    h.get? d = some { cls := .type "dict", data := .dict #[⟨hs, .str theList t, u⟩] n } ∧ Den prog w C h X u x := by
  cases z; exact ⟨_, _, _, _, _, _, rfl, by assumption, by assumption, by assumption⟩
end
end Mine
end
section
set_option maxRecDepth 100000
namespace Mine
open PySem PySem.Spec PySem.Calls PyProof.Rows
noncomputable def Eff (P : Addr → Prop) (h h' : Heap) : Prop := ∀ b o, ¬ P b → h.get? b = some o → h'.get? b = some o
theorem Eff.refl (P : Addr → Prop) (h : Heap) : Eff P h h := fun _ _ _ e => e
theorem Eff.of_ext {P : Addr → Prop} {h h' : Heap} (e : Ext h h') : Eff P h h' := fun b o _ q => e b o q
theorem Eff.trans {P : Addr → Prop} {h h' h'' : Heap} (x : Eff P h h') (y : Eff P h' h'') : Eff P h h'' := fun b o n e => y b o n (x b o n e)
section
variable {prog : Program} {w : World} {C : Addr} {h₀ : Heap} {env : Env} {c : Cx} {h h' : Heap} {X : List Addr} {ad : Str → Option Addr} {σ : St}
theorem Inv.wr_in (I : Inv prog w C h₀ env c h X ad σ) {b : Addr} (p : Wr env c ad b) : b ∈ X := by
  rcases p with rfl | ⟨x, hx, e⟩ | ⟨x, e⟩
  · exact I.Lx
  · obtain ⟨a, v, p, q, r, _⟩ := I.cells x hx
    rw [e] at p; cases p; exact r
  · exact (I.adX x b e).1
theorem Inv.eff_mv (I : Inv prog w C h₀ env c h X ad σ) (e : Eff (Wr env c ad) h h') : Mv X h X h' := ⟨fun b o hb q => e b o (fun p => hb (I.wr_in p)) q, fun _ hb => .inl hb⟩
/-- an address made since is shut out too -/
theorem Inv.grow {h₁ : Heap} (I : Inv prog w C h₀ env c h X ad σ) (e : Ext h h₁) {a : Addr} (ha : h.get? a = none) (hl : ∃ o, h₁.get? a = some o) : Inv prog w C h₀ env c h₁ (a :: X) ad σ where
  keep := I.keep.trans e
  offb := I.offb
  live := fun b hb => by
    rcases List.mem_cons.mp hb with rfl | q
    · exact hl
    · obtain ⟨o, z⟩ := I.live b q; exact ⟨o, e _ _ z⟩
  Lx := List.mem_cons_of_mem _ I.Lx
  ns := let ⟨m, hn, hm⟩ := I.ns; ⟨m, hn.keeps e, fun x lv h1 h2 => let ⟨v, p, q⟩ := hm x lv h1 h2; ⟨v, p, q.move (.more (fun b o _ z => e b o z) ha) fun a _ o => e a o⟩⟩
  cl := fun x lv h1 h2 => let ⟨a, v, p, q, r⟩ := I.cl x lv h1 h2; ⟨a, v, p, q.keeps e, r.move (.more (fun b o _ z => e b o z) ha) fun a _ o => e a o⟩
  cells := fun x hx => let ⟨a, v, p, q, r, t⟩ := I.cells x hx; ⟨a, v, p, q.keeps e, List.mem_cons_of_mem _ r, t⟩
  apart := I.apart
  adX := fun x a h => let ⟨p, q⟩ := I.adX x a h; ⟨List.mem_cons_of_mem _ p, q⟩
  adinj := I.adinj
theorem lookup_aset (l : List (Str × LV)) (x : Str) (lv : LV) (y : Str) : (aset l x lv).lookup y = if y = x then some lv else l.lookup y := by
  unfold aset
  rw [List.lookup_cons]
  by_cases e : y = x
  · subst e; simp
  · rw [if_neg e]
    have : (y == x) = false := by simpa using e
    rw [this]
variable {A : Around} {E : Value → Shared → Prop} {s : Shared}
noncomputable def WrX (env : Env) (c : Cx) (x : Str) (b : Addr) : Prop := b = env.locals ∨ (c.sc x = some .cell ∧ env.cells.lookup x = some b)
theorem store_lv {x : Str} {v : Value} {lv : LV} {σ' : St} {ad' : Str → Option Addr} {Q : Unit → Shared → Prop} (O : EnvOk env c) (I : Inv prog w C h₀ env c s.heap X ad σ) (e : σ.set c x lv = some σ')
    (hne : ∀ y, y ≠ x → ad' y = ad y) (hX : ∀ y a, ad' y = some a → a ∈ X ∧ a ≠ env.locals ∧ ∀ z, c.sc z = some .cell → env.cells.lookup z ≠ some a) (hinj : ∀ y z a, ad' y = some a → ad' z = some a → y = z) (hoff : ∀ y a, ad' y = some a → h₀.get? a = none)
    (hd : LVd prog w C s.heap X (ad' x) v lv)
    (h : ∀ h' tk, Inv prog w C h₀ env c h' X ad' σ' → Eff (WrX env c x) s.heap h' → Q () { s with heap := h', toks := tk }) : wpAny (model prog w) A (storeName env x v) Q E s := by
  have off' : ∀ b, Wr env c ad' b → h₀.get? b = none := fun b p => by
    rcases p with p | p | ⟨y, p⟩
    · exact I.offb b (.inl p)
    · exact I.offb b (.inr (.inl p))
    · exact hoff y b p
  rcases St.set_cases e with ⟨hk, rfl⟩ | ⟨hk, rfl⟩
  · skip
    obtain ⟨m, hn, hm⟩ := I.ns
    refine wpAny_storeName_local ((O.sc x).trans hk) hn (fun h' hn' hs' => ?_) O.store
    have hL : ∀ b o, b ≠ env.locals → s.heap.get? b = some o → h'.get? b = some o := fun b o hb q => (hs'.2 b hb).trans q
    have M : Mv X s.heap X h' := ⟨fun b o hb q => hL b o (fun e => hb (e ▸ I.Lx)) q, fun _ hb => .inl hb⟩
    have own' : ∀ y a, ad' y = some a → ∀ o, s.heap.get? a = some o → h'.get? a = some o := fun y a ha o q => hL a o (hX y a ha).2.1 q
    refine h h' _ ⟨fun b o q => hL b o (fun e => ?_) (I.keep b o q), off', fun b hb => ?_, I.Lx, ⟨_, hn', fun y lv' hy hl => ?_⟩, fun y lv' hy hl => ?_, fun y hy => ?_, I.apart, hX, hinj⟩ fun b o hb q => hL b o (fun e => hb (.inl e)) q
    · have := I.offb _ (.inl rfl)
      rw [← e, q] at this; cases this
    · by_cases hb' : b = env.locals
      · obtain ⟨o, _, _, ho, _⟩ := hn'
        exact ⟨o, hb' ▸ ho⟩
      · obtain ⟨o, q⟩ := I.live b hb; exact ⟨o, hL b o hb' q⟩
    · rw [lookup_aset] at hl
      by_cases hyx : y = x
      · subst hyx
        rw [if_pos rfl] at hl; cases hl
        exact ⟨v, by simp, hd.move M (own' y)⟩
      · rw [if_neg hyx] at hl
        obtain ⟨u, hu, hd'⟩ := hm y lv' hy hl
        refine ⟨u, by simp [hyx, hu], ?_⟩
        rw [← hne y hyx] at hd'
        exact hd'.move M (own' y)
    · have hyx : y ≠ x := fun e => by rw [e, hk] at hy; cases hy
      obtain ⟨a, u, ha, hc, hd'⟩ := I.cl y lv' hy hl
      obtain ⟨a', _, ha', _, _, haL⟩ := I.cells y hy
      rw [ha] at ha'; cases ha'
      rw [← hne y hyx] at hd'
      exact ⟨a, u, ha, hc.sameBut hs' haL, hd'.move M (own' y)⟩
    · obtain ⟨a, u, ha, hc, r, haL⟩ := I.cells y hy
      exact ⟨a, u, ha, hc.sameBut hs' haL, r, haL⟩
  · skip
    obtain ⟨ca, u₀, hca, hcell, hcX, hcL⟩ := I.cells x hk
    refine wpAny_storeName_cell O.kind ((O.sc x).trans hk) hca hcell fun h' hc' hs' => ?_
    have hL : ∀ b o, b ≠ ca → s.heap.get? b = some o → h'.get? b = some o := fun b o hb q => (hs'.2 b hb).trans q
    have M : Mv X s.heap X h' := ⟨fun b o hb q => hL b o (fun e => hb (e ▸ hcX)) q, fun _ hb => .inl hb⟩
    have own' : ∀ y a, ad' y = some a → ∀ o, s.heap.get? a = some o → h'.get? a = some o := fun y a ha o q => hL a o (fun e => (hX y a ha).2.2 x hk (e ▸ hca)) q
    obtain ⟨m, hn, hm⟩ := I.ns
    refine h h' s.toks ⟨fun b o q => hL b o (fun e => ?_) (I.keep b o q), off', fun b hb => ?_, I.Lx, ⟨m, hn.sameBut hs' (Ne.symm hcL), fun y lv' hy hl => ?_⟩, fun y lv' hy hl => ?_, fun y hy => ?_, I.apart, hX, hinj⟩
      fun b o hb q => hL b o (fun e => hb (.inr ⟨hk, e ▸ hca⟩)) q
    · have := I.offb _ (.inr (.inl ⟨x, hk, hca⟩))
      rw [← e, q] at this; cases this
    · by_cases hb' : b = ca
      · obtain ⟨o, ho, _⟩ := hc'
        exact ⟨o, hb' ▸ ho⟩
      · obtain ⟨o, q⟩ := I.live b hb; exact ⟨o, hL b o hb' q⟩
    · have hyx : y ≠ x := fun e => by rw [e, hk] at hy; cases hy
      obtain ⟨u, hu, hd'⟩ := hm y lv' hy hl
      rw [← hne y hyx] at hd'
      exact ⟨u, hu, hd'.move M (own' y)⟩
    · rw [lookup_aset] at hl
      by_cases hyx : y = x
      · subst hyx
        rw [if_pos rfl] at hl; cases hl
        exact ⟨ca, v, hca, hc', hd.move M (own' y)⟩
      · rw [if_neg hyx] at hl
        obtain ⟨a, u, ha, hc, hd'⟩ := I.cl y lv' hy hl
        have hac : a ≠ ca := fun e => hyx (I.apart y x a hy hk ha (e ▸ hca))
        rw [← hne y hyx] at hd'
        exact ⟨a, u, ha, hc.sameBut hs' hac, hd'.move M (own' y)⟩
    · by_cases hyx : y = x
      · subst hyx; exact ⟨ca, some v, hca, hc', hcX, hcL⟩
      · obtain ⟨a, u, ha, hc, r, haL⟩ := I.cells y hy
        have hac : a ≠ ca := fun e => hyx (I.apart y x a hy hk ha (e ▸ hca))
        exact ⟨a, u, ha, hc.sameBut hs' hac, r, haL⟩
theorem Eff.mono {P P' : Addr → Prop} (hp : ∀ b, P b → P' b) (x : Eff P h h') : Eff P' h h' := fun b o n e => x b o (fun p => n (hp b p)) e
theorem wr_mono {x : Str} (b : Addr) (p : WrX env c x b) : Wr env c ad b := by
  rcases p with p | p
  · exact .inl p
  · exact .inr (.inl ⟨x, p⟩)
/-- a frozen value is stored -/
theorem store_fro {x : Str} {v : Value} {d : PV} {σ' : St} {Q : Unit → Shared → Prop} (O : EnvOk env c) (I : Inv prog w C h₀ env c s.heap X ad σ) (e : σ.set c x (.fro d) = some σ') (hd : Den prog w C s.heap X v d)
    (h : ∀ h' tk, Inv prog w C h₀ env c h' X ad σ' → Eff (WrX env c x) s.heap h' → Q () { s with heap := h', toks := tk }) : wpAny (model prog w) A (storeName env x v) Q E s :=
  store_lv O I e (fun _ _ => rfl) I.adX I.adinj (fun y a e => I.offb a (.inr (.inr ⟨y, e⟩))) hd fun h' tk I' z => h h' tk I' z
/-- the container that a name holds has been changed in place -/
theorem Inv.changed {x : Str} {d d' : PV} {a : Addr} {σ' : St} (I : Inv prog w C h₀ env c h X ad σ) (e : σ.set c x (.own d') = some σ') (hg : σ.get c x = some (.own d)) (ha : ad x = some a)
    (hs : Heap.SameBut a h h') (hlive : ∃ o, h'.get? a = some o) (hd : ownD prog w C h' X a d') : Inv prog w C h₀ env c h' X ad σ' := by
  obtain ⟨haX, haL, hac⟩ := I.adX x a ha
  have hL : ∀ b o, b ≠ a → h.get? b = some o → h'.get? b = some o := fun b o hb q => (hs.2 b hb).trans q
  have M : Mv X h X h' := ⟨fun b o hb q => hL b o (fun e => hb (e ▸ haX)) q, fun _ hb => .inl hb⟩
  have own' : ∀ y, y ≠ x → ∀ b, ad y = some b → ∀ o, h.get? b = some o → h'.get? b = some o := fun y hy b hb o q => hL b o (fun e => hy (I.adinj y x a (e ▸ hb) ha)) q
  have base : Ext h₀ h' := fun b o q => hL b o (fun e => by have := I.offb _ (.inr (.inr ⟨x, ha⟩)); rw [← e, q] at this; cases this) (I.keep b o q)
  have liv : ∀ b ∈ X, ∃ o, h'.get? b = some o := fun b hb => by
    by_cases hb' : b = a
    · exact hb' ▸ hlive
    · obtain ⟨o, q⟩ := I.live b hb; exact ⟨o, hL b o hb' q⟩
  obtain ⟨m, hn, hm⟩ := I.ns
  have cel' : ∀ y, c.sc y = some .cell → ∃ b v, env.cells.lookup y = some b ∧ h'.IsCell b v ∧ b ∈ X ∧ b ≠ env.locals := fun y hy => by
    obtain ⟨b, u, hb, hc, r⟩ := I.cells y hy
    exact ⟨b, u, hb, hc.sameBut hs (fun e => hac y hy (e ▸ hb)), r⟩
  rcases St.get_cases hg with ⟨hk, hl⟩ | ⟨hk, hl⟩
  · rcases St.set_cases e with ⟨hk', rfl⟩ | ⟨hk', rfl⟩ <;> first | (rw [hk] at hk'; cases hk'; done) | clear hk'
    refine ⟨base, I.offb, liv, I.Lx, ⟨m, hn.sameBut hs (Ne.symm haL), fun y lv' hy hl' => ?_⟩, fun y lv' hy hl' => ?_, cel', I.apart, I.adX, I.adinj⟩
    · rw [lookup_aset] at hl'
      by_cases hyx : y = x
      · subst hyx
        rw [if_pos rfl] at hl'; cases hl'
        obtain ⟨u, hu, a', h1, h2, h3⟩ := hm y _ hk hl
        rw [ha] at h1; cases h1
        exact ⟨u, hu, a, ha, h2, hd⟩
      · rw [if_neg hyx] at hl'
        obtain ⟨u, hu, hd'⟩ := hm y lv' hy hl'
        exact ⟨u, hu, hd'.move M (own' y hyx)⟩
    · have hyx : y ≠ x := fun e => by rw [e, hk] at hy; cases hy
      obtain ⟨b, u, hb, hc, hd'⟩ := I.cl y lv' hy hl'
      exact ⟨b, u, hb, hc.sameBut hs (fun e => hac y hy (e ▸ hb)), hd'.move M (own' y hyx)⟩
  · rcases St.set_cases e with ⟨hk', rfl⟩ | ⟨hk', rfl⟩ <;> first | (rw [hk] at hk'; cases hk'; done) | clear hk'
    refine ⟨base, I.offb, liv, I.Lx, ⟨m, hn.sameBut hs (Ne.symm haL), fun y lv' hy hl' => ?_⟩, fun y lv' hy hl' => ?_, cel', I.apart, I.adX, I.adinj⟩
    · have hyx : y ≠ x := fun e => by rw [e, hk] at hy; cases hy
      obtain ⟨u, hu, hd'⟩ := hm y lv' hy hl'
      exact ⟨u, hu, hd'.move M (own' y hyx)⟩
    · rw [lookup_aset] at hl'
      by_cases hyx : y = x
      · subst hyx
        rw [if_pos rfl] at hl'; cases hl'
        obtain ⟨b, u, hb, hc, a', h1, h2, h3⟩ := I.cl y _ hk hl
        rw [ha] at h1; cases h1
        exact ⟨b, u, hb, hc.sameBut hs (fun e => hac y hk (e ▸ hb)), a, ha, h2, hd⟩
      · rw [if_neg hyx] at hl'
        obtain ⟨b, u, hb, hc, hd'⟩ := I.cl y lv' hy hl'
        exact ⟨b, u, hb, hc.sameBut hs (fun e => hac y hy (e ▸ hb)), hd'.move M (own' y hyx)⟩
end
end Mine
end
section
set_option maxRecDepth 100000
namespace Mine
open PySem PySem.Spec PySem.Calls PyProof.Rows PySem.SeqAt PySem.W
section
variable {prog : Program} {w : World} {C : Addr} {h : Heap} {X : List Addr}
theorem DenB.read {v : Value} {d : PV} (x : DenB prog w C h X v d) : Den prog w C h [] v d := by
  rcases x with x | ⟨a, rfl, _, x⟩
  · exact x.anti fun b hb => absurd hb List.not_mem_nil
  · have := x.move (X' := []) (h' := h) (.anti fun b hb => absurd hb List.not_mem_nil) fun o e => e
    exact this.den List.not_mem_nil
theorem Den.read {v : Value} {d : PV} (x : Den prog w C h X v d) : Den prog w C h [] v d := x.anti fun b hb => absurd hb List.not_mem_nil
theorem isTuple_eq {a : Addr} {xs ys : List Value} (x : h.IsTuple a xs.toArray) (y : h.IsTuple a ys.toArray) : xs = ys := by
  obtain ⟨o, ho, _, n, hd⟩ := x
  obtain ⟨o', ho', _, n', hd'⟩ := y
  rw [ho] at ho'; cases ho'
  rw [hd] at hd'; injection hd' with e
  simpa using e
theorem isList_eq {a : Addr} {xs ys : List Value} (x : h.IsList a xs.toArray) (y : h.IsList a ys.toArray) : xs = ys := by
  obtain ⟨o, ho, _, n, hd⟩ := x
  obtain ⟨o', ho', _, n', hd'⟩ := y
  rw [ho] at ho'; cases ho'
  rw [hd] at hd'; injection hd' with e
  simpa using e
theorem pairs_eq {K : Type} [DecidableEq K] {knd : KeyKind prog w K} {es : List DictEntry} {xs ys : List (K × Value)} (x : Pairs knd es xs) (y : Pairs knd es ys) : xs = ys := by
  induction x generalizing ys with
  | nil => cases y; rfl
  | cons h1 h2 r ih =>
    cases y with
    | cons h1' h2' r' =>
      rw [ih r', Prod.ext (knd.inj _ _ _ h1 h1') (h2.symm.trans h2')]
theorem dictOf_eq {K : Type} [DecidableEq K] {knd : KeyKind prog w K} {a : Addr} {xs ys : List (K × Value)} (x : h.DictOf knd a xs) (y : h.DictOf knd a ys) : xs = ys := by
  obtain ⟨o, es, ep, ho, _, hd, _, hp, _⟩ := x
  obtain ⟨o', es', ep', ho', _, hd', _, hp', _⟩ := y
  rw [ho] at ho'; cases ho'
  rw [hd] at hd'; injection hd' with e
  subst e
  exact pairs_eq hp hp'
theorem dictOf_nodup {K : Type} [DecidableEq K] {knd : KeyKind prog w K} {a : Addr} {xs : List (K × Value)} (x : h.DictOf knd a xs) : (xs.map (·.1)).Nodup := let ⟨_, _, _, _, _, _, _, _, n⟩ := x; n
inductive PeqIs (n : Nat) : PV → PV → Bool → Prop
  | bool (x y : Bool) : PeqIs n (.bool x) (.bool y) (x == y)
  | int (x y : Int) : PeqIs n (.int x) (.int y) (x == y)
  | str (x y : Str) : PeqIs n (.str x) (.str y) (decide (x = y))
  | tup {xs ys : List PV} {b : Bool} (q : seqEq (peq n) xs ys = some b) : PeqIs n (.tup xs) (.tup ys) b
  | list {xs ys : List PV} {b : Bool} (hl : xs.length = ys.length) (q : seqEq (peq n) xs ys = some b) : PeqIs n (.list xs) (.list ys) b
  | listne {xs ys : List PV} (hl : ¬ xs.length = ys.length) : PeqIs n (.list xs) (.list ys) false
  | dict {xs ys : List (Key × PV)} {b : Bool} (hi : xs.all isIntKey = true) (hj : ys.all isIntKey = true) (hl : xs.length = ys.length) (q : dictEq (peq n) ys xs = some b) : PeqIs n (.dict xs) (.dict ys) b
  | dictne {xs ys : List (Key × PV)} (hi : xs.all isIntKey = true) (hj : ys.all isIntKey = true) (hl : ¬ xs.length = ys.length) : PeqIs n (.dict xs) (.dict ys) false
theorem peq_inv {n : Nat} {d e : PV} {b : Bool} (q : peq (n + 1) d e = some b) : PeqIs n d e b := by
  cases d with
  | bool x => obtain ⟨y, hy, rfl⟩ := Option.map_eq_some_iff.mp q; cases PV.bool?_inv hy; exact .bool x y
  | int x => obtain ⟨y, hy, rfl⟩ := Option.map_eq_some_iff.mp q; cases PV.int?_inv hy; exact .int x y
  | str x => obtain ⟨y, hy, rfl⟩ := Option.map_eq_some_iff.mp q; cases PV.str?_inv hy; exact .str x y
  | tup x => obtain ⟨y, hy, q1⟩ := Option.bind_eq_some_iff.mp q; cases PV.tup?_inv hy; exact .tup q1
  | list x =>
    obtain ⟨y, hy, q1⟩ := Option.bind_eq_some_iff.mp q
    cases PV.list?_inv hy
    by_cases hl : x.length = y.length
    · rw [if_pos hl] at q1; exact .list hl q1
    · rw [if_neg hl] at q1; cases q1; exact .listne hl
  | dict x =>
    obtain ⟨y, hy, q1⟩ := Option.bind_eq_some_iff.mp q
    cases PV.dict?_inv hy
    by_cases hi : (x.all isIntKey && y.all isIntKey) = true
    · rw [if_pos hi] at q1
      rw [Bool.and_eq_true] at hi
      by_cases hl : x.length = y.length
      · rw [if_pos hl] at q1; exact .dict hi.1 hi.2 hl q1
      · rw [if_neg hl] at q1; cases q1; exact .dictne hi.1 hi.2 hl
    · rw [if_neg hi] at q1; cases q1
  | none => nomatch q
  | inst => nomatch q
theorem dictEq_cons {f : PV → PV → Option Bool} {ys : List (Key × PV)} {k : Key} {d : PV} {l : List (Key × PV)} {b : Bool} (q : dictEq f ys ((k, d) :: l) = some b) : (dget ys k = none ∧ b = false) ∨ ∃ y b1 b2, dget ys k = some y ∧ f d y = some b1 ∧ dictEq f ys l = some b2 ∧ b = (b1 && b2) := by
  unfold dictEq at q
  cases hg : dget ys k with
  | none => rw [hg] at q; cases q; exact .inl ⟨rfl, rfl⟩
  | some y =>
    rw [hg] at q
    obtain ⟨b1, b2, q1, q2, q3⟩ := both_inv q
    cases q3
    exact .inr ⟨y, b1, b2, rfl, q1, q2, rfl⟩
theorem isTuple_not_list {a : Addr} {xs ys : Array Value} (x : h.IsTuple a xs) (y : h.IsList a ys) : False := by
  obtain ⟨o, ho, hc, _⟩ := x
  obtain ⟨o', ho', hc', _⟩ := y
  rw [ho] at ho'; cases ho'
  rw [hc] at hc'; simp at hc'
theorem isTuple_not_dict {a : Addr} {xs : Array Value} {kvs : List (Key × Value)} (x : h.IsTuple a xs) (y : h.DictOf (keyKind prog w) a kvs) : False := by
  obtain ⟨o, ho, hc, _⟩ := x
  obtain ⟨o', _, _, ho', hc', _⟩ := y
  rw [ho] at ho'; cases ho'
  rw [hc'.1] at hc; simp at hc
theorem isList_not_dict {a : Addr} {xs : Array Value} {kvs : List (Key × Value)} (x : h.IsList a xs) (y : h.DictOf (keyKind prog w) a kvs) : False := by
  obtain ⟨o, ho, hc, _⟩ := x
  obtain ⟨o', _, _, ho', hc', _⟩ := y
  rw [ho] at ho'; cases ho'
  rw [hc'.1] at hc; simp at hc
theorem isTuple_not_inst {a d : Addr} {xs : Array Value} (x : h.IsTuple a xs) (y : h.get? a = some { cls := .ref C, dict := some d, data := .plain }) : False := by
  obtain ⟨o, ho, hc, _⟩ := x
  rw [ho] at y; cases y; simp at hc
theorem isList_not_inst {a d : Addr} {xs : Array Value} (x : h.IsList a xs) (y : h.get? a = some { cls := .ref C, dict := some d, data := .plain }) : False := by
  obtain ⟨o, ho, hc, _⟩ := x
  rw [ho] at y; cases y; simp at hc
theorem isDict_not_inst {a d : Addr} {kvs : List (Key × Value)} (x : h.DictOf (keyKind prog w) a kvs) (y : h.get? a = some { cls := .ref C, dict := some d, data := .plain }) : False := by
  obtain ⟨o, _, _, ho, hc, _⟩ := x
  rw [ho] at y; cases y; simp [Obj.ExactDict] at hc
mutual
theorem den_unique : ∀ {v : Value} {d e : PV}, Den prog w C h [] v d → Den prog w C h [] v e → d = e
  | _, _, _, .none, y => by cases y; rfl
  | _, _, _, .bool _, y => by cases y; rfl
  | _, _, _, .int _ _, y => by cases y; rfl
  | _, _, _, .str _ _, y => by cases y; rfl
  | _, _, _, .tup _ hx r, y => by
    cases y with
    | tup _ hy r' => have := isTuple_eq hx hy; subst this; rw [denAll_unique r r']
    | list _ hy _ => exact (isTuple_not_list hx hy).elim
    | dict _ _ hy _ _ => exact (isTuple_not_dict hx hy).elim
    | inst _ _ hy _ _ => exact (isTuple_not_inst hx hy).elim
  | _, _, _, .list _ hx r, y => by
    cases y with
    | list _ hy r' => have := isList_eq hx hy; subst this; rw [denAll_unique r r']
    | tup _ hy _ => exact (isTuple_not_list hy hx).elim
    | dict _ _ hy _ _ => exact (isList_not_dict hx hy).elim
    | inst _ _ hy _ _ => exact (isList_not_inst hx hy).elim
  | _, _, _, .dict (l := l) _ _ hx hk r, y => by
    cases y with
    | @dict _ _ l' _ _ hy hk' r' =>
      have := dictOf_eq hx hy
      subst this
      have e2 := denAll_unique r r'
      have e1 := hk.symm.trans hk'
      have : l = l' := by
        clear r r' hk hk'
        induction l generalizing l' with
        | nil => cases l' <;> simp at e1; rfl
        | cons p l ih =>
          cases l' with
          | nil => simp at e1
          | cons q l' =>
            simp only [List.map_cons, List.cons.injEq] at e1 e2
            rw [Prod.ext e1.1 e2.1, ih e2.2 e1.2]
      rw [this]
    | tup _ hy _ => exact (isTuple_not_dict hy hx).elim
    | list _ hy _ => exact (isList_not_dict hy hx).elim
    | inst _ _ hy _ _ => exact (isDict_not_inst hx hy).elim
  | _, _, _, .inst _ _ h1 h2 r, y => by
    cases y with
    | tup _ hy _ => exact (isTuple_not_inst hy h1).elim
    | list _ hy _ => exact (isList_not_inst hy h1).elim
    | dict _ _ hy _ _ => exact (isDict_not_inst hy h1).elim
    | inst _ _ h1' h2' r' =>
      rw [h1] at h1'; cases h1'
      rw [h2] at h2'; cases h2'
      rw [den_unique r r']
theorem denAll_unique : ∀ {vs : List Value} {ds es : List PV}, DenAll prog w C h [] vs ds → DenAll prog w C h [] vs es → ds = es
  | _, _, _, .nil, y => by cases y; rfl
  | _, _, _, .cons a r, y => by
    cases y with
    | cons a' r' => rw [den_unique a a', denAll_unique r r']
end
theorem dget_mem {k : Key} {d : PV} : ∀ {l : List (Key × PV)}, (l.map (·.1)).Nodup → (k, d) ∈ l → dget l k = some d
  | [], _, h => nomatch h
  | (k', d') :: l, hn, h => by
    obtain ⟨h1, h2⟩ := List.nodup_cons.mp hn
    unfold dget
    rw [List.find?_cons]
    rcases List.mem_cons.mp h with e | h
    · cases e; rw [decide_eq_true rfl]; rfl
    · have : ¬ k' = k := fun e => h1 (e ▸ List.mem_map.mpr ⟨_, h, rfl⟩)
      rw [decide_eq_false this]
      exact dget_mem h2 h
theorem DenAll.memD {vs : List Value} {ds : List PV} (x : DenAll prog w C h [] vs ds) {d : PV} (hm : d ∈ ds) : ∃ v, Den prog w C h [] v d := by
  obtain ⟨i, hi⟩ := List.mem_iff_getElem?.mp hm
  obtain ⟨v, _, hv⟩ := x.get hi
  exact ⟨v, hv⟩
/-- what denotes something is equal to itself -/
theorem den_refl : ∀ (n : Nat) {v : Value} {d : PV} {b : Bool}, Den prog w C h [] v d → peq n d d = some b → b = true
  | 0, _, _, _, _, q => nomatch q
  | n + 1, v, d, b, x, q => by
    have seq : ∀ (ds : List PV) (b : Bool), (∀ d ∈ ds, ∃ v, Den prog w C h [] v d) → seqEq (peq n) ds ds = some b → b = true := by
      intro ds
      induction ds with
      | nil => intro b _ q; cases q; rfl
      | cons d ds ih =>
        intro b hd q
        obtain ⟨b1, b2, q1, q2, q3⟩ := both_inv q
        cases q3
        obtain ⟨v, hv⟩ := hd d List.mem_cons_self
        rw [den_refl n hv q1, ih _ (fun d h => hd d (List.mem_cons_of_mem _ h)) q2]; rfl
    cases d with
    | bool => cases q; exact beq_self_eq_true _
    | int => cases q; exact beq_self_eq_true _
    | str => cases q; exact decide_eq_true rfl
    | tup l =>
      obtain ⟨_, _, _, _, _, hd⟩ := x.is
      exact seq l b (fun d h => hd.memD h) q
    | list l =>
      obtain ⟨_, _, _, _, _, hd⟩ := x.is
      exact seq l b (fun d h => hd.memD h) ((if_pos rfl).symm.trans q)
    | dict l =>
        obtain ⟨_, _, _, _, _, hx, hk, hd⟩ := x.is
        have hn : (l.map (·.1)).Nodup := hk ▸ dictOf_nodup hx
        cases peq_inv q with
        | dictne _ _ hl => exact absurd rfl hl
        | dict _ _ _ q' =>
          have loop : ∀ (ls : List (Key × PV)) (b : Bool), (∀ p ∈ ls, p ∈ l) → dictEq (peq n) l ls = some b → b = true := by
            intro ls
            induction ls with
            | nil => intro b _ q; cases q; rfl
            | cons p ls ih =>
              intro b hm q
              obtain ⟨k, d⟩ := p
              have hg := dget_mem hn (hm _ List.mem_cons_self)
              rcases dictEq_cons q with ⟨g, _⟩ | ⟨y, b1, b2, g, q1, q2, rfl⟩
              · exact nomatch hg.symm.trans g
              · cases hg.symm.trans g
                obtain ⟨v, hv⟩ := hd.memD (List.mem_map.mpr ⟨_, hm _ List.mem_cons_self, rfl⟩)
                rw [den_refl n hv q1, ih _ (fun p h => hm p (List.mem_cons_of_mem _ h)) q2]; rfl
          exact loop l b (fun _ h => h) q'
    | none => nomatch q
    | inst => nomatch q
/-- a dict whose keys are ints is one in every world -/
theorem dictOf_anyworld {a : Addr} {kvs : List (Key × Value)} (x : h.DictOf (keyKind prog w) a kvs) (hi : ∀ p ∈ kvs, ∃ i, p.1 = Key.int i) (prog' : Program) (w' : World) : h.DictOf (keyKind prog' w') a kvs := by
  obtain ⟨o, es, ep, ho, hc, hd, hk, hp, hn⟩ := x
  have pp : ∀ {es : List DictEntry} {kvs : List (Key × Value)}, Pairs (keyKind prog w) es kvs → Pairs (keyKind prog' w') es kvs := by
    intro es kvs h
    induction h with
    | nil => exact .nil
    | cons h1 h2 _ ih => exact .cons h1 h2 ih
  refine ⟨o, es, ep, ho, hc, hd, fun e he => ?_, pp hp, hn⟩
  obtain ⟨k, h1, h2⟩ := hk e he
  have : ∃ i, k = Key.int i := by
    obtain ⟨j, hj, rfl⟩ := Array.mem_iff_getElem.mp he
    have hlen := hp.length
    have hj' : j < kvs.length := by rw [← hlen]; simpa using hj
    have := hp.get? (i := j) (e := es[j]) (k := kvs[j].1) (v := kvs[j].2) (by rw [Array.getElem?_toList]; exact Array.getElem?_eq_getElem hj) (by rw [List.getElem?_eq_getElem hj'])
    obtain ⟨i, hi'⟩ := hi kvs[j] (List.getElem_mem hj')
    exact ⟨i, by rw [← hi']; exact Key.is_inj _ _ _ h1 this.1⟩
  obtain ⟨i, rfl⟩ := this
  exact ⟨.int i, h1, h2⟩
end
theorem all_int_keys {kvs : List (Key × Value)} {l : List (Key × PV)} (hk : kvs.map (·.1) = l.map (·.1)) (hi : l.all isIntKey = true) : ∀ p ∈ kvs, ∃ i, p.1 = Key.int i := by
  intro p hp
  have : p.1 ∈ l.map (·.1) := by rw [← hk]; exact List.mem_map.mpr ⟨p, hp, rfl⟩
  obtain ⟨⟨k, d⟩, hq, e⟩ := List.mem_map.mp this
  have := List.all_eq_true.mp hi (k, d) hq
  cases k with
  | int i => exact ⟨i, e.symm⟩
  | str s => nomatch this
theorem range_all_cons (k : Nat) (e : Nat → Bool) : (List.range (k + 1)).all e = (e 0 && (List.range k).all fun i => e (i + 1)) := by
  rw [List.range_succ_eq_map, List.all_cons, List.all_map]
  rfl
section
variable {prog : Program} {w : World} {C : Addr} {s : Shared}
theorem hits_of (n : Nat) (P : ∀ {A : Around} {v v' : Value} {d e : PV} {b : Bool}, Den prog w C s.heap [] v d → Den prog w C s.heap [] v' e → peq n d e = some b → A.units + n < cLine → EqAt A s v v' b) {A : Around} (hu : A.units + n < cLine) {kvs' : List (Key × Value)} {l' : List (Key × PV)}
    (hk' : kvs'.map (·.1) = l'.map (·.1)) (he : DenAll prog w C s.heap [] (kvs'.map (·.2)) (l'.map (·.2))) (sub : List (Key × Value)) : ∀ {ls : List (Key × PV)} {b : Bool}, sub.map (·.1) = ls.map (·.1) → DenAll prog w C s.heap [] (sub.map (·.2)) (ls.map (·.2)) → dictEq (peq n) l' ls = some b → KeqHits A s kvs' sub b := by
  induction sub with
  | nil => intro ls b hk _ q; cases ls <;> first | (cases q; exact .nil) | nomatch hk
  | cons p sub ih =>
    intro ls b hk x q
    obtain ⟨k, v⟩ := p
    cases ls with
    | nil => nomatch hk
    | cons r ls =>
      obtain ⟨k', d⟩ := r
      obtain ⟨rfl, hk2⟩ := List.cons.inj hk
      cases x with
      | cons x xs =>
        rcases valueAt_den hk' he k with ⟨g1, g2⟩ | ⟨u, z, g1, g2, g3⟩
        · rcases dictEq_cons q with ⟨_, rfl⟩ | ⟨y, b1, b2, g, _⟩
          · exact .miss g2
          · exact nomatch g1.symm.trans g
        · rcases dictEq_cons q with ⟨g, _⟩ | ⟨y, b1, b2, g, q1, q2, rfl⟩
          · exact nomatch g1.symm.trans g
          · cases g1.symm.trans g
            exact .hit g2 (P x g3 q1 hu) (ih hk2 xs q2)
theorem peq_sound : ∀ (n : Nat) {A : Around} {v v' : Value} {d e : PV} {b : Bool}, Den prog w C s.heap [] v d → Den prog w C s.heap [] v' e → peq n d e = some b → A.units + n < cLine →
    RcAt A s v v' b ∧ EqAt A s v v' b
  | 0, _, _, _, _, _, _, _, _, q, _ => nomatch q
  | n + 1, A, v, v', d, e, b, x, y, q, hu => by
    have hu0 : A.units < cLine := Nat.lt_of_le_of_lt (Nat.le_add_right _ _) hu
    have hu1 : A.in1.units + n < cLine := by show A.units + 1 + n < cLine; rwa [Nat.add_assoc, Nat.add_comm 1 n]
    have refs : ∀ {a a' : Addr}, Den prog w C s.heap [] (.ref a) d → Den prog w C s.heap [] (.ref a') e → RcAt A s (.ref a) (.ref a') b → RcAt A s (.ref a) (.ref a') b ∧ EqAt A s (.ref a) (.ref a') b := by
      intro a a' x y r
      refine ⟨r, ?_⟩
      by_cases ha : a = a'
      · subst ha
        cases den_unique x y
        rw [den_refl _ x q]
        exact EqAt.same _
      · exact EqAt.of_refs ha r
    have seq : ∀ (vs us : List Value) (ds es : List PV) (b : Bool), DenAll prog w C s.heap [] vs ds → DenAll prog w C s.heap [] us es → seqEq (peq n) ds es = some b →
        ∃ f : Nat → Bool, (∀ j (h1 : j < vs.length) (h2 : j < us.length), EqAt A.in1 s vs[j] us[j] (f j)) ∧ b = ((List.range (min vs.length us.length)).all f && vs.length == us.length) := by
      intro vs
      induction vs with
      | nil =>
        intro us ds es b x y q
        refine ⟨fun _ => true, (fun j h1 => absurd h1 (Nat.not_lt_zero _)), ?_⟩
        obtain rfl := x.nil'
        cases us with
        | nil => obtain rfl := y.nil'; cases q; rfl
        | cons _ _ => obtain ⟨_, _, rfl, _, _⟩ := y.cons'; cases q; simp
      | cons v vs ih =>
        intro us ds es b x y q
        obtain ⟨d, ds, rfl, x, xs⟩ := x.cons'
        cases us with
        | nil => obtain rfl := y.nil'; cases q; exact ⟨fun _ => true, (fun j _ h2 => absurd h2 (Nat.not_lt_zero _)), by simp⟩
        | cons u us =>
          obtain ⟨e, es, rfl, y, ys⟩ := y.cons'
          obtain ⟨b1, b2, q1, q2, q3⟩ := both_inv q
          cases q3
          obtain ⟨f, hf, rfl⟩ := ih _ _ _ _ xs ys q2
          refine ⟨fun j => match j with | 0 => b1 | j + 1 => f j, fun j h1 h2 => ?_, ?_⟩
          · cases j with
            | zero => exact (peq_sound n x y q1 hu1).2
            | succ j => exact hf j (Nat.lt_of_succ_lt_succ h1) (Nat.lt_of_succ_lt_succ h2)
          · have e1 : min (v :: vs).length (u :: us).length = min vs.length us.length + 1 := Nat.succ_min_succ ..
            rw [e1, range_all_cons, Bool.and_assoc]
            have e2 : ((v :: vs).length == (u :: us).length) = (vs.length == us.length) := by simp
            rw [e2]
    cases peq_inv q with
    | bool =>
      obtain rfl := x.is
      obtain rfl := y.is
      exact ⟨RcAt.bool_bool _ _, EqAt.bool_bool _ _⟩
    | int =>
      obtain ⟨_, rfl⟩ := x.is
      obtain ⟨_, rfl⟩ := y.is
      exact ⟨RcAt.int_int _ _ _ _, EqAt.int_int _ _ _ _⟩
    | str z z' =>
      obtain ⟨_, rfl⟩ := x.is
      obtain ⟨_, rfl⟩ := y.is
      have e : decide (z = z') = (z == z') := by by_cases hz : z = z' <;> simp [hz]
      rw [e]
      exact ⟨RcAt.str_str _ _ _ _, EqAt.str_str _ _ _ _⟩
    | tup q =>
      obtain ⟨_, _, rfl, _, hx, hd⟩ := x.is
      obtain ⟨_, _, rfl, _, hy, he⟩ := y.is
      obtain ⟨f, hf, hb'⟩ := seq _ _ _ _ _ hd he q
      refine refs x y ?_
      rw [hb']
      exact RcAt.tuples (A := A) (s := s) (e := f) hx hy hu0 hf
    | list hl q =>
      obtain ⟨_, _, rfl, _, hx, hd⟩ := x.is
      obtain ⟨_, _, rfl, _, hy, he⟩ := y.is
      refine refs x y ?_
      obtain ⟨f, hf, hb'⟩ := seq _ _ _ _ _ hd he q
      have hl' := (hd.length.trans hl).trans he.length.symm
      have := RcAt.lists (A := A) (s := s) (e := f) hx hy hl' hu0 hf
      rw [hb', hl', Nat.min_self, beq_self_eq_true, Bool.and_true]
      rw [show (List.toArray _).size = _ from hl'] at this
      exact this
    | listne hl =>
      obtain ⟨_, _, rfl, _, hx, hd⟩ := x.is
      obtain ⟨_, _, rfl, _, hy, he⟩ := y.is
      refine refs x y (RcAt.lists_lengths hx hy ?_ hu0)
      rw [List.size_toArray, List.size_toArray, hd.length, he.length, bne_iff_ne]
      exact hl
    | @dict l l' b hi hj hl q' =>
      obtain ⟨_, kvs, rfl, _, hs, hx, hk, hd⟩ := x.is
      obtain ⟨_, kvs', rfl, _, hs', hy, hk', he⟩ := y.is
      refine refs x y ?_
      intro prog' w' E Q hQ
      have hx' := dictOf_anyworld hx (all_int_keys hk hi) prog' w'
      have hy' := dictOf_anyworld hy (all_int_keys hk' hj) prog' w'
      have loop := hits_of (s := s) n (fun x y q h => (peq_sound n x y q h).2) hu1 hk' he kvs hk hd q'
      refine keq_eq (r := b) hs hs' hx' hy' hu0 (fun _ => loop) ?_
      have ll := congrArg List.length hk
      have ll' := congrArg List.length hk'
      rw [List.length_map, List.length_map] at ll ll'
      rw [ll, ll', hl, beq_self_eq_true, Bool.true_and]
      exact hQ
    | dictne hi hj hl =>
      obtain ⟨_, kvs, rfl, _, hs, hx, hk, hd⟩ := x.is
      obtain ⟨_, kvs', rfl, _, hs', hy, hk', he⟩ := y.is
      refine refs x y ?_
      intro prog' w' E Q hQ
      have hx' := dictOf_anyworld hx (all_int_keys hk hi) prog' w'
      have hy' := dictOf_anyworld hy (all_int_keys hk' hj) prog' w'
      have ll := congrArg List.length hk
      have ll' := congrArg List.length hk'
      rw [List.length_map, List.length_map] at ll ll'
      refine keq_eq (r := true) hs hs' hx' hy' hu0 (fun hl' => ?_) ?_
      · exact absurd (by rw [← ll, ← ll']; exact hl') hl
      · rw [ll, ll', beq_eq_false_iff_ne.mpr hl, Bool.false_and]
        exact hQ
end
end Mine
end
section
set_option maxRecDepth 100000
namespace Mine
open PySem PySem.Spec PySem.Calls PyProof.Rows PySem.SeqAt PySem.W
open AutoSeq1 (wpAny_loadPart')
open MeetsSeq MeetsSeq2 MeetsSeq3 SeqRoads2
/-- one rich comparison gives a bool, and nothing else happens -/
noncomputable def CmpAt (op : CmpOp) (A : Around) (s : Shared) (y x : Value) (b : Bool) : Prop :=
  ∀ (prog : Program) (w : World) (E : Value → Shared → Prop) (Q : Value → Shared → Prop), Q (.bool b) s → wpAny (model prog w) A (richCompare op y x) Q E s
inductive LexAt (op : CmpOp) (A : Around) (s : Shared) : List Value → List Value → Bool → Prop
  | nil : LexAt op A s [] [] false
  | short {y : Value} {ys : List Value} : LexAt op A s [] (y :: ys) (op == .Lt)
  | long {x : Value} {xs : List Value} : LexAt op A s (x :: xs) [] (op == .Gt)
  | eq {x y : Value} {xs ys : List Value} {b : Bool} : EqAt A s x y true → LexAt op A s xs ys b → LexAt op A s (x :: xs) (y :: ys) b
  | ne {x y : Value} {xs ys : List Value} {b : Bool} : EqAt A s x y false → CmpAt op A s x y b → LexAt op A s (x :: xs) (y :: ys) b
theorem tuple_ltM (l b : Addr) (items items2 : Array Value) (n n2 : Nat) (dd dd2 : Option Addr) (sl sl2 : Array (Option Value)) (r : Bool) :
    Meets (Builtin.«tuple.__lt__» ⟨[.ref l, .ref b], []⟩)
      (fun A R s => s.heap.get? l = some { cls := .type "tuple", dict := dd, data := .seq items n, slots := sl } ∧ s.heap.get? b = some { cls := .type "tuple", dict := dd2, data := .seq items2 n2, slots := sl2 } ∧
        LexAt .Lt A.in1 s items.toList items2.toList r ∧ R (.ok (.ret (.bool r))) s) :=
  .of_wp fun prog w A R s h => by
    obtain ⟨hp, g, d, tk, os⟩ := s; obtain ⟨hl, hb, he, h⟩ := h
    have f2 := AutoSeq1.sub_tuple_tuple
    wp_walk using wpAny_loadPart' hl, wpAny_loadPart' hb, wpAny_forIn_list _ (fun rest b s' => b.1 = none ∧ s' = ⟨hp, g, d, tk, os⟩ ∧ ∃ i, rest = (items.toList.drop i).zip (items2.toList.drop i) ∧ (i ≤ items.size ∧ i ≤ items2.size) ∧
      LexAt .Lt A.in1 ⟨hp, g, d, tk, os⟩ (items.toList.drop i) (items2.toList.drop i) r) _
    case turn =>
      rintro ⟨y, x⟩ rest b s' ⟨hb', rfl, i, hz, ⟨hi1, hi2⟩, hL⟩
      have hd : ∀ (xs : List Value) (j : Nat), (xs.drop j).drop 1 = xs.drop (j + 1) := fun xs j => by rw [List.drop_drop]
      have d1 := hd items.toList i
      have d2 := hd items2.toList i
      have s1 : (items.toList.drop i).length = items.size - i := by simp
      have s2 : (items2.toList.drop i).length = items2.size - i := by simp
      generalize hxs : items.toList.drop i = xs at hz hL d1 s1
      generalize hys : items2.toList.drop i = ys at hz hL d2 s2
      cases hL with
      | nil => simp at hz
      | short => simp at hz
      | long => simp at hz
      | eq h1 h2 =>
        simp only [List.zip_cons_cons, List.cons.injEq, Prod.mk.injEq] at hz
        obtain ⟨⟨rfl, rfl⟩, hr⟩ := hz
        simp only [List.drop_succ_cons, List.drop_zero] at d1 d2
        simp only [List.length_cons] at s1 s2
        refine wpAny_bind (h1 prog w _ _ ?_)
        wp_walk
        exact ⟨rfl, rfl, i + 1, by rw [← d1, ← d2]; exact hr, by omega, by rw [← d1, ← d2]; exact h2⟩
      | ne h1 h2 =>
        simp only [List.zip_cons_cons, List.cons.injEq, Prod.mk.injEq] at hz
        obtain ⟨⟨rfl, rfl⟩, hr⟩ := hz
        refine wpAny_bind (h1 prog w _ _ ?_)
        simp only [Bool.not_false, if_true]
        refine wpAny_bind (wpAny_rule (wpAny_bind (h2 prog w _ _ ?_)))
        wp_walk
        exact ⟨_, rfl, h⟩
    case fin =>
      rintro ⟨b1, b2⟩ s' ⟨hb', rfl, i, hz, ⟨hi1, hi2⟩, hL⟩
      simp only at hb'
      subst hb'
      have s1 : (items.toList.drop i).length = items.size - i := by simp
      have s2 : (items2.toList.drop i).length = items2.size - i := by simp
      generalize hxs : items.toList.drop i = xs at hz hL s1
      generalize hys : items2.toList.drop i = ys at hz hL s2
      wp_walk
      refine ⟨_, rfl, ?_⟩
      cases hL with
      | nil => 
        simp only [List.length_nil] at s1 s2
        have : ¬ items.size < items2.size := by omega
        simpa [Builtin.Tuple.tupleCompareSizes, this] using h
      | short => 
        simp only [List.length_nil, List.length_cons] at s1 s2
        have : items.size < items2.size := by omega
        simpa [Builtin.Tuple.tupleCompareSizes, this] using h
      | long =>
        simp only [List.length_nil, List.length_cons] at s1 s2
        have : ¬ items.size < items2.size := by omega
        have e : (CmpOp.Lt == CmpOp.Gt) = false := rfl
        rw [e] at h
        simpa [Builtin.Tuple.tupleCompareSizes, this] using h
      | eq => simp at hz
      | ne => simp at hz
    case h =>
      exact ⟨rfl, rfl, 0, by simp, by simp, by simpa using he⟩
theorem tuple_gtM (l b : Addr) (items items2 : Array Value) (n n2 : Nat) (dd dd2 : Option Addr) (sl sl2 : Array (Option Value)) (r : Bool) :
    Meets (Builtin.«tuple.__gt__» ⟨[.ref l, .ref b], []⟩)
      (fun A R s => s.heap.get? l = some { cls := .type "tuple", dict := dd, data := .seq items n, slots := sl } ∧ s.heap.get? b = some { cls := .type "tuple", dict := dd2, data := .seq items2 n2, slots := sl2 } ∧
        LexAt .Gt A.in1 s items.toList items2.toList r ∧ R (.ok (.ret (.bool r))) s) :=
  .of_wp fun prog w A R s h => by
    obtain ⟨hp, g, d, tk, os⟩ := s; obtain ⟨hl, hb, he, h⟩ := h
    have f2 := AutoSeq1.sub_tuple_tuple
    wp_walk using wpAny_loadPart' hl, wpAny_loadPart' hb, wpAny_forIn_list _ (fun rest b s' => b.1 = none ∧ s' = ⟨hp, g, d, tk, os⟩ ∧ ∃ i, rest = (items.toList.drop i).zip (items2.toList.drop i) ∧ (i ≤ items.size ∧ i ≤ items2.size) ∧
      LexAt .Gt A.in1 ⟨hp, g, d, tk, os⟩ (items.toList.drop i) (items2.toList.drop i) r) _
    case turn =>
      rintro ⟨y, x⟩ rest b s' ⟨hb', rfl, i, hz, ⟨hi1, hi2⟩, hL⟩
      have hd : ∀ (xs : List Value) (j : Nat), (xs.drop j).drop 1 = xs.drop (j + 1) := fun xs j => by rw [List.drop_drop]
      have d1 := hd items.toList i
      have d2 := hd items2.toList i
      have s1 : (items.toList.drop i).length = items.size - i := by simp
      have s2 : (items2.toList.drop i).length = items2.size - i := by simp
      generalize hxs : items.toList.drop i = xs at hz hL d1 s1
      generalize hys : items2.toList.drop i = ys at hz hL d2 s2
      cases hL with
      | nil => simp at hz
      | short => simp at hz
      | long => simp at hz
      | eq h1 h2 =>
        simp only [List.zip_cons_cons, List.cons.injEq, Prod.mk.injEq] at hz
        obtain ⟨⟨rfl, rfl⟩, hr⟩ := hz
        simp only [List.drop_succ_cons, List.drop_zero] at d1 d2
        simp only [List.length_cons] at s1 s2
        refine wpAny_bind (h1 prog w _ _ ?_)
        wp_walk
        exact ⟨rfl, rfl, i + 1, by rw [← d1, ← d2]; exact hr, by omega, by rw [← d1, ← d2]; exact h2⟩
      | ne h1 h2 =>
        simp only [List.zip_cons_cons, List.cons.injEq, Prod.mk.injEq] at hz
        obtain ⟨⟨rfl, rfl⟩, hr⟩ := hz
        refine wpAny_bind (h1 prog w _ _ ?_)
        simp only [Bool.not_false, if_true]
        refine wpAny_bind (wpAny_rule (wpAny_bind (h2 prog w _ _ ?_)))
        wp_walk
        exact ⟨_, rfl, h⟩
    case fin =>
      rintro ⟨b1, b2⟩ s' ⟨hb', rfl, i, hz, ⟨hi1, hi2⟩, hL⟩
      simp only at hb'
      subst hb'
      have s1 : (items.toList.drop i).length = items.size - i := by simp
      have s2 : (items2.toList.drop i).length = items2.size - i := by simp
      generalize hxs : items.toList.drop i = xs at hz hL s1
      generalize hys : items2.toList.drop i = ys at hz hL s2
      wp_walk
      refine ⟨_, rfl, ?_⟩
      cases hL with
      | nil => 
        simp only [List.length_nil] at s1 s2
        have : ¬ items2.size < items.size := by omega
        simpa [Builtin.Tuple.tupleCompareSizes, this] using h
      | short => 
        simp only [List.length_nil, List.length_cons] at s1 s2
        have : ¬ items2.size < items.size := by omega
        have e : (CmpOp.Gt == CmpOp.Lt) = false := rfl
        rw [e] at h
        simpa [Builtin.Tuple.tupleCompareSizes, this] using h
      | long =>
        simp only [List.length_nil, List.length_cons] at s1 s2
        have : items2.size < items.size := by omega
        simpa [Builtin.Tuple.tupleCompareSizes, this] using h
      | eq => simp at hz
      | ne => simp at hz
    case h =>
      exact ⟨rfl, rfl, 0, by simp, by simp, by simpa using he⟩
theorem list_ltLoop (l b : Addr) (items items2 : Array Value) (n n2 : Nat) (dd dd2 : Option Addr) (sl sl2 : Array (Option Value)) (r : Bool) (k : Nat) :
    ∀ i : Nat, items.size - i = k → i ≤ items.size → i ≤ items2.size → Meets (Builtin.«list.__eq__.loop» ⟨[.ref l, .ref b, rawInt i, rawInt 0], []⟩)
      (fun A R s => s.heap.get? l = some { cls := .type "list", dict := dd, data := .seq items n, slots := sl } ∧ s.heap.get? b = some { cls := .type "list", dict := dd2, data := .seq items2 n2, slots := sl2 } ∧
        LexAt .Lt A.in1 s (items.toList.drop i) (items2.toList.drop i) r ∧ R (.ok (.ret (.bool r))) s) := by
  induction k with
  | zero =>
    intro i hk hi1 hi2 prog w A R s h
    obtain ⟨hp, g, d, tk, os⟩ := s; obtain ⟨hl, hb, he, h⟩ := h
    wp_walk using wpAny_loadPart' hl, wpAny_loadPart' hb
    have hn1 : items[((i : Nat) : Int).toNat]? = none := by simp; omega
    have hd : items.toList.drop i = [] := by simp; omega
    have s2 : (items2.toList.drop i).length = items2.size - i := by simp
    rw [hd] at he
    rw [hn1]
    wp_walk using wpAny_loadPart' hl, wpAny_loadPart' hb
    show R (.ok (.ret (.bool (decide (items.size < items2.size))))) _
    generalize hys : items2.toList.drop i = ys at he s2
    cases he with
    | nil =>
      simp only [List.length_nil] at s2
      rw [decide_eq_false (by omega)]; exact h
    | short =>
      simp only [List.length_cons] at s2
      rw [decide_eq_true (by omega)]; exact h
  | succ k ih =>
    intro i hk hi1 hi2 prog w A R s h
    obtain ⟨hp, g, d, tk, os⟩ := s; obtain ⟨hl, hb, he, h⟩ := h
    wp_walk using wpAny_loadPart' hl, wpAny_loadPart' hb
    have hlt : i < items.size := by omega
    have hn1 : items[((i : Nat) : Int).toNat]? = some items[i] := by simp [hlt]
    have hd : items.toList.drop i = items[i] :: items.toList.drop (i + 1) := by simp [List.drop_eq_getElem_cons, hlt]
    have hc : ((i : Int) + 1) = ((i + 1 : Nat) : Int) := by push_cast; rfl
    rw [hd] at he
    rw [hn1]
    rcases Nat.lt_or_ge i items2.size with hlt2 | hge2
    · have hn2 : items2[((i : Nat) : Int).toNat]? = some items2[i] := by simp [hlt2]
      have hd2 : items2.toList.drop i = items2[i] :: items2.toList.drop (i + 1) := by simp [List.drop_eq_getElem_cons, hlt2]
      rw [hd2] at he
      rw [hn2]
      generalize hx : items[i] = x at he hn1
      generalize hy : items2[i] = y at he hn2
      cases he with
      | eq h1 h2 =>
        refine wpAny_bind (h1 prog w _ _ ?_)
        wp_walk
        rw [hc]
        exact ⟨plainId_quiet plain_eq_loop _, codeAny_builtin entry_eq_loop (by
          rw [Around.under_plainId plain_eq_loop _]
          exact ih (i + 1) (by omega) hlt hlt2 prog w A R _ ⟨hl, hb, h2, h⟩)⟩
      | ne h1 h2 =>
        refine wpAny_bind (h1 prog w _ _ ?_)
        wp_walk using wpAny_loadPart' hl, wpAny_loadPart' hb
        rw [hn1, hn2]
        refine wpAny_bind (h2 prog w _ _ ?_)
        wp_walk
        exact h
    · have hn2 : items2[((i : Nat) : Int).toNat]? = none := by simp; omega
      have hd2 : items2.toList.drop i = [] := by simp; omega
      rw [hd2] at he
      rw [hn2]
      wp_walk using wpAny_loadPart' hl, wpAny_loadPart' hb
      show R (.ok (.ret (.bool (decide (items.size < items2.size))))) _
      cases he with
      | long => rw [decide_eq_false (by omega)]; exact h
theorem list_ltM (l b : Addr) (items items2 : Array Value) (n n2 : Nat) (dd dd2 : Option Addr) (sl sl2 : Array (Option Value)) (r : Bool) :
    Meets (Builtin.«list.__lt__» ⟨[.ref l, .ref b], []⟩)
      (fun A R s => s.heap.get? l = some { cls := .type "list", dict := dd, data := .seq items n, slots := sl } ∧ s.heap.get? b = some { cls := .type "list", dict := dd2, data := .seq items2 n2, slots := sl2 } ∧
        LexAt .Lt A.in1 s items.toList items2.toList r ∧ R (.ok (.ret (.bool r))) s) := by
  intro prog w A R s h
  obtain ⟨hp, g, d, tk, os⟩ := s; obtain ⟨hl, hb, he, h⟩ := h
  have f3 := AutoSeq1.sub_list_list
  wp_walk using wpAny_loadPart' hl, wpAny_loadPart' hb
  exact ⟨plainId_quiet plain_eq_loop _, codeAny_builtin entry_eq_loop (by
    rw [Around.under_plainId plain_eq_loop _]
    exact list_ltLoop l b items items2 n n2 dd dd2 sl sl2 r _ 0 rfl (Nat.zero_le _) (Nat.zero_le _) prog w A R _ ⟨hl, hb, he, h⟩)⟩
/-- item by item, the first pair that is not equal -/
inductive NeAt (A : Around) (s : Shared) : List Value → List Value → Bool → Prop
  | nil : NeAt A s [] [] false
  | short {y : Value} {ys : List Value} : NeAt A s [] (y :: ys) true
  | long {x : Value} {xs : List Value} : NeAt A s (x :: xs) [] true
  | eq {x y : Value} {xs ys : List Value} {b : Bool} : EqAt A s x y true → NeAt A s xs ys b → NeAt A s (x :: xs) (y :: ys) b
  | ne {x y : Value} {xs ys : List Value} : EqAt A s x y false → NeAt A s (x :: xs) (y :: ys) true
theorem tuple_neM (l b : Addr) (items items2 : Array Value) (n n2 : Nat) (dd dd2 : Option Addr) (sl sl2 : Array (Option Value)) (r : Bool) :
    Meets (Builtin.«tuple.__ne__» ⟨[.ref l, .ref b], []⟩)
      (fun A R s => s.heap.get? l = some { cls := .type "tuple", dict := dd, data := .seq items n, slots := sl } ∧ s.heap.get? b = some { cls := .type "tuple", dict := dd2, data := .seq items2 n2, slots := sl2 } ∧
        NeAt A.in1 s items.toList items2.toList r ∧ R (.ok (.ret (.bool r))) s) :=
  .of_wp fun prog w A R s h => by
    obtain ⟨hp, g, d, tk, os⟩ := s; obtain ⟨hl, hb, he, h⟩ := h
    have f2 := AutoSeq1.sub_tuple_tuple
    wp_walk using wpAny_loadPart' hl, wpAny_loadPart' hb, wpAny_forIn_list _ (fun rest b s' => b.1 = none ∧ s' = ⟨hp, g, d, tk, os⟩ ∧ ∃ i, rest = (items.toList.drop i).zip (items2.toList.drop i) ∧ (i ≤ items.size ∧ i ≤ items2.size) ∧
      NeAt A.in1 ⟨hp, g, d, tk, os⟩ (items.toList.drop i) (items2.toList.drop i) r) _
    case turn =>
      rintro ⟨y, x⟩ rest b s' ⟨hb', rfl, i, hz, ⟨hi1, hi2⟩, hL⟩
      have hd : ∀ (xs : List Value) (j : Nat), (xs.drop j).drop 1 = xs.drop (j + 1) := fun xs j => by rw [List.drop_drop]
      have d1 := hd items.toList i
      have d2 := hd items2.toList i
      have s1 : (items.toList.drop i).length = items.size - i := by simp
      have s2 : (items2.toList.drop i).length = items2.size - i := by simp
      generalize hxs : items.toList.drop i = xs at hz hL d1 s1
      generalize hys : items2.toList.drop i = ys at hz hL d2 s2
      cases hL with
      | nil => simp at hz
      | short => simp at hz
      | long => simp at hz
      | eq h1 h2 =>
        simp only [List.zip_cons_cons, List.cons.injEq, Prod.mk.injEq] at hz
        obtain ⟨⟨rfl, rfl⟩, hr⟩ := hz
        simp only [List.drop_succ_cons, List.drop_zero] at d1 d2
        simp only [List.length_cons] at s1 s2
        refine wpAny_bind (h1 prog w _ _ ?_)
        wp_walk
        exact ⟨rfl, rfl, i + 1, by rw [← d1, ← d2]; exact hr, by omega, by rw [← d1, ← d2]; exact h2⟩
      | ne h1 =>
        simp only [List.zip_cons_cons, List.cons.injEq, Prod.mk.injEq] at hz
        obtain ⟨⟨rfl, rfl⟩, hr⟩ := hz
        refine wpAny_bind (h1 prog w _ _ ?_)
        wp_walk
        exact ⟨_, rfl, h⟩
    case fin =>
      rintro ⟨b1, b2⟩ s' ⟨hb', rfl, i, hz, ⟨hi1, hi2⟩, hL⟩
      simp only at hb'
      subst hb'
      have s1 : (items.toList.drop i).length = items.size - i := by simp
      have s2 : (items2.toList.drop i).length = items2.size - i := by simp
      generalize hxs : items.toList.drop i = xs at hz hL s1
      generalize hys : items2.toList.drop i = ys at hz hL s2
      wp_walk
      refine ⟨_, rfl, ?_⟩
      cases hL with
      | nil =>
        simp only [List.length_nil] at s1 s2
        have : items.size = items2.size := by omega
        simpa [Builtin.Tuple.tupleCompareSizes, this] using h
      | short =>
        simp only [List.length_nil, List.length_cons] at s1 s2
        have e : (items.size != items2.size) = true := by simp; omega
        simpa [Builtin.Tuple.tupleCompareSizes, e] using h
      | long =>
        simp only [List.length_nil, List.length_cons] at s1 s2
        have e : (items.size != items2.size) = true := by simp; omega
        simpa [Builtin.Tuple.tupleCompareSizes, e] using h
      | eq => simp at hz
      | ne => simp at hz
    case h =>
      exact ⟨rfl, rfl, 0, by simp, by simp, by simpa using he⟩
theorem list_neLoop (l b : Addr) (items items2 : Array Value) (n n2 : Nat) (dd dd2 : Option Addr) (sl sl2 : Array (Option Value)) (r : Bool) (hsz : items.size = items2.size) (k : Nat) :
    ∀ i : Nat, items.size - i = k → i ≤ items.size → Meets (Builtin.«list.__eq__.loop» ⟨[.ref l, .ref b, rawInt i, rawInt 3], []⟩)
      (fun A R s => s.heap.get? l = some { cls := .type "list", dict := dd, data := .seq items n, slots := sl } ∧ s.heap.get? b = some { cls := .type "list", dict := dd2, data := .seq items2 n2, slots := sl2 } ∧
        NeAt A.in1 s (items.toList.drop i) (items2.toList.drop i) r ∧ R (.ok (.ret (.bool r))) s) := by
  induction k with
  | zero =>
    intro i hk hi1 prog w A R s h
    obtain ⟨hp, g, d, tk, os⟩ := s; obtain ⟨hl, hb, he, h⟩ := h
    wp_walk using wpAny_loadPart' hl, wpAny_loadPart' hb
    have hn1 : items[((i : Nat) : Int).toNat]? = none := by simp; omega
    have hd : items.toList.drop i = [] := by simp; omega
    have hd2 : items2.toList.drop i = [] := by simp; omega
    rw [hd, hd2] at he
    rw [hn1]
    wp_walk using wpAny_loadPart' hl, wpAny_loadPart' hb
    show R (.ok (.ret (.bool (items.size != items2.size)))) _
    cases he with
    | nil => rw [hsz]; simpa using h
  | succ k ih =>
    intro i hk hi1 prog w A R s h
    obtain ⟨hp, g, d, tk, os⟩ := s; obtain ⟨hl, hb, he, h⟩ := h
    wp_walk using wpAny_loadPart' hl, wpAny_loadPart' hb
    have hlt : i < items.size := by omega
    have hlt2 : i < items2.size := by omega
    have hn1 : items[((i : Nat) : Int).toNat]? = some items[i] := by simp [hlt]
    have hn2 : items2[((i : Nat) : Int).toNat]? = some items2[i] := by simp [hlt2]
    have hd : items.toList.drop i = items[i] :: items.toList.drop (i + 1) := by simp [List.drop_eq_getElem_cons, hlt]
    have hd2 : items2.toList.drop i = items2[i] :: items2.toList.drop (i + 1) := by simp [List.drop_eq_getElem_cons, hlt2]
    have hc : ((i : Int) + 1) = ((i + 1 : Nat) : Int) := by push_cast; rfl
    rw [hd, hd2] at he
    rw [hn1, hn2]
    generalize hx : items[i] = x at he hn1
    generalize hy : items2[i] = y at he hn2
    cases he with
    | eq h1 h2 =>
      refine wpAny_bind (h1 prog w _ _ ?_)
      wp_walk
      rw [hc]
      exact ⟨plainId_quiet plain_eq_loop _, codeAny_builtin entry_eq_loop (by
        rw [Around.under_plainId plain_eq_loop _]
        exact ih (i + 1) (by omega) hlt prog w A R _ ⟨hl, hb, h2, h⟩)⟩
    | ne h1 =>
      refine wpAny_bind (h1 prog w _ _ ?_)
      wp_walk using wpAny_loadPart' hl, wpAny_loadPart' hb
      rw [hn1, hn2]
      wp_walk
      exact h
theorem list_neM (l b : Addr) (items items2 : Array Value) (n n2 : Nat) (dd dd2 : Option Addr) (sl sl2 : Array (Option Value)) (r : Bool) (hsz : items.size = items2.size) :
    Meets (Builtin.«list.__ne__» ⟨[.ref l, .ref b], []⟩)
      (fun A R s => s.heap.get? l = some { cls := .type "list", dict := dd, data := .seq items n, slots := sl } ∧ s.heap.get? b = some { cls := .type "list", dict := dd2, data := .seq items2 n2, slots := sl2 } ∧
        NeAt A.in1 s items.toList items2.toList r ∧ R (.ok (.ret (.bool r))) s) := by
  intro prog w A R s h
  obtain ⟨hp, g, d, tk, os⟩ := s; obtain ⟨hl, hb, he, h⟩ := h
  have f3 := AutoSeq1.sub_list_list
  have hne : ¬ (items.size != items2.size) = true := by simp [hsz]
  wp_walk using wpAny_loadPart' hl, wpAny_loadPart' hb
  exact ⟨plainId_quiet plain_eq_loop _, codeAny_builtin entry_eq_loop (by
    rw [Around.under_plainId plain_eq_loop _]
    exact list_neLoop l b items items2 n n2 dd dd2 sl sl2 r hsz _ 0 rfl (Nat.zero_le _) prog w A R _ ⟨hl, hb, he, h⟩)⟩
theorem list_neLen (l b : Addr) (items items2 : Array Value) (n n2 : Nat) (dd dd2 : Option Addr) (sl sl2 : Array (Option Value)) (hc0 : (items.size != items2.size) = true) :
    Meets (Builtin.«list.__ne__» ⟨[.ref l, .ref b], []⟩)
      (fun _ R s => s.heap.get? l = some { cls := .type "list", dict := dd, data := .seq items n, slots := sl } ∧ s.heap.get? b = some { cls := .type "list", dict := dd2, data := .seq items2 n2, slots := sl2 } ∧
        R (.ok (.ret (.bool true))) s) :=
  .of_wp fun prog w A R s h => by
    obtain ⟨hp, g, d, tk, os⟩ := s; obtain ⟨hl, hb, h⟩ := h
    have f3 := AutoSeq1.sub_list_list
    wp_walk using wpAny_loadPart' hl, wpAny_loadPart' hb
    exact ⟨_, rfl, h⟩
end Mine
end
section
set_option maxRecDepth 100000
namespace Mine
open PySem PySem.Spec PySem.Calls PyProof.Rows PySem.SeqAt PySem.W
section
variable {prog : Program} {w : World} {C : Addr} {s : Shared} {A : Around}
theorem cmp_list_lt {a b : Addr} {xs ys : List Value} {r : Bool} (hx : s.heap.IsList a xs.toArray) (hy : s.heap.IsList b ys.toArray) (hu : A.units < cLine) (h : LexAt .Lt A.in1 s xs ys r) : CmpAt .Lt A s (.ref a) (.ref b) r := fun prog w E Q hq => by
  obtain ⟨⟨cls, dd, data, sl⟩, ho, hc, n, hd⟩ := id hx
  obtain ⟨⟨cls2, dd2, data2, sl2⟩, ho2, hc2, n2, hd2⟩ := id hy
  simp only at hc hd hc2 hd2
  subst hc hd hc2 hd2
  exact richCompare_meets_room (op := .Lt) ⟨_, ho, rfl⟩ ⟨_, ho2, rfl⟩ F.slot_list_lt F.entry_list_lt (F.args_list_lt_2 _ _) (list_ltM a b _ _ n n2 dd dd2 sl sl2 r)
    ⟨ho, ho2, by simpa using h, show Value.bool r ≠ Value.notImplemented ∧ Q (.bool r) s from ⟨(fun x => nomatch x), hq⟩⟩ hu
theorem cmp_tuple_lt {a b : Addr} {xs ys : List Value} {r : Bool} (hx : s.heap.IsTuple a xs.toArray) (hy : s.heap.IsTuple b ys.toArray) (hu : A.units < cLine) (h : LexAt .Lt A.in1 s xs ys r) : CmpAt .Lt A s (.ref a) (.ref b) r := fun prog w E Q hq => by
  obtain ⟨⟨cls, dd, data, sl⟩, ho, hc, n, hd⟩ := id hx
  obtain ⟨⟨cls2, dd2, data2, sl2⟩, ho2, hc2, n2, hd2⟩ := id hy
  simp only at hc hd hc2 hd2
  subst hc hd hc2 hd2
  exact richCompare_meets_room (op := .Lt) ⟨_, ho, rfl⟩ ⟨_, ho2, rfl⟩ F.slot_tuple_lt F.entry_tuple_lt (F.args_tuple_lt_2 _ _) (tuple_ltM a b _ _ n n2 dd dd2 sl sl2 r)
    ⟨ho, ho2, by simpa using h, show Value.bool r ≠ Value.notImplemented ∧ Q (.bool r) s from ⟨(fun x => nomatch x), hq⟩⟩ hu
theorem cmp_tuple_gt {a b : Addr} {xs ys : List Value} {r : Bool} (hx : s.heap.IsTuple a xs.toArray) (hy : s.heap.IsTuple b ys.toArray) (hu : A.units < cLine) (h : LexAt .Gt A.in1 s xs ys r) : CmpAt .Gt A s (.ref a) (.ref b) r := fun prog w E Q hq => by
  obtain ⟨⟨cls, dd, data, sl⟩, ho, hc, n, hd⟩ := id hx
  obtain ⟨⟨cls2, dd2, data2, sl2⟩, ho2, hc2, n2, hd2⟩ := id hy
  simp only at hc hd hc2 hd2
  subst hc hd hc2 hd2
  exact richCompare_meets_room (op := .Gt) ⟨_, ho, rfl⟩ ⟨_, ho2, rfl⟩ F.slot_tuple_gt F.entry_tuple_gt (F.args_tuple_gt_2 _ _) (tuple_gtM a b _ _ n n2 dd dd2 sl sl2 r)
    ⟨ho, ho2, by simpa using h, show Value.bool r ≠ Value.notImplemented ∧ Q (.bool r) s from ⟨(fun x => nomatch x), hq⟩⟩ hu
theorem cmp_tuple_ne {a b : Addr} {xs ys : List Value} {r : Bool} (hx : s.heap.IsTuple a xs.toArray) (hy : s.heap.IsTuple b ys.toArray) (hu : A.units < cLine) (h : NeAt A.in1 s xs ys r) : CmpAt .NotEq A s (.ref a) (.ref b) r := fun prog w E Q hq => by
  obtain ⟨⟨cls, dd, data, sl⟩, ho, hc, n, hd⟩ := id hx
  obtain ⟨⟨cls2, dd2, data2, sl2⟩, ho2, hc2, n2, hd2⟩ := id hy
  simp only at hc hd hc2 hd2
  subst hc hd hc2 hd2
  exact richCompare_meets_room (op := .NotEq) ⟨_, ho, rfl⟩ ⟨_, ho2, rfl⟩ F.slot_tuple_ne F.entry_tuple_ne (F.args_tuple_ne_2 _ _) (tuple_neM a b _ _ n n2 dd dd2 sl sl2 r)
    ⟨ho, ho2, by simpa using h, show Value.bool r ≠ Value.notImplemented ∧ Q (.bool r) s from ⟨(fun x => nomatch x), hq⟩⟩ hu
theorem cmp_list_ne {a b : Addr} {xs ys : List Value} {r : Bool} (hx : s.heap.IsList a xs.toArray) (hy : s.heap.IsList b ys.toArray) (hl : xs.length = ys.length) (hu : A.units < cLine) (h : NeAt A.in1 s xs ys r) : CmpAt .NotEq A s (.ref a) (.ref b) r := fun prog w E Q hq => by
  obtain ⟨⟨cls, dd, data, sl⟩, ho, hc, n, hd⟩ := id hx
  obtain ⟨⟨cls2, dd2, data2, sl2⟩, ho2, hc2, n2, hd2⟩ := id hy
  simp only at hc hd hc2 hd2
  subst hc hd hc2 hd2
  exact richCompare_meets_room (op := .NotEq) ⟨_, ho, rfl⟩ ⟨_, ho2, rfl⟩ F.slot_list_ne F.entry_list_ne (F.args_list_ne_2 _ _) (list_neM a b _ _ n n2 dd dd2 sl sl2 r (by simpa using hl))
    ⟨ho, ho2, by simpa using h, show Value.bool r ≠ Value.notImplemented ∧ Q (.bool r) s from ⟨(fun x => nomatch x), hq⟩⟩ hu
theorem cmp_list_neLen {a b : Addr} {xs ys : List Value} (hx : s.heap.IsList a xs.toArray) (hy : s.heap.IsList b ys.toArray) (hl : xs.length ≠ ys.length) (hu : A.units < cLine) : CmpAt .NotEq A s (.ref a) (.ref b) true := fun prog w E Q hq => by
  obtain ⟨⟨cls, dd, data, sl⟩, ho, hc, n, hd⟩ := id hx
  obtain ⟨⟨cls2, dd2, data2, sl2⟩, ho2, hc2, n2, hd2⟩ := id hy
  simp only at hc hd hc2 hd2
  subst hc hd hc2 hd2
  exact richCompare_meets_room (op := .NotEq) ⟨_, ho, rfl⟩ ⟨_, ho2, rfl⟩ F.slot_list_ne F.entry_list_ne (F.args_list_ne_2 _ _) (list_neLen a b _ _ n n2 dd dd2 sl sl2 (by simpa using hl))
    ⟨ho, ho2, show Value.bool true ≠ Value.notImplemented ∧ Q (.bool true) s from ⟨(fun x => nomatch x), hq⟩⟩ hu
inductive PltIs (n : Nat) : PV → PV → Bool → Prop
  | int (x y : Int) : PltIs n (.int x) (.int y) (decide (x < y))
  | str (x y : Str) : PltIs n (.str x) (.str y) (strLt x y)
  | tup {xs ys : List PV} {b : Bool} (q : seqLt (peq n) (plt n) xs ys = some b) : PltIs n (.tup xs) (.tup ys) b
  | list {xs ys : List PV} {b : Bool} (q : seqLt (peq n) (plt n) xs ys = some b) : PltIs n (.list xs) (.list ys) b
theorem plt_inv {n : Nat} {d e : PV} {b : Bool} (q : plt (n + 1) d e = some b) : PltIs n d e b := by
  cases d with
  | int x => obtain ⟨y, hy, rfl⟩ := Option.map_eq_some_iff.mp q; cases PV.int?_inv hy; exact .int x y
  | str x => obtain ⟨y, hy, rfl⟩ := Option.map_eq_some_iff.mp q; cases PV.str?_inv hy; exact .str x y
  | tup x => obtain ⟨y, hy, q1⟩ := Option.bind_eq_some_iff.mp q; cases PV.tup?_inv hy; exact .tup q1
  | list x => obtain ⟨y, hy, q1⟩ := Option.bind_eq_some_iff.mp q; cases PV.list?_inv hy; exact .list q1
  | _ => nomatch q
theorem lexLt (n : Nat) (P : ∀ {A : Around} {v v' : Value} {d e : PV} {b : Bool}, Den prog w C s.heap [] v d → Den prog w C s.heap [] v' e → plt n d e = some b → A.units + n + 2 < cLine → CmpAt .Lt A s v v' b) {A : Around} (hu : A.units + n + 2 < cLine) (vs : List Value) :
    ∀ {us : List Value} {ds es : List PV} {b : Bool}, DenAll prog w C s.heap [] vs ds → DenAll prog w C s.heap [] us es → seqLt (peq n) (plt n) ds es = some b → LexAt .Lt A s vs us b := by
  have hu2 : A.units + n < cLine := by omega
  induction vs with
  | nil =>
    intro us ds es b x y q
    obtain rfl := x.nil'
    cases us with
    | nil => obtain rfl := y.nil'; cases q; exact .nil
    | cons _ _ => obtain ⟨_, _, rfl, _, _⟩ := y.cons'; cases q; exact .short
  | cons v vs ih =>
    intro us ds es b x y q
    obtain ⟨_, _, rfl, x, xs⟩ := x.cons'
    cases us with
    | nil => obtain rfl := y.nil'; cases q; exact .long
    | cons _ _ =>
      obtain ⟨_, _, rfl, y, ys⟩ := y.cons'
      obtain ⟨b1, q1, q2⟩ := Option.bind_eq_some_iff.mp q
      cases b1 with
      | true => exact .eq (peq_sound n x y q1 hu2).2 (ih xs ys q2)
      | false => exact .ne (peq_sound n x y q1 hu2).2 (P x y q2 hu)
theorem plt_sound : ∀ (n : Nat) {A : Around} {v v' : Value} {d e : PV} {b : Bool}, Den prog w C s.heap [] v d → Den prog w C s.heap [] v' e → plt n d e = some b → A.units + n + 2 < cLine → CmpAt .Lt A s v v' b
  | 0, _, _, _, _, _, _, _, _, q, _ => nomatch q
  | n + 1, A, v, v', d, e, b, x, y, q, hu => by
    have hu1 : A.in1.units + n + 2 < cLine := by show A.units + 1 + n + 2 < cLine; omega
    have hu3 : A.units < cLine := by omega
    have seq := fun vs {us ds es b} => lexLt (s := s) (A := A.in1) n (fun x y q h => plt_sound n x y q h) hu1 vs (us := us) (ds := ds) (es := es) (b := b)
    cases plt_inv q with
    | int => obtain ⟨_, rfl⟩ := x.is; obtain ⟨_, rfl⟩ := y.is; intro prog w E Q hq; exact lt_int (E := E) hq
    | str => obtain ⟨_, rfl⟩ := x.is; obtain ⟨_, rfl⟩ := y.is; intro prog w E Q hq; exact lt_str (E := E) hq
    | tup q' =>
      obtain ⟨_, _, rfl, _, hx, hd⟩ := x.is
      obtain ⟨_, _, rfl, _, hy, he⟩ := y.is
      exact cmp_tuple_lt hx hy hu3 (seq _ hd he q')
    | list q' =>
      obtain ⟨_, _, rfl, _, hx, hd⟩ := x.is
      obtain ⟨_, _, rfl, _, hy, he⟩ := y.is
      exact cmp_list_lt hx hy hu3 (seq _ hd he q')
inductive PgtIs (n : Nat) : PV → PV → Bool → Prop
  | int (x y : Int) : PgtIs n (.int x) (.int y) (decide (y < x))
  | str (x y : Str) : PgtIs n (.str x) (.str y) (strLt y x)
  | tup {xs ys : List PV} {b : Bool} (q : seqGt (peq n) (pgt n) xs ys = some b) : PgtIs n (.tup xs) (.tup ys) b
theorem pgt_inv {n : Nat} {d e : PV} {b : Bool} (q : pgt (n + 1) d e = some b) : PgtIs n d e b := by
  cases d with
  | int x => obtain ⟨y, hy, rfl⟩ := Option.map_eq_some_iff.mp q; cases PV.int?_inv hy; exact .int x y
  | str x => obtain ⟨y, hy, rfl⟩ := Option.map_eq_some_iff.mp q; cases PV.str?_inv hy; exact .str x y
  | tup x => obtain ⟨y, hy, q1⟩ := Option.bind_eq_some_iff.mp q; cases PV.tup?_inv hy; exact .tup q1
  | _ => nomatch q
theorem lexGt (n : Nat) (P : ∀ {A : Around} {v v' : Value} {d e : PV} {b : Bool}, Den prog w C s.heap [] v d → Den prog w C s.heap [] v' e → pgt n d e = some b → A.units + n + 2 < cLine → CmpAt .Gt A s v v' b) {A : Around} (hu : A.units + n + 2 < cLine) (vs : List Value) :
    ∀ {us : List Value} {ds es : List PV} {b : Bool}, DenAll prog w C s.heap [] vs ds → DenAll prog w C s.heap [] us es → seqGt (peq n) (pgt n) ds es = some b → LexAt .Gt A s vs us b := by
  have hu2 : A.units + n < cLine := by omega
  induction vs with
  | nil =>
    intro us ds es b x y q
    obtain rfl := x.nil'
    cases us with
    | nil => obtain rfl := y.nil'; cases q; exact .nil
    | cons _ _ => obtain ⟨_, _, rfl, _, _⟩ := y.cons'; cases q; exact .short
  | cons v vs ih =>
    intro us ds es b x y q
    obtain ⟨_, _, rfl, x, xs⟩ := x.cons'
    cases us with
    | nil => obtain rfl := y.nil'; cases q; exact .long
    | cons _ _ =>
      obtain ⟨_, _, rfl, y, ys⟩ := y.cons'
      obtain ⟨b1, q1, q2⟩ := Option.bind_eq_some_iff.mp q
      cases b1 with
      | true => exact .eq (peq_sound n x y q1 hu2).2 (ih xs ys q2)
      | false => exact .ne (peq_sound n x y q1 hu2).2 (P x y q2 hu)
theorem pgt_sound : ∀ (n : Nat) {A : Around} {v v' : Value} {d e : PV} {b : Bool}, Den prog w C s.heap [] v d → Den prog w C s.heap [] v' e → pgt n d e = some b → A.units + n + 2 < cLine → CmpAt .Gt A s v v' b
  | 0, _, _, _, _, _, _, _, _, q, _ => nomatch q
  | n + 1, A, v, v', d, e, b, x, y, q, hu => by
    have hu1 : A.in1.units + n + 2 < cLine := by show A.units + 1 + n + 2 < cLine; omega
    have hu3 : A.units < cLine := by omega
    have seq := fun vs {us ds es b} => lexGt (s := s) (A := A.in1) n (fun x y q h => pgt_sound n x y q h) hu1 vs (us := us) (ds := ds) (es := es) (b := b)
    cases pgt_inv q with
    | int => obtain ⟨_, rfl⟩ := x.is; obtain ⟨_, rfl⟩ := y.is; intro prog w E Q hq; exact gt_int (E := E) hq
    | str => obtain ⟨_, rfl⟩ := x.is; obtain ⟨_, rfl⟩ := y.is; intro prog w E Q hq; exact PySem.P.gt_str (E := E) hq
    | tup q' =>
      obtain ⟨_, _, rfl, _, hx, hd⟩ := x.is
      obtain ⟨_, _, rfl, _, hy, he⟩ := y.is
      exact cmp_tuple_gt hx hy hu3 (seq _ hd he q')
theorem pne_sound {v v' : Value} {d e : PV} {b : Bool} (n : Nat) (x : Den prog w C s.heap [] v d) (y : Den prog w C s.heap [] v' e) (q : peq n d e = some b) (hu : A.units + n + 2 < cLine) {E : Value → Shared → Prop} {Q : Value → Shared → Prop} (hQ : Q (.bool !b) s) :
    wpAny (model prog w) A (compareOp .NotEq v v') Q E s := by
  cases n with
  | zero => exact nomatch q
  | succ n =>
    have hu1 : A.in1.units + n < cLine := by show A.units + 1 + n < cLine; omega
    have hu3 : A.units < cLine := by omega
    have seq : ∀ (vs us : List Value) (ds es : List PV) (b : Bool), DenAll prog w C s.heap [] vs ds → DenAll prog w C s.heap [] us es → seqEq (peq n) ds es = some b → NeAt A.in1 s vs us (!b) := by
      intro vs
      induction vs with
      | nil =>
        intro us ds es b x y q
        obtain rfl := x.nil'
        cases us with
        | nil => obtain rfl := y.nil'; cases q; exact .nil
        | cons _ _ => obtain ⟨_, _, rfl, _, _⟩ := y.cons'; cases q; exact .short
      | cons v vs ih =>
        intro us ds es b x y q
        obtain ⟨_, _, rfl, x, xs⟩ := x.cons'
        cases us with
        | nil => obtain rfl := y.nil'; cases q; exact .long
        | cons _ _ =>
          obtain ⟨_, _, rfl, y, ys⟩ := y.cons'
          obtain ⟨b1, b2, q1, q2, q3⟩ := both_inv q
          cases q3
          have h1 := (peq_sound (A := A.in1) n x y q1 hu1).2
          cases b1 with
          | true => exact .eq h1 (ih _ _ _ _ xs ys q2)
          | false => exact .ne h1
    cases peq_inv q with
    | bool => obtain rfl := x.is; obtain rfl := y.is; exact ne_bool hQ
    | int => obtain ⟨_, rfl⟩ := x.is; obtain ⟨_, rfl⟩ := y.is; exact ne_int hQ
    | str z z' =>
      obtain ⟨_, rfl⟩ := x.is
      obtain ⟨_, rfl⟩ := y.is
      refine PyProof.Rows.ne_str ?_
      have e : (z != z') = !(decide (z = z')) := by by_cases hz : z = z' <;> simp [hz]
      rw [e]; exact hQ
    | tup q' =>
      obtain ⟨_, _, rfl, _, hx, hd⟩ := x.is
      obtain ⟨_, _, rfl, _, hy, he⟩ := y.is
      exact cmp_tuple_ne hx hy hu3 (seq _ _ _ _ _ hd he q') prog w E Q hQ
    | list hl q' =>
      obtain ⟨_, _, rfl, _, hx, hd⟩ := x.is
      obtain ⟨_, _, rfl, _, hy, he⟩ := y.is
      exact cmp_list_ne hx hy ((hd.length.trans hl).trans he.length.symm) hu3 (seq _ _ _ _ _ hd he q') prog w E Q hQ
    | listne hl =>
      obtain ⟨_, _, rfl, _, hx, hd⟩ := x.is
      obtain ⟨_, _, rfl, _, hy, he⟩ := y.is
      exact cmp_list_neLen hx hy (by rw [hd.length, he.length]; exact hl) hu3 prog w E Q hQ
    | @dict l l' b hi hj hl q' =>
      obtain ⟨_, kvs, rfl, _, hs, hx, hk, hd⟩ := x.is
      obtain ⟨_, kvs', rfl, _, hs', hy, hk', he⟩ := y.is
      have loop := hits_of (s := s) n (fun x y q h => (peq_sound n x y q h).2) hu1 hk' he kvs hk hd q'
      refine keq_ne (r := b) hs hs' hx hy hu3 (fun _ => loop) ?_
      have ll := congrArg List.length hk
      have ll' := congrArg List.length hk'
      rw [List.length_map, List.length_map] at ll ll'
      rw [ll, ll', hl, beq_self_eq_true, Bool.true_and]
      exact hQ
    | dictne hi hj hl =>
      obtain ⟨_, kvs, rfl, _, hs, hx, hk, hd⟩ := x.is
      obtain ⟨_, kvs', rfl, _, hs', hy, hk', he⟩ := y.is
      have ll := congrArg List.length hk
      have ll' := congrArg List.length hk'
      rw [List.length_map, List.length_map] at ll ll'
      refine keq_ne (r := true) hs hs' hx hy hu3 (fun hl' => ?_) ?_
      · exact absurd (by rw [← ll, ← ll']; exact hl') hl
      · rw [ll, ll', beq_eq_false_iff_ne.mpr hl, Bool.false_and]
        exact hQ
open Classical in
theorem pin_any {v : Value} {x : PV} (hx : Den prog w C s.heap [] v x) (hu : A.units + depth < cLine) (vs : List Value) : ∀ {ys : List PV} {b : Bool}, DenAll prog w C s.heap [] vs ys → pin x ys = some b →
    (∀ y ∈ vs, EqAt A s y v (decide (∃ d, Den prog w C s.heap [] y d ∧ peq depth d x = some true))) ∧ vs.any (fun y => decide (∃ d, Den prog w C s.heap [] y d ∧ peq depth d x = some true)) = b := by
  induction vs with
  | nil => intro ys b r q; cases r; cases q; exact ⟨fun _ h => (nomatch h), rfl⟩
  | cons y vs ih =>
    intro ys b r q
    cases r with
    | cons a r =>
      obtain ⟨b1, b2, q1, q2, q3⟩ := both_inv q
      cases q3
      obtain ⟨h1, h2⟩ := ih r q2
      have e : decide (∃ d, Den prog w C s.heap [] y d ∧ peq depth d x = some true) = b1 := by
        cases b1 with
        | true => exact decide_eq_true ⟨_, a, q1⟩
        | false =>
          refine decide_eq_false ?_
          rintro ⟨d', a', q'⟩
          rw [den_unique a' a, q1] at q'
          cases q'
      refine ⟨fun z hz => ?_, ?_⟩
      · rcases List.mem_cons.mp hz with rfl | hz
        · rw [e]; exact (peq_sound depth a hx q1 hu).2
        · exact h1 z hz
      · rw [List.any_cons, e, h2]
theorem pcmp_sound {op : CmpOp} {v v' : Value} {d e : PV} {b : Bool} {X : List Addr} {E : Value → Shared → Prop} {Q : Value → Shared → Prop} (x : DenB prog w C s.heap X v d) (y : DenB prog w C s.heap X v' e) (q : pcmp op d e = some b) (hu : A.units + 50 < cLine)
    (hQ : ∀ tk, Q (.bool b) { s with toks := tk }) : wpAny (model prog w) A (compareOp op v v') Q E s := by
  have hQ0 : Q (.bool b) s := hQ s.toks
  have hu0 : A.units + depth + 2 < cLine := by have hd : depth = 6 := rfl; omega
  have hu1 : A.units + depth < cLine := by omega
  have hu2 : A.in1.units + depth < cLine := by show A.units + 1 + depth < cLine; omega
  cases op with
  | Eq => exact (peq_sound (A := A) depth x.read y.read q hu1).1 prog w E Q hQ0
  | NotEq =>
    obtain ⟨b', q', rfl⟩ := Option.map_eq_some_iff.mp q
    exact pne_sound depth x.read y.read q' hu0 hQ0
  | Lt => exact plt_sound (A := A) depth x.read y.read q hu0 prog w E Q hQ0
  | Gt => exact pgt_sound (A := A) depth x.read y.read q hu0 prog w E Q hQ0
  | LtE =>
    obtain ⟨i, j, h1, h2, q'⟩ := both_inv q
    cases PV.int?_inv h1; cases PV.int?_inv h2; cases q'
    obtain ⟨t, rfl⟩ := x.int
    obtain ⟨t', rfl⟩ := y.int
    exact PyProof.Rows.le_int hQ0
  | GtE =>
    obtain ⟨i, j, h1, h2, q'⟩ := both_inv q
    cases PV.int?_inv h1; cases PV.int?_inv h2; cases q'
    obtain ⟨t, rfl⟩ := x.int
    obtain ⟨t', rfl⟩ := y.int
    exact PyProof.Rows.ge_int hQ0
  | In =>
    cases e with
    | list l =>
      obtain ⟨a, vs, rfl, hl, hd'⟩ := y.list
      obtain ⟨h1, h2⟩ := pin_any (A := A.in1) x.read hu2 vs (hd'.anti (X' := []) fun b hb => absurd hb List.not_mem_nil) q
      exact in_listAt _ hl (fun y hy => h1 y (by simpa using hy)) (by simpa [h2] using hQ0)
    | dict l =>
      obtain ⟨k, hk, rfl⟩ := Option.map_eq_some_iff.mp q
      obtain ⟨a, kvs, rfl, hs, hm, he, hd'⟩ := y.dict
      refine wpAny_in_of (x.read.key hk) hs hm.mapOf ?_
      have z := hQ (s.toks + 1)
      rcases valueAt_den he hd' k with ⟨g1, g2⟩ | ⟨u, zz, g1, g2, _⟩ <;> rw [g1] at z <;> rw [g2] <;> exact z
    | _ => nomatch q
  | NotIn =>
    obtain ⟨b', q', rfl⟩ := Option.map_eq_some_iff.mp q
    cases e with
    | list l =>
      obtain ⟨a, vs, rfl, hl, hd'⟩ := y.list
      obtain ⟨h1, h2⟩ := pin_any (A := A.in1) x.read hu2 vs (hd'.anti (X' := []) fun b hb => absurd hb List.not_mem_nil) q'
      exact notIn_listAt _ hl (fun y hy => h1 y (by simpa using hy)) (by simpa [h2] using hQ0)
    | dict l =>
      obtain ⟨k, hk, rfl⟩ := Option.map_eq_some_iff.mp q'
      obtain ⟨a, kvs, rfl, hs, hm, he, hd'⟩ := y.dict
      refine wpAny_notIn_of (x.read.key hk) hs hm.mapOf ?_
      have z := hQ (s.toks + 1)
      rcases valueAt_den he hd' k with ⟨g1, g2⟩ | ⟨u, zz, g1, g2, _⟩ <;> rw [g1] at z <;> rw [g2] <;> exact z
    | _ => nomatch q'
  | _ => nomatch q
end
end Mine
end
section
set_option maxRecDepth 100000
namespace Mine
open PySem PySem.Spec PySem.Calls PyProof.Rows PySem.SeqAt PySem.W
theorem intBits_le {k : Int} {n : Nat} (h : k.natAbs < 2 ^ n) : Builtin.Int.intBits k ≤ n := by
  unfold Builtin.Int.intBits
  split
  · exact Nat.zero_le _
  · rename_i hk
    rcases Nat.eq_zero_or_pos k.natAbs with h0 | hp
    · exact absurd (by simpa using h0) hk
    · have := (Nat.log2_lt (Nat.ne_of_gt hp)).mpr h
      omega
theorem mulOk_ok {a b : Int} (h : mulOk a b = true) : IntMulOk a b := by
  unfold mulOk at h
  rw [Bool.and_eq_true, decide_eq_true_eq, decide_eq_true_eq] at h
  have h1 := intBits_le h.1
  have h2 := intBits_le h.2
  unfold IntMulOk
  have hbl : bitsLine = 2 ^ 27 := rfl
  have : Builtin.Int.intTooBig (Builtin.Int.intBits a + Builtin.Int.intBits b) = false := decide_eq_false (by clear h; rw [hbl]; omega)
  rw [this]; simp
section
variable {prog : Program} {w : World} {C : Addr} {s : Shared} {A : Around} {X : List Addr} {E : Value → Shared → Prop} {Q : Value → Shared → Prop}
theorem padd_sound {v v' : Value} {d e r : PV} (hX : s.heap.objs.size ∉ X) (x : DenB prog w C s.heap X v d) (y : DenB prog w C s.heap X v' e) (q : padd d e = some r)
    (hQ : ∀ u h' tk, Ext s.heap h' → Den prog w C h' X u r → Q u { s with heap := h', toks := tk }) : wpAny (model prog w) A (binaryOp .Add v v') Q E s := by
  cases d with
  | int i =>
    obtain ⟨j, hj, rfl⟩ := Option.map_eq_some_iff.mp q
    cases PV.int?_inv hj
    obtain ⟨t, rfl⟩ := x.int
    obtain ⟨t', rfl⟩ := y.int
    exact PyProof.Rows.add_int (hQ _ s.heap _ (Ext.refl _) (.int _ _))
  | str i =>
    obtain ⟨j, hj, q1⟩ := Option.bind_eq_some_iff.mp q
    cases PV.str?_inv hj
    by_cases hl : i.length + j.length ≤ 1000
    · rw [if_pos hl] at q1
      cases q1
      obtain ⟨t, rfl⟩ := x.str
      obtain ⟨t', rfl⟩ := y.str
      exact PyProof.Rows.add_str (fun t'' tk => hQ _ s.heap _ (Ext.refl _) (.str _ _)) (by rw [sizeLine_eq]; omega)
    · rw [if_neg hl] at q1; cases q1
  | list i =>
    obtain ⟨j, hj, q1⟩ := Option.bind_eq_some_iff.mp q
    cases PV.list?_inv hj
    by_cases hl : i.length + j.length ≤ 100000
    · rw [if_pos hl] at q1
      cases q1
      obtain ⟨a, vs, rfl, hx, hd⟩ := x.list
      obtain ⟨b, us, rfl, hy, he⟩ := y.list
      have l1 := hd.length
      have l2 := he.length
      obtain ⟨⟨cls, dd, data, sl⟩, ho, hc, n, hdd⟩ := id hx
      obtain ⟨⟨cls2, dd2, data2, sl2⟩, ho2, hc2, n2, hd2⟩ := id hy
      simp only at hc hdd hc2 hd2
      subst hc hdd hc2 hd2
      refine concat_meets ⟨_, ho, rfl⟩ ⟨_, ho2, rfl⟩ noFill_list_add seq_list_add PySem.F.slot_list_add PySem.F.entry_list_add (PySem.F.args_list_add_2 _ _)
        (list_addW a b vs.toArray us.toArray n n2 dd dd2 sl sl2 (by rw [List.size_toArray, List.size_toArray, sizeLine_eq]; omega)) ⟨ho, ho2, ?_⟩
      refine hQ _ _ _ (Ext.push _ _) (.list hX ⟨_, Heap.get?_push_size _ rfl, rfl, 0, ?_⟩ ((hd.append he).ext (Ext.push _ _)))
      rw [List.append_toArray]
    · rw [if_neg hl] at q1; cases q1
  | tup i =>
    obtain ⟨j, hj, q1⟩ := Option.bind_eq_some_iff.mp q
    cases PV.tup?_inv hj
    by_cases hl : i.length + j.length ≤ 100000
    · rw [if_pos hl] at q1
      cases q1
      obtain ⟨a, vs, rfl, hx, hd, hax⟩ := x.tup
      obtain ⟨b, us, rfl, hy, he, hbx⟩ := y.tup
      have l1 := hd.length
      have l2 := he.length
      obtain ⟨⟨cls, dd, data, sl⟩, ho, hc, n, hdd⟩ := id hx
      obtain ⟨⟨cls2, dd2, data2, sl2⟩, ho2, hc2, n2, hd2⟩ := id hy
      simp only at hc hdd hc2 hd2
      subst hc hdd hc2 hd2
      cases vs with
      | nil =>
        cases hd
        refine concat_meets ⟨_, ho, rfl⟩ ⟨_, ho2, rfl⟩ noFill_tuple_add seq_tuple_add PySem.F.slot_tuple_add PySem.F.entry_tuple_add (PySem.F.args_tuple_add_2 _ _)
          (tuple_addW0 a b _ us.toArray n n2 dd dd2 sl sl2 (by simp)) ⟨ho, ho2, ?_⟩
        exact hQ _ s.heap s.toks (Ext.refl _) (Den.tup hbx hy he)
      | cons v vs =>
        cases us with
        | nil =>
          cases he
          refine concat_meets ⟨_, ho, rfl⟩ ⟨_, ho2, rfl⟩ noFill_tuple_add seq_tuple_add PySem.F.slot_tuple_add PySem.F.entry_tuple_add (PySem.F.args_tuple_add_2 _ _)
            (tuple_addW1 a b (v :: vs).toArray _ n n2 dd dd2 sl sl2 (by simp) (by simp)) ⟨ho, ho2, ?_⟩
          exact hQ _ s.heap s.toks (Ext.refl _) (by rw [List.append_nil]; exact Den.tup hax hx hd)
        | cons u us =>
          refine concat_meets ⟨_, ho, rfl⟩ ⟨_, ho2, rfl⟩ noFill_tuple_add seq_tuple_add PySem.F.slot_tuple_add PySem.F.entry_tuple_add (PySem.F.args_tuple_add_2 _ _)
            (tuple_addW2 a b (v :: vs).toArray (u :: us).toArray n n2 dd dd2 sl sl2 (by simp) (by simp) (by rw [List.size_toArray, List.size_toArray, sizeLine_eq]; omega)) ⟨ho, ho2, ?_⟩
          refine hQ _ _ _ (Ext.push _ _) (.tup hX ⟨_, Heap.get?_push_size _ rfl, rfl, 0, ?_⟩ ((hd.append he).ext (Ext.push _ _)))
          rw [List.append_toArray]
    · rw [if_neg hl] at q1; cases q1
  | _ => nomatch q
/-- the int forms of an operator, told of what the operator gives -/
theorem pint_pow {a b : Int} (hb : 0 ≤ b ∧ b ≤ 1000 ∧ a.natAbs < 2 ^ 64) : (Builtin.Int.intBits a : Int) * b ≤ 64 * b := Int.mul_le_mul_of_nonneg_right (by have := intBits_le hb.2.2; omega) hb.1
theorem pbin_sound {op : Operator} {v v' : Value} {d e r : PV} (hX : s.heap.objs.size ∉ X) (x : DenB prog w C s.heap X v d) (y : DenB prog w C s.heap X v' e) (q : pbin op d e = some r)
    (hQ : ∀ u h' tk, Ext s.heap h' → Den prog w C h' X u r → Q u { s with heap := h', toks := tk }) : wpAny (model prog w) A (binaryOp op v v') Q E s := by
  have hbi : isAdd op = false → ∃ i j k, d = .int i ∧ e = .int j ∧ r = .int k ∧ pint op i j = some k := fun h => by
    have q1 : (both d.int? e.int? (pint op)).map PV.int = some r := (if_neg (by rw [h]; decide)).symm.trans q
    obtain ⟨k, q2, h3⟩ := Option.map_eq_some_iff.mp q1
    obtain ⟨i, j, h1, h2, q3⟩ := both_inv q2
    exact ⟨i, j, k, PV.int?_inv h1, PV.int?_inv h2, h3.symm, q3⟩
  cases op with
  | Add => exact padd_sound hX x y q hQ
  | Sub =>
    obtain ⟨i, j, k, rfl, rfl, rfl, q2⟩ := hbi rfl
    cases q2
    obtain ⟨t, rfl⟩ := x.int
    obtain ⟨t', rfl⟩ := y.int
    exact PyProof.Rows.sub_int (hQ _ s.heap _ (Ext.refl _) (.int _ _))
  | Mult =>
    obtain ⟨i, j, k, rfl, rfl, rfl, q2⟩ := hbi rfl
    obtain ⟨t, rfl⟩ := x.int
    obtain ⟨t', rfl⟩ := y.int
    by_cases hm : mulOk i j = true
    · cases (if_pos hm).symm.trans q2
      exact PyProof.Rows.mul_int (hQ _ s.heap _ (Ext.refl _) (.int _ _)) (mulOk_ok hm)
    · cases (if_neg hm).symm.trans q2
  | FloorDiv =>
    obtain ⟨i, j, k, rfl, rfl, rfl, q2⟩ := hbi rfl
    obtain ⟨t, rfl⟩ := x.int
    obtain ⟨t', rfl⟩ := y.int
    by_cases hb : j = 0 ∨ 1000000000 < j.natAbs
    · cases (if_pos hb).symm.trans q2
    · cases (if_neg hb).symm.trans q2
      exact PyProof.Rows.floordiv_int (fun e => hb (.inl e)) (hQ _ s.heap _ (Ext.refl _) (.int _ _)) (.inl (PyProof.noPylong_small (by omega)))
  | Mod =>
    obtain ⟨i, j, k, rfl, rfl, rfl, q2⟩ := hbi rfl
    obtain ⟨t, rfl⟩ := x.int
    obtain ⟨t', rfl⟩ := y.int
    by_cases hb : j = 0
    · cases (if_pos hb).symm.trans q2
    · cases (if_neg hb).symm.trans q2
      exact mod_int' hb (hQ _ s.heap _ (Ext.refl _) (.int _ _))
  | Pow =>
    obtain ⟨i, j, k, rfl, rfl, rfl, q2⟩ := hbi rfl
    obtain ⟨t, rfl⟩ := x.int
    obtain ⟨t', rfl⟩ := y.int
    by_cases hb : 0 ≤ j ∧ j ≤ 1000 ∧ i.natAbs < 2 ^ 64
    · cases (if_pos hb).symm.trans q2
      refine pow_int hb.1 ?_ (hQ _ s.heap _ (Ext.refl _) (.int _ _))
      exact Int.le_trans (pint_pow hb) (by omega)
    · cases (if_neg hb).symm.trans q2
  | BitOr =>
    obtain ⟨i, j, k, rfl, rfl, rfl, q2⟩ := hbi rfl
    cases q2
    obtain ⟨t, rfl⟩ := x.int
    obtain ⟨t', rfl⟩ := y.int
    exact or_int (hQ _ s.heap _ (Ext.refl _) (.int _ _))
  | BitAnd =>
    obtain ⟨i, j, k, rfl, rfl, rfl, q2⟩ := hbi rfl
    cases q2
    obtain ⟨t, rfl⟩ := x.int
    obtain ⟨t', rfl⟩ := y.int
    exact and_int (hQ _ s.heap _ (Ext.refl _) (.int _ _))
  | _ => obtain ⟨i, j, k, rfl, rfl, rfl, q2⟩ := hbi rfl; nomatch q2
theorem ptruth_sound {v : Value} {d : PV} {b : Bool} {Q : Bool → Shared → Prop} (x : DenB prog w C s.heap X v d) (q : ptruth d = some b) (hQ : Q b s) : wpAny (model prog w) A (truthy v) Q E s := by
  cases d with
  | bool c =>
    cases q
    cases x.bool
    exact wpAny_truthy_bool hQ
  | int i =>
    cases q
    obtain ⟨t, rfl⟩ := x.int
    exact PyProof.Rows.truthy_int hQ
  | _ => nomatch q
/-- the int forms of op= -/
theorem pinp_sound {op : Operator} {a b : Int} {t t' : Tok} {r : PV} (q : pbin op (.int a) (.int b) = some r)
    (hQ : ∀ u tk, Den prog w C s.heap X u r → Q u { s with toks := tk }) : wpAny (model prog w) A (inplaceOp op (.int a t) (.int b t')) Q E s := by
  have hbi : isAdd op = false → ∃ k, r = .int k ∧ pint op a b = some k := fun h => by
    have q1 : (pint op a b).map PV.int = some r := (if_neg (by rw [h]; decide)).symm.trans q
    obtain ⟨k, q2, h3⟩ := Option.map_eq_some_iff.mp q1
    exact ⟨k, h3.symm, q2⟩
  cases op with
  | Add => cases q; exact PyProof.Rows.iadd_int (hQ _ _ (.int _ _))
  | Sub => obtain ⟨k, rfl, q2⟩ := hbi rfl; cases q2; exact PyProof.Rows.isub_int (hQ _ _ (.int _ _))
  | Mult =>
    obtain ⟨k, rfl, q2⟩ := hbi rfl
    by_cases hm : mulOk a b = true
    · cases (if_pos hm).symm.trans q2
      exact imul_int (hQ _ _ (.int _ _)) (mulOk_ok hm)
    · cases (if_neg hm).symm.trans q2
  | FloorDiv =>
    obtain ⟨k, rfl, q2⟩ := hbi rfl
    by_cases hb : b = 0 ∨ 1000000000 < b.natAbs
    · cases (if_pos hb).symm.trans q2
    · cases (if_neg hb).symm.trans q2
      exact ifloordiv_int (fun e => hb (.inl e)) (hQ _ _ (.int _ _)) (.inl (PyProof.noPylong_small (by omega)))
  | Mod =>
    obtain ⟨k, rfl, q2⟩ := hbi rfl
    by_cases hb : b = 0
    · cases (if_pos hb).symm.trans q2
    · cases (if_neg hb).symm.trans q2
      exact imod_int hb (hQ _ _ (.int _ _))
  | Pow =>
    obtain ⟨k, rfl, q2⟩ := hbi rfl
    by_cases hb : 0 ≤ b ∧ b ≤ 1000 ∧ a.natAbs < 2 ^ 64
    · cases (if_pos hb).symm.trans q2
      refine ipow_int hb.1 ?_ (hQ _ _ (.int _ _))
      exact Int.le_trans (pint_pow hb) (by omega)
    · cases (if_neg hb).symm.trans q2
  | BitOr => obtain ⟨k, rfl, q2⟩ := hbi rfl; cases q2; exact ior_int (hQ _ _ (.int _ _))
  | BitAnd => obtain ⟨k, rfl, q2⟩ := hbi rfl; cases q2; exact iand_int (hQ _ _ (.int _ _))
  | _ => obtain ⟨k, rfl, q2⟩ := hbi rfl; nomatch q2
end
end Mine
end
section
set_option maxRecDepth 100000
namespace Mine
open PySem PySem.Spec PySem.Calls PyProof.Rows PySem.SeqAt PySem.W
theorem cutL_min {α : Type} (l : List α) (a b : Nat) : (l.drop (min a l.length)).take (min b l.length - min a l.length) = cutL l a b := by
  unfold cutL
  rcases Nat.le_total a l.length with ha | ha
  · rw [Nat.min_eq_left ha]
    rcases Nat.le_total b l.length with hb | hb
    · rw [Nat.min_eq_left hb]
    · rw [Nat.min_eq_right hb, List.take_of_length_le (by simp), List.take_of_length_le (by simp; omega)]
  · rw [Nat.min_eq_right ha, List.drop_of_length_le (Nat.le_refl _), List.drop_of_length_le ha]
    simp
theorem clipAt_toNat {n : Nat} {i : Int} (h : 0 ≤ i) : clipAt n i = min i.toNat n := by
  have : i = ((i.toNat : Nat) : Int) := by omega
  rw [this, clipAt_nat]; omega
theorem slicePick_cut (items : List Value) (lo hi : Option Int) (h1 : 0 ≤ lo.getD 0) (h2 : 0 ≤ hi.getD 0) : slicePick items.toArray lo hi none = (cutL items (lo.getD 0).toNat (hi.getD items.length).toNat).toArray := by
  rw [slicePick_plain, ← cutL_min]
  congr 1
  have e1 : lo.elim 0 (clipAt items.toArray.size) = min (lo.getD 0).toNat items.length := by
    cases lo with
    | none => simp
    | some i => simp only [Option.elim, Option.getD_some] at h1 ⊢; rw [clipAt_toNat h1]; simp
  have e2 : hi.elim items.toArray.size (clipAt items.toArray.size) = min (hi.getD items.length).toNat items.length := by
    cases hi with
    | none => simp
    | some i => simp only [Option.elim, Option.getD_some] at h2 ⊢; rw [clipAt_toNat h2]; simp
  rw [e1, e2]
theorem everyNth_drop {α : Type} (n : Nat) : ∀ (k : Nat) (l : List α), everyNth n k l = everyNth n 0 (l.drop k)
  | 0, l => by simp
  | k + 1, [] => by simp [everyNth]
  | k + 1, x :: l => by rw [everyNth, List.drop_succ_cons, everyNth_drop n k l]
noncomputable def cnt (m n : Nat) : Nat := (m + n - 1) / n
theorem everyNth_eq {α : Type} {n : Nat} (hn : 0 < n) : ∀ (m : Nat) (l : List α), l.length ≤ m → everyNth n 0 l = (List.range (cnt l.length n)).filterMap fun k => l[n * k]?
  | m, [], _ => by
    have : cnt 0 n = 0 := by unfold cnt; exact Nat.div_eq_of_lt (by omega)
    simp [everyNth, this]
  | 0, _ :: _, h => by simp at h
  | m + 1, x :: l, h => by
    rw [everyNth, everyNth_drop, everyNth_eq hn m (l.drop (n - 1)) (by simp at h ⊢; omega)]
    have hc : cnt (x :: l).length n = cnt (l.drop (n - 1)).length n + 1 := by
      unfold cnt
      simp only [List.length_cons, List.length_drop]
      rcases Nat.lt_or_ge l.length (n - 1) with hlt | hge
      · have e1 : l.length - (n - 1) = 0 := by omega
        rw [e1, Nat.div_eq_of_lt (by omega : 0 + n - 1 < n)]
        rw [show l.length + 1 + n - 1 = l.length + n by omega, Nat.add_div_right _ hn, Nat.div_eq_of_lt (by omega)]
      · rw [show l.length + 1 + n - 1 = (l.length - (n - 1) + n - 1) + n by omega, Nat.add_div_right _ hn]
    rw [hc, List.range_succ_eq_map, List.filterMap_cons]
    simp only [Nat.mul_zero, List.getElem?_cons_zero, List.filterMap_map]
    congr 1
    congr 1
    funext k
    simp only [Function.comp, List.getElem?_drop]
    have : n * Nat.succ k = (n - 1 + n * k) + 1 := by rw [Nat.mul_succ]; omega
    rw [this, List.getElem?_cons_succ]
theorem slicePick_step (items : List Value) (lo : Option Int) (n : Int) (h1 : 0 ≤ lo.getD 0) (hn : 0 < n) : slicePick items.toArray lo none (some n) = (everyNth n.toNat 0 (items.drop (lo.getD 0).toNat)).toArray := by
  have hn' : 0 < n.toNat := by omega
  rw [everyNth_eq hn' _ _ (Nat.le_refl _)]
  unfold slicePick
  congr 1
  have hp : n > 0 := hn
  have eb : sliceBounds lo none (some n) items.toArray.size = (((min (lo.getD 0).toNat items.length : Nat) : Int), ((items.length : Nat) : Int), n) := by
    cases lo with
    | none => simp [sliceBounds, hp]
    | some i =>
      simp only [Option.getD_some] at h1 ⊢
      simp only [sliceBounds, Option.getD_some, hp, if_true, List.size_toArray, if_neg (show ¬ i < 0 by omega)]
      simp only [Prod.mk.injEq, and_true]
      omega
  rw [eb]
  unfold sliceRange
  simp only [hp, if_true, List.length_drop]
  rw [List.filterMap_map]
  have hc : (if ((min (lo.getD 0).toNat items.length : Nat) : Int) < (items.length : Int) then ((items.length : Int) - ((min (lo.getD 0).toNat items.length : Nat) : Int) + n - 1) / n else 0).toNat = cnt (items.length - (lo.getD 0).toNat) n.toNat := by
    unfold cnt
    generalize (lo.getD 0).toNat = a
    have en : n = ((n.toNat : Nat) : Int) := by omega
    generalize n.toNat = k at *
    subst en
    split
    · rename_i hlt
      have ha : a < items.length := by omega
      rw [Nat.min_eq_left (Nat.le_of_lt ha)]
      have : ((items.length : Int) - (a : Int) + (k : Int) - 1) = ((items.length - a + k - 1 : Nat) : Int) := by omega
      rw [this, ← Int.natCast_ediv, Int.toNat_natCast]
    · rename_i hlt
      have ha : items.length ≤ a := by omega
      have : items.length - a + k - 1 < k := by omega
      rw [Nat.div_eq_of_lt this]; rfl
  rw [hc]
  congr 1
  funext k
  have e : (((min (lo.getD 0).toNat items.length : Nat) : Int) + n * (k : Int)).toNat = min (lo.getD 0).toNat items.length + n.toNat * k := by
    have en : n = ((n.toNat : Nat) : Int) := by omega
    generalize n.toNat = j at *
    subst en
    have : (j : Int) * (k : Int) = ((j * k : Nat) : Int) := by push_cast; rfl
    rw [this]; omega
  simp only [Function.comp, e, List.getElem?_toArray, List.getElem?_drop]
  rcases Nat.le_total (lo.getD 0).toNat items.length with h | h
  · rw [Nat.min_eq_left h]
  · rw [Nat.min_eq_right h, List.getElem?_eq_none (by omega), List.getElem?_eq_none (by omega)]
section
variable {prog : Program} {w : World} {C : Addr} {s : Shared} {A : Around} {X : List Addr} {E : Value → Shared → Prop} {Q : Value → Shared → Prop}
theorem DenAll.cut {h : Heap} {vs : List Value} {ds : List PV} (x : DenAll prog w C h X vs ds) (a b : Nat) : DenAll prog w C h X (cutL vs a b) (cutL ds a b) := (x.drop a).take _
theorem DenAll.every {h : Heap} (n : Nat) : ∀ {vs : List Value} {ds : List PV} (k : Nat), DenAll prog w C h X vs ds → DenAll prog w C h X (everyNth n k vs) (everyNth n k ds)
  | [], _, k, .nil => by cases k <;> exact .nil
  | v :: vs, _, 0, .cons a r => .cons a (DenAll.every n _ r)
  | v :: vs, _, k + 1, .cons a r => DenAll.every n k r
theorem tuple_cut {t sl : Addr} {vs : List Value} {vl vu : Value} {lo hi : Option Int} (ht : s.heap.IsTuple t vs.toArray) (hs : s.heap.IsSliceOf sl vl vu .none) (pl : IsPart vl lo) (pu : IsPart vu hi)
    (h1 : 0 ≤ lo.getD 0) (h2 : 0 ≤ hi.getD 0) (hsz : vs.length ≤ sizeLine)
    (hw : cutL vs (lo.getD 0).toNat (hi.getD vs.length).toNat = vs → Q (.ref t) s)
    (h : Q (.ref s.heap.objs.size) { s with heap := s.heap.push { cls := .type "tuple", data := .seq (cutL vs (lo.getD 0).toNat (hi.getD vs.length).toNat).toArray } }) :
    wpAny (model prog w) A (getItem (.ref t) (.ref sl)) Q E s := by
  have ht' : IsTup s.heap t vs.toArray := ht
  obtain ⟨os, hos, hcs, hds⟩ := id hs
  have hTs : s.TypeIs (.ref sl) "slice" := ⟨os, hos, hcs⟩
  unfold getItem
  refine wpAny_holding ?_
  refine wpAny_bind (wpAny_sequenceKey ht'.typeIs (by decide) ?_)
  refine wpAny_bind (wpAny_callSpecial?_slot (name := Str.ofString "__getitem__") ht'.typeIs slot_tuple_getitem
    (wpAny_call_entry slot_tuple_getitem ht'.typeIs entry_tuple_getitem ?_ (args_tuple_getitem _ _)))
  show wpAny _ _ (Builtin.Tuple.tupleItemsOf (.ref t) >>= _) _ _ s
  refine wpAny_bind (tupleItemsOf_ ht' ?_)
  refine wpAny_bind (wpAny_typeOf hTs ?_)
  rw [if_pos (by decide)]
  have ap : ∀ (Q : Int × Int × Nat → Shared → Prop), Q (((min (lo.getD 0).toNat vs.length : Nat) : Int), 1, min (hi.getD vs.length).toNat vs.length - min (lo.getD 0).toNat vs.length) s →
      wpAny (model prog w) A.in1 (Builtin.Slice.sliceApplied (.ref sl) (pure ((vs.toArray.size : Nat) : Int))) Q E s := by
    intro Q hQ
    unfold Builtin.Slice.sliceApplied Builtin.Slice.sliceFields
    refine wpAny_bind (wpAny_bind (wpAny_field hos hds (x := vl) rfl (wpAny_bind (wpAny_field hos hds (x := vu) rfl (wpAny_bind (wpAny_field hos hds (x := .none) rfl (wpAny_pure ?_)))))))
    refine wpAny_bind (slicePart_none ?_)
    show wpAny _ _ (if ((1 : Int) == 0) = true then _ else _) _ _ s
    rw [if_neg (by decide)]
    have part : ∀ {v : Value} {o : Option Int} {Q : Option Int → Shared → Prop}, IsPart v o → Q o s → wpAny (model prog w) A.in1 (Builtin.Slice.slicePartIndex v) Q E s := by
      intro v o Q p q
      cases p with
      | none => exact slicePart_none q
      | int i t => exact slicePart_int q
    refine wpAny_bind (part pl (wpAny_bind (part pu (wpAny_bind (wpAny_pure ?_)))))
    have ea : Builtin.Slice.sliceAdjust lo hi 1 (vs.toArray.size : Nat) = (((min (lo.getD 0).toNat vs.length : Nat) : Int), ((min (hi.getD vs.length).toNat vs.length : Nat) : Int)) := by
      unfold Builtin.Slice.sliceAdjust
      simp only [List.size_toArray, show ¬ ((1 : Int) < 0) by omega, if_false, Prod.mk.injEq]
      constructor
      · cases lo with
        | none => simp
        | some i => simp only [Option.getD_some] at h1 ⊢; rw [if_neg (by omega)]; omega
      · cases hi with
        | none => simp
        | some i => simp only [Option.getD_some] at h2 ⊢; rw [if_neg (by omega)]; omega
    show wpAny _ _ (match Builtin.Slice.sliceAdjust lo hi 1 (vs.toArray.size : Nat) with | (lo, hi) => pure (lo, (1 : Int), Builtin.Slice.slicePlaces lo hi 1)) _ _ s
    rw [ea]
    have ep : Builtin.Slice.slicePlaces ((min (lo.getD 0).toNat vs.length : Nat) : Int) ((min (hi.getD vs.length).toNat vs.length : Nat) : Int) 1 = min (hi.getD vs.length).toNat vs.length - min (lo.getD 0).toNat vs.length := by
      unfold Builtin.Slice.slicePlaces
      simp only [show (1 : Int) > 0 by omega, if_true, Int.ediv_one]
      split <;> omega
    refine wpAny_pure ?_
    rw [ep]
    exact hQ
  refine wpAny_bind (ap _ ?_)
  generalize ha : min (lo.getD 0).toNat vs.length = a
  generalize hb : min (hi.getD vs.length).toNat vs.length = b
  have hcut : (vs.drop a).take (b - a) = cutL vs (lo.getD 0).toNat (hi.getD vs.length).toNat := by rw [← ha, ← hb]; exact cutL_min vs _ _
  have epick : ((List.range (b - a)).filterMap fun (k : Nat) => vs.toArray[((a : Int) + (k : Int) * 1).toNat]?).toArray = (cutL vs (lo.getD 0).toNat (hi.getD vs.length).toNat).toArray := by
    have e : (fun (k : Nat) => vs.toArray[((a : Int) + (k : Int) * 1).toNat]?) = fun k => vs.toArray[a + k]? := by
      funext k
      have : ((a : Int) + (k : Int) * 1).toNat = a + k := by omega
      rw [this]
    rw [e]
    have := pick_run vs.toArray a (b - a)
    rw [List.filterMap_map] at this
    have e2 : ((fun x => vs.toArray[x]?) ∘ fun x => a + x) = fun k => vs.toArray[a + k]? := rfl
    rw [e2] at this
    rw [this, ← hcut]
  have hlen : (cutL vs (lo.getD 0).toNat (hi.getD vs.length).toNat).length ≤ vs.length := by
    unfold cutL; rw [List.length_take, List.length_drop]; omega
  have hdrop : sizeOk (.seq (cutL vs (lo.getD 0).toNat (hi.getD vs.length).toNat).toArray) := by
    show (cutL vs _ _).toArray.size ≤ sizeLine
    rw [List.size_toArray]; omega
  show wpAny _ _ (if ((a : Int) == 0 && (1 : Int) == 1 && (b - a) == vs.toArray.size) = true then _ else _) _ _ s
  split
  · rename_i hc
    simp only [Bool.and_eq_true, beq_iff_eq] at hc
    have : cutL vs (lo.getD 0).toNat (hi.getD vs.length).toNat = vs := by
      rw [← hcut]
      have ha0 : a = 0 := by have := hc.1.1; omega
      subst ha0
      rw [List.drop_zero, List.take_of_length_le (by have := hc.2; simp at this; omega)]
    have tx : wpAny (model prog w) A.in1 (Builtin.Tuple.tupleIsExact (.ref t)) (fun r s' => r = true ∧ s' = s) E s := by
      unfold Builtin.Tuple.tupleIsExact
      exact wpAny_bind (wpAny_typeOf ht'.typeIs (wpAny_pure ⟨by decide, rfl⟩))
    refine wpAny_bind (wpAny_mono tx (fun r s' hr => ?_) fun _ _ e => e)
    obtain ⟨rfl, rfl⟩ := hr
    rw [if_pos rfl]
    refine wpAny_bind (wpAny_rule ?_)
    first
      | exact wpAny_bind (wpAny_pure (wpAny_pure ⟨_, rfl, wpAny_pure (hw this)⟩))
      | exact wpAny_pure ⟨_, rfl, wpAny_pure (hw this)⟩
      | exact wpAny_bind (wpAny_pure ⟨_, rfl, wpAny_pure (hw this)⟩)
  · rw [epick]
    first
      | exact wpAny_bind (m := Builtin.Tuple.tupleExact _) (wpAny_newObj_type (wpAny_pure ⟨_, rfl, wpAny_pure h⟩) hdrop)
      | exact wpAny_bind (m := Builtin.Tuple.tupleExact _) (wpAny_newObj_type (wpAny_bind (wpAny_pure (wpAny_pure ⟨_, rfl, wpAny_pure h⟩))) hdrop)
      | exact wpAny_bind (wpAny_bind (m := Builtin.Tuple.tupleExact _) (wpAny_newObj_type (wpAny_pure (wpAny_pure ⟨_, rfl, wpAny_pure h⟩)) hdrop))
      | exact wpAny_bind (wpAny_bind (m := Builtin.Tuple.tupleExact _) (wpAny_newObj_type (wpAny_pure ⟨_, rfl, wpAny_pure h⟩) hdrop))
end
end Mine
end
section
set_option maxRecDepth 100000
namespace Mine
open PySem PySem.Spec PySem.Calls PyProof.Rows PySem.SeqAt PySem.W
theorem getItem_not_slice {e : Expr} (h : ∀ a b c d, e ≠ .Slice a b c d) (o i : Value) : subscripted e false o i = operate [o, i] (getItem o i) := by
  cases e <;> first | rfl | exact absurd rfl (h _ _ _ _)
theorem seqIndex_at {i : Int} {n : Nat} (h : 0 ≤ i) (hl : i.toNat < n) : seqIndex? i n = some i.toNat := by
  unfold seqIndex?
  simp only [if_neg (show ¬ i < 0 by omega)]
  rw [if_pos (by simp; omega)]
theorem strIdx (lo hi : Option Int) (n : Nat) (h1 : 0 ≤ lo.getD 0) (h2 : 0 ≤ hi.getD 0) :
    Builtin.Str.strSliceIndices lo hi 1 n = (List.range (min (hi.getD n).toNat n - min (lo.getD 0).toNat n)).map (min (lo.getD 0).toNat n + ·) := by
  have e0 : Builtin.Str.strSliceIndices lo hi 1 n = sliceRange (sliceBounds lo hi none n).1 (sliceBounds lo hi none n).2.1 1 := rfl
  rw [e0, sliceBounds_plain]
  simp only [sliceRange_one]
  have e1 : lo.elim 0 (clipAt n) = min (lo.getD 0).toNat n := by
    cases lo with
    | none => simp
    | some i => simp only [Option.elim, Option.getD_some] at h1 ⊢; rw [clipAt_toNat h1]
  have e2 : hi.elim n (clipAt n) = min (hi.getD n).toNat n := by
    cases hi with
    | none => simp
    | some i => simp only [Option.elim, Option.getD_some] at h2 ⊢; rw [clipAt_toNat h2]
  rw [e1, e2]
theorem strPick_cut (x : Str) (lo hi : Option Int) (h1 : 0 ≤ lo.getD 0) (h2 : 0 ≤ hi.getD 0) :
    (Builtin.Str.strSliceIndices lo hi 1 x.length).filterMap (x.cps[·]?) = cutL x.cps.toList (lo.getD 0).toNat (hi.getD x.length).toNat := by
  rw [strIdx lo hi _ h1 h2, pick_run, ← cutL_min]
  have hl : x.cps.toList.length = x.length := by simp [Str.length]
  rw [hl]
theorem strPick_whole (x : Str) (lo hi : Option Int) (h1 : 0 ≤ lo.getD 0) (h2 : 0 ≤ hi.getD 0) (h : (Builtin.Str.strSliceIndices lo hi 1 x.length).length = x.length) :
    (⟨(cutL x.cps.toList (lo.getD 0).toNat (hi.getD x.length).toNat).toArray⟩ : Str) = x := by
  rw [strIdx lo hi _ h1 h2, List.length_map, List.length_range] at h
  have hl : x.cps.toList.length = x.length := by simp [Str.length]
  have : cutL x.cps.toList (lo.getD 0).toNat (hi.getD x.length).toNat = x.cps.toList := by
    rw [← cutL_min, hl, h]
    have h3 : min (lo.getD 0).toNat x.length = 0 ∨ x.length = 0 := by omega
    rcases h3 with h3 | h3
    · rw [h3, List.drop_zero, List.take_of_length_le (by omega)]
    · have : x.cps.toList = [] := List.eq_nil_of_length_eq_zero (by omega)
      rw [this]; simp
  rw [this]
theorem part_of {v : Value} {o : Option Int} (h : IsPart v o) : ∃ p : Option (Int × Tok), v = partValue p ∧ p.map (·.1) = o := by
  cases h with
  | none => exact ⟨none, rfl, rfl⟩
  | int i t => exact ⟨some (i, t), rfl, rfl⟩
section
variable {prog : Program} {w : World} {C : Addr} {s : Shared} {A : Around} {X : List Addr} {E : Value → Shared → Prop} {Q : Value → Shared → Prop}
theorem okAt_inv {i : Int} {α : Type} {o : Option α} {r : α} (q : (if okAt i = true then o else none) = some r) : 0 ≤ i ∧ i < 1000000000 ∧ o = some r := by
  cases hi : okAt i with
  | true =>
    rw [hi] at q
    rw [okAt, Bool.and_eq_true, decide_eq_true_eq, decide_eq_true_eq] at hi
    exact ⟨hi.1, hi.2, q⟩
  | false => rw [hi] at q; cases q
theorem pget_item {v k : Value} {d e r : PV} (x : DenB prog w C s.heap X v d) (y : Den prog w C s.heap X k e) (q : pget d e = some r) (hQ : ∀ u tk, Den prog w C s.heap X u r → Q u { s with toks := tk }) :
    wpAny (model prog w) A (getItem v k) Q E s ∧ ∃ T id, s.TypeIs v T ∧ typeLookup (.type T) "__getitem__" = pure (some (.builtin id)) := by
  cases d with
  | list l =>
    obtain ⟨i, hj, q1⟩ := Option.bind_eq_some_iff.mp q
    cases PV.int?_inv hj
    obtain ⟨h0, h1, q2⟩ := okAt_inv q1
    obtain ⟨a, vs, rfl, hl, hd⟩ := x.list
    cases y
    obtain ⟨u, hu, hr⟩ := hd.get q2
    exact ⟨wpAny_getItem_list hl h0 (by omega) (by simpa using hu) (hQ u s.toks hr), _, _, hl.typeIs, list_getitem_lookup⟩
  | tup l =>
    obtain ⟨i, hj, q1⟩ := Option.bind_eq_some_iff.mp q
    cases PV.int?_inv hj
    obtain ⟨h0, h1, q2⟩ := okAt_inv q1
    obtain ⟨a, vs, rfl, hl, hd, _⟩ := x.tup
    have hl' : IsTup s.heap a vs.toArray := hl
    cases y
    obtain ⟨u, hu, hr⟩ := hd.get q2
    have hlt : i.toNat < vs.length := (List.getElem?_eq_some_iff.mp hu).1
    refine ⟨PyProof.Rows.getItem_tuple hl' (by omega) (by omega) (j := i.toNat) ?_ (by simpa using hu) (hQ u s.toks hr), _, _, hl'.typeIs, slot_tuple_getitem.lookup⟩
    rw [List.size_toArray]
    exact seqIndex_at h0 hlt
  | str z =>
    obtain ⟨i, hj, q1⟩ := Option.bind_eq_some_iff.mp q
    cases PV.int?_inv hj
    obtain ⟨h0, h1, q2⟩ := okAt_inv q1
    obtain ⟨t, rfl⟩ := x.str
    cases y
    obtain ⟨c, hc, rfl⟩ := Option.map_eq_some_iff.mp q2
    refine ⟨PyProof.Rows.getItem_str (c := c) ?_ ?_ (hQ _ _ (.str _ _)), _, _, typeIs_str s _ _, F.slot_str_getitem.lookup⟩
    · simp; omega
    · have hlt : i.toNat < z.length := (Array.getElem?_eq_some_iff.mp hc).1
      rw [seqIndex_at h0 hlt]; exact hc
  | dict l =>
    obtain ⟨kk, hk, q1⟩ := Option.bind_eq_some_iff.mp q
    obtain ⟨a, kvs, rfl, hs, hm, he, hd⟩ := x.dict
    rcases valueAt_den he hd kk with ⟨g1, _⟩ | ⟨u, z, g1, g2, g3⟩
    · rw [g1] at q1; cases q1
    · rw [g1] at q1; cases q1
      exact ⟨wpAny_getItem_of (y.key hk) hm.mapOf g2 (hQ _ _ g3), _, _, hm.typeIs, slot_dict_getitem.lookup⟩
  | _ => nomatch q
theorem pget_sound {v k : Value} {d e r : PV} {value slice : Expr} (x : DenB prog w C s.heap X v d) (y : Den prog w C s.heap X k e) (q : pget d e = some r) (hs : ∀ a b c d, slice ≠ .Slice a b c d)
    (hQ : ∀ u tk, Den prog w C s.heap X u r → Q u { s with toks := tk }) : wpAny (model prog w) A (subscriptTail value slice v k) Q E s := by
  obtain ⟨h, T, id, hT, hl⟩ := pget_item (A := A) (E := E) (Q := Q) x y q hQ
  exact tail_any hT hl h (getItem_not_slice hs v k)
theorem pints_are {h : Heap} {vs : List Value} : ∀ {ds : List PV} {ns : List Int}, DenAll prog w C h X vs ds → pints ds = some ns → IntsAre vs ns := by
  induction vs with
  | nil => intro ds ns x q; cases x; cases q; exact .nil
  | cons v vs ih =>
    intro ds ns x q
    cases x with
    | cons a r =>
      obtain ⟨i, ms, h1, hm, q1⟩ := both_inv q
      cases q1
      cases PV.int?_inv h1
      cases a
      exact .cons _ _ (ih r hm)
theorem pmax_ge (a : Int) : ∀ (l : List Int) (b : Int), (∀ x ∈ l, x ≤ pmax b l) ∧ b ≤ pmax b l ∧ (pmax b l = b ∨ pmax b l ∈ l)
  | [], b => ⟨fun _ h => (nomatch h), Int.le_refl _, .inl rfl⟩
  | x :: l, b => by
    obtain ⟨h1, h2, h3⟩ := pmax_ge a l (if b < x then x else b)
    simp only [pmax]
    refine ⟨fun y hy => ?_, ?_, ?_⟩
    · rcases List.mem_cons.mp hy with rfl | hy
      · split at h2 <;> split <;> omega
      · exact h1 y hy
    · split at h2 <;> split <;> omega
    · rcases h3 with h3 | h3
      · split at h3
        · exact .inr (by rw [if_pos (by assumption)]; rw [h3]; exact List.mem_cons_self)
        · exact .inl (by rw [if_neg (by assumption)]; exact h3)
      · exact .inr (List.mem_cons_of_mem _ h3)
theorem pmax_unique {a : Int} {l : List Int} {M : Int} (h1 : M ∈ a :: l) (h2 : ∀ x ∈ a :: l, x ≤ M) : M = pmax a l := by
  obtain ⟨g1, g2, g3⟩ := pmax_ge a l a
  have : M ≤ pmax a l := by
    rcases List.mem_cons.mp h1 with rfl | h
    · exact g2
    · exact g1 M h
  have : pmax a l ≤ M := by
    rcases g3 with g3 | g3
    · rw [g3]; exact h2 a List.mem_cons_self
    · exact h2 _ (List.mem_cons_of_mem _ g3)
  omega
theorem pbuilt_len {v : Value} {d r : PV} (hX : s.heap.objs.size ∉ X) (hh : A.handled = none) (x : DenB prog w C s.heap X v d) (q : plen d = some r)
    (hQ : ∀ u h' tk, Ext s.heap h' → Den prog w C h' X u r → Q u { s with heap := h', toks := tk }) : wpAny (model prog w) A (call (.builtin "len") [v]) Q E s := by
  cases d with
  | list l =>
    by_cases hl0 : l.length < 1000000000
    · cases (if_pos hl0).symm.trans q
      obtain ⟨a, vs, rfl, hl, hd⟩ := x.list
      have l1 := hd.length
      refine call_len_list hl (by rw [List.size_toArray]; omega) (hQ _ s.heap _ (Ext.refl _) ?_)
      rw [List.size_toArray, l1]
      exact .int _ _
    · cases (if_neg hl0).symm.trans q
  | str z =>
    by_cases hl0 : z.length < 1000000000
    · cases (if_pos hl0).symm.trans q
      obtain ⟨t, rfl⟩ := x.str
      exact PyProof.Rows.len_str (by omega) (hQ _ s.heap _ (Ext.refl _) (.int _ _))
    · cases (if_neg hl0).symm.trans q
  | _ => nomatch q
theorem pbuilt_sum {v : Value} {d r : PV} (hh : A.handled = none) (x : DenB prog w C s.heap X v d) (q : psum d = some r)
    (hQ : ∀ u h' tk, Ext s.heap h' → Den prog w C h' X u r → Q u { s with heap := h', toks := tk }) : wpAny (model prog w) A (call (.builtin "sum") [v]) Q E s := by
  obtain ⟨l, h1, q1⟩ := Option.bind_eq_some_iff.mp q
  cases PV.list?_inv h1
  obtain ⟨ns, hn, rfl⟩ := Option.map_eq_some_iff.mp q1
  obtain ⟨a, vs, rfl, hl, hd⟩ := x.list
  have hi := pints_are hd hn
  obtain ⟨xs, hxs⟩ := hi.allInts.items
  rw [hxs] at hl
  refine sum_intListG hh hl fun h' tk t' hk => ?_
  have e : preSum (numAt xs) xs.size = ns.sum := by
    rw [preSum_eq, List.take_of_length_le (by simp), ← nums_intItems, ← hxs]
    show (numsOf vs).sum = _
    rw [hi.numsOf]
  rw [e]
  exact hQ _ h' tk hk (.int _ _)
theorem pbuilt_max {v : Value} {d r : PV} (hh : A.handled = none) (x : DenB prog w C s.heap X v d) (q : pmaxv d = some r)
    (hQ : ∀ u h' tk, Ext s.heap h' → Den prog w C h' X u r → Q u { s with heap := h', toks := tk }) : wpAny (model prog w) A (call (.builtin "max") [v]) Q E s := by
  obtain ⟨l, h1, q1⟩ := Option.bind_eq_some_iff.mp q
  cases PV.list?_inv h1
  obtain ⟨ns, hn, q2⟩ := Option.bind_eq_some_iff.mp q1
  obtain ⟨a, vs, rfl, hl, hd⟩ := x.list
  have hi := pints_are hd hn
  obtain ⟨xs, hxs⟩ := hi.allInts.items
  rw [hxs] at hl
  have en : xs.toList.map (·.1) = ns := by
    rw [← nums_intItems, ← hxs]
    show numsOf vs = _
    exact hi.numsOf
  have hlen : xs.size = ns.length := by rw [← en]; simp
  cases ns with
  | nil => nomatch q2
  | cons n ns =>
    cases q2
    refine max_intList hh hl (by rw [hlen]; simp) fun u h' tk hu hk => ?_
    obtain ⟨b1, b2⟩ := argBest_gt (numAt xs) (xs.size - 1)
    obtain ⟨t, ht⟩ := intItems_at hu
    rw [ht]
    have hM : numAt xs (argBest (fun i j => decide (numAt xs i > numAt xs j)) (xs.size - 1)) = pmax n ns := by
      refine pmax_unique ?_ ?_
      · rw [numAt_eq, en]
        exact getD_mem (by rw [← hlen]; have : 0 < xs.size := by rw [hlen]; simp
                           omega)
      · intro y hy
        obtain ⟨j, hj, rfl⟩ := mem_getD hy
        rw [← en, ← numAt_eq]
        exact b2 j (by rw [← hlen] at hj; omega)
    rw [hM]
    exact hQ _ h' tk hk (.int _ _)
theorem pbuilt_tuple {v : Value} {d r : PV} (hX : ∀ h' : Heap, Ext s.heap h' → h'.objs.size ∉ X) (x : DenB prog w C s.heap X v d) (q : ptuple d = some r)
    (hQ : ∀ u h' tk, Ext s.heap h' → Den prog w C h' X u r → Q u { s with heap := h', toks := tk }) : wpAny (model prog w) A (call (.type "tuple") [v]) Q E s := by
  obtain ⟨l, h1, q1⟩ := Option.bind_eq_some_iff.mp q
  cases PV.list?_inv h1
  by_cases hlt : l.length < 1000000
  · cases (if_pos hlt).symm.trans q1
    obtain ⟨a, vs, rfl, hl, hd⟩ := x.list
    have l1 := hd.length
    refine call_tuple_list hl (fun h' hk => ?_) (by rw [List.size_toArray, sizeLine_eq]; omega)
    have hk' : Ext s.heap (h'.push { cls := .type "tuple", data := .seq vs.toArray }) := Ext.trans hk (Ext.push _ _)
    exact hQ _ _ s.toks hk' (.tup (hX h' hk) ⟨_, Heap.get?_push_size _ rfl, rfl, 0, rfl⟩ (hd.ext hk'))
  · cases (if_neg hlt).symm.trans q1
theorem pslice_sound {v vl vu vt : Value} {d r : PV} {lo hi st : Option Int} {value : Expr} {a b c : Option Expr} {p : Pos} (hX : ∀ h' : Heap, Ext s.heap h' → h'.objs.size ∉ X)
    (x : DenB prog w C s.heap X v d) (pl : IsPart vl lo) (pu : IsPart vu hi) (pt : IsPart vt st) (q : pslice d lo hi st = some r)
    (hQ : ∀ u h' tk, Ext s.heap h' → Den prog w C h' X u r → Q u { s with heap := h', toks := tk }) :
    wpAny (model prog w) A (subscriptTail value (.Slice a b c p) v (.ref s.heap.objs.size)) Q E { s with heap := s.heap.push { cls := .type "slice", data := .fields #[vl, vu, vt] } } := by
  have hsub : ∃ ops, subscripted (.Slice a b c p) false v (.ref s.heap.objs.size) = operate ops (getItem v (.ref s.heap.objs.size)) := by
    cases c <;> exact ⟨_, rfl⟩
  obtain ⟨ops, hsub⟩ := hsub
  have hp := Ext.push s.heap { cls := .type "slice", data := .fields #[vl, vu, vt] }
  have hsl := Heap.IsSliceOf.new s.heap vl vu vt
  have x' := x.ext hp
  generalize hH : s.heap.push { cls := .type "slice", data := .fields #[vl, vu, vt] } = H at hp hsl x' ⊢
  cases d with
  | list l =>
    by_cases hg : okCut lo hi l.length
    · have q1 := (if_pos hg).symm.trans q
      obtain ⟨a', vs, rfl, hl, hd⟩ := x'.list
      have l1 := hd.length
      have hln := hg.2.2.2.2
      cases st with
      | none =>
        cases q1
        refine tail_any (s := { s with heap := H }) (T := "list") (Heap.IsList.typeIs (s := { s with heap := H }) hl) list_getitem_lookup (wpAny_getItem_list_slice (s := { s with heap := H }) hl hsl pl pu pt (by simp) ?_ (by rw [List.size_toArray, sizeLine_eq]; omega)) hsub
        rw [slicePick_cut vs lo hi hg.1 hg.2.2.1]
        refine hQ _ _ s.toks (hp.trans (Ext.push _ _)) (.list (hX H hp) ⟨_, Heap.get?_push_size _ rfl, rfl, 0, rfl⟩ ?_)
        have := (hd.cut (lo.getD 0).toNat (hi.getD vs.length).toNat).ext (Ext.push H { cls := .type "list", data := .seq (cutL vs (lo.getD 0).toNat (hi.getD vs.length).toNat).toArray })
        rw [l1] at this ⊢
        exact this
      | some n =>
        by_cases hn : 0 < n ∧ n < 1000 ∧ hi = none
        · cases (if_pos hn).symm.trans q1
          obtain ⟨hn1, hn2, rfl⟩ := hn
          refine tail_any (s := { s with heap := H }) (T := "list") (Heap.IsList.typeIs (s := { s with heap := H }) hl) list_getitem_lookup (wpAny_getItem_list_slice (s := { s with heap := H }) hl hsl pl pu pt (by simp; omega) ?_ (by rw [List.size_toArray, sizeLine_eq]; omega)) hsub
          rw [slicePick_step vs lo n hg.1 hn1]
          exact hQ _ _ s.toks (hp.trans (Ext.push _ _)) (.list (hX H hp) ⟨_, Heap.get?_push_size _ rfl, rfl, 0, rfl⟩ (((hd.drop _).every _ 0).ext (Ext.push _ _)))
        · cases (if_neg hn).symm.trans q1
    · cases (if_neg hg).symm.trans q
  | tup l =>
    cases st with
    | some n => nomatch q
    | none =>
    by_cases hg : okCut lo hi l.length
    · cases (if_pos hg).symm.trans q
      obtain ⟨a', vs, rfl, hl, hd, hax⟩ := x'.tup
      have l1 := hd.length
      have hln := hg.2.2.2.2
      have hl' : IsTup H a' vs.toArray := hl
      cases pt
      refine tail_any (s := { s with heap := H }) (T := "tuple") (IsTup.typeIs (s := { s with heap := H }) hl') slot_tuple_getitem.lookup (tuple_cut (s := { s with heap := H }) hl hsl pl pu hg.1 hg.2.2.1 (by rw [sizeLine_eq]; omega) (fun hw => ?_) ?_) hsub
      · refine hQ _ H s.toks hp ?_
        have := hd.cut (lo.getD 0).toNat (hi.getD vs.length).toNat
        rw [hw, l1] at this
        exact .tup hax hl this
      · refine hQ _ _ s.toks (hp.trans (Ext.push _ _)) (.tup (hX H hp) ⟨_, Heap.get?_push_size _ rfl, rfl, 0, rfl⟩ ?_)
        have := (hd.cut (lo.getD 0).toNat (hi.getD vs.length).toNat).ext (Ext.push H { cls := .type "tuple", data := .seq (cutL vs (lo.getD 0).toNat (hi.getD vs.length).toNat).toArray })
        rw [l1] at this ⊢
        exact this
    · cases (if_neg hg).symm.trans q
  | str z =>
    cases st with
    | some n => nomatch q
    | none =>
    by_cases hg : okCut lo hi z.length
    · cases (if_pos hg).symm.trans q
      have hln := hg.2.2.2.2
      obtain ⟨t, rfl⟩ := x'.str
      cases pt
      obtain ⟨p1, rfl, e1⟩ := part_of pl
      obtain ⟨p2, rfl, e2⟩ := part_of pu
      have hlen : z.cps.toList.length = z.length := by simp [Str.length]
      have hsl' : H.IsSlice s.heap.objs.size p1 p2 none := by
        rw [← hH]; exact ⟨_, Heap.get?_push_size _ rfl, rfl, rfl⟩
      refine tail_any (s := { s with heap := H }) (T := "str") (typeIs_str _ z t) F.slot_str_getitem.lookup (wpAny_getItem_str_slice (s := { s with heap := H }) hsl' rfl ?_) hsub
      have ep : (slicePicked z p1 p2 none).filterMap (z.cps[·]?) = cutL z.cps.toList (lo.getD 0).toNat (hi.getD z.length).toNat := by
        unfold slicePicked
        rw [e1, e2]
        exact strPick_cut z lo hi hg.1 hg.2.2.1
      unfold sliceMade
      split
      · rename_i hw
        rw [Bool.and_eq_true, beq_iff_eq, beq_iff_eq] at hw
        show Q _ _
        unfold slicePicked at hw
        rw [e1, e2] at hw
        have hz := strPick_whole z lo hi hg.1 hg.2.2.1 hw.2
        rw [hz] at hQ
        exact hQ _ H s.toks hp (.str _ _)
      · rw [ep]
        refine ⟨?_, hQ _ H _ hp (.str _ _)⟩
        show (cutL z.cps.toList (lo.getD 0).toNat (hi.getD z.length).toNat).toArray.size ≤ sizeLine
        have : (cutL z.cps.toList (lo.getD 0).toNat (hi.getD z.length).toNat).length ≤ z.cps.toList.length := by
          unfold cutL
          exact Nat.le_trans (List.length_take_le' _ _) (by rw [List.length_drop]; omega)
        rw [List.size_toArray, sizeLine_eq]
        omega
    · cases (if_neg hg).symm.trans q
  | _ => nomatch q
end
end Mine
end
section
set_option maxRecDepth 100000
namespace Mine
open PySem PySem.Spec PySem.Calls PyProof.Rows PySem.SeqAt PySem.W
structure Ctx (prog : Program) (w : World) (C : Addr) (T : Tx) (n : Nat) (h₀ : Heap) (env : Env) (c : Cx) (X : List Addr) (ad : Str → Option Addr) (σ : St) (A : Around) (h : Heap) : Prop where
  rm : Rm n A
  ok : EnvOk env c
  g0 : Glo T C h₀
  inv : Inv prog w C h₀ env c h X ad σ
section
variable {prog : Program} {w : World} {C : Addr} {T : Tx} {n : Nat} {h₀ : Heap} {env : Env} {c : Cx} {X : List Addr} {ad : Str → Option Addr} {σ : St} {A : Around} {h h' : Heap}
theorem Ctx.glo (K : Ctx prog w C T n h₀ env c X ad σ A h) : Glo T C h := K.g0.ext K.inv.keep
theorem Ctx.ext (K : Ctx prog w C T n h₀ env c X ad σ A h) (e : Ext h h') : Ctx prog w C T n h₀ env c X ad σ A h' := ⟨K.rm, K.ok, K.g0, K.inv.ext e⟩
theorem Ctx.off (K : Ctx prog w C T n h₀ env c X ad σ A h) (e : Ext h h') : h'.objs.size ∉ X := (K.inv.ext e).size_off
end
noncomputable def okE : Expr → Bool
  | .Starred .. => false
  | .Set .. => false
  | .Slice .. => false
  | .SetComp .. => false
  | _ => true
/-- the words that one call brings forth -/
noncomputable def CallOk (prog : Program) (w : World) (C : Addr) (T : Tx) (n : Nat) (I : Itp) : Prop :=
  ∀ (f : Str) (d : Def), (T.D ++ T.M).find? (fun d => decide (d.name = f)) = some d → ∀ {X : List Addr} {A : Around} {s : Shared} {R : Result → Shared → Prop} {a : Addr} {vals : List Value} {ds : List PV} {r : PV}, Rm n A → Glo T C s.heap → FnAt s.heap a d →
    (∀ b ∈ X, ∃ o, s.heap.get? b = some o) → DenAll prog w C s.heap X vals ds → I.cl f ds = some r →
    (∀ v h' tk, Ext s.heap h' → Den prog w C h' X v r → R (.ok (.ret v)) { s with heap := h', toks := tk }) → codeAny (model prog w) A (.call (.ref a) ⟨vals, []⟩) R s
/-- what a statement leaves -/
structure Stp (P : Addr → Prop) (h : Heap) (X : List Addr) (ad : Str → Option Addr) (h' : Heap) (X' : List Addr) (ad' : Str → Option Addr) : Prop where
  eff : Eff P h h'
  sub : ∀ b ∈ X, b ∈ X'
  new : ∀ b ∈ X', b ∈ X ∨ h.get? b = none
  adn : ∀ x a, ad' x = some a → ad x = some a ∨ h.get? a = none
/-- what a body gives back -/
noncomputable def FlowIs (prog : Program) (w : World) (C : Addr) (h₀ : Heap) (h' : Heap) (X : List Addr) : Flo → Flow → Prop
  | .next, f => f = .next
  | .ret d, f => ∃ v, f = .ret v ∧ ∀ Y : List Addr, (∀ b ∈ Y, b ∈ X ∧ ∃ o, h₀.get? b = some o) → Den prog w C h' Y v d
noncomputable def StPost (prog : Program) (w : World) (C : Addr) (h₀ : Heap) (env : Env) (c : Cx) (X : List Addr) (ad : Str → Option Addr) (s : Shared) (fl : Flo) (σ' : St) (Q : Flow → Shared → Prop) : Prop :=
  ∀ h' tk X' ad' f, Inv prog w C h₀ env c h' X' ad' σ' → Stp (Wr env c ad) s.heap X ad h' X' ad' → FlowIs prog w C h₀ h' X fl f → Q f { s with heap := h', toks := tk }
section
variable {prog : Program} {w : World} {C : Addr} {h₀ : Heap} {env : Env} {c : Cx} {X X₁ X₂ : List Addr} {ad ad₁ ad₂ : Str → Option Addr} {h h₁ h₂ : Heap} {σ : St}
theorem Stp.of_ext {P : Addr → Prop} (e : Ext h h₁) : Stp P h X ad h₁ X ad := ⟨Eff.of_ext e, fun _ h => h, fun _ h => .inl h, fun _ _ h => .inl h⟩
theorem Stp.wr_back (x : Stp (Wr env c ad) h X ad h₁ X₁ ad₁) {b : Addr} {o : Obj} (e : h.get? b = some o) (p : Wr env c ad₁ b) : Wr env c ad b := by
  rcases p with p | p | ⟨y, p⟩
  · exact .inl p
  · exact .inr (.inl p)
  · rcases x.adn y b p with q | q
    · exact .inr (.inr ⟨y, q⟩)
    · rw [q] at e; cases e
theorem Stp.none_back {σ₁ : St} (x : Stp (Wr env c ad) h X ad h₁ X₁ ad₁) (J : Inv prog w C h₀ env c h X ad σ) (J₁ : Inv prog w C h₀ env c h₁ X₁ ad₁ σ₁) {b : Addr} (hb : h₁.get? b = none) : h.get? b = none := by
  cases e : h.get? b with
  | none => rfl
  | some o =>
    by_cases hX : b ∈ X
    · obtain ⟨o', z⟩ := J₁.live b (x.sub b hX)
      rw [hb] at z; cases z
    · rw [x.eff b o (fun p => hX (by
        rcases p with rfl | ⟨y, hy, e⟩ | ⟨y, e⟩
        · exact J.Lx
        · obtain ⟨a, v, p, q, r, _⟩ := J.cells y hy
          rw [e] at p; cases p; exact r
        · exact (J.adX y b e).1)) e] at hb; cases hb
theorem Stp.trans {σ₁ : St} (J : Inv prog w C h₀ env c h X ad σ) (J₁ : Inv prog w C h₀ env c h₁ X₁ ad₁ σ₁) (x : Stp (Wr env c ad) h X ad h₁ X₁ ad₁) (y : Stp (Wr env c ad₁) h₁ X₁ ad₁ h₂ X₂ ad₂) : Stp (Wr env c ad) h X ad h₂ X₂ ad₂ where
  eff := fun b o hb e => y.eff b o (fun p => hb (x.wr_back e p)) (x.eff b o hb e)
  sub := fun b hb => y.sub b (x.sub b hb)
  new := fun b hb => by
    rcases y.new b hb with q | q
    · exact x.new b q
    · exact .inr (x.none_back J J₁ q)
  adn := fun z a e => by
    rcases y.adn z a e with q | q
    · exact x.adn z a q
    · exact .inr (x.none_back J J₁ q)
theorem FlowIs.sub {fl : Flo} {f : Flow} (x : FlowIs prog w C h₀ h X₁ fl f) (hs : ∀ b ∈ X, b ∈ X₁) : FlowIs prog w C h₀ h X fl f := by
  cases fl with
  | next => exact x
  | ret d => obtain ⟨v, h1, h2⟩ := x; exact ⟨v, h1, fun Y hY => h2 Y fun b hb => ⟨hs b (hY b hb).1, (hY b hb).2⟩⟩
end
noncomputable def isComp : Expr → Bool
  | .ListComp .. => true
  | .DictComp .. => true
  | _ => false
structure Sound (prog : Program) (w : World) (C : Addr) (T : Tx) (n : Nat) (I : Itp) : Prop where
  dom : ∀ {c σ e d}, I.ev c σ e = some d → okE e = true
  ev : ∀ {h₀ env c X ad σ A} {s : Shared} {E : Value → Shared → Prop} {Q : Value → Shared → Prop} {e d}, Ctx prog w C T n h₀ env c X ad σ A s.heap → I.ev c σ e = some d →
    (∀ v h' tk, Ext s.heap h' → Den prog w C h' X v d → Q v { s with heap := h', toks := tk }) → wpAny (model prog w) A (eval e env) Q E s
  fr : ∀ {h₀ env c X ad σ A} {s : Shared} {E : Value → Shared → Prop} {Q : Value → Shared → Prop} {e d}, Ctx prog w C T n h₀ env c X ad σ A s.heap → isFresh e = true → I.ev c σ e = some d →
    (∀ a h' tk, Ext s.heap h' → s.heap.get? a = none → ownD prog w C h' (a :: X) a d → Q (.ref a) { s with heap := h', toks := tk }) → wpAny (model prog w) A (eval e env) Q E s
  us : ∀ {h₀ env c X ad σ A} {s : Shared} {E : Value → Shared → Prop} {Q : Unit → Shared → Prop} {u : Value → Sem Unit} {e d}, Ctx prog w C T n h₀ env c X ad σ A s.heap → isComp e = true → I.ev c σ e = some d →
    (∀ a C' h' tk m, Ext s.heap h' → s.heap.get? a = none → s.heap.get? C' = none → a ≠ C' → ownD prog w C h' (a :: C' :: X) a d → h'.Ns C' m →
      wpAny (model prog w) A (u (.ref a)) (fun _ s'' => ∃ m, s''.heap.Ns C' m ∧ ∀ h'', Heap.SameBut C' s''.heap h'' → Q () { s'' with heap := h'' }) E { s with heap := h', toks := tk }) →
    wpAny (model prog w) A (evalThenUse e env u) Q E s
  ts : ∀ {h₀ env c X ad σ A} {s : Shared} {E : Value → Shared → Prop} {Q : Bool → Shared → Prop} {e b}, Ctx prog w C T n h₀ env c X ad σ A s.heap → I.ts c σ e = some b →
    (∀ h' tk, Ext s.heap h' → Q b { s with heap := h', toks := tk }) → wpAny (model prog w) A (isTrue e env (eval e env)) Q E s
  ex : ∀ {h₀ env c X ad σ A} {s : Shared} {E : Value → Shared → Prop} {Q : Flow → Shared → Prop} {body fl σ'}, Ctx prog w C T n h₀ env c X ad σ A s.heap → I.ex c σ body = some (fl, σ') →
    StPost prog w C h₀ env c X ad s fl σ' Q → wpAny (model prog w) A (execs body env) Q E s
  cl : CallOk prog w C T n I
section
variable {prog : Program} {w : World} {C : Addr} {T : Tx} {n : Nat} {I : Itp} {h₀ : Heap} {env : Env} {c : Cx} {X : List Addr} {ad : Str → Option Addr} {σ : St} {A : Around} {s : Shared} {E : Value → Shared → Prop}
theorem evB_cases {e : Expr} {d : PV} (q : evB I c σ e = some d) : (∃ x p lv, e = .Name x p ∧ σ.get c x = some lv ∧ lv.d = d) ∨ I.ev c σ e = some d := by
  unfold evB at q
  cases h : asName e with
  | some x =>
    rw [h] at q
    obtain ⟨p, rfl⟩ := asName_inv h
    obtain ⟨lv, hl, hd⟩ := Option.map_eq_some_iff.mp q
    exact .inl ⟨x, p, lv, rfl, hl, hd⟩
  | none => rw [h] at q; exact .inr q
theorem evB_sound {Q : Value → Shared → Prop} {e : Expr} {d : PV} (S : Sound prog w C T n I) (K : Ctx prog w C T n h₀ env c X ad σ A s.heap) (q : evB I c σ e = some d)
    (hQ : ∀ v h' tk, Ext s.heap h' → DenB prog w C h' X v d → Q v { s with heap := h', toks := tk }) : wpAny (model prog w) A (eval e env) Q E s := by
  rcases evB_cases q with ⟨x, p, lv, rfl, hl, rfl⟩ | q
  · exact name_lv K.ok K.inv hl fun v hv => hQ v s.heap s.toks (Ext.refl _) (hv.denB K.inv)
  · exact S.ev K q fun v h' tk e x => hQ v h' tk e (.inl x)
theorem evB_ok {e : Expr} {d : PV} (S : Sound prog w C T n I) (q : evB I c σ e = some d) : okE e = true := by
  rcases evB_cases q with ⟨x, p, lv, rfl, hl, rfl⟩ | q
  · rfl
  · exact S.dom q
theorem star_cons {e : Expr} {es : List Expr} {pos : Pos} (h : okE e = true) : backTo pos (starEach (e :: es) env) = (false, eval e env) :: backTo pos (starEach es env) := by
  cases e <;> first | rfl | cases h
theorem evAll_sound {pos : Pos} (S : Sound prog w C T n I) : ∀ {es : List Expr} {ds : List PV} {s : Shared} {Q : List Value → Shared → Prop}, Ctx prog w C T n h₀ env c X ad σ A s.heap → evAll I c σ es = some ds →
    (∀ vs h' tk, Ext s.heap h' → DenAll prog w C h' X vs ds → Q vs { s with heap := h', toks := tk }) → wpAny (model prog w) A (spliced (backTo pos (starEach es env))) Q E s
  | [], ds, s, Q, _, q, hQ => by
    cases q
    exact spliced_nil (hQ [] s.heap s.toks (Ext.refl _) .nil)
  | e :: es, ds, s, Q, K, q, hQ => by
    obtain ⟨d, ds', hd, hds, q1⟩ := both_inv q
    cases q1
    rw [star_cons (S.dom hd)]
    refine spliced_cons (S.ev K hd fun v h' tk e x => ?_)
    refine evAll_sound S (s := { s with heap := h', toks := tk }) (K.ext e) hds fun vs h'' tk' e' xs => ?_
    exact hQ (v :: vs) h'' tk' (e.trans e') (.cons (x.ext e') xs)
theorem evAll_length (I : Itp) (c : Cx) (σ : St) : ∀ {es : List Expr} {ds : List PV}, evAll I c σ es = some ds → ds.length = es.length
  | [], ds, q => by cases q; rfl
  | e :: es, ds, q => by
    obtain ⟨d, ds', hd, hds, q1⟩ := both_inv q
    cases q1
    rw [List.length_cons, List.length_cons, evAll_length I c σ hds]
theorem evOptInt_sound {Q : Value → Shared → Prop} {e : Option Expr} {o : Option Int} (S : Sound prog w C T n I) (K : Ctx prog w C T n h₀ env c X ad σ A s.heap) (q : evOptInt I c σ e = some o)
    (hQ : ∀ v h' tk, Ext s.heap h' → IsPart v o → Q v { s with heap := h', toks := tk }) : wpAny (model prog w) A (evalPart e env) Q E s := by
  cases e with
  | none => cases q; exact wpAny_pure (hQ _ s.heap s.toks (Ext.refl _) .none)
  | some e =>
    obtain ⟨d, hd, q1⟩ := Option.bind_eq_some_iff.mp q
    obtain ⟨i, hi, rfl⟩ := Option.map_eq_some_iff.mp q1
    cases PV.int?_inv hi
    refine evB_sound S K hd fun v h' tk e x => ?_
    obtain ⟨t, rfl⟩ := x.int
    exact hQ _ h' tk e (.int _ _)
theorem pconst_sound {Q : Value → Shared → Prop} {k : Const} {kk : Nat} {p : Pos} {d : PV} (q : pconst k = some d)
    (hQ : ∀ v h' tk, Ext s.heap h' → Den prog w C h' X v d → Q v { s with heap := h', toks := tk }) : wpAny (model prog w) A (eval (.Constant k kk p) env) Q E s := by
  cases k with
  | none => cases q; exact wpAny_Constant_none (hQ _ s.heap s.toks (Ext.refl _) .none)
  | bool => cases q; exact wpAny_Constant_bool (hQ _ s.heap s.toks (Ext.refl _) (.bool _))
  | int => cases q; exact wpAny_Constant_int (hQ _ s.heap _ (Ext.refl _) (.int _ _))
  | str => cases q; exact wpAny_Constant_str (hQ _ s.heap _ (Ext.refl _) (.str _ _))
  | _ => nomatch q
theorem bin_sound {Q : Value → Shared → Prop} {l r : Expr} {op : Operator} {p : Pos} {a b d : PV} (S : Sound prog w C T n I) (K : Ctx prog w C T n h₀ env c X ad σ A s.heap) (ql : evB I c σ l = some a) (qr : evB I c σ r = some b) (q : pbin op a b = some d)
    (hQ : ∀ v h' tk, Ext s.heap h' → Den prog w C h' X v d → Q v { s with heap := h', toks := tk }) : wpAny (model prog w) A (eval (.BinOp l op r p) env) Q E s := by
  refine wpAny_BinOp (evB_sound S K ql fun v h' tk e x => ?_)
  refine evB_sound (s := { s with heap := h', toks := tk }) S (K.ext e) qr fun v' h'' tk' e' y => ?_
  refine pbin_sound (s := { s with heap := h'', toks := tk' }) (K.off (e.trans e')) (x.ext e') y q fun u h3 tk3 e3 z => ?_
  exact hQ u h3 tk3 (e.trans (e'.trans e3)) z
theorem marks_false {op : CmpOp} {r : Expr} (h : okE r = true) : behindInMarks op r = false := by
  cases r <;> first | rfl | cases h
theorem cmp_units (R : Rm n A) : A.units + 50 < cLine := by have := R.units; unfold cLine; omega
theorem cmp_sound {Q : Value → Shared → Prop} {l r : Expr} {op : CmpOp} {p : Pos} {a b : PV} {d : Bool} (S : Sound prog w C T n I) (K : Ctx prog w C T n h₀ env c X ad σ A s.heap) (ql : evB I c σ l = some a) (qr : evB I c σ r = some b)
    (q : pcmp op a b = some d) (hQ : ∀ v h' tk, Ext s.heap h' → Den prog w C h' X v (.bool d) → Q v { s with heap := h', toks := tk }) : wpAny (model prog w) A (eval (.Compare l [op] [r] p) env) Q E s := by
  refine wpAny_Compare1 (evB_sound S K ql fun v h' tk e x => ?_) (marks_false (evB_ok S qr))
  refine evB_sound (s := { s with heap := h', toks := tk }) S (K.ext e) qr fun v' h'' tk' e' y => ?_
  refine pcmp_sound (s := { s with heap := h'', toks := tk' }) (x.ext e') y q (cmp_units K.rm) fun tk'' => ?_
  exact hQ _ h'' tk'' (e.trans e') (.bool _)
theorem cmpT_sound {Q : Bool → Shared → Prop} {l r : Expr} {op : CmpOp} {p : Pos} {a b : PV} {d : Bool} {whole : Sem Value} (S : Sound prog w C T n I) (K : Ctx prog w C T n h₀ env c X ad σ A s.heap) (ql : evB I c σ l = some a) (qr : evB I c σ r = some b)
    (q : pcmp op a b = some d) (hQ : ∀ h' tk, Ext s.heap h' → Q d { s with heap := h', toks := tk }) : wpAny (model prog w) A (isTrue (.Compare l [op] [r] p) env whole) Q E s := by
  rw [isTrue_Compare1]
  refine wpAny_bind (evB_sound S K ql fun v h' tk e x => ?_)
  have hm : markedBehindIn op r (eval r env) = eval r env := by
    unfold markedBehindIn
    rw [marks_false (evB_ok S qr)]
  rw [hm]
  refine wpAny_bind (wpAny_holding (evB_sound (s := { s with heap := h', toks := tk }) S (K.ext e) qr fun v' h'' tk' e' y => ?_))
  refine wpAny_bind (wpAny_standAt (wpAny_bind (PySem.wpAny_operating ?_)))
  refine pcmp_sound (s := { s with heap := h'', toks := tk' }) (x.ext e') y q (cmp_units K.rm) fun tk'' => ?_
  exact wpAny_holding (wpAny_truthy_bool (hQ h'' tk'' (e.trans e')))
theorem un_sound {Q : Value → Shared → Prop} {x : Expr} {op : UnaryOp} {p : Pos} {d : PV} (S : Sound prog w C T n I) (K : Ctx prog w C T n h₀ env c X ad σ A s.heap) (q : evUn I c σ op x = some d)
    (hQ : ∀ v h' tk, Ext s.heap h' → Den prog w C h' X v d → Q v { s with heap := h', toks := tk }) : wpAny (model prog w) A (eval (.UnaryOp op x p) env) Q E s := by
  obtain ⟨d', hd, q1⟩ := Option.bind_eq_some_iff.mp q
  cases op with
  | USub =>
    obtain ⟨i, hi, rfl⟩ := Option.map_eq_some_iff.mp q1
    cases PV.int?_inv hi
    refine wpAny_UnaryOp (evB_sound S K hd fun v h' tk e z => ?_)
    obtain ⟨t, rfl⟩ := z.int
    exact PyProof.Rows.neg_int (hQ _ h' _ e (.int _ _))
  | Not =>
    obtain ⟨b, hb, rfl⟩ := Option.map_eq_some_iff.mp q1
    refine wpAny_UnaryOp (evB_sound S K hd fun v h' tk e z => ?_)
    exact not_of (ptruth_sound (s := { s with heap := h', toks := tk }) z hb (hQ _ h' tk e (.bool _)))
  | _ => nomatch q1
theorem bool_sound {op : BoolOp} {p : Pos} (S : Sound prog w C T n I) : ∀ {es : List Expr} {d : PV} {s : Shared} {Q : Value → Shared → Prop}, Ctx prog w C T n h₀ env c X ad σ A s.heap → evBool I c σ op es = some d →
    (∀ v h' tk, Ext s.heap h' → Den prog w C h' X v d → Q v { s with heap := h', toks := tk }) → wpAny (model prog w) A (boolOp p op (evalEach es env)) Q E s
  | [], d, s, Q, _, q, _ => nomatch q
  | [e], d, s, Q, K, q, hQ => S.ev K q hQ
  | e :: e' :: es, d, s, Q, K, q, hQ => by
    obtain ⟨d₁, hd, q1⟩ := Option.bind_eq_some_iff.mp q
    obtain ⟨b, ht, q2⟩ := Option.bind_eq_some_iff.mp q1
    show wpAny (model prog w) A (do
        let v ← eval e env
        standAt p
        let t ← holding [v] (truthy v)
        match op, t with
        | .And, false | .Or, true => pure v
        | _, _ => boolOp p op (evalEach (e' :: es) env)) Q E s
    refine wpAny_bind (S.ev K hd fun v h' tk e1 z => wpAny_bind (wpAny_standAt (wpAny_bind (wpAny_holding ?_))))
    refine ptruth_sound (s := { s with heap := h', toks := tk }) (.inl z) ht ?_
    have rest : stopsAt op b = false → wpAny (model prog w) A (boolOp p op (evalEach (e' :: es) env)) Q E { s with heap := h', toks := tk } := fun hb => by
      rw [hb] at q2
      exact bool_sound S (s := { s with heap := h', toks := tk }) (K.ext e1) q2 fun v h'' tk' e2 z => hQ v h'' tk' (e1.trans e2) z
    have stop : stopsAt op b = true → Q v { s with heap := h', toks := tk } := fun hb => by
      rw [hb] at q2
      cases q2
      exact hQ v h' tk e1 z
    cases op <;> cases b
    · exact wpAny_pure (stop rfl)
    · exact rest rfl
    · exact rest rfl
    · exact wpAny_pure (stop rfl)
theorem tsAll_sound {op : BoolOp} (S : Sound prog w C T n I) : ∀ {es : List Expr} {b : Bool} {s : Shared} {Q : Bool → Shared → Prop}, Ctx prog w C T n h₀ env c X ad σ A s.heap → tsAll I c σ op es = some b →
    (∀ h' tk, Ext s.heap h' → Q b { s with heap := h', toks := tk }) → wpAny (model prog w) A (allTrue op es env) Q E s
  | [], b, s, Q, _, q, hQ => by
    cases q
    cases op
    · exact wpAny_allTrue_And_nil (hQ s.heap s.toks (Ext.refl _))
    · exact wpAny_allTrue_Or_nil (hQ s.heap s.toks (Ext.refl _))
  | e :: es, b, s, Q, K, q, hQ => by
    obtain ⟨t, ht, q1⟩ := Option.bind_eq_some_iff.mp q
    have rest : stopsAt op t = false → ∀ (h' : Heap) (tk : Nat), Ext s.heap h' → wpAny (model prog w) A (allTrue op es env) Q E { s with heap := h', toks := tk } := fun hb h' tk e1 => by
      rw [hb] at q1
      exact tsAll_sound S (s := { s with heap := h', toks := tk }) (K.ext e1) q1 fun h'' tk' e2 => hQ h'' tk' (e1.trans e2)
    have stop : stopsAt op t = true → t = b := fun hb => by
      rw [hb] at q1
      exact Option.some.inj q1
    cases op
    · refine wpAny_allTrue_And_cons (S.ts K ht fun h' tk e1 => ?_)
      cases t
      · cases stop rfl; exact hQ h' tk e1
      · exact rest rfl h' tk e1
    · refine wpAny_allTrue_Or_cons (S.ts K ht fun h' tk e1 => ?_)
      cases t
      · exact rest rfl h' tk e1
      · cases stop rfl; exact hQ h' tk e1
theorem tup_sound {Q : Value → Shared → Prop} {es : List Expr} {k} {p : Pos} {ds : List PV} (S : Sound prog w C T n I) (K : Ctx prog w C T n h₀ env c X ad σ A s.heap) (hl : es.length ≤ 1000) (q : evAll I c σ es = some ds)
    (hQ : ∀ v h' tk, Ext s.heap h' → Den prog w C h' X v (.tup ds) → Q v { s with heap := h', toks := tk }) : wpAny (model prog w) A (eval (.Tuple es k p) env) Q E s := by
  refine wpAny_Tuple_spliced (evAll_sound S K q fun vs h' tk e xs => ?_)
  have l1 := xs.length
  have l2 := evAll_length I c σ q
  refine ⟨by rw [sizeLine_eq]; omega, ?_⟩
  have e' := Ext.push h' { cls := .type "tuple", data := .seq vs.toArray }
  exact hQ _ _ tk (e.trans e') (.tup (K.off e) ⟨_, Heap.get?_push_size _ rfl, rfl, 0, rfl⟩ (xs.ext e'))
theorem list_fresh {Q : Value → Shared → Prop} {es : List Expr} {p : Pos} {ds : List PV} (S : Sound prog w C T n I) (K : Ctx prog w C T n h₀ env c X ad σ A s.heap) (hl : es.length ≤ 1000) (q : evAll I c σ es = some ds)
    (hQ : ∀ a h' tk, Ext s.heap h' → s.heap.get? a = none → ownD prog w C h' (a :: X) a (.list ds) → Q (.ref a) { s with heap := h', toks := tk }) : wpAny (model prog w) A (eval (.List es p) env) Q E s := by
  refine wpAny_List_spliced (evAll_sound S K q fun vs h' tk e xs => ?_)
  have l1 := xs.length
  have l2 := evAll_length I c σ q
  refine ⟨by rw [sizeLine_eq]; omega, ?_⟩
  have e' := Ext.push h' { cls := .type "list", data := .seq vs.toArray }
  have hn : s.heap.get? h'.objs.size = none := by
    cases e0 : s.heap.get? h'.objs.size with
    | none => rfl
    | some o => have := size_none h'; rw [e _ _ e0] at this; cases this
  exact hQ _ _ tk (e.trans e') hn ⟨vs, ⟨0, Heap.get?_push_size _ rfl⟩, xs.mv (.more (fun b o _ z => e' b o z) (size_none h'))⟩
/-- a fresh container as a value -/
theorem fresh_ev {Q : Value → Shared → Prop} {a : Addr} {h' : Heap} {tk : Nat} {d : PV} (K : Ctx prog w C T n h₀ env c X ad σ A s.heap) (e : Ext s.heap h') (ha : s.heap.get? a = none) (x : ownD prog w C h' (a :: X) a d)
    (hQ : ∀ v h' tk, Ext s.heap h' → Den prog w C h' X v d → Q v { s with heap := h', toks := tk }) : Q (.ref a) { s with heap := h', toks := tk } := by
  refine hQ _ h' tk e (ownD.den (x.move (.anti fun b hb => List.mem_cons_of_mem _ hb) fun o e => e) (K.inv.new_off ha))
end
end Mine
end
section
set_option maxRecDepth 100000
namespace Mine
open PySem PySem.Spec PySem.Calls PyProof.Rows PySem.SeqAt PySem.W
theorem Glo.not_sys {T : Tx} {C : Addr} {h : Heap} (G : Glo T C h) : (h.objs.size == sysModules) = false := by
  obtain ⟨mg, mb, ⟨o, _, _, ho, _⟩, ⟨o', _, _, ho', _⟩, _⟩ := G.g
  have h1 := Heap.lt_size ho
  have : sysModules < h.objs.size := Nat.lt_of_le_of_lt (by decide) h1
  rw [beq_eq_false_iff_ne]
  exact fun e => absurd (e ▸ this) (Nat.lt_irrefl _)
section
variable {prog : Program} {w : World} {C : Addr} {T : Tx} {n : Nat} {I : Itp} {h₀ : Heap} {env : Env} {c : Cx} {X : List Addr} {ad : Str → Option Addr} {σ : St} {A : Around} {s : Shared} {E : Value → Shared → Prop}
theorem Ctx.grow {h h' : Heap} {a : Addr} (K : Ctx prog w C T n h₀ env c X ad σ A h) (e : Ext h h') (ha : h.get? a = none) (hl : ∃ o, h'.get? a = some o) : Ctx prog w C T n h₀ env c (a :: X) ad σ A h' :=
  ⟨K.rm, K.ok, K.g0, K.inv.grow e ha hl⟩
noncomputable def pairsOf (pos : Pos) (env : Env) : List (Option Expr) → List Expr → List (Sem Value × Sem Value)
  | some k :: ks, v :: vs => (eval k env, do let x ← eval v env; standAt pos; pure x) :: pairsOf pos env ks vs
  | _, _ => []
theorem pairs_shape {pos : Pos} : ∀ {ks : List (Option Expr)} {vs : List Expr} {l : List (Key × PV)}, evPairs I c σ ks vs = some l →
    (evalEachOpt ks env).zip ((evalEach vs env).map fun v => do let x ← v; standAt pos; pure x) = (pairsOf pos env ks vs).map (fun p => (some p.1, p.2)) ∧ (pairsOf pos env ks vs).length = ks.length
  | [], [], l, _ => ⟨rfl, rfl⟩
  | [], _ :: _, l, q => nomatch q
  | none :: _, [], l, q => nomatch q
  | none :: _, _ :: _, l, q => by obtain ⟨_, _, h, _⟩ := both_inv q; nomatch h
  | some k :: ks, [], l, q => nomatch q
  | some k :: ks, v :: vs, l, q => by
    obtain ⟨key, d, hk, hd, q1⟩ := both_inv q
    obtain ⟨l', hl, rfl⟩ := Option.map_eq_some_iff.mp q1
    obtain ⟨h1, h2⟩ := pairs_shape (pos := pos) hl
    refine ⟨?_, by simp [pairsOf, h2]⟩
    simp only [evalEachOpt, evalEach, List.map_cons, List.zip_cons_cons, pairsOf, h1]
    rfl
theorem pairs_sound {pos : Pos} (S : Sound prog w C T n I) : ∀ {ks : List (Option Expr)} {vs : List Expr} {l : List (Key × PV)} {s : Shared} {Q : List (Value × Value) → Shared → Prop}, Ctx prog w C T n h₀ env c X ad σ A s.heap → evPairs I c σ ks vs = some l →
    (∀ ws h' tk (kvs : List (Key × Value)), Ext s.heap h' → Carries (keyKind prog w) ws kvs → kvs.map (·.1) = l.map (·.1) → DenAll prog w C h' X (kvs.map (·.2)) (l.map (·.2)) → Q ws { s with heap := h', toks := tk }) →
    wpAny (model prog w) A (evalPairs (pairsOf pos env ks vs)) Q E s
  | [], [], l, s, Q, _, q, hQ => by
    cases q
    exact evalPairs_nil (hQ [] s.heap s.toks [] (Ext.refl _) trivial rfl .nil)
  | [], _ :: _, l, _, _, _, q, _ => nomatch q
  | none :: _, [], l, _, _, _, q, _ => nomatch q
  | none :: _, _ :: _, l, _, _, _, q, _ => by obtain ⟨_, _, h, _⟩ := both_inv q; nomatch h
  | some k :: ks, [], l, _, _, _, q, _ => nomatch q
  | some k :: ks, v :: vs, l, s, Q, K, q, hQ => by
    obtain ⟨key, d, hk, hd, q1⟩ := both_inv q
    obtain ⟨l', hl, rfl⟩ := Option.map_eq_some_iff.mp q1
    obtain ⟨kd, hkd, hkey⟩ := Option.bind_eq_some_iff.mp (show (I.ev c σ k).bind PV.key = some key from hk)
    refine evalPairs_cons (S.ev K hkd fun kv h₁ t₁ e₁ x => ?_)
    refine wpAny_bind (S.ev (s := { s with heap := h₁, toks := t₁ }) (K.ext e₁) hd fun vv h₂ t₂ e₂ y => ?_)
    refine wpAny_bind (wpAny_standAt (wpAny_pure ?_))
    refine pairs_sound S (s := { s with heap := h₂, toks := t₂ }) (K.ext (e₁.trans e₂)) hl fun ws h₃ t₃ kvs e₃ hc hm hd' => ?_
    exact hQ ((kv, vv) :: ws) h₃ t₃ ((key, vv) :: kvs) (e₁.trans (e₂.trans e₃)) ⟨x.key hkey, rfl, hc⟩ (by simp [hm]) (.cons (y.ext e₃) hd')
theorem merged_den {h : Heap} : ∀ {kvs acc : List (Key × Value)} {l al : List (Key × PV)}, acc.map (·.1) = al.map (·.1) → DenAll prog w C h X (acc.map (·.2)) (al.map (·.2)) → kvs.map (·.1) = l.map (·.1) → DenAll prog w C h X (kvs.map (·.2)) (l.map (·.2)) →
    (merged acc kvs).map (·.1) = (dsetAll al l).map (·.1) ∧ DenAll prog w C h X ((merged acc kvs).map (·.2)) ((dsetAll al l).map (·.2))
  | [], acc, [], al, h1, h2, _, _ => ⟨h1, h2⟩
  | [], acc, _ :: _, al, _, _, h3, _ => by simp at h3
  | _ :: _, acc, [], al, _, _, h3, _ => by simp at h3
  | (k, v) :: kvs, acc, (k', d) :: l, al, h1, h2, h3, h4 => by
    simp only [List.map_cons, List.cons.injEq] at h3
    obtain ⟨rfl, h3⟩ := h3
    cases h4 with
    | cons a r =>
      obtain ⟨g1, g2⟩ := stored_den (k := k) h1 h2 a
      exact merged_den (acc := stored acc k v) (al := dset al k d) g1 g2 h3 r
theorem none_of_ext {h h' : Heap} (e : Ext h h') {a : Addr} (ha : h'.get? a = none) : h.get? a = none := by
  cases e0 : h.get? a with
  | none => rfl
  | some o => rw [e _ _ e0] at ha; cases ha
theorem dict_fresh {Q : Value → Shared → Prop} {ks : List (Option Expr)} {vs : List Expr} {p : Pos} {l : List (Key × PV)} (S : Sound prog w C T n I) (K : Ctx prog w C T n h₀ env c X ad σ A s.heap) (hl : ks.length ≤ 15) (q : evPairs I c σ ks vs = some l)
    (hQ : ∀ a h' tk, Ext s.heap h' → s.heap.get? a = none → ownD prog w C h' (a :: X) a (.dict (dsetAll [] l)) → Q (.ref a) { s with heap := h', toks := tk }) : wpAny (model prog w) A (eval (.Dict ks vs p) env) Q E s := by
  have hsys := K.glo.not_sys
  by_cases h0 : pairsOf p env ks vs = []
  · obtain ⟨_, h2⟩ := pairs_shape (env := env) (pos := p) q
    rw [h0] at h2
    have : ks = [] := List.eq_nil_of_length_eq_zero h2.symm
    subst this
    cases vs with
    | cons v vs => nomatch q
    | nil =>
      cases q
      refine wpAny_Dict_empty (hQ _ _ _ (Ext.push _ _) (size_none _) ⟨hsys, [], Heap.DictOf.new _, rfl, .nil⟩)
  · obtain ⟨h1, h2⟩ := pairs_shape (env := env) (pos := p) q
    refine wpAny_Dict_pairs (knd := keyKind prog w) h1 h0 (by omega) ?_
    have e1 := Ext.push s.heap { cls := .type "dict", data := .dict #[] }
    refine pairs_sound (X := s.heap.objs.size :: X) S (s := { s with heap := s.heap.push { cls := .type "dict", data := .dict #[] } }) (K.grow e1 (size_none _) ⟨_, Heap.get?_push_size _ rfl⟩) q fun ws h' tk kvs e2 hc hm hd => ?_
    refine ⟨kvs, hc, dictOf_at (Heap.DictOf.new s.heap) fun o z => e2 _ _ z, fun h'' hm' hs => ?_⟩
    have e3 : Ext s.heap h'' := fun b o z => by
      have hb : b ≠ s.heap.objs.size := fun q => by rw [q, size_none] at z; cases z
      rw [hs.2 b hb]; exact e2 _ _ (e1 _ _ z)
    have M : Mv (s.heap.objs.size :: X) h' (s.heap.objs.size :: X) h'' :=
      ⟨fun b o hb z => by rw [hs.2 b fun q => hb (q ▸ List.mem_cons_self)]; exact z, fun b hb => .inl hb⟩
    obtain ⟨g1, g2⟩ := merged_den (acc := []) (al := []) rfl .nil hm (hd.mv M)
    exact hQ _ h'' _ e3 (size_none _) ⟨hsys, _, hm', g1, g2⟩
end
end Mine
end
section
set_option maxRecDepth 100000
namespace Mine
open PySem PySem.Spec PySem.Calls PyProof.Rows PySem.SeqAt PySem.W
section
variable {prog : Program} {w : World} {C : Addr} {T : Tx} {n : Nat} {I : Itp} {h₀ : Heap} {env : Env} {c : Cx} {X : List Addr} {ad : Str → Option Addr} {σ : St} {A : Around} {s : Shared} {E : Value → Shared → Prop}
theorem item_sound {Q : Value → Shared → Prop} {b i : Expr} {p : Pos} {d k r : PV} (S : Sound prog w C T n I) (K : Ctx prog w C T n h₀ env c X ad σ A s.heap) (hi : ∀ a b c d, i ≠ .Slice a b c d) (qb : evB I c σ b = some d) (qi : I.ev c σ i = some k) (q : pget d k = some r)
    (hQ : ∀ v h' tk, Ext s.heap h' → Den prog w C h' X v r → Q v { s with heap := h', toks := tk }) : wpAny (model prog w) A (eval (.Subscript b i p) env) Q E s := by
  refine Subscript_ (evB_sound S K qb fun v h₁ t₁ e₁ x => ?_)
  refine S.ev (s := { s with heap := h₁, toks := t₁ }) (K.ext e₁) qi fun u h₂ t₂ e₂ y => ?_
  exact pget_sound (s := { s with heap := h₂, toks := t₂ }) (x.ext e₂) y q hi fun u tk z => hQ u h₂ tk (e₁.trans e₂) z
theorem slice_sound {Q : Value → Shared → Prop} {b : Expr} {lo hi st : Option Expr} {p p' : Pos} {d r : PV} {a₁ a₂ a₃ : Option Int} (S : Sound prog w C T n I) (K : Ctx prog w C T n h₀ env c X ad σ A s.heap) (qb : evB I c σ b = some d)
    (q1 : evOptInt I c σ lo = some a₁) (q2 : evOptInt I c σ hi = some a₂) (q3 : evOptInt I c σ st = some a₃) (q : pslice d a₁ a₂ a₃ = some r)
    (hQ : ∀ v h' tk, Ext s.heap h' → Den prog w C h' X v r → Q v { s with heap := h', toks := tk }) : wpAny (model prog w) A (eval (.Subscript b (.Slice lo hi st p) p') env) Q E s := by
  refine Subscript_ (evB_sound S K qb fun v h₁ t₁ e₁ x => ?_)
  refine wpAny_Slice (evOptInt_sound (s := { s with heap := h₁, toks := t₁ }) S (K.ext e₁) q1 fun vl h₂ t₂ e₂ y₁ => ?_)
  refine evOptInt_sound (s := { s with heap := h₂, toks := t₂ }) S (K.ext (e₁.trans e₂)) q2 fun vu h₃ t₃ e₃ y₂ => ?_
  refine evOptInt_sound (s := { s with heap := h₃, toks := t₃ }) S (K.ext (e₁.trans (e₂.trans e₃))) q3 fun vs h₄ t₄ e₄ y₃ => ?_
  have e14 : Ext s.heap h₄ := e₁.trans (e₂.trans (e₃.trans e₄))
  refine pslice_sound (s := { s with heap := h₄, toks := t₄ }) (X := X) (fun h' e => K.off (e14.trans e)) (x.ext (e₂.trans (e₃.trans e₄))) y₁ y₂ y₃ q fun u h₅ t₅ e₅ z => ?_
  exact hQ u h₅ t₅ (e14.trans e₅) z
theorem ifexp_sound {Q : Value → Shared → Prop} {t a b : Expr} {p : Pos} {d : PV} (S : Sound prog w C T n I) (K : Ctx prog w C T n h₀ env c X ad σ A s.heap)
    (q : evIf I c σ t a b = some d)
    (hQ : ∀ v h' tk, Ext s.heap h' → Den prog w C h' X v d → Q v { s with heap := h', toks := tk }) : wpAny (model prog w) A (eval (.IfExp t a b p) env) Q E s := by
  obtain ⟨u, ht, q1⟩ := Option.bind_eq_some_iff.mp q
  refine wpAny_IfExp (S.ts K ht fun h₁ t₁ e₁ => ?_)
  cases u with
  | true => exact S.ev (s := { s with heap := h₁, toks := t₁ }) (K.ext e₁) q1 fun v h₂ t₂ e₂ x => hQ v h₂ t₂ (e₁.trans e₂) x
  | false => exact S.ev (s := { s with heap := h₁, toks := t₁ }) (K.ext e₁) q1 fun v h₂ t₂ e₂ x => hQ v h₂ t₂ (e₁.trans e₂) x
end
end Mine
end
section
set_option maxRecDepth 100000
namespace Mine
open PySem PySem.Spec PySem.Calls PyProof.Rows PySem.SeqAt PySem.W
section
variable {prog : Program} {w : World} {C : Addr} {T : Tx} {n : Nat} {X : List Addr} {A : Around} {s : Shared}
theorem inst_made {R : Result → Shared → Prop} {v : Value} {x : PV} (G : Glo T C s.heap) (hr : A.depth + 3 < recursionLimit) (hl : ∀ b ∈ X, ∃ o, s.heap.get? b = some o) (hv : Den prog w C s.heap X v x)
    (hR : ∀ u h' tk, Ext s.heap h' → Den prog w C h' X u (.inst x) → R (.ok (.ret u)) { s with heap := h', toks := tk }) : codeAny (model prog w) A (.call (.ref C) ⟨[v], []⟩) R s := by
  obtain ⟨K, fI, fc, di, dc, p1, p2, p3, p4, a1, a2, a3, a4, a5, a6, a7, a8, a9, b1, b2, b3, b4, b5, b6, b7, b8, b9, -⟩ := G.cls
  obtain ⟨hh, g, d, t, os⟩ := s
  dsimp only at a1 a5 hv hl hR
  refine make_core (makes_of a1 a2) (looks_findIn a1 a3) (fun self => bind_fn a1 self a4) (.inl rfl) ?_
  have e1 : Ext hh ((hh.push emptyDict).push (instObj C hh.objs.size)) := (Ext.push _ _).trans (Ext.push _ _)
  have hx : ((hh.push emptyDict).push (instObj C hh.objs.size)).get? (hh.objs.size + 1) = some (instObj C hh.objs.size) := by
    have := Heap.get?_push_size (o := instObj C hh.objs.size) (hh.push emptyDict) rfl
    rwa [Heap.size_push] at this
  have hd : ((hh.push emptyDict).push (instObj C hh.objs.size)).get? hh.objs.size = some emptyDict := Heap.get?_push_of_some _ (Heap.get?_push_size _ rfl)
  have hsz : ((hh.push emptyDict).push (instObj C hh.objs.size)).objs.size = hh.objs.size + 2 := by rw [Heap.size_push, Heap.size_push]
  obtain ⟨o, fd, f1, f2, f3, f4, f5, f6, f7, f8, f9, g1, g2, g3, g4⟩ := a5.ext e1
  have hlim : ((hh.push emptyDict).push (instObj C hh.objs.size)).NoLimit := G.nolimit.keeps e1
  generalize ((hh.push emptyDict).push (instObj C hh.objs.size)) = H at *
  have hlen : [Value.ref (hh.objs.size + 1), v].length = di.params.args.length := by
    have := congrArg List.length a6
    simpa using this.symm
  have hbind := f9 _ hlen
  rw [a6] at hbind
  rw [a7] at f3
  have hu : (A.under (.builtin "type.__call__" ⟨.ref C :: [v], []⟩)).depth < recursionLimit := by
    have : (A.under (.builtin "type.__call__" ⟨.ref C :: [v], []⟩)).depth ≤ A.depth + 3 := by
      show A.depth + Code.weight _ ≤ A.depth + 3
      exact Nat.add_le_add_left (Nat.le_trans (Nat.le_of_eq (show Code.weight (.builtin "type.__call__" ⟨.ref C :: [v], []⟩) = 1 by rfl)) (by decide)) _
    omega
  refine codeAny_call_cells hu f1 f2 hlim f8 f3 hbind f5 ?_ (fun s₁ x₁ => ?_) (by rw [f4]; exact g2) (by rw [f4]; exact g3) (by rw [f4]; exact g1)
  · intro y hy
    rw [f4]
    simp only [List.zip_cons_cons, List.zip_nil_right, List.mem_cons, List.not_mem_nil, or_false] at hy
    rcases hy with rfl | rfl
    · exact .inl a8
    · exact .inl a9
  · obtain ⟨hh₂, tk₂, rfl, hk₂⟩ := x₁.done
    have hL : hh.objs.size + 2 ≤ H.objs.size := Nat.le_of_eq hsz.symm
    generalize hE : callEnvC fd H.objs.size fI = env at *
    have k1 : env.kindOf (Str.ofString "self") = some .local := by rw [← hE, callEnvC]; show fd.scope.names.lookup _ = _; rw [f4]; exact a8
    have k2 : env.kindOf theList = some .local := by rw [← hE, callEnvC]; show fd.scope.names.lookup _ = _; rw [f4]; exact a9
    have hkd : env.scope.kind = .function := by rw [← hE, callEnvC]; show fd.scope.kind = _; rw [f4]; exact g1
    have hne : ¬ Str.ofString "self" = theList := by decide
    have hne' : ¬ theList = Str.ofString "self" := by decide
    have hLL : env.locals = H.objs.size := by rw [← hE]; rfl
    have F : Fr hh env.locals hh₂ _ := ⟨x₁.toInCall.ns, fun b o z => hk₂ b o (e1 b o z), by rw [hLL]; omega⟩
    have N : News hh env.locals hh₂ [(hh.objs.size + 1, instObj C hh.objs.size), (hh.objs.size, emptyDict)] := by
      intro p hp
      simp only [List.mem_cons, List.not_mem_nil, or_false] at hp
      have hn : ∀ b, hh.objs.size ≤ b → hh.get? b = none := fun b hb => by
        cases z : hh.get? b with
        | none => rfl
        | some o => exact absurd (Heap.lt_size z) (Nat.not_lt.mpr hb)
      rcases hp with rfl | rfl
      · exact ⟨hk₂ _ _ hx, by rw [hLL, hsz]; exact Nat.succ_ne_self _ ∘ Eq.symm, hn _ (Nat.le_succ _)⟩
      · exact ⟨hk₂ _ _ hd, by rw [hLL, hsz]; exact Nat.ne_of_lt (Nat.lt_add_of_pos_right (by decide)), hn _ (Nat.le_refl _)⟩
    have m1 : bindL env.kindOf ([Str.ofString "self", theList].zip [Value.ref (hh.objs.size + 1), v]) (fun _ => none) (Str.ofString "self") = some (.ref (hh.objs.size + 1)) := by
      simp [bindL, k1, k2, hne]
    have m2 : bindL env.kindOf ([Str.ofString "self", theList].zip [Value.ref (hh.objs.size + 1), v]) (fun _ => none) theList = some v := by
      simp [bindL, k1, k2]
    refine wpAny_execs_cons (plainObj_wpAny_Assign_Attribute (wpAny_Name (wpAny_loadName_local hkd k2 x₁.toInCall.ns m2 (wpAny_Name (wpAny_loadName_local hkd k1 x₁.toInCall.ns m1 ?_) (by decide))) (by decide)))
    refine set_dict (n := 0) (es := []) F a1 N ⟨hk₂ _ _ hx, rfl, rfl, hk₂ _ _ hd⟩ rfl b1 b2 b3 b4 rfl rfl (.tail (by simp) (.head (fun _ h => nomatch h))) (Nat.le_of_ble_eq_true rfl) fun h' F' N' => ?_
    refine wpAny_execs_nil ⟨rfl, ?_⟩
    have hn : ∀ b, hh.objs.size ≤ b → hh.get? b = none := fun b hb => by
      cases z : hh.get? b with
      | none => rfl
      | some o => exact absurd (Heap.lt_size z) (Nat.not_lt.mpr hb)
    have off : ∀ b, hh.get? b = none → b ∉ X := fun b hb hm => by
      obtain ⟨o, z⟩ := hl b hm
      rw [hb] at z; cases z
    refine hR _ h' _ F'.keep (.inst (off _ (hn _ (Nat.le_succ _))) (off _ (hn _ (Nat.le_refl _))) (N' _ (.head _)).1 (N' _ (.tail _ (.head _))).1 (hv.ext F'.keep))
theorem Den.handed {h : Heap} {v : Value} {d : PV} (x : Den prog w C h X v d) : handedIn v = true := by cases x <;> rfl
theorem inst_at {h : Heap} {a d : Addr} {hs : Int} {t : Tok} {n : Nat} {v : Value} (e1 : h.get? a = some { cls := .ref C, dict := some d, data := .plain }) (e2 : h.get? d = some { cls := .type "dict", data := .dict #[⟨hs, .str theList t, v⟩] n }) :
    InstAt h a { cls := .ref C, dict := some d, data := .plain } C (some { cls := .type "dict", data := .dict #[⟨hs, .str theList t, v⟩] n }) := ⟨e1, rfl, rfl, e2⟩
theorem look_own (hs : Int) (t : Tok) (v : Value) (n : Nat) : lookIn theList { cls := .type "dict", data := .dict #[⟨hs, .str theList t, v⟩] n } = some (some v) := by
  simp [lookIn, Value.isStr, theList]
theorem look_cmp (hs : Int) (t : Tok) (v : Value) (n : Nat) : lookIn (Str.ofString "compare") { cls := .type "dict", data := .dict #[⟨hs, .str theList t, v⟩] n } = some none := by
  have : ¬ theList = Str.ofString "compare" := by decide
  simp [lookIn, Value.isStr, this, DictEntry.refKey]
theorem inst_attr {E : Value → Shared → Prop} {Q : Value → Shared → Prop} {u : Value} {x : PV} {b : Bool} (G : Glo T C s.heap) (hx : Den prog w C s.heap X u (.inst x))
    (hQ : ∀ v tk, Den prog w C s.heap X v x → Q v { s with toks := tk }) : wpAny (model prog w) A (getAttr u theList b) Q E s := by
  obtain ⟨K, fI, fc, di, dc, p1, p2, p3, p4, a1, a2, a3, a4, a5, a6, a7, a8, a9, b1, b2, b3, b4, b5, b6, b7, b8, b9, -⟩ := G.cls
  obtain ⟨a, d, hs, t, n, v, rfl, e1, e2, hv⟩ := hx.inst'
  exact get_value a1 (inst_at e1 e2) (plainGet_of b5).1 (findObj_own b4 b6 rfl (look_own hs t v n)) hv.handed (hQ v _ hv)
theorem inst_meth {E : Value → Shared → Prop} {Q : Value × List Value → Shared → Prop} {u : Value} {x : PV} {pl : Sem Bool} (G : Glo T C s.heap) (hx : Den prog w C s.heap X u (.inst x))
    (hQ : ∀ fc dc, FnAt s.heap fc dc → (T.D ++ T.M).find? (fun d => decide (d.name = Str.ofString "TupleComp.compare")) = some dc → Q (.ref fc, [u]) s) : wpAny (model prog w) A (getMethod u (Str.ofString "compare") pl) Q E s := by
  obtain ⟨K, fI, fc, di, dc, p1, p2, p3, p4, a1, a2, a3, a4, a5, a6, a7, a8, a9, b1, b2, b3, b4, b5, b6, b7, b8, b9, c1, -⟩ := G.cls
  obtain ⟨a, d, hs, t, n, v, rfl, e1, e2, hv⟩ := hx.inst'
  exact method_fn a1 (inst_at e1 e2) (plainGet_of b5).1 (plainGet_of b5).2 b7 (beq_iff_eq.mp b8) (by unfold shadowIn; dsimp only; rw [look_cmp]; rfl) (hQ fc dc b9 c1)
/-- the class is called -/
theorem class_call {E : Value → Shared → Prop} {Q : Value → Shared → Prop} {pos : Pos} {args : List (Bool × Sem Value)} (G : Glo T C s.heap) (hplain : args.any (·.1) = false)
    (h : wpAny (model prog w) A (evalArgs (.ref C) true args []) (fun a s₁ => Ext s.heap s₁.heap ∧ wpAny (model prog w) A (call (.ref C) a.pos a.kw) Q E s₁) E s) :
    wpAny (model prog w) A (callWith pos (.ref C) [] args []) Q E s := by
  obtain ⟨K, fI, fc, di, dc, p1, p2, p3, p4, a1, a2, a3, a4, a5, a6, a7, a8, a9, b1, b2, b3, b4, b5, b6, b7, b8, b9, c1, c3⟩ := G.cls
  refine callWith_of (P := fun h => K.In h) (by simp [hplain]) (keeps_K c3) ?_
  refine wpAny_mono h (fun a s₁ z => ?_) fun _ _ e => e
  exact ⟨a1.keeps z.1, z.2⟩
end
end Mine
end
section
set_option maxRecDepth 100000
set_option maxHeartbeats 4000000
namespace Mine
open PySem PySem.Spec PySem.Calls PyProof.Rows PySem.SeqAt PySem.W
section
variable {prog : Program} {w : World} {C : Addr} {X : List Addr} {A : Around} {E : Value → Shared → Prop} {s : Shared} {a : Addr} {vs : List Value}
/-- nothing is moved where no thing is less than the one before it -/
theorem asc_wp {cmp : Nat → Nat → (Bool → Shared → Prop) → Shared → Prop} {p : Array Nat} {s : Shared} {N : Nat} (hc : ∀ i, i + 1 < N → ∀ K, K false s → cmp (p.getD (i + 1) 0) (p.getD i 0) K s) :
    ∀ (f n : Nat) {Q : Nat → Shared → Prop}, 1 ≤ n → n + f = N → Q N s → (kas_asc p f n).kasWp cmp Q s
  | 0, n, Q, _, hn, h => by
    have : n = N := by omega
    subst this; exact h
  | f + 1, n, Q, h1, hn, h => by
    show cmp _ _ _ s
    have := hc (n - 1) (by omega)
    rw [show n - 1 + 1 = n by omega] at this
    refine this _ ?_
    show KasT.kasWp cmp (kas_asc p f (n + 1)) Q s
    exact asc_wp hc f (n + 1) (by omega) (by omega) h
theorem sort_wp {cmp : Nat → Nat → (Bool → Shared → Prop) → Shared → Prop} {s : Shared} {N : Nat} {Q : Array Nat → Shared → Prop} (h2 : 2 ≤ N) (hc : ∀ i, i + 1 < N → ∀ K, K false s → cmp (i + 1) i K s) (h : Q (List.toArray (List.range N)) s) :
    (kas_sort N).kasWp cmp Q s := by
  unfold kas_sort kas_count
  rw [KasT.kasWp_bind, KasT.kasWp_bind]
  have g : ∀ i, i < N → (List.toArray (List.range N)).getD i 0 = i := fun i hi => by simp [Array.getD, hi]
  refine asc_wp (N := N) (fun i hi K hK => ?_) _ _ (Nat.le_refl _) (by omega) ?_
  · rw [g _ hi, g _ (by omega)]; exact hc i hi K hK
  · have : (N == N) = true := beq_self_eq_true N
    rw [if_pos this]
    show KasT.kasWp cmp (if N < N then _ else _) Q s
    rw [if_neg (Nat.lt_irrefl _)]
    exact h
theorem sort_raw {n : Nat} {P : PySem.Fin → Shared → Prop} (ho : s.heap.get? a = some (seqObj "list" vs.toArray n)) (h2 : 2 ≤ vs.length) (h64 : vs.length < 64)
    (hT : ∀ v ∈ vs, ∃ b o, v = .ref b ∧ s.heap.get? b = some o ∧ o.cls = .type "list" ∧ b ≠ a)
    (hlt : ∀ i, i + 1 < vs.length → ∀ h', (∀ b o, b ≠ a → s.heap.get? b = some o → h'.get? b = some o) → ∀ K : Bool → Shared → Prop, K false { s with heap := h' } →
      wpAny (model prog w) A (keyLt' oneType' (vs.getD (i + 1) Value.none) (vs.getD i Value.none)) K (fun _ _ => False) { s with heap := h' })
    (h : P (.done (.ret .none)) { s with heap := sortedHeap s.heap a vs vs.toArray }) :
    wpAny (model prog w) A (Builtin.«list.sort» ⟨[.ref a], []⟩) P E s := by
  have ha : a < s.heap.objs.size := Heap.lt_size ho
  obtain ⟨e1, ho1⟩ : ∃ e1, (s.heap.update a (Obj.mapSeq fun _ => (#[] : Array Value))).get? a = some (seqObj "list" #[] e1) := ⟨_, get?_update_seq ho fun _ => #[]⟩
  have up : ∀ b o, b ≠ a → s.heap.get? b = some o → (((s.heap.update a (Obj.mapSeq fun _ => (#[] : Array Value))).push (seqObj "tuple" vs.toArray 0)).push (seqObj "list" #[] 0)).get? b = some o := fun b o hb e => by
    refine Heap.get?_push_of_some _ (Heap.get?_push_of_some _ ?_)
    rw [Heap.get?_update_ne _ _ _ _ hb]; exact e
  have na : (((s.heap.update a (Obj.mapSeq fun _ => (#[] : Array Value))).push (seqObj "tuple" vs.toArray 0)).push (seqObj "list" #[] 0)).get? a = some (seqObj "list" #[] e1) := Heap.get?_push_of_some _ (Heap.get?_push_of_some _ ho1)
  rw [list_sort_plain]
  refine wpAny_bind (listItems_at ho rfl ?_)
  refine wpAny_bind (listUpdate_at ho rfl ?_ (by rw [List.size_toArray, sizeLine_eq]; omega) (Nat.zero_le _))
  refine wpAny_bind (seqEpoch_at ho1 rfl ?_)
  refine wpAny_bind (wpAny_newTuple ?_ (by show vs.length ≤ _; rw [sizeLine_eq]; omega))
  refine wpAny_bind (wpAny_newList ?_ (Nat.zero_le _))
  refine wpAny_holding ?_
  show wpAny (model prog w) A _ P E { s with heap := ((s.heap.update a (Obj.mapSeq fun _ => (#[] : Array Value))).push (seqObj "tuple" vs.toArray 0)).push (seqObj "list" #[] 0) }
  dsimp only
  have hn2 : ¬ vs.toArray.size < 2 := by rw [List.size_toArray]; omega
  rw [if_neg hn2, if_neg hn2]
  have hsort : sortedHeap s.heap a vs vs.toArray = (((s.heap.update a (Obj.mapSeq fun _ => (#[] : Array Value))).push (seqObj "tuple" vs.toArray 0)).push (seqObj "list" #[] 0)).update a (Obj.mapSeq fun _ => vs.toArray) := rfl
  rw [hsort] at h
  generalize hH : ((s.heap.update a (Obj.mapSeq fun _ => (#[] : Array Value))).push (seqObj "tuple" vs.toArray 0)).push (seqObj "list" #[] 0) = H at *
  refine wpAny_bind (kas_kind (s := { s with heap := H }) (T := .type "list") h2 (fun v hv => ?_) rfl rfl ?_)
  · obtain ⟨b, o, rfl, hb, hc, hne⟩ := hT v hv
    exact hc ▸ (Looks.ld (part := some headPart) (up b o hne hb)).andThen .now
  have est : SortSt.mk' oneType' (vs.toArray.zip vs.toArray) #[] 7 none = kas_st oneType' (PyProof.Rows.pairsOf vs) (List.toArray (List.range vs.length)) := by
    have e := kas_range (PyProof.Rows.pairsOf vs)
    rw [pairsOf_size] at e
    show SortSt.mk' oneType' (PyProof.Rows.pairsOf vs) #[] 7 none = SortSt.mk' oneType' ((List.toArray (List.range vs.length)).map (kas_item (PyProof.Rows.pairsOf vs))) #[] 7 none
    rw [e]
  have ask : (kas_sort vs.length).kasWp (kas_ask prog w A oneType' vs) (fun p s' => p = List.toArray (List.range vs.length) ∧ s' = { s with heap := H }) { s with heap := H } :=
    sort_wp h2 (fun i hi K hK => hlt i hi H up K hK) ⟨rfl, rfl⟩
  rw [kas_ask_eq] at ask
  have run := kas_runs (E := E) (Q := fun _ st' s' => arrOf st' = (List.toArray (List.range vs.length)).map (kas_item (PyProof.Rows.pairsOf vs)) ∧ failedOf st' = none ∧ s' = { s with heap := H })
    (G := fun p s' => p = List.toArray (List.range vs.length) ∧ s' = { s with heap := H }) h2 h64 (fun p' st' s' a1 a2 a3 a4 => ⟨by rw [a2, a4.1], a3, a4.2⟩) ask
  rw [← est] at run
  refine wpAny_bind (wpAny_mono run ?_ fun _ _ e => e)
  rintro ⟨⟨⟩, st'⟩ s' ⟨har, hf, rfl⟩
  dsimp only
  have hout : (arrOf st').map (·.2) = vs.toArray := by
    have e := kas_range (PyProof.Rows.pairsOf vs)
    rw [pairsOf_size] at e
    rw [har, e]
    apply Array.toList_inj.mp
    simp only [PyProof.Rows.pairsOf, Array.toList_map, Array.toList_zip]
    exact List.map_snd_zip (Nat.le_refl _)
  rw [hout]
  refine wpAny_bind (seqEpoch_at (s := { s with heap := H }) na rfl ?_)
  refine wpAny_bind (listUpdate_at (s := { s with heap := H }) na rfl ?_ (Nat.zero_le _) (by show vs.toArray.size ≤ _; rw [List.size_toArray, sizeLine_eq]; omega))
  rw [hf]
  simp only [bne_self_eq_false, Bool.false_eq_true, if_false]
  exact wpAny_pure h
theorem oneLt_lists {v v' : Value} {d e : PV} {b : Bool} {K : Bool → Shared → Prop} {E : Value → Shared → Prop} (x : Den prog w C s.heap [] v d) (y : Den prog w C s.heap [] v' e) (hd : isListV d = true) (he : isListV e = true)
    (q : plt depth d e = some b) (hu : A.units + 50 < cLine) (hK : K b s) : wpAny (model prog w) A (keyLt' oneType' v v') K E s := by
  cases d <;> simp [isListV] at hd
  cases e <;> simp [isListV] at he
  obtain ⟨a₁, vs, rfl, hx, hdx, _⟩ := x.list'
  obtain ⟨a₂, us, rfl, hy, hdy, _⟩ := y.list'
  obtain ⟨⟨cls, dd, data, sl⟩, ho, hc, n, hd⟩ := id hx
  obtain ⟨⟨cls2, dd2, data2, sl2⟩, ho2, hc2, n2, hd2⟩ := id hy
  simp only at hc hd hc2 hd2
  subst hc hd hc2 hd2
  rw [keyLt'_oneType, oneLt'_eq]
  simp only [if_true]
  refine wpAny_bind (wpAny_cRoomFor (by omega) ?_)
  have hlex := lexLt (A := A.in1) (s := s) 5 (fun x y q h => plt_sound 5 x y q h) (by show A.units + 1 + 5 + 2 < cLine; omega) vs (us := us) hdx hdy (show seqLt (peq 5) (plt 5) _ _ = some b from q)
  refine wpAny_bind (wpAny_callSpecialIfBound?_slot (T := "list") ⟨_, ho, rfl⟩ F.slot_list_lt (call_meets F.slot_list_lt ⟨_, ho, rfl⟩ F.entry_list_lt (F.args_list_lt_2 _ _) (list_ltM a₁ a₂ vs.toArray us.toArray n n2 dd dd2 sl sl2 b) ?_))
  refine ⟨ho, ho2, by simpa using hlex, ?_⟩
  exact wpAny_truthy_bool hK
theorem asc_at : ∀ {l : List PV}, asc l = true → ∀ i, i + 1 < l.length → ∃ x y, l[i]? = some x ∧ l[i + 1]? = some y ∧ plt depth y x = some false
  | [], _, i, hi => by simp at hi
  | [_], _, i, hi => by simp at hi
  | x :: y :: r, h, i, hi => by
    simp only [asc, Bool.and_eq_true, decide_eq_true_eq] at h
    cases i with
    | zero => exact ⟨x, y, rfl, rfl, h.1⟩
    | succ i =>
      obtain ⟨x', y', h1, h2, h3⟩ := asc_at h.2 i (by simp at hi ⊢; omega)
      exact ⟨x', y', by simpa using h1, by simpa using h2, h3⟩
theorem psorted_sound {v : Value} {l r : List PV} {Q : Value → Shared → Prop} (hX : ∀ b ∈ X, ∃ o, s.heap.get? b = some o) (hu : A.units + 60 < cLine) (x : DenB prog w C s.heap X v (.list l)) (q : psorted l = some r)
    (hQ : ∀ u h' tk, Ext s.heap h' → Den prog w C h' X u (.list r) → Q u { s with heap := h', toks := tk }) : wpAny (model prog w) A (call (.builtin "sorted") [v]) Q E s := by
  unfold psorted at q
  split at q
  · rename_i hc
    cases q
    obtain ⟨h2, h64, hall, hasc⟩ := hc
    obtain ⟨lad, vs, rfl, hl, hd⟩ := x.list
    have hlen := hd.length
    refine Calls.call_function_entry kind_sorted plain_sorted entry_sorted (args_sorted1 _) ?_
    unfold Builtin.«sorted»
    refine wpAny_bind (m := checkCount "sorted" 1 1 _) (wpAny_pure ?_)
    refine wpAny_bind (collect_list hl ?_ (by rw [sizeLine_eq]; omega))
    refine wpAny_bind (wpAny_newList ?_ (by rw [sizeLine_eq]; omega))
    have hsz : ((s.heap.push (seqObj "list" #[] 0)).update s.heap.objs.size (Obj.mapSeq (· ++ vs.toArray))).objs.size = s.heap.objs.size + 1 := by
      rw [Heap.size_update, size_push']
    have hoL : (((s.heap.push (seqObj "list" #[] 0)).update s.heap.objs.size (Obj.mapSeq (· ++ vs.toArray))).push (seqObj "list" vs.toArray 0)).get? (s.heap.objs.size + 1) = some (seqObj "list" vs.toArray 0) := by
      rw [← hsz]; exact Heap.get?_push_size _ rfl
    have keep : ∀ b o, s.heap.get? b = some o → (((s.heap.push (seqObj "list" #[] 0)).update s.heap.objs.size (Obj.mapSeq (· ++ vs.toArray))).push (seqObj "list" vs.toArray 0)).get? b = some o := fun b o q => by
      have hlt : b < s.heap.objs.size := Heap.lt_size q
      rw [Heap.get?_push_ne _ _ _ (by rw [hsz]; exact Nat.ne_of_lt (Nat.lt_succ_of_lt hlt)), Heap.get?_update_ne _ _ _ _ (Nat.ne_of_lt hlt), Heap.get?_push_ne _ _ _ (Nat.ne_of_lt hlt)]
      exact q
    show wpAny _ _ _ _ _ { s with heap := ((s.heap.push (seqObj "list" #[] 0)).update s.heap.objs.size (Obj.mapSeq (· ++ vs.toArray))).push (seqObj "list" vs.toArray 0) }
    rw [hsz]
    have hext : Ext s.heap (sortedAll s.heap vs vs.toArray) := fun b o e => sortedAll_old e
    obtain ⟨ep, hat⟩ := sortedAll_at s.heap vs vs.toArray
    refine wpAny_bind (wpAny_holding (wpAny_call_entry slot_list_sort ⟨_, hoL, rfl⟩ entry_list_sort ?body (args_list_sort _)))
    case body =>
      refine sort_raw (s := { s with heap := ((s.heap.push (seqObj "list" #[] 0)).update s.heap.objs.size (Obj.mapSeq (· ++ vs.toArray))).push (seqObj "list" vs.toArray 0) }) hoL (by omega) (by omega) (fun u hu => ?_) (fun i hi h' hk K hK => ?_) ?_
      · obtain ⟨d, hdm, hdu⟩ := hd.mem hu
        have := List.all_eq_true.mp hall d hdm
        cases d <;> simp [isListV] at this
        obtain ⟨b, us, rfl, ⟨o, hb, hc, _⟩, _⟩ := hdu.list'
        exact ⟨b, o, rfl, keep b o hb, hc, Nat.ne_of_lt (Nat.lt_succ_of_lt (Heap.lt_size hb))⟩
      · obtain ⟨d₁, d₂, g1, g2, g3⟩ := asc_at hasc i (by omega)
        obtain ⟨v₁, f1, k1⟩ := hd.get g1
        obtain ⟨v₂, f2, k2⟩ := hd.get g2
        have r1 : vs.getD i Value.none = v₁ := by simp [List.getD, f1]
        have r2 : vs.getD (i + 1) Value.none = v₂ := by simp [List.getD, f2]
        have e : Ext s.heap h' := fun b o z => hk b o (Nat.ne_of_lt (Nat.lt_succ_of_lt (Heap.lt_size z))) (keep b o z)
        rw [r1, r2]
        refine oneLt_lists (s := { s with heap := h' }) (C := C) (k2.read.ext e) (k1.read.ext e) ?_ ?_ g3 (by show A.units + 1 + 1 + 50 < cLine; omega) hK
        · exact List.all_eq_true.mp hall d₂ (List.mem_of_getElem? g2)
        · exact List.all_eq_true.mp hall d₁ (List.mem_of_getElem? g1)
      · refine ⟨_, rfl, wpAny_pure ⟨_, rfl, ?_⟩⟩
        refine hQ _ (sortedAll s.heap vs vs.toArray) s.toks hext (.list (fun hm => ?_) ⟨_, hat, rfl, ep, rfl⟩ (hd.ext hext))
        obtain ⟨o, z⟩ := hX _ hm
        exact absurd (Heap.lt_size z) (Nat.not_lt.mpr (Nat.le_succ _))
  · cases q
end
end Mine
end
section
set_option maxRecDepth 100000
namespace Mine
open PySem PySem.Spec PySem.Calls PyProof.Rows PySem.SeqAt PySem.W
theorem b_len : bootBuiltins (Str.ofString "len") = some (.builtin "len") := by kernel_rfl
theorem b_sum : bootBuiltins (Str.ofString "sum") = some (.builtin "sum") := by kernel_rfl
theorem b_max : bootBuiltins (Str.ofString "max") = some (.builtin "max") := by kernel_rfl
theorem b_tuple : bootBuiltins (Str.ofString "tuple") = some (.type "tuple") := by kernel_rfl
theorem b_range : bootBuiltins (Str.ofString "range") = some (.type "range") := by kernel_rfl
theorem b_sorted : bootBuiltins (Str.ofString "sorted") = some (.builtin "sorted") := by kernel_rfl
theorem b_isinstance : bootBuiltins (Str.ofString "isinstance") = some (.builtin "isinstance") := by kernel_rfl
section
variable {prog : Program} {w : World} {C : Addr} {T : Tx} {n : Nat} {I : Itp} {h₀ : Heap} {env : Env} {c : Cx} {X : List Addr} {ad : Str → Option Addr} {σ : St} {A : Around} {s : Shared} {E : Value → Shared → Prop}
theorem gl_builtin {x : Str} {v : Value} {p : Pos} {Q : Value → Shared → Prop} (O : EnvOk env c) (G : Glo T C s.heap) (hk : c.sc x = some .globalImplicit) (hx : x ∈ bnames) (hv : bootBuiltins x = some v) (h : Q v s) :
    wpAny (model prog w) A (eval (.Name x p) env) Q E s := by
  obtain ⟨mg, mb, g1, g2, g3, _⟩ := G.g
  obtain ⟨m1, m2⟩ := g3 x hx
  exact Name_function_global O.kind ((O.sc x).trans hk) (loadGlobal_builtin (O.gl ▸ g1) m1 (O.bu ▸ g2) (m2.trans hv) h) (O.ne_dbg hk)
theorem gl_global {x : Str} {v : Value} {p : Pos} {Q : Value → Shared → Prop} (O : EnvOk env c) {mg : Str → Option Value} (hg : s.heap.Ns mainGlobals mg) (hk : c.sc x = some .globalImplicit) (hv : mg x = some v) (h : Q v s) :
    wpAny (model prog w) A (eval (.Name x p) env) Q E s :=
  Name_function_global O.kind ((O.sc x).trans hk) (loadGlobal_global (O.gl ▸ hg) hv h) (O.ne_dbg hk)
theorem back_plain {pos : Pos} : ∀ {es : List Expr} {ds : List PV}, Sound prog w C T n I → evAll I c σ es = some ds → (backTo pos (starEach es env)).any (·.1) = false
  | [], _, _, _ => rfl
  | e :: es, ds, S, q => by
    obtain ⟨d, ds', hd, hds, q1⟩ := both_inv q
    rw [star_cons (S.dom hd)]
    exact back_plain (pos := pos) S hds
theorem args_sound {pos : Pos} {f : Value} {es : List Expr} {ds : List PV} {Q : Args → Shared → Prop} (S : Sound prog w C T n I) (K : Ctx prog w C T n h₀ env c X ad σ A s.heap) (q : evAll I c σ es = some ds)
    (hQ : ∀ vs h' tk, Ext s.heap h' → DenAll prog w C h' X vs ds → Q ⟨vs, []⟩ { s with heap := h', toks := tk }) : wpAny (model prog w) A (evalArgs f true (backTo pos (starEach es env)) []) Q E s := by
  cases es with
  | nil =>
    cases q
    exact PyProof.Rows.evalArgs_none (hQ [] s.heap s.toks (Ext.refl _) .nil)
  | cons e es =>
    obtain ⟨d, ds', hd, hds, q1⟩ := both_inv q
    have := evAll_sound (pos := pos) (E := E) (Q := fun vs s' => Q ⟨vs, []⟩ s') S K q hQ
    rw [star_cons (S.dom hd)] at this ⊢
    exact evalArgs_plain this
/-- a def of the text is called -/
theorem fn_call {f : Str} {d : Def} {a : Addr} {pos : Pos} {first : List Value} {ds₀ ds : List PV} {es : List Expr} {r : PV} {Q : Value → Shared → Prop} (S : Sound prog w C T n I) (K : Ctx prog w C T n h₀ env c X ad σ A s.heap) (hf : FnAt s.heap a d)
    (hd : (T.D ++ T.M).find? (fun d => decide (d.name = f)) = some d) (q : evAll I c σ es = some ds) (h0 : DenAll prog w C s.heap X first ds₀) (qc : I.cl f (ds₀ ++ ds) = some r)
    (hQ : ∀ v h' tk, Ext s.heap h' → Den prog w C h' X v r → Q v { s with heap := h', toks := tk }) : wpAny (model prog w) A (callWith pos (.ref a) first (backTo pos (starEach es env)) []) Q E s := by
  obtain ⟨o, fd, f1, f2, _⟩ := id hf
  refine callWith_function (o := o) (fd := fd) (args_sound S K q fun vs h' tk e xs => ⟨⟨e _ _ f1, f2⟩, ?_⟩)
  refine wpAny_call (S.cl f d hd (X := X) K.rm (K.glo.ext e) (hf.ext e) (K.inv.ext e).live ((h0.ext e).append xs) qc fun v h'' tk' e' x => ?_)
  exact hQ v h'' tk' (e.trans e') x
theorem find_def {f : Str} (h : isFun T f = true) : ∃ d ∈ T.D, (T.D ++ T.M).find? (fun d => decide (d.name = f)) = some d ∧ d.name = f := by
  unfold isFun at h
  rw [List.any_eq_true] at h
  obtain ⟨d, hd, hn⟩ := h
  cases e : T.D.find? (fun d => decide (d.name = f)) with
  | none => exact absurd hn (by have := List.find?_eq_none.mp e d hd; simpa using this)
  | some d' =>
    refine ⟨d', List.mem_of_find?_eq_some e, ?_, by simpa using List.find?_some e⟩
    rw [List.find?_append, e]; rfl
theorem one_arg {id : String} {pos : Pos} {a : Expr} {d r : PV} {Q : Value → Shared → Prop} (S : Sound prog w C T n I) (K : Ctx prog w C T n h₀ env c X ad σ A s.heap) (qa : evB I c σ a = some d)
    (h : ∀ (s' : Shared) v, Ctx prog w C T n h₀ env c X ad σ A s'.heap → DenB prog w C s'.heap X v d → (∀ u h' tk, Ext s'.heap h' → Den prog w C h' X u r → Q u { s' with heap := h', toks := tk }) → wpAny (model prog w) A (call (.builtin id) [v]) Q E s')
    (hQ : ∀ u h' tk, Ext s.heap h' → Den prog w C h' X u r → Q u { s with heap := h', toks := tk }) : wpAny (model prog w) A (callWith pos (.builtin id) [] (backTo pos (starEach [a] env)) []) Q E s := by
  rw [star_cons (evB_ok S qa)]
  refine PySem.callWith_builtin1 (evB_sound S K qa fun v h' tk e x => ?_)
  exact h { s with heap := h', toks := tk } v (K.ext e) x fun u h'' tk' e' z => hQ u h'' tk' (e.trans e') z
theorem one_argT {id : String} {pos : Pos} {a : Expr} {d r : PV} {Q : Value → Shared → Prop} (S : Sound prog w C T n I) (K : Ctx prog w C T n h₀ env c X ad σ A s.heap) (qa : evB I c σ a = some d)
    (h : ∀ (s' : Shared) v, Ctx prog w C T n h₀ env c X ad σ A s'.heap → DenB prog w C s'.heap X v d → (∀ u h' tk, Ext s'.heap h' → Den prog w C h' X u r → Q u { s' with heap := h', toks := tk }) → wpAny (model prog w) A (call (.type id) [v]) Q E s')
    (hQ : ∀ u h' tk, Ext s.heap h' → Den prog w C h' X u r → Q u { s with heap := h', toks := tk }) : wpAny (model prog w) A (callWith pos (.type id) [] (backTo pos (starEach [a] env)) []) Q E s := by
  rw [star_cons (evB_ok S qa)]
  refine PySem.callWith_type1 (evB_sound S K qa fun v h' tk e x => ?_)
  exact h { s with heap := h', toks := tk } v (K.ext e) x fun u h'' tk' e' z => hQ u h'' tk' (e.trans e') z
theorem sort_units (R : Rm n A) : A.units + 60 < cLine := by have := R.units; unfold cLine; omega
theorem evIsi_sound {np pos : Pos} {args : List Expr} {r : PV} {Q : Value → Shared → Prop} (S : Sound prog w C T n I) (K : Ctx prog w C T n h₀ env c X ad σ A s.heap) (hk : c.sc (Str.ofString "isinstance") = some .globalImplicit) (q : evIsi I c σ args = some r)
    (hQ : ∀ v h' tk, Ext s.heap h' → Den prog w C h' X v r → Q v { s with heap := h', toks := tk }) : wpAny (model prog w) A (eval (.Call (.Name (Str.ofString "isinstance") np) args [] pos) env) Q E s := by
  refine wpAny_Call_ofName (gl_builtin K.ok K.glo hk (by simp [bnames]) b_isinstance ?_)
  obtain ⟨⟨a, t⟩, ha, q1⟩ := Option.bind_eq_some_iff.mp q
  cases two_inv ha
  by_cases ht : (isName "tuple" t && decide (c.sc (Str.ofString "tuple") = some .globalImplicit)) = true
  · have q2 := (if_pos ht).symm.trans q1
    rw [Bool.and_eq_true, decide_eq_true_eq] at ht
    obtain ⟨ht, hkt⟩ := ht
    obtain ⟨d, qa, q3⟩ := Option.bind_eq_some_iff.mp q2
    obtain ⟨i, hi, rfl⟩ := Option.map_eq_some_iff.mp q3
    cases PV.int?_inv hi
    unfold isName at ht
    cases hn : asName t with
    | none => rw [hn] at ht; cases ht
    | some y =>
      rw [hn] at ht
      obtain ⟨px, rfl⟩ := asName_inv hn
      cases of_decide_eq_true ht
      refine PyProof.Rows.callWith_builtin1 ?_ (by have := S.dom qa; revert this; cases a <;> first | (intro _; rfl) | (intro h; cases h))
      rw [star_cons (S.dom qa), star_cons (by rfl)]
      refine spliced_cons (S.ev K qa fun v h' tk e x => ?_)
      refine spliced_cons (gl_builtin K.ok (K.glo.ext e) hkt (by simp [bnames]) b_tuple (spliced_nil ?_))
      cases x
      exact IsiPair.int_tuple (hQ _ h' _ e (.bool _))
  · cases (if_neg ht).symm.trans q1
theorem pone_sound {f : Str} {np pos : Pos} {a : Expr} {d r : PV} {Q : Value → Shared → Prop} (S : Sound prog w C T n I) (K : Ctx prog w C T n h₀ env c X ad σ A s.heap) (hk : c.sc f = some .globalImplicit) (qa : evB I c σ a = some d) (q : pone f d = some r)
    (hQ : ∀ v h' tk, Ext s.heap h' → Den prog w C h' X v r → Q v { s with heap := h', toks := tk }) : wpAny (model prog w) A (eval (.Call (.Name f np) [a] [] pos) env) Q E s := by
  refine wpAny_Call_ofName ?_
  unfold pone at q
  by_cases h1 : f = Str.ofString "len"
  · rw [if_pos h1] at q; subst h1
    exact gl_builtin K.ok K.glo hk (by simp [bnames]) b_len (one_arg S K qa (fun s' v K' x h => pbuilt_len K'.inv.size_off K'.rm.handled x q h) hQ)
  rw [if_neg h1] at q
  by_cases h2 : f = Str.ofString "sum"
  · rw [if_pos h2] at q; subst h2
    exact gl_builtin K.ok K.glo hk (by simp [bnames]) b_sum (one_arg S K qa (fun s' v K' x h => pbuilt_sum K'.rm.handled x q h) hQ)
  rw [if_neg h2] at q
  by_cases h3 : f = Str.ofString "tuple"
  · rw [if_pos h3] at q; subst h3
    exact gl_builtin K.ok K.glo hk (by simp [bnames]) b_tuple (one_argT S K qa (fun s' v K' x h => pbuilt_tuple (fun h' e => K'.off e) x q h) hQ)
  rw [if_neg h3] at q
  by_cases h4 : f = Str.ofString "max"
  · rw [if_pos h4] at q; subst h4
    exact gl_builtin K.ok K.glo hk (by simp [bnames]) b_max (one_arg S K qa (fun s' v K' x h => pbuilt_max K'.rm.handled x q h) hQ)
  rw [if_neg h4] at q
  by_cases h5 : f = Str.ofString "sorted"
  · rw [if_pos h5] at q; subst h5
    obtain ⟨l, hl, rfl⟩ := Option.map_eq_some_iff.mp q
    obtain ⟨l', hl', hl''⟩ := Option.bind_eq_some_iff.mp hl
    cases PV.list?_inv hl'
    exact gl_builtin K.ok K.glo hk (by simp [bnames]) b_sorted (one_arg S K qa (fun s' v K' x h => psorted_sound K'.inv.live (sort_units K'.rm) x hl'' h) hQ)
  rw [if_neg h5] at q
  cases q
theorem evCall_sound {f : Str} {np pos : Pos} {args : List Expr} {r : PV} {Q : Value → Shared → Prop} (S : Sound prog w C T n I) (K : Ctx prog w C T n h₀ env c X ad σ A s.heap) (q : evCall T I c σ f args = some r)
    (hQ : ∀ v h' tk, Ext s.heap h' → Den prog w C h' X v r → Q v { s with heap := h', toks := tk }) : wpAny (model prog w) A (eval (.Call (.Name f np) args [] pos) env) Q E s := by
  unfold evCall at q
  by_cases hk : c.sc f = some .globalImplicit
  · rw [if_pos hk] at q
    by_cases hf : isFun T f = true
    · rw [if_pos hf] at q
      obtain ⟨ds, qa, qc⟩ := Option.bind_eq_some_iff.mp q
      obtain ⟨d, hdm, hd, hn⟩ := find_def hf
      obtain ⟨mg, mb, g1, g2, g3, g4, g5⟩ := K.glo.g
      obtain ⟨a, ha, hfa⟩ := g4 d hdm
      exact wpAny_Call_ofName (gl_global K.ok g1 hk (hn ▸ ha) (fn_call (ds₀ := []) S K hfa hd qa .nil qc hQ))
    rw [if_neg hf] at q
    by_cases hf : f = Str.ofString "TupleComp"
    · rw [if_pos hf] at q
      subst hf
      obtain ⟨mg, mb, g1, g2, g3, g4, g5⟩ := K.glo.g
      refine wpAny_Call_ofName (gl_global K.ok g1 hk g5 ?_)
      obtain ⟨ds, qa, q1⟩ := Option.bind_eq_some_iff.mp q
      obtain ⟨x, hx, rfl⟩ := Option.map_eq_some_iff.mp q1
      cases one_inv hx
      refine class_call K.glo (back_plain S qa) (args_sound S K qa fun vs h' tk e xs => ⟨e, ?_⟩)
      cases xs with
      | cons x xs =>
        cases xs
        refine wpAny_call (inst_made (s := { s with heap := h', toks := tk }) (K.glo.ext e) (by have := K.rm.depth; unfold recursionLimit; omega) (K.inv.ext e).live x fun u h'' tk' e' z => ?_)
        exact hQ u h'' tk' (e.trans e') z
    rw [if_neg hf] at q
    by_cases hf : f = Str.ofString "isinstance"
    · rw [if_pos hf] at q
      subst hf
      exact evIsi_sound S K hk q hQ
    rw [if_neg hf] at q
    obtain ⟨a, ha, q1⟩ := Option.bind_eq_some_iff.mp q
    cases one_inv ha
    obtain ⟨d, qa, q2⟩ := Option.bind_eq_some_iff.mp q1
    exact pone_sound S K hk qa q2 hQ
  · rw [if_neg hk] at q; cases q
end
end Mine
end
section
set_option maxRecDepth 100000
namespace Mine
open PySem PySem.Spec PySem.Calls PyProof.Rows PySem.SeqAt PySem.W
section
variable {prog : Program} {w : World} {C : Addr} {T : Tx} {n : Nat} {I : Itp} {h₀ : Heap} {env : Env} {c : Cx} {X : List Addr} {ad : Str → Option Addr} {σ : St} {A : Around} {s : Shared} {E : Value → Shared → Prop}
theorem okM_base {o : Expr} {ap p : Pos} (h : okM o ap p = true) : asCall o = none := by
  rw [okM, Bool.and_eq_true, Bool.not_eq_true'] at h
  cases hc : asCall o with
  | none => rfl
  | some x => rw [hc] at h; cases h.2
theorem base_plain {o : Expr} {name : Str} {ap p : Pos} (h : okM o ap p = true) : attributeBase o name env (eval o env) = eval o env := by
  have hc := okM_base h
  cases o <;> first | rfl | nomatch hc
theorem okM_line {o : Expr} {ap p : Pos} (h : okM o ap p = true) : (ap.endLine == p.line) = true := by
  rw [okM, Bool.and_eq_true] at h
  exact h.1
theorem few_plain {pos : Pos} {es : List Expr} {ds : List PV} (S : Sound prog w C T n I) (q : evAll I c σ es = some ds) (hl : es.length ≤ 10) :
    ((backTo pos (starEach es env)).all (fun x => !x.1) && (backToKw pos (keywordEach [] env)).all (fun x => x.1.isSome)
      && decide (es.length + ([] : List Keyword).length + (if ([] : List Keyword).isEmpty then 0 else 1) < 30)) = true := by
  have h1 := back_plain (pos := pos) (env := env) S q
  have h2 : (backTo pos (starEach es env)).all (fun x => !x.1) = true := by
    rw [List.all_eq_not_any_not]
    simpa using h1
  rw [h2]
  have : es.length + 0 + 0 < 30 := by omega
  simpa [keywordEach, backToKw] using this
theorem meth_any {o : Expr} {name : Str} {ap p : Pos} {es : List Expr} {Q : Value → Shared → Prop} (hm : okM o ap p = true)
    (hfew : ((backTo p (starEach es env)).all (fun x => !x.1) && (backToKw p (keywordEach [] env)).all (fun x => x.1.isSome)
      && decide (es.length + ([] : List Keyword).length + (if ([] : List Keyword).isEmpty then 0 else 1) < 30)) = true)
    (h : wpAny (model prog w) A (eval o env) (fun ov s₁ => ∀ pl, wpAny (model prog w) A (getMethod ov name pl) (fun fx s₂ => wpAny (model prog w) A (callWith p fx.1 fx.2 (backTo p (starEach es env)) []) Q E s₂) E s₁) E s) :
    wpAny (model prog w) A (eval (.Call (.Attribute o name ap) es [] p) env) Q E s := by
  rw [arm_eval_Call, base_plain hm]
  refine wpAny_bind (wpAny_mono h (fun ov s₁ h₁ => ?_) fun _ _ e => e)
  refine wpAny_bind (wpAny_standAt ?_)
  have hform : methodCallForm (es.length + ([] : List Keyword).length) (backTo p (starEach es env)) (backToKw p (keywordEach [] env)) = true := hfew
  have hpos : methodCallPos true o env ap p = pure p := by unfold methodCallPos; simp [okM_line hm]
  unfold methodCall
  rw [hform]
  refine wpAny_bind (wpAny_holding (wpAny_mono (h₁ _) (fun fx s₂ h₂ => ?_) fun _ _ e => e))
  exact wpAny_bind (wpAny_of_eq hpos h₂)
theorem evGet_sound {o : Expr} {ap p : Pos} {args : List Expr} {l : List (Key × PV)} {r : PV} {Q : Value → Shared → Prop} (S : Sound prog w C T n I) (K : Ctx prog w C T n h₀ env c X ad σ A s.heap) (hm : okM o ap p = true) (qo : evB I c σ o = some (.dict l)) (q : evGet I c σ l args = some r)
    (hQ : ∀ v h' tk, Ext s.heap h' → Den prog w C h' X v r → Q v { s with heap := h', toks := tk }) : wpAny (model prog w) A (eval (.Call (.Attribute o (Str.ofString "get") ap) args [] p) env) Q E s := by
  obtain ⟨⟨a, b⟩, h2, q1⟩ := Option.bind_eq_some_iff.mp q
  cases two_inv h2
  obtain ⟨k, d, qk, qd, q2⟩ := both_inv q1
  cases q2
  obtain ⟨kd, qkd, hkey⟩ := Option.bind_eq_some_iff.mp qk
  have qall : evAll I c σ [a, b] = some [kd, d] := by
    show both (I.ev c σ a) (both (I.ev c σ b) (some []) fun d l => some (d :: l)) (fun d l => some (d :: l)) = _
    rw [show I.ev c σ a = some kd from qkd, show I.ev c σ b = some d from qd]; rfl
  have hfew := few_plain (c := c) (σ := σ) (pos := p) (env := env) (es := [a, b]) (ds := [kd, d]) S qall (by simp)
  refine wpAny_Call_method (T := "dict") (id := "dict.get") (base_plain hm) hfew (okM_line hm) F.plainAttrs_dict F.slot_dict_get F.type_dict_get (evB_sound S K qo fun v h₁ t₁ e₁ x => ?_)
  obtain ⟨da, kvs, rfl, hsys, hdo, hkv, hde⟩ := x.dict
  refine ⟨hdo.typeIs, hdo.mapOf.noDict, ?_⟩
  rw [star_cons (S.dom qkd), star_cons (S.dom qd)]
  refine wpAny_dict_get2 (knd := keyKind prog w) hsys ?_
  refine S.ev (s := { s with heap := h₁, toks := t₁ }) (K.ext e₁) qkd fun u h₂ t₂ e₂ y => ?_
  refine S.ev (s := { s with heap := h₂, toks := t₂ }) (K.ext (e₁.trans e₂)) qd fun u' h₃ t₃ e₃ z => ?_
  refine ⟨k, _, y.key hkey, (dictOf_at hdo fun o z => e₃ _ _ (e₂ _ _ z)).mapOf, ?_⟩
  have e13 : Ext s.heap h₃ := e₁.trans (e₂.trans e₃)
  rcases valueAt_den hkv (hde.ext (e₂.trans e₃)) k with ⟨g1, g2⟩ | ⟨v', d', g1, g2, g3⟩
  · refine hQ _ h₃ _ e13 ?_
    rw [g1, g2]; exact z
  · refine hQ _ h₃ _ e13 ?_
    rw [g1, g2]; exact g3
theorem evMeth_sound {o : Expr} {m : Str} {ap p : Pos} {args : List Expr} {r : PV} {Q : Value → Shared → Prop} (S : Sound prog w C T n I) (K : Ctx prog w C T n h₀ env c X ad σ A s.heap) (hm : okM o ap p = true) (hl : args.length ≤ 10) (q : evMeth I c σ o m args = some r)
    (hQ : ∀ v h' tk, Ext s.heap h' → Den prog w C h' X v r → Q v { s with heap := h', toks := tk }) : wpAny (model prog w) A (eval (.Call (.Attribute o m ap) args [] p) env) Q E s := by
  unfold evMeth at q
  by_cases hg : m = Str.ofString "get"
  · rw [if_pos hg] at q
    subst hg
    obtain ⟨l, hl', q1⟩ := Option.bind_eq_some_iff.mp q
    obtain ⟨d, qo, hd⟩ := Option.bind_eq_some_iff.mp hl'
    cases PV.dict?_inv hd
    exact evGet_sound S K hm qo q1 hQ
  rw [if_neg hg] at q
  by_cases hg : m = Str.ofString "compare"
  · rw [if_pos hg] at q
    subst hg
    obtain ⟨x, hx, q1⟩ := Option.bind_eq_some_iff.mp q
    obtain ⟨d, qo, hd⟩ := Option.bind_eq_some_iff.mp hx
    cases PV.inst?_inv hd
    obtain ⟨ds, qa, qc⟩ := Option.bind_eq_some_iff.mp q1
    refine meth_any hm (few_plain S qa hl) (evB_sound S K qo fun v h₁ t₁ e₁ y pl => ?_)
    have y' : Den prog w C h₁ X v (.inst x) := by
      rcases y with y | ⟨_, _, _, y⟩
      · exact y
      · exact y.elim
    refine inst_meth (s := { s with heap := h₁, toks := t₁ }) (K.glo.ext e₁) y' fun fc dc hf hd => ?_
    refine fn_call (s := { s with heap := h₁, toks := t₁ }) (ds₀ := [.inst x]) S (K.ext e₁) hf hd qa (.cons y' .nil) qc fun u h₂ t₂ e₂ z => ?_
    exact hQ u h₂ t₂ (e₁.trans e₂) z
  rw [if_neg hg] at q
  cases q
theorem attr_sound {b : Expr} {p : Pos} {x : PV} {Q : Value → Shared → Prop} (hb : isNm b = true) (S : Sound prog w C T n I) (K : Ctx prog w C T n h₀ env c X ad σ A s.heap) (q : I.ev c σ b = some (.inst x))
    (hQ : ∀ v h' tk, Ext s.heap h' → Den prog w C h' X v x → Q v { s with heap := h', toks := tk }) : wpAny (model prog w) A (eval (.Attribute b theList p) env) Q E s := by
  refine Attribute_any_ (S.ev K q fun v h₁ t₁ e₁ y => ?_) ?_
  · exact inst_attr (s := { s with heap := h₁, toks := t₁ }) (K.glo.ext e₁) y fun u tk z => hQ u h₁ tk e₁ z
  · cases b <;> first | rfl | nomatch hb
end
end Mine
end
section
set_option maxRecDepth 100000
namespace Mine
open PySem PySem.Spec PySem.Calls PyProof.Rows PySem.SeqAt PySem.W
noncomputable def ownIters : List String := ["enumerate", "zip", "dict_itemiterator", "dict_reverseitemiterator", "odict_iterator", "itertools.zip_longest", "itertools.pairwise"]
/-- the things that an iterator gives, one after the other -/
structure PWk (prog : Program) (w : World) (C : Addr) (I : Addr) (ds : List PV) (St : Nat → Heap → List Addr → Prop) : Prop where
  mv : ∀ {i h X h' X'}, St i h X → Mv X h X' h' → I ∈ X' → (∀ o, h.get? I = some o → h'.get? I = some o) → St i h' X'
  inX : ∀ {i h X}, St i h X → I ∈ X
  live : ∀ {i h X}, St i h X → ∃ o nm, h.get? I = some o ∧ o.cls = .type nm ∧ ownIters.contains nm = false
  item : ∀ {A : Around} {i : Nat} {s : Shared} {X : List Addr} {d : PV} {Q : Option Value → Shared → Prop} {E : Value → Shared → Prop}, A.handled = none → ds[i]? = some d → St i s.heap X →
    (∀ v h' tk, Den prog w C h' X v d → St (i + 1) h' X → (∀ b o, b ≠ I → s.heap.get? b = some o → h'.get? b = some o) → Q (some v) { s with heap := h', toks := tk }) → wpAny (model prog w) A (pyNext (.ref I)) Q E s
  done : ∀ {A : Around} {s : Shared} {X : List Addr} {Q : Option Value → Shared → Prop} {E : Value → Shared → Prop}, A.handled = none → St ds.length s.heap X →
    (∀ h' tk, (∀ b o, b ≠ I → s.heap.get? b = some o → h'.get? b = some o) → Q none { s with heap := h', toks := tk }) → wpAny (model prog w) A (pyNext (.ref I)) Q E s
  self : ∀ {A : Around} {i : Nat} {s : Shared} {X : List Addr} {Q : Value → Shared → Prop} {E : Value → Shared → Prop}, A.handled = none → St i s.heap X → Q (.ref I) s → wpAny (model prog w) A (pyIter (.ref I)) Q E s
section
variable {prog : Program} {w : World} {C : Addr}
theorem PWk.own {I : Addr} {ds : List PV} {St : Nat → Heap → List Addr → Prop} (W : PWk prog w C I ds St) {A : Around} {i : Nat} {s : Shared} {X : List Addr} {t : Expr} {v : Value} {Q : Unit → Shared → Prop} {E : Value → Shared → Prop}
    (st : St i s.heap X) (h : Q () s) : wpAny (model prog w) A (letOwnedTupleGo t (.ref I) v) Q E s := by
  obtain ⟨o, nm, ho, hc, hn⟩ := W.live st
  have key : ∀ a : Addr, wpAny (model prog w) A (do
      let o ← load I
      match o.cls, o.data with
      | .type n, .fields vs =>
        if ["enumerate", "zip", "dict_itemiterator", "dict_reverseitemiterator", "odict_iterator", "itertools.zip_longest", "itertools.pairwise"].contains n && vs[0]? == some (rawInt a) then
          rule "for.unpacks-the-owned-tuple"
          updateField I 0 .none
      | _, _ => pure () : Sem Unit) Q E s := by
    intro a
    refine wpAny_bind (wpAny_load ho ?_)
    rw [hc]
    split
    · rename_i n vs hn' _
      cases hn'
      have : (["enumerate", "zip", "dict_itemiterator", "dict_reverseitemiterator", "odict_iterator", "itertools.zip_longest", "itertools.pairwise"].contains nm && vs[0]? == some (rawInt a)) = false := by
        rw [Bool.and_eq_false_iff]; exact .inl hn
      rw [this]
      exact wpAny_pure h
    · exact wpAny_pure h
  cases t <;> first
    | exact wpAny_pure h
    | (cases v <;> first | exact wpAny_pure h | exact key _)
/-- from the walks of the library -/
theorem pwk_of {I : Addr} {fp : List Addr} {ds : List PV} {P : Nat → Value → Prop} {St₀ : Nat → Heap → Prop} (W : ∀ A : Around, A.handled = none → Walks prog w A I fp [I] ds.length P St₀)
    (hcls : ∀ i h, St₀ i h → ∃ o nm, h.get? I = some o ∧ o.cls = .type nm ∧ ownIters.contains nm = false) (A₀ : Around) (hA : A₀.handled = none) :
    PWk prog w C I ds (fun i h X => St₀ i h ∧ I ∈ X ∧ (∀ b ∈ fp, b ≠ I → b ∉ X ∧ ∃ o, h.get? b = some o) ∧ ∀ j v d, P j v → ds[j]? = some d → Den prog w C h X v d) where
  mv := fun {i h X h' X'} st m hI hk => by
    obtain ⟨s1, s2, s3, s4⟩ := st
    refine ⟨(W A₀ hA).frame i h h' s1 fun b hb o e => ?_, hI, fun b hb hne => ?_, fun j v d p q => (s4 j v d p q).mv m⟩
    · by_cases hbI : b = I
      · exact hbI ▸ hk o (hbI ▸ e)
      · exact m.keep b o (s3 b hb hbI).1 e
    · obtain ⟨g1, o, g2⟩ := s3 b hb hne
      exact ⟨m.off g1 g2, o, m.keep b o g1 g2⟩
  inX := fun st => st.2.1
  live := fun st => hcls _ _ st.1
  item := fun {A i s X d Q E} hh hd st hQ => by
    obtain ⟨s1, s2, s3, s4⟩ := st
    have hlt : i < ds.length := (List.getElem?_eq_some_iff.mp hd).1
    refine (W A hh).item i s Q E hlt s1 fun v h' tk hp st' hk => ?_
    have hk' : ∀ b o, b ≠ I → s.heap.get? b = some o → h'.get? b = some o := fun b o hb e => hk b o (by simpa using hb) e
    have m : Mv X s.heap X h' := ⟨fun b o hb e => hk' b o (fun q => hb (q ▸ s2)) e, fun _ hb => .inl hb⟩
    refine hQ v h' tk ((s4 i v d hp hd).mv m) ⟨st', s2, fun b hb hne => ?_, fun j v d p q => (s4 j v d p q).mv m⟩ hk'
    obtain ⟨g1, o, g2⟩ := s3 b hb hne
    exact ⟨g1, o, hk' b o hne g2⟩
  done := fun {A s X Q E} hh st hQ => (W A hh).done s Q E st.1 fun h' tk hk => hQ h' tk fun b o hb e => hk b o (by simpa using hb) e
  self := fun {A i s X Q E} hh st h => (W A hh).self i s Q E st.1 h
noncomputable def GivesIt (prog : Program) (w : World) (C : Addr) (X : List Addr) (ds : List PV) (s : Shared) (Q : Value → Shared → Prop) : Prop :=
  ∀ I St h' tk, Ext s.heap h' → s.heap.get? I = none → PWk prog w C I ds St → St 0 h' (I :: X) → Q (.ref I) { s with heap := h', toks := tk }
variable {X : List Addr} {A : Around} {s : Shared} {E : Value → Shared → Prop} {Q : Value → Shared → Prop}
theorem size_ne_of {h : Heap} {a : Addr} {o : Obj} (e : h.get? a = some o) : a ≠ h.objs.size := Nat.ne_of_lt (Heap.lt_size e)
theorem iter_list {a : Addr} {vs : List Value} {ds : List PV} (hh : A.handled = none) (ha : a ∉ X) (hl : s.heap.IsList a vs.toArray) (hd : DenAll prog w C s.heap X vs ds) (hQ : GivesIt prog w C X ds s Q) :
    wpAny (model prog w) A (pyIter (.ref a)) Q E s := by
  obtain ⟨o, ho, hc, n, hdt⟩ := id hl
  have hlen : vs.toArray.size = ds.length := by rw [List.size_toArray]; exact hd.length
  have e := Ext.push s.heap { cls := .type "list_iterator", data := .fields #[.ref a, .int 0 0] }
  refine wpAny_pyIter_list hl (hQ _ _ _ s.toks e (size_none _) (pwk_of (fp := [s.heap.objs.size, a]) (P := fun i v => vs.toArray[i]? = some v) (St₀ := fun i h => h.IsListIter s.heap.objs.size a i ∧ h.IsList a vs.toArray)
    (fun A' hA => hlen ▸ Walks.list hA _ _ (size_ne_of ho) vs.toArray) (fun i h st => ?_) A hh) ⟨⟨⟨_, Heap.get?_push_size _ rfl, rfl, rfl⟩, isList_at hl fun o z => e _ _ z⟩, List.mem_cons_self, fun b hb hne => ?_, fun j v d p q => ?_⟩)
  · obtain ⟨⟨o, h1, h2, _⟩, _⟩ := st
    exact ⟨o, _, h1, h2, by decide⟩
  · simp only [List.mem_cons, List.not_mem_nil, or_false] at hb
    rcases hb with rfl | rfl
    · exact absurd rfl hne
    · exact ⟨fun hm => (List.mem_cons.mp hm).elim hne ha, o, e _ _ ho⟩
  · have := hd.at (by simpa using p) q
    exact this.mv (.more (fun b o _ z => e b o z) (size_none _))
theorem iter_tuple {a : Addr} {vs : List Value} {ds : List PV} (hh : A.handled = none) (ha : a ∉ X) (hl : s.heap.IsTuple a vs.toArray) (hd : DenAll prog w C s.heap X vs ds) (hQ : GivesIt prog w C X ds s Q) :
    wpAny (model prog w) A (pyIter (.ref a)) Q E s := by
  obtain ⟨o, ho, hc, n, hdt⟩ := id hl
  have hlen : vs.toArray.size = ds.length := by rw [List.size_toArray]; exact hd.length
  have e := Ext.push s.heap { cls := .type "tuple_iterator", data := .fields #[.ref a, .int 0 0] }
  refine wpAny_pyIter_tuple hl (hQ _ _ _ s.toks e (size_none _) (pwk_of (fp := [s.heap.objs.size, a]) (P := fun i v => vs.toArray[i]? = some v) (St₀ := fun i h => h.IsTupleIter s.heap.objs.size a i ∧ h.IsTuple a vs.toArray)
    (fun A' hA => hlen ▸ Walks.tuple hA _ _ (size_ne_of ho) vs.toArray) (fun i h st => ?_) A hh) ⟨⟨⟨_, Heap.get?_push_size _ rfl, rfl, rfl⟩, isTuple_at hl fun o z => e _ _ z⟩, List.mem_cons_self, fun b hb hne => ?_, fun j v d p q => ?_⟩)
  · obtain ⟨⟨o, h1, h2, _⟩, _⟩ := st
    exact ⟨o, _, h1, h2, by decide⟩
  · simp only [List.mem_cons, List.not_mem_nil, or_false] at hb
    rcases hb with rfl | rfl
    · exact absurd rfl hne
    · exact ⟨fun hm => (List.mem_cons.mp hm).elim hne ha, o, e _ _ ho⟩
  · have := hd.at (by simpa using p) q
    exact this.mv (.more (fun b o _ z => e b o z) (size_none _))
theorem iter_str {x : Str} {t : Tok} (hh : A.handled = none) (hQ : GivesIt prog w C X (chars x) s Q) : wpAny (model prog w) A (pyIter (.str x t)) Q E s := by
  have hlen : x.cps.size = (chars x).length := by simp [chars]
  have fin : ∀ (nm : String) (St : Nat → Heap → Prop), (∀ i h, St i h → h.IsStrIter s.heap.objs.size nm x t i) → ownIters.contains nm = false → (∀ A' : Around, A'.handled = none → Walks prog w A' s.heap.objs.size [s.heap.objs.size] [s.heap.objs.size] x.cps.size (SignAt x) St) →
      St 0 (s.heap.push { cls := .type nm, data := .fields #[.str x t, .int 0 0] }) → Q (.ref s.heap.objs.size) { s with heap := s.heap.push { cls := .type nm, data := .fields #[.str x t, .int 0 0] } } := by
    intro nm St hst hnm W st
    refine hQ _ _ _ s.toks (Ext.push _ _) (size_none _) (pwk_of (fp := [s.heap.objs.size]) (P := SignAt x) (St₀ := St) (fun A' hA => hlen ▸ W A' hA) (fun i h z => ?_) A hh) ⟨st, List.mem_cons_self, fun b hb hne => ?_, fun j v d p q => ?_⟩
    · obtain ⟨o, h1, h2, _⟩ := hst i h z
      exact ⟨o, _, h1, h2, hnm⟩
    · simp only [List.mem_cons, List.not_mem_nil, or_false] at hb
      exact absurd hb hne
    · obtain ⟨c, u, hc, rfl⟩ := p
      have : (chars x)[j]? = some (.str ⟨#[c]⟩) := by simp [chars, hc]
      rw [this] at q; cases q
      exact .str _ _
  cases ha : x.cps.all (· < 128)
  · exact wpAny_pyIter_wide ha (fin "str_iterator" _ (fun i h z => z) (by decide) (fun A' hA => Walks.strWide hA _ x t) ⟨_, Heap.get?_push_size _ rfl, rfl, rfl⟩)
  · exact wpAny_pyIter_ascii ha (fin "str_ascii_iterator" _ (fun i h z => z) (by decide) (fun A' hA => Walks.strAscii hA _ x t) ⟨_, Heap.get?_push_size _ rfl, rfl, rfl⟩)
theorem iter_dict {a : Addr} {kvs : List (Key × Value)} {l : List (Key × PV)} (hh : A.handled = none) (ha : a ∉ X) (hs : (a == sysModules) = false) (hm : s.heap.DictOf (keyKind prog w) a kvs) (hk : kvs.map (·.1) = l.map (·.1))
    (hQ : GivesIt prog w C X (l.map (·.1.pv)) s Q) : wpAny (model prog w) A (pyIter (.ref a)) Q E s := by
  obtain ⟨ep, hm'⟩ := hm.dictAt
  obtain ⟨o, es, ho, r⟩ := id hm'
  have hlen : kvs.length = (l.map (·.1.pv)).length := by
    have := congrArg List.length hk
    simpa using this
  have e := Ext.push s.heap { cls := .type "dict_keyiterator", data := .fields #[.ref a, .int 0 0, .int kvs.length 0, .int ep 0] }
  refine wpAny_pyIter_dict (knd := keyKind prog w) hs hm' (hQ _ _ _ s.toks e (size_none _) (pwk_of (fp := [s.heap.objs.size, a]) (P := fun i v => ∃ k x, kvs[i]? = some (k, x) ∧ (keyKind prog w).is k v = true)
    (St₀ := fun i h => h.IsKeyIter s.heap.objs.size a i kvs.length ep ∧ h.DictAt (keyKind prog w) a kvs ep)
    (fun A' hA => hlen ▸ Walks.dictKeys hA _ _ (size_ne_of ho) kvs ep) (fun i h st => ?_) A hh) ⟨⟨⟨_, Heap.get?_push_size _ rfl, rfl, rfl⟩, hm'.at' fun o z => e _ _ z⟩, List.mem_cons_self, fun b hb hne => ?_, fun j v d p q => ?_⟩)
  · obtain ⟨⟨o, h1, h2, _⟩, _⟩ := st
    exact ⟨o, _, h1, h2, by decide⟩
  · simp only [List.mem_cons, List.not_mem_nil, or_false] at hb
    rcases hb with rfl | rfl
    · exact absurd rfl hne
    · exact ⟨fun hm => (List.mem_cons.mp hm).elim hne ha, o, e _ _ ho⟩
  · obtain ⟨k, x, g1, g2⟩ := p
    have h1 : (kvs.map (·.1))[j]? = some k := by simp [g1]
    rw [hk] at h1
    have h2 : (l.map (·.1.pv))[j]? = some k.pv := by
      rw [List.getElem?_map] at h1 ⊢
      obtain ⟨kv, h3, h4⟩ := Option.map_eq_some_iff.mp h1
      rw [h3]; simp [h4]
    rw [h2] at q; cases q
    exact den_of_key g2
theorem iter_values {v a : Addr} {kvs : List (Key × Value)} {l : List (Key × PV)} (hh : A.handled = none) (ha : a ∉ X) (hv : s.heap.IsValuesView v a) (hm : s.heap.DictOf (keyKind prog w) a kvs) (hk : kvs.map (·.1) = l.map (·.1))
    (hd : DenAll prog w C s.heap X (kvs.map (·.2)) (l.map (·.2))) (hQ : GivesIt prog w C X (l.map (·.2)) s Q) : wpAny (model prog w) A (pyIter (.ref v)) Q E s := by
  obtain ⟨ep, hm'⟩ := hm.dictAt
  obtain ⟨o, es, ho, r⟩ := id hm'
  have hlen : kvs.length = (l.map (·.2)).length := by
    have := congrArg List.length hk
    simpa using this
  have e := Ext.push s.heap { cls := .type "dict_valueiterator", data := .fields #[.ref a, .int 0 0, .int kvs.length 0, .int ep 0] }
  refine wpAny_pyIter_values (knd := keyKind prog w) hv hm' (hQ _ _ _ s.toks e (size_none _) (pwk_of (fp := [s.heap.objs.size, a]) (P := fun i v => ∃ k, kvs[i]? = some (k, v))
    (St₀ := fun i h => h.IsValIter s.heap.objs.size a i kvs.length ep ∧ h.DictAt (keyKind prog w) a kvs ep)
    (fun A' hA => hlen ▸ Walks.dictValues hA _ _ (size_ne_of ho) kvs ep) (fun i h st => ?_) A hh) ⟨⟨⟨_, Heap.get?_push_size _ rfl, rfl, rfl⟩, hm'.at' fun o z => e _ _ z⟩, List.mem_cons_self, fun b hb hne => ?_, fun j v d p q => ?_⟩)
  · obtain ⟨⟨o, h1, h2, _⟩, _⟩ := st
    exact ⟨o, _, h1, h2, by decide⟩
  · simp only [List.mem_cons, List.not_mem_nil, or_false] at hb
    rcases hb with rfl | rfl
    · exact absurd rfl hne
    · exact ⟨fun hm => (List.mem_cons.mp hm).elim hne ha, o, e _ _ ho⟩
  · obtain ⟨k, g1⟩ := p
    have := hd.at (i := j) (v := v) (d := d) (by simp [g1]) q
    exact this.mv (.more (fun b o _ z => e b o z) (size_none _))
theorem iter_range {r : Addr} {n : Int} {t u v : Tok} (hh : A.handled = none) (hn : n < 100000) (hr : IsRange s.heap r 0 n 1 t u v) (h0 : -(2 ^ 62) ≤ n)
    (hQ : GivesIt prog w C X ((List.range n.toNat).map fun (i : Nat) => PV.int (i : Int)) s Q) : wpAny (model prog w) A (pyIter (.ref r)) Q E s := by
  have hz : Builtin.Range.rangeSize 0 n 1 = ((n.toNat : Nat) : Int) := by rw [rangeSize_one]; split <;> omega
  have hlen : n.toNat = ((List.range n.toNat).map fun (i : Nat) => PV.int (i : Int)).length := by simp
  refine wpAny_pyIter_range hr (small_one (by decide) (by decide) h0 (by omega)) ?_
  rw [hz]
  refine hQ _ _ _ s.toks (Ext.push _ _) (size_none _) (pwk_of (fp := [s.heap.objs.size]) (P := fun i v => ∃ t, v = .int (0 + i * 1) t) (St₀ := fun i h => IsRangeIter h s.heap.objs.size (0 + (i : Nat) * 1) ((n.toNat : Int) - (i : Nat)) 1)
    (fun A' hA => by
      have := Walks.range (prog := prog) (w := w) hA s.heap.objs.size 0 1 n.toNat
      exact hlen ▸ this) (fun i h st => ?_) A hh) ⟨?_, List.mem_cons_self, fun b hb hne => ?_, fun j v d p q => ?_⟩
  · exact ⟨_, _, st, rfl, by decide⟩
  · have := Heap.get?_push_size (o := { cls := .type "range_iterator", data := .fields #[rawInt 0, rawInt ((n.toNat : Nat) : Int), rawInt 1] }) s.heap rfl
    simpa using this
  · simp only [List.mem_cons, List.not_mem_nil, or_false] at hb
    exact absurd hb hne
  · obtain ⟨t, rfl⟩ := p
    rw [List.getElem?_map] at q
    obtain ⟨i, h1, rfl⟩ := Option.map_eq_some_iff.mp q
    have : i = j := by
      have := List.getElem?_eq_some_iff.mp h1
      obtain ⟨_, h2⟩ := this
      simpa using h2.symm
    subst this
    have : (0 + (i : Int) * 1) = (i : Int) := by omega
    rw [this]
    exact .int _ _
theorem piter_sound {v : Value} {d : PV} {ds : List PV} (hh : A.handled = none) (x : Den prog w C s.heap X v d) (q : piter d = some ds) (hQ : GivesIt prog w C X ds s Q) : wpAny (model prog w) A (pyIter v) Q E s := by
  cases d <;> simp [piter] at q
  · obtain ⟨rfl⟩ := q.2
    cases x
    exact iter_str hh hQ
  · subst q
    cases x with
    | tup ha hl hd => exact iter_tuple hh ha hl hd hQ
  · subst q
    cases x with
    | list ha hl hd => exact iter_list hh ha hl hd hQ
  · subst q
    cases x with
    | dict ha hs hm hk hd => exact iter_dict hh ha hs hm hk hQ
end
end Mine
end
section
set_option maxRecDepth 100000
namespace Mine
open PySem PySem.Spec PySem.Calls PyProof.Rows PySem.SeqAt PySem.W
theorem cellsFrom_acc : ∀ (names : List (Str × NameKind)) (n : Nat) (acc : List (Str × Addr)), cellsFrom n names acc = cellsFrom n names [] ++ acc
  | [], _, acc => by simp [cellsFrom]
  | (x, k) :: r, n, acc => by
    unfold cellsFrom
    split
    · rw [cellsFrom_acc r _ (_ :: acc), cellsFrom_acc r _ [_]]; simp
    · exact cellsFrom_acc r n acc
theorem cellsFrom_none {x : Str} : ∀ (names : List (Str × NameKind)) (n : Nat) (acc : List (Str × Addr)), (∀ p ∈ names, p.1 = x → p.2 ≠ .cell) → (cellsFrom n names acc).lookup x = acc.lookup x
  | [], _, _, _ => rfl
  | (y, k) :: r, n, acc, h => by
    unfold cellsFrom
    have hr : ∀ p ∈ r, p.1 = x → p.2 ≠ .cell := fun p hp => h p (List.mem_cons_of_mem _ hp)
    split
    · rename_i hk
      rw [cellsFrom_none r _ _ hr, List.lookup_cons]
      have : x ≠ y := fun e => h (y, k) List.mem_cons_self e.symm (by simpa using hk)
      have : (x == y) = false := by simpa using this
      rw [this]
    · exact cellsFrom_none r _ _ hr
theorem cellsFrom_some {x : Str} : ∀ (names : List (Str × NameKind)) (n : Nat) (acc : List (Str × Addr)), (x, NameKind.cell) ∈ names ∨ (acc.lookup x).isSome = true → ((cellsFrom n names acc).lookup x).isSome = true
  | [], _, _, h => h.elim (fun h => nomatch h) id
  | (y, k) :: r, n, acc, h => by
    unfold cellsFrom
    split
    · rename_i hk
      refine cellsFrom_some r _ _ ?_
      rw [List.lookup_cons]
      cases hxy : x == y with
      | true => exact .inr rfl
      | false =>
        rcases h with h | h
        · rcases List.mem_cons.mp h with h | h
          · cases h; simp at hxy
          · exact .inl h
        · exact .inr h
    · rename_i hk
      refine cellsFrom_some r _ _ ?_
      rcases h with h | h
      · rcases List.mem_cons.mp h with h | h
        · cases h; simp at hk
        · exact .inl h
      · exact .inr h
structure NewEnv (names : List (Str × NameKind)) (cl : List (Str × Addr)) (h h' : Heap) (L : Addr) (cells : List (Str × Addr)) : Prop where
  ext : Ext h h'
  ns : h'.Ns L (fun _ => none)
  off : h.get? L = none
  own : ∀ x, names.lookup x = some .cell → ∃ a, cells.lookup x = some a ∧ h'.IsCell a none ∧ h.get? a = none ∧ a ≠ L
  oth : ∀ x, names.lookup x ≠ some .cell → cells.lookup x = cl.lookup x
  inj : ∀ x y a, names.lookup x = some .cell → names.lookup y = some .cell → cells.lookup x = some a → cells.lookup y = some a → x = y
theorem lookup_append_some {α : Type} {x : Str} {v : α} : ∀ {l m : List (Str × α)}, l.lookup x = some v → (l ++ m).lookup x = some v
  | [], _, h => by simp at h
  | (y, u) :: l, m, h => by
    rw [List.cons_append, List.lookup_cons]
    rw [List.lookup_cons] at h
    cases hxy : x == y with
    | true => rw [hxy] at h; exact h
    | false => rw [hxy] at h; exact lookup_append_some h
theorem comp_env {M : Model} {A : Around} {E : Value → Shared → Prop} {s : Shared} {scope : Scope} {globals : Addr} {cl : List (Str × Addr)} {qual : Str} {env : Env} {Q : Env → Shared → Prop}
    (hc : ∀ p ∈ scope.names, scope.names.lookup p.1 = some p.2)
    (hQ : ∀ cells h', NewEnv scope.names cl s.heap h' s.heap.objs.size cells → Q (newEnv scope s.heap.objs.size globals cells qual none .none (some env) builtinsNs) { s with heap := h' }) :
    wpAny M A (newFunctionEnv scope globals cl [] qual none .none (some env)) Q E s := by
  simp only [newFunctionEnv, Option.isSome_some, if_true]
  refine wpAny_bind (wpAny_alloc ?_)
  refine wpAny_bind (wpAny_layCells _ (fun name kind cells => by cases hkc : kind == NameKind.cell <;> simp [hkc]) _ _ _ _ ?_)
  have ok := cellsFrom_ok scope.names (s.heap.push { cls := .type "dict", data := .dict #[] }) (s.heap.objs.size + 1) [] ⟨fun _ _ hm => (nomatch hm), List.Pairwise.nil⟩ (by rw [Heap.size_push]; exact Nat.le_refl _)
  rw [Heap.size_push] at ok
  rw [show ({ s with heap := s.heap.push { cls := .type "dict", data := .dict #[] } } : Shared).heap.objs.size = s.heap.objs.size + 1 from Heap.size_push ..]
  simp only [List.forIn_nil]
  refine wpAny_bind (wpAny_pure (wpAny_pure (hQ _ _ ?_)))
  have e1 : Ext s.heap (s.heap.push { cls := .type "dict", data := .dict #[] }) := Ext.push _ _
  have e2 : Ext (s.heap.push { cls := .type "dict", data := .dict #[] }) (pushCells (s.heap.push { cls := .type "dict", data := .dict #[] }) scope.names) := fun b o e => pushCells_keeps _ _ b o e
  have hcell : ∀ x, scope.names.lookup x = some .cell → (x, NameKind.cell) ∈ scope.names := fun x hx => mem_of_lookup hx
  have hown : ∀ x, scope.names.lookup x = some .cell → ∃ a, (cellsFrom (s.heap.objs.size + 1) scope.names []).lookup x = some a := fun x hx => Option.isSome_iff_exists.mp (cellsFrom_some _ _ [] (.inl (hcell x hx)))
  refine ⟨e1.trans e2, (Heap.Ns.new s.heap (.type "dict")).keeps e2, size_none _, fun x hx => ?_, fun x hx => ?_, fun x y a hx hy p q => ?_⟩
  · obtain ⟨a, ha⟩ := hown x hx
    obtain ⟨g1, g2⟩ := ok.empty x a (mem_of_lookup ha)
    refine ⟨a, by rw [cellsFrom_acc]; exact lookup_append_some ha, g1, ?_, Nat.ne_of_gt g2⟩
    cases e : s.heap.get? a with
    | none => rfl
    | some o => exact absurd (Heap.lt_size e) (Nat.not_lt.mpr (Nat.le_of_succ_le g2))
  · refine cellsFrom_none _ _ _ fun p hp e hk => hx ?_
    have := hc p hp
    rw [e, hk] at this; exact this
  · obtain ⟨a₁, h1⟩ := hown x hx
    obtain ⟨a₂, h2⟩ := hown y hy
    rw [cellsFrom_acc, lookup_append_some h1] at p
    rw [cellsFrom_acc, lookup_append_some h2] at q
    cases p; cases q
    exact name_of_addr ok.apart (mem_of_lookup h1) (mem_of_lookup h2)
noncomputable def clFrom (env : Env) : List (Str × NameKind) → List (Str × Addr) → List (Str × Addr)
  | [], acc => acc
  | (x, k) :: r, acc => if k == .free then clFrom env r ((x, (env.cells.lookup x).getD 0) :: acc) else clFrom env r acc
theorem clFrom_lookup {env : Env} {x : Str} : ∀ (names : List (Str × NameKind)) (acc : List (Str × Addr)), (∀ p ∈ names, p.2 = .free → (env.cells.lookup p.1).isSome = true) →
    ((x, NameKind.free) ∈ names ∨ acc.lookup x = env.cells.lookup x) → (clFrom env names acc).lookup x = env.cells.lookup x
  | [], acc, _, h => h.elim (fun h => nomatch h) id
  | (y, k) :: r, acc, hf, h => by
    have hr : ∀ p ∈ r, p.2 = .free → (env.cells.lookup p.1).isSome = true := fun p hp => hf p (List.mem_cons_of_mem _ hp)
    unfold clFrom
    split
    · rename_i hk
      refine clFrom_lookup r _ hr ?_
      rw [List.lookup_cons]
      cases hxy : x == y with
      | true =>
        have : x = y := by simpa using hxy
        subst this
        obtain ⟨a, ha⟩ := Option.isSome_iff_exists.mp (hf (x, k) List.mem_cons_self (by simpa using hk))
        refine .inr ?_
        rw [ha]; rfl
      | false =>
        rcases h with h | h
        · rcases List.mem_cons.mp h with h | h
          · cases h; simp at hxy
          · exact .inl h
        · exact .inr h
    · rename_i hk
      refine clFrom_lookup r _ hr ?_
      rcases h with h | h
      · rcases List.mem_cons.mp h with h | h
        · cases h; simp at hk
        · exact .inl h
      · exact .inr h
theorem closure_ok {scope : Scope} {env : Env} (hf : ∀ p ∈ scope.names, p.2 = .free → (env.cells.lookup p.1).isSome = true) : closureFor scope env = pure (clFrom env scope.names []) := by
  unfold closureFor
  have key : ∀ (names : List (Str × NameKind)) (acc : List (Str × Addr)), (∀ p ∈ names, p.2 = .free → (env.cells.lookup p.1).isSome = true) →
      (forIn names acc fun x r => (match x with
        | (name, kind) => if kind == .free then (do let a ← cellOf env name; pure (ForInStep.yield ((name, a) :: r))) else pure (ForInStep.yield r) : Sem (ForInStep (List (Str × Addr))))) = (pure (clFrom env names acc) : Sem _) := by
    intro names
    induction names with
    | nil => intro acc _; rfl
    | cons p r ih =>
      intro acc hf
      obtain ⟨y, k⟩ := p
      have hr : ∀ p ∈ r, p.2 = .free → (env.cells.lookup p.1).isSome = true := fun p hp => hf p (List.mem_cons_of_mem _ hp)
      rw [List.forIn_cons]
      unfold clFrom
      by_cases hk : (k == NameKind.free) = true
      · obtain ⟨a, ha⟩ := Option.isSome_iff_exists.mp (hf (y, k) List.mem_cons_self (by simpa using hk))
        simp only [hk, if_true]
        have : cellOf env y = pure a := by unfold cellOf; rw [ha]
        rw [this, pure_bind, pure_bind]
        have ih' := ih ((y, a) :: acc) hr
        rw [ha]
        exact ih'
      · simp only [hk, if_false, Bool.false_eq_true]
        rw [pure_bind]
        exact ih acc hr
  have := key scope.names [] hf
  simp only [bind_pure]
  exact this
end Mine
end
section
set_option maxRecDepth 100000
namespace Mine
open PySem PySem.Spec PySem.Calls PyProof.Rows PySem.SeqAt PySem.W
theorem relab_lookup {sc : Scope} {env : Env} {c : Cx} (O : EnvOk env c) (x : Str) : ∀ (names : List (Str × NameKind)),
    (names.map fun (n, k) => if (k == NameKind.free && env.scope.kind == .function && env.kindOf n == some .cell) then (n, NameKind.cell) else (n, k)).lookup x =
      (names.lookup x).bind fun k => if k = .free ∧ c.sc x = some .cell then some .cell else some k
  | [] => rfl
  | (n, k) :: r => by
    have ih := relab_lookup (sc := sc) O x r
    show List.lookup x ((if (k == NameKind.free && env.scope.kind == .function && env.kindOf n == some .cell) = true then (n, NameKind.cell) else (n, k)) :: _) = _
    by_cases hx : x = n
    · subst hx
      rw [List.lookup_cons (b := k), beq_self_eq_true]
      by_cases hc : k = .free ∧ c.sc x = some .cell
      · rw [if_pos (by simp [O.kind, O.sc, hc.1, hc.2]), List.lookup_cons, beq_self_eq_true]
        exact (if_pos hc).symm
      · rw [if_neg (by intro h; simp [O.kind, O.sc] at h; exact hc h), List.lookup_cons, beq_self_eq_true]
        exact (if_neg hc).symm
    · have hb : (x == n) = false := beq_eq_false_iff_ne.mpr hx
      rw [List.lookup_cons (b := k), hb]
      by_cases hc : (k == NameKind.free && env.scope.kind == .function && env.kindOf n == some .cell) = true
      · rw [if_pos hc, List.lookup_cons, hb]; exact ih
      · rw [if_neg hc, List.lookup_cons, hb]; exact ih
structure OkSc (sc : Scope) (o : Str → Option NameKind) (σ : St) (gens : List Comprehension) : Prop where
  kind : sc.kind = .function
  ownOff : ∀ x, sc.names.lookup x = some .cell → σ.cel.lookup x = none
  cons : ∀ p ∈ sc.names, sc.names.lookup p.1 = some p.2
  free : ∀ x, sc.names.lookup x = some .free → o x = some .cell
  tgt : ∀ g ∈ gens, okTgt sc g.target = true
  nodbg : sc.names.lookup dbg = none
theorem okScope_is {sc : Scope} {o : Str → Option NameKind} {σ : St} {gens : List Comprehension} (h : okScope sc o σ gens = true) : OkSc sc o σ gens := by
  unfold okScope at h
  simp only [Bool.and_eq_true, List.all_eq_true, beq_iff_eq, Bool.or_eq_true, bne_iff_ne, ne_eq, Option.isNone_iff_eq_none] at h
  obtain ⟨⟨⟨⟨⟨h1, h2⟩, h3⟩, h4⟩, h5⟩, h6⟩ := h
  refine ⟨h1, fun x hx => ?_, fun p hp => h3 p hp, fun x hx => ?_, h5, h6⟩
  · rcases h2 _ (mem_of_lookup hx) with q | q
    · exact absurd rfl q
    · exact q
  · rcases h4 _ (mem_of_lookup hx) with q | q
    · exact absurd rfl q
    · exact q
/-- the environment of a comprehension -/
noncomputable def cenv (sc : Scope) (env : Env) (L : Addr) (cells : List (Str × Addr)) : Env := { newEnv sc L env.globals cells env.qual none .none (some env) builtinsNs with scope := relabel sc env }
noncomputable def ownCells (sc : Scope) (cells : List (Str × Addr)) : List Addr := sc.names.filterMap fun p => if p.2 = .cell then cells.lookup p.1 else none
noncomputable def innerAd (sc : Scope) (ad : Str → Option Addr) : Str → Option Addr := fun x => if sc.names.lookup x = some .free then ad x else none
section
variable {prog : Program} {w : World} {C : Addr} {T : Tx} {n : Nat} {h₀ : Heap} {env : Env} {c : Cx} {X : List Addr} {ad : Str → Option Addr} {σ : St} {A : Around} {h h' : Heap} {sc : Scope} {gens : List Comprehension} {L : Addr} {cells cl : List (Str × Addr)}
theorem relab_cases {x : Str} {k : NameKind} {o : Str → Option NameKind} (h : relab sc o x = some k) : (sc.names.lookup x = some k ∧ k ≠ .free) ∨ (sc.names.lookup x = some .free ∧ o x = some .cell ∧ k = .cell) ∨ (sc.names.lookup x = some .free ∧ k = .free) := by
  obtain ⟨k', hk, q⟩ := Option.bind_eq_some_iff.mp h
  by_cases hf : k' = .free ∧ o x = some .cell
  · cases (if_pos hf).symm.trans q
    exact .inr (.inl ⟨hf.1 ▸ hk, hf.2, rfl⟩)
  · cases (if_neg hf).symm.trans q
    by_cases hk' : k = .free
    · exact .inr (.inr ⟨hk' ▸ hk, hk'⟩)
    · exact .inl ⟨hk, hk'⟩
theorem comp_ctx (K : Ctx prog w C T n h₀ env c X ad σ A h) (N : NewEnv sc.names cl h h' L cells) (ok : OkSc sc c.sc σ gens) (hcl : ∀ x, sc.names.lookup x = some .free → cl.lookup x = env.cells.lookup x) :
    Ctx prog w C T n h₀ (cenv sc env L cells) ⟨relab sc c.sc, []⟩ (ownCells sc cells ++ L :: X) (innerAd sc ad) ⟨[], σ.cel⟩ A h' := by
  have I := K.inv
  have hcell : ∀ x, relab sc c.sc x = some .cell → (sc.names.lookup x = some .cell ∧ ∃ a, cells.lookup x = some a ∧ h'.IsCell a none ∧ h.get? a = none ∧ a ≠ L) ∨
      (sc.names.lookup x = some .free ∧ c.sc x = some .cell ∧ cells.lookup x = env.cells.lookup x) := fun x hx => by
    rcases relab_cases hx with ⟨h1, _⟩ | ⟨h1, h2, _⟩ | ⟨_, h2⟩
    · exact .inl ⟨h1, N.own x h1⟩
    · exact .inr ⟨h1, h2, (N.oth x (by rw [h1]; exact fun e => nomatch e)).trans (hcl x h1)⟩
    · cases h2
  have hmemOwn : ∀ x a, sc.names.lookup x = some .cell → cells.lookup x = some a → a ∈ ownCells sc cells := fun x a h1 h2 =>
    List.mem_filterMap.mpr ⟨(x, .cell), mem_of_lookup h1, by simp [h2]⟩
  have hownMem : ∀ b ∈ ownCells sc cells, ∃ x, sc.names.lookup x = some .cell ∧ cells.lookup x = some b := fun b hb => by
    obtain ⟨⟨x, k⟩, hp, hq⟩ := List.mem_filterMap.mp hb
    by_cases hk : k = .cell
    · subst hk
      exact ⟨x, ok.cons _ hp, by simpa using hq⟩
    · simp [hk] at hq
  have hlive : ∀ b ∈ X, ∃ o, h.get? b = some o := I.live
  have hoff : ∀ b, h.get? b = none → h₀.get? b = none := fun b hb => none_of_ext I.keep hb
  have M : Mv X h (ownCells sc cells ++ L :: X) h' := ⟨fun b o _ e => N.ext b o e, fun b hb => by
    rcases List.mem_append.mp hb with hb | hb
    · obtain ⟨x, h1, h2⟩ := hownMem b hb
      obtain ⟨a, g1, _, g3, _⟩ := N.own x h1
      rw [h2] at g1; cases g1
      exact .inr g3
    · rcases List.mem_cons.mp hb with rfl | hb
      · exact .inr N.off
      · exact .inl hb⟩
  have inX : ∀ b ∈ X, b ∈ ownCells sc cells ++ L :: X := fun b hb => List.mem_append_right _ (List.mem_cons_of_mem _ hb)
  refine ⟨K.rm, ⟨?_, fun x => ?_, ?_, ?_, ?_⟩, K.g0, ⟨I.keep.trans N.ext, fun b p => ?_, fun b hb => ?_, ?_, ⟨_, N.ns, fun x lv _ hl => ?_⟩, fun x lv hx hl => ?_, fun x hx => ?_, fun x y a hx hy p q => ?_, fun x a hx => ?_, fun x y a hx hy => ?_⟩⟩
  · exact ok.kind
  · exact relab_lookup (sc := sc) K.ok x sc.names
  · exact K.ok.gl
  · exact K.ok.bu
  · show relab sc c.sc dbg = none
    unfold relab; rw [ok.nodbg]; rfl
  · rcases p with rfl | ⟨x, hx, e⟩ | ⟨x, e⟩
    · exact hoff _ N.off
    · rcases hcell x hx with ⟨h1, a, g1, _, g3, _⟩ | ⟨h1, h2, g⟩
      · have : cells.lookup x = some b := e
        rw [g1] at this; cases this
        exact hoff _ g3
      · have : cells.lookup x = some b := e
        exact I.offb b (.inr (.inl ⟨x, h2, g ▸ this⟩))
    · unfold innerAd at e
      split at e
      · exact I.offb b (.inr (.inr ⟨x, e⟩))
      · cases e
  · rcases List.mem_append.mp hb with hb | hb
    · obtain ⟨x, h1, h2⟩ := hownMem b hb
      obtain ⟨a, g1, ⟨o, g2, _⟩, _⟩ := N.own x h1
      rw [h2] at g1; cases g1
      exact ⟨o, g2⟩
    · rcases List.mem_cons.mp hb with rfl | hb
      · obtain ⟨o, _, _, ho, _⟩ := N.ns; exact ⟨o, ho⟩
      · obtain ⟨o, z⟩ := hlive b hb; exact ⟨o, N.ext _ _ z⟩
  · exact List.mem_append_right _ List.mem_cons_self
  · simp at hl
  · rcases hcell x hx with ⟨h1, _⟩ | ⟨h1, h2, g⟩
    · rw [ok.ownOff x h1] at hl; cases hl
    · obtain ⟨a, v, p, q, r⟩ := I.cl x lv h2 hl
      refine ⟨a, v, ?_, q.keeps N.ext, ?_⟩
      · show cells.lookup x = some a
        rw [g]; exact p
      · have : innerAd sc ad x = ad x := by unfold innerAd; rw [if_pos h1]
        rw [this]
        exact r.move M fun a _ o e => N.ext _ _ e
  · rcases hcell x hx with ⟨h1, a, g1, g2, g3, g4⟩ | ⟨h1, h2, g⟩
    · exact ⟨a, none, g1, g2, List.mem_append_left _ (hmemOwn x a h1 g1), g4⟩
    · obtain ⟨a, v, p, q, r, t⟩ := I.cells x h2
      refine ⟨a, v, ?_, q.keeps N.ext, inX _ r, fun e => ?_⟩
      · show cells.lookup x = some a
        rw [g]; exact p
      · obtain ⟨o, z⟩ := hlive a r
        have : a = L := e
        rw [this, N.off] at z; cases z
  · rcases hcell x hx with ⟨h1, a₁, g1, _, g3, _⟩ | ⟨h1, h2, g⟩ <;> rcases hcell y hy with ⟨h1', a₂, g1', _, g3', _⟩ | ⟨h1', h2', g'⟩
    · exact N.inj x y a h1 h1' p q
    · exfalso
      have p' : cells.lookup x = some a := p
      have q' : cells.lookup y = some a := q
      rw [g1] at p'; cases p'
      rw [g'] at q'
      obtain ⟨a₂, v, e1, ⟨o, e2, _⟩, _⟩ := I.cells y h2'
      rw [q'] at e1; cases e1
      rw [g3] at e2; cases e2
    · exfalso
      have p' : cells.lookup x = some a := p
      have q' : cells.lookup y = some a := q
      rw [g1'] at q'; cases q'
      rw [g] at p'
      obtain ⟨a₂, v, e1, ⟨o, e2, _⟩, _⟩ := I.cells x h2
      rw [p'] at e1; cases e1
      rw [g3'] at e2; cases e2
    · have p' : cells.lookup x = some a := p
      have q' : cells.lookup y = some a := q
      rw [g] at p'; rw [g'] at q'
      exact I.apart x y a h2 h2' p' q'
  · unfold innerAd at hx
    split at hx
    · obtain ⟨e1, e2, e3⟩ := I.adX x a hx
      obtain ⟨o, z⟩ := hlive a e1
      refine ⟨inX _ e1, fun e => ?_, fun y hy e => ?_⟩
      · have : a = L := e
        rw [this, N.off] at z; cases z
      · have e' : cells.lookup y = some a := e
        rcases hcell y hy with ⟨h1, a₁, g1, _, g3, _⟩ | ⟨h1, h2, g⟩
        · rw [g1] at e'; cases e'
          rw [g3] at z; cases z
        · rw [g] at e'
          exact e3 y h2 e'
    · cases hx
  · unfold innerAd at hx hy
    split at hx
    · split at hy
      · exact I.adinj x y a hx hy
      · cases hy
    · cases hx
end
end Mine
end
section
set_option maxRecDepth 100000
namespace Mine
open PySem PySem.Spec PySem.Calls PyProof.Rows PySem.SeqAt PySem.W
noncomputable def inT (t : Expr) (x : Str) : Prop := match asTup t with
  | some ts => ∃ p, Expr.Name x p ∈ ts
  | none => asName t = some x
section
variable {prog : Program} {w : World} {C : Addr} {T : Tx} {n : Nat} {I : Itp} {h₀ : Heap} {env : Env} {c : Cx} {X : List Addr} {ad : Str → Option Addr} {A : Around} {E : Value → Shared → Prop}
theorem Inv.wrx_in {h : Heap} {σ : St} (J : Inv prog w C h₀ env c h X ad σ) {x : Str} {b : Addr} (p : WrX env c x b) : b ∈ X := J.wr_in (ad := ad) (wr_mono b p)
theorem Inv.effx_mv {h h' : Heap} {σ : St} (J : Inv prog w C h₀ env c h X ad σ) {x : Str} (e : Eff (WrX env c x) h h') : Mv X h X h' := ⟨fun b o hb q => e b o (fun p => hb (J.wrx_in p)) q, fun _ hb => .inl hb⟩
theorem asgAll_sound {k} {pos : Pos} {ts₀ : List Expr} (O : EnvOk env c) : ∀ {ts : List Expr} {vs : List Value} {ds : List PV} {σ σ' : St} {s : Shared} {Q : Unit → Shared → Prop}, (∀ e ∈ ts, e ∈ ts₀) → Inv prog w C h₀ env c s.heap X ad σ → DenAll prog w C s.heap X vs ds →
    asgAll c ts ds σ = some σ' → (∀ h' tk, Inv prog w C h₀ env c h' X ad σ' → Eff (fun b => ∃ x, inT (.Tuple ts₀ k pos) x ∧ WrX env c x b) s.heap h' → Q () { s with heap := h', toks := tk }) →
    wpAny (model prog w) A (assignInOrder ((assignEach ts env).map (·.2)) vs) Q E s
  | [], vs, ds, σ, σ', s, Q, _, J, hd, q, hQ => by
    cases ds with
    | nil => cases q; cases vs <;> exact wpAny_pure (hQ s.heap s.toks J (Eff.refl _ _))
    | cons _ _ => nomatch q
  | t :: ts, vs, ds, σ, σ', s, Q, hin, J, hd, q, hQ => by
    cases hd with
    | nil => nomatch q
    | cons a r =>
      rename_i v vs d ds
      obtain ⟨x, hx, q1⟩ := Option.bind_eq_some_iff.mp q
      obtain ⟨px, rfl⟩ := asName_inv hx
      by_cases hm : c.mu.contains x = true
      · cases (if_pos hm).symm.trans q1
      · obtain ⟨σ₁, hσ, q2⟩ := Option.bind_eq_some_iff.mp ((if_neg hm).symm.trans q1)
        show wpAny _ _ (do holding vs (assign (.Name x px) env v); assignInOrder ((assignEach ts env).map (·.2)) vs) Q E s
        refine wpAny_bind (wpAny_holding (wpAny_assign_Name (store_fro O J hσ a fun h₁ t₁ J₁ e₁ => ?_)))
        refine asgAll_sound (k := k) (pos := pos) (s := { s with heap := h₁, toks := t₁ }) O (fun e he => hin e (List.mem_cons_of_mem _ he)) J₁ (r.mv (J.effx_mv e₁)) q2 fun h₂ t₂ J₂ e₂ => ?_
        exact hQ h₂ t₂ J₂ ((e₁.mono fun b p => ⟨x, ⟨px, hin _ List.mem_cons_self⟩, p⟩).trans e₂)
theorem asgAll_names {c : Cx} : ∀ {ts : List Expr} {ds : List PV} {σ σ' : St}, asgAll c ts ds σ = some σ' → ts.length = ds.length ∧ (assignEach ts env).length = ts.length ∧ (assignEach ts env).findIdx? (·.1) = none
  | [], ds, _, _, q => by
    cases ds with
    | nil => exact ⟨rfl, rfl, rfl⟩
    | cons _ _ => nomatch q
  | t :: ts, [], σ, σ', q => nomatch q
  | t :: ts, d :: ds, σ, σ', q => by
    obtain ⟨x, hx, q1⟩ := Option.bind_eq_some_iff.mp q
    obtain ⟨px, rfl⟩ := asName_inv hx
    by_cases hm : c.mu.contains x = true
    · cases (if_pos hm).symm.trans q1
    · obtain ⟨σ₁, hσ, q2⟩ := Option.bind_eq_some_iff.mp ((if_neg hm).symm.trans q1)
      obtain ⟨h1, h2, h3⟩ := asgAll_names q2
      refine ⟨congrArg Nat.succ h1, congrArg Nat.succ h2, ?_⟩
      simp only [assignEach, List.findIdx?_cons, Bool.false_eq_true, if_false, h3, Option.map_none]
theorem asg_sound {t : Expr} {v : Value} {d : PV} {σ σ' : St} {s : Shared} {Q : Unit → Shared → Prop} (hh : A.handled = none) (O : EnvOk env c) (J : Inv prog w C h₀ env c s.heap X ad σ) (hd : Den prog w C s.heap X v d) (q : asg c t d σ = some σ')
    (hQ : ∀ h' tk, Inv prog w C h₀ env c h' X ad σ' → Eff (fun b => ∃ x, inT t x ∧ WrX env c x b) s.heap h' → Q () { s with heap := h', toks := tk }) : wpAny (model prog w) A (assign t env v) Q E s := by
  unfold asg at q
  cases hn : asName t with
  | some x =>
    rw [hn] at q
    obtain ⟨px, rfl⟩ := asName_inv hn
    by_cases hm : c.mu.contains x = true
    · cases (if_pos hm).symm.trans q
    · exact wpAny_assign_Name (store_fro O J ((if_neg hm).symm.trans q) hd fun h₁ t₁ J₁ e₁ => hQ h₁ t₁ J₁ (e₁.mono fun b p => ⟨x, rfl, p⟩))
  | none =>
    rw [hn] at q
    obtain ⟨ts, l, h1, h2, q1⟩ := both_inv q
    obtain ⟨k, pos, rfl⟩ := asTup_inv h1
    cases PV.tup?_inv h2
    cases hd with
    | tup ha ht hds =>
      obtain ⟨h1, h2, h3⟩ := asgAll_names (env := env) q1
      refine wpAny_assign_Tuple hh ht ?_ h3 fun h₁ hx => ?_
      · rw [h2, h1, List.size_toArray, hds.length]
      · have e : Ext s.heap h₁ := fun b o z => hx b o (size_ne_of z) z
        refine asgAll_sound (ts₀ := ts) (k := k) (pos := pos) (s := { s with heap := h₁ }) O (fun _ h => h) (J.ext e) (hds.ext e) q1 fun h₂ t₂ J₂ e₂ => ?_
        exact hQ h₂ t₂ J₂ ((Eff.of_ext e).trans e₂)
end
end Mine
end
section
set_option maxRecDepth 100000
namespace Mine
open PySem PySem.Spec PySem.Calls PyProof.Rows PySem.SeqAt PySem.W
noncomputable def emit (e : Expr) (acc : Value) (env : Env) : Sem Unit := match e with
  | .ListComp elt _ _ _ => do let _ ← call (.builtin "list.append") [acc, ← eval elt env]
  | .DictComp k v _ _ _ => do
      let kv ← eval k env
      let vv ← holding [kv] (eval v env)
      match acc with
      | .ref d => do
        standAt { k.pos with endLine := v.pos.endLine, endCol := v.pos.endCol }
        holding [kv, vv] (dictSet d kv vv)
      | _ => unsupported "internal:dictcomp"
  | _ => unsupported "internal:not-a-comprehension"
/-- what follows when a turn's tests hold -/
noncomputable def TailOk (M : Model) (A : Around) (e : Expr) (k : Nat) (acc : Value) (env : Env) (Q : Shared → Prop) (E : Value → Shared → Prop) (s : Shared) : Prop := match (clausesOf e)[k]? with
  | some g' => g'.is_async = 0 ∧ wpAny M A (eval g'.iter env) (fun x s₁ => wpAny M A (foldedSetIterable g'.iter env x) (fun y s₂ => wpAny M A (pyIter y) (fun it s₃ =>
      wpAny M A (runOwn (.compStart e k it acc env) env) (fun _ => Q) E s₃) E s₂) E s₁) E s
  | none => wpAny M A (emit e acc env) (fun _ => Q) E s
section
variable {prog : Program} {w : World} {A : Around} {E : Value → Shared → Prop} {s : Shared} {env : Env}
theorem comp_turn {e : Expr} {k : Nat} {g : Comprehension} {it acc : Value} {F : PySem.Fin → Shared → Prop} (he : isComp e = true) (hg : (clausesOf e)[k]? = some g) (ha : g.is_async = 0)
    (h : wpAny (model prog w) A (pyNext it) (fun r s₁ => match r with
      | none => F (.done .next) s₁
      | some v => wpAny (model prog w) A (letOwnedTupleGo g.target it v) (fun _ s₂ => wpAny (model prog w) A (assign g.target env v) (fun _ s₃ =>
          wpAny (model prog w) A (forIn g.ifs true fun c r => if r = true then do let ok ← isTrue c env (eval c env); pure (ForInStep.yield ok) else pure (ForInStep.yield r)) (fun ok s₄ =>
            if ok = true then TailOk (model prog w) A e (k + 1) acc env (fun s₅ => F (.again (.compLoop e k it acc env)) s₅) E s₄
            else F (.again (.compLoop e k it acc env)) s₄) E s₃) E s₂) E s₁) E s) :
    wpAny (model prog w) A (compTurn e k it acc env) F E s := by
  cases e <;> simp [isComp] at he
  all_goals
    unfold compTurn
    simp only [clausesOf] at hg
    dsimp only
    rw [hg]
    dsimp only
    rw [ha]
    refine wpAny_bind (wpAny_standAt (wpAny_bind (wpAny_mono h (fun r s₁ h₁ => ?_) fun _ _ e => e)))
    cases r with
    | none => exact wpAny_pure h₁
    | some v =>
      refine wpAny_bind (wpAny_mono h₁ (fun _ s₂ h₂ => ?_) fun _ _ e => e)
      refine wpAny_bind (wpAny_mono h₂ (fun _ s₃ h₃ => ?_) fun _ _ e => e)
      refine wpAny_bind (wpAny_mono h₃ (fun ok s₄ h₄ => ?_) fun _ _ e => e)
      cases ok with
      | false => exact wpAny_pure h₄
      | true =>
        simp only [if_true] at h₄ ⊢
        unfold TailOk at h₄
        simp only [clausesOf] at h₄
        split
        · rename_i g' hg'
          rw [hg'] at h₄
          obtain ⟨ha', h₄⟩ := h₄
          have hb : ¬ (g'.is_async != 0) = true := by simp [ha']
          refine wpAny_bind (wpAny_mono h₄ (fun x s₅ h₅ => wpAny_bind (wpAny_standAt ?_)) fun _ _ e => e)
          rw [if_neg hb]
          refine wpAny_bind (wpAny_mono h₅ (fun y s₆ h₆ => ?_) fun _ _ e => e)
          rw [if_neg hb]
          refine wpAny_bind (wpAny_holding (wpAny_mono h₆ (fun it' s₇ h₇ => ?_) fun _ _ e => e))
          exact wpAny_bind (wpAny_mono h₇ (fun _ s₈ h₈ => wpAny_pure h₈) fun _ _ e => e)
        · rename_i hg'
          rw [hg'] at h₄
          exact wpAny_bind (wpAny_mono h₄ (fun _ s₅ h₅ => wpAny_pure h₅) fun _ _ e => e)
theorem comp_den {M : Model} {prog : Program} {w : World} (hM : M = model prog w) {e : Expr} {k : Nat} {it acc : Value} {Q : PySem.Fin → Shared → Prop} (he : isComp e = true)
    (h : wpAny M A ((compTurn e k it acc env).onRaise (fun x => do noteFrame x env; theTreesLotGoes x)) Q E s) : wpAny M (A.under (.compLoop e k it acc env)) (M.den (.compLoop e k it acc env)) Q E s := by
  subst hM
  cases e <;> first | exact h | simp [isComp] at he
theorem comp_quiet {e : Expr} {k : Nat} {it acc : Value} : (Code.compLoop e k it acc env).quiet = true := rfl
theorem comp_start {R : Result → Shared → Prop} {e : Expr} {k : Nat} {g : Comprehension} {it acc : Value} (he : isComp e = true) (hg : (clausesOf e)[k]? = some g) (ha : g.is_async = 0)
    (h0 : codeAny (model prog w) A (.compLoop e k it acc env) R s)
    (h : wpAny (model prog w) A (pyIter it) (fun it' s' => codeAny (model prog w) A (.compLoop e k it' acc env) R s') (notedBy (model prog w) A env fun x s' => R (.error x) s') s) :
    codeAny (model prog w) A (.compStart e k it acc env) R s := by
  refine codeAny_of_tree ?_
  have key : wpAny (model prog w) A (compStart e k it acc env) (fun fin s' => match fin with | .done f => R (.ok f) s' | .again c' => c'.quiet = true ∧ codeAny (model prog w) A c' R s') (notedBy (model prog w) A env fun x s' => R (.error x) s') s := by
    unfold compStart
    rw [hg]
    have hb : ((some g).elim false fun x => x.is_async != 0) = false := by simp [ha]
    rw [hb]
    simp only [Bool.false_eq_true, if_false]
    refine wpAny_bind (wpAny_askSetting (wpAny_ite ?_))
    split
    · first
        | exact wpAny_bind (wpAny_pure (wpAny_pure (And.intro rfl h0)))
        | exact wpAny_pure (And.intro rfl h0)
    · exact wpAny_bind (wpAny_rule (wpAny_bind (wpAny_standAt (wpAny_bind (wpAny_mono h (fun it' s' h' => wpAny_pure (And.intro rfl h')) fun _ _ x => x)))))
  have key' := wpAny_notedAt (pos := theWindowsPlace) key
  cases e <;> first | exact key' | simp [isComp] at he
end
end Mine
end
section
set_option maxRecDepth 100000
namespace Mine
open PySem PySem.Spec PySem.Calls PyProof.Rows PySem.SeqAt PySem.W
section
variable {prog : Program} {w : World} {C : Addr} {T : Tx} {n : Nat} {I : Itp} {h₀ : Heap} {env : Env} {c : Cx} {X X' : List Addr} {ad : Str → Option Addr} {σ : St} {A : Around} {h h' : Heap} {E : Value → Shared → Prop}
/-- an object that no name holds has been changed -/
theorem Inv.touch {a : Addr} (J : Inv prog w C h₀ env c h X ad σ) (ha : h₀.get? a = none) (hw : ¬ Wr env c ad a) (hk : ∀ b o, b ≠ a → h.get? b = some o → h'.get? b = some o) (haX : a ∈ X)
    (hsub : ∀ b ∈ X', b ∈ X) (hin : ∀ b ∈ X, b ≠ a → b ∈ X') (hlive : a ∈ X' → ∃ o, h'.get? a = some o) : Inv prog w C h₀ env c h' X' ad σ := by
  have M : Mv X h X' h' := ⟨fun b o hb e => hk b o (fun q => hb (q ▸ haX)) e, fun b hb => .inl (hsub b hb)⟩
  have hL : env.locals ≠ a := fun e => hw (e ▸ .inl rfl)
  have hc : ∀ x, c.sc x = some .cell → ∀ b, env.cells.lookup x = some b → b ≠ a := fun x hx b e q => hw (.inr (.inl ⟨x, hx, q ▸ e⟩))
  have had : ∀ x b, ad x = some b → b ≠ a := fun x b e q => hw (.inr (.inr ⟨x, q ▸ e⟩))
  refine ⟨fun b o e => hk b o (fun q => by rw [q, ha] at e; cases e) (J.keep b o e), J.offb, fun b hb => ?_, hin _ J.Lx hL, ?_, fun x lv hx hl => ?_, fun x hx => ?_, J.apart, fun x b e => ?_, J.adinj⟩
  · by_cases hb' : b = a
    · exact hb' ▸ hlive (hb' ▸ hb)
    · obtain ⟨o, q⟩ := J.live b (hsub b hb); exact ⟨o, hk b o hb' q⟩
  · obtain ⟨m, hn, hm⟩ := J.ns
    refine ⟨m, hn.at' fun o e => hk _ o hL e, fun x lv h1 h2 => ?_⟩
    obtain ⟨v, p, q⟩ := hm x lv h1 h2
    exact ⟨v, p, q.move M fun b hb o e => hk b o (had x b hb) e⟩
  · obtain ⟨b, v, p, ⟨o, q, q'⟩, r⟩ := J.cl x lv hx hl
    exact ⟨b, v, p, ⟨o, hk b o (hc x hx b p) q, q'⟩, r.move M fun b hb o e => hk b o (had x b hb) e⟩
  · obtain ⟨b, v, p, ⟨o, q, q'⟩, r, t⟩ := J.cells x hx
    exact ⟨b, v, p, ⟨o, hk b o (hc x hx b p) q, q'⟩, hin b r (hc x hx b p), t⟩
  · obtain ⟨p, q, r⟩ := J.adX x b e
    exact ⟨hin b p (had x b e), q, r⟩
theorem GivesIt.mono {ds : List PV} {s : Shared} {tk : Nat} {Q : Value → Shared → Prop} (g : GivesIt prog w C X ds s Q) (e : Ext s.heap h') : GivesIt prog w C X ds { s with heap := h', toks := tk } Q :=
  fun J St h'' tk' e' hn W st => g J St h'' tk' (e.trans e') (none_of_ext e hn) W st
theorem evIter_cases {e : Expr} {ds : List PV} (q : evIter I c σ e = some ds) :
    (∃ a np p, e = .Call (.Name (Str.ofString "range") np) [a] [] p ∧ c.sc (Str.ofString "range") = some .globalImplicit ∧ evRange I c σ a = some ds) ∨
    (∃ o ap p, e = .Call (.Attribute o (Str.ofString "values") ap) [] [] p ∧ okM o ap p = true ∧ evVals I c σ o = some ds) ∨ ∃ d, I.ev c σ e = some d ∧ piter d = some ds := by
  unfold evIter at q
  cases hr : rangeArg c e with
  | some a =>
    rw [hr] at q
    obtain ⟨np, p, h1, h2⟩ := rangeArg_inv hr
    exact .inl ⟨a, np, p, h1, h2, q⟩
  | none =>
    rw [hr] at q
    dsimp only at q
    cases hm : meth0 (Str.ofString "values") e with
    | some o =>
      rw [hm] at q
      obtain ⟨ap, p, h1, h2⟩ := meth0_inv hm
      exact .inr (.inl ⟨o, ap, p, h1, h2, q⟩)
    | none =>
      rw [hm] at q
      exact .inr (.inr (Option.bind_eq_some_iff.mp q))
theorem evIter_ok {e : Expr} {ds : List PV} (S : Sound prog w C T n I) (q : evIter I c σ e = some ds) : okE e = true := by
  rcases evIter_cases q with ⟨a, np, p, rfl, _⟩ | ⟨o, ap, p, rfl, _⟩ | ⟨d, hd, _⟩
  · rfl
  · rfl
  · exact S.dom hd
theorem evIter_sound {e : Expr} {ds : List PV} {s : Shared} {Q : Value → Shared → Prop} (S : Sound prog w C T n I) (K : Ctx prog w C T n h₀ env c X ad σ A s.heap) (q : evIter I c σ e = some ds) (hQ : GivesIt prog w C X ds s Q) :
    wpAny (model prog w) A (eval e env) (fun x s₁ => wpAny (model prog w) A (pyIter x) Q E s₁) E s := by
  rcases evIter_cases q with ⟨a, np, p, rfl, hk, q1⟩ | ⟨o, ap, p, rfl, hm, q1⟩ | ⟨d, hd, hp⟩
  · obtain ⟨d, hn, q2⟩ := Option.bind_eq_some_iff.mp q1
    obtain ⟨n, hi, q3⟩ := Option.bind_eq_some_iff.mp q2
    cases PV.int?_inv hi
    by_cases hb : -100000 ≤ n ∧ n < 100000
    · cases (if_pos hb).symm.trans q3
      refine wpAny_Call_ofName (gl_builtin K.ok K.glo hk (by simp [bnames]) b_range ?_)
      rw [star_cons (S.dom hn)]
      refine PySem.callWith_type1 (S.ev K hn fun v h₁ t₁ e₁ x => ?_)
      cases x with
      | int i t =>
        refine call_range_1 ?_
        have e₂ := Ext.push h₁ { cls := .type "range", data := .fields #[.int 0 t₁, .int n t, .int 1 (t₁ + 1)] }
        refine iter_range (C := C) (X := X) (s := { s with heap := _, toks := _ }) K.rm.handled hb.2 (IsRange.new ..) (by omega) ?_
        exact hQ.mono (e₁.trans e₂)
    · cases (if_neg hb).symm.trans q3
  · obtain ⟨d, hl, q2⟩ := Option.bind_eq_some_iff.mp q1
    obtain ⟨l, hd, rfl⟩ := Option.map_eq_some_iff.mp q2
    cases PV.dict?_inv hd
    refine wpAny_Call_method (T := "dict") (id := "dict.values") (base_plain hm) rfl (okM_line hm) F.plainAttrs_dict F.slot_dict_values F.type_dict_values (S.ev K hl fun v h₁ t₁ e₁ x => ?_)
    obtain ⟨da, kvs, rfl, hsys, hdo, hkv, hde, hoff⟩ := x.dict'
    refine ⟨hdo.typeIs, hdo.mapOf.noDict, ?_⟩
    show wpAny _ _ (callWith p (.builtin "dict.values") [.ref da] [] []) _ _ _
    refine method_meetsIn F.slot_dict_values F.entry_dict_values rfl (PySem.evalArgs_none ⟨rfl, hdo.typeIs, F.args_dict_values_1 _, _, meets_dict_values (keyKind prog w) da hsys, ⟨kvs, hdo⟩, ?_⟩)
    have e₂ := Ext.push h₁ { cls := .type "dict_values", data := .fields #[.ref da] }
    refine iter_values (C := C) (X := X) (s := { s with heap := h₁.push { cls := .type "dict_values", data := .fields #[.ref da] }, toks := t₁ }) K.rm.handled hoff ⟨_, Heap.get?_push_size _ rfl, rfl, rfl⟩ (dictOf_at hdo fun o z => e₂ _ _ z) hkv (hde.ext e₂) ?_
    exact hQ.mono (e₁.trans e₂)
  · exact S.ev K hd fun v h₁ t₁ e₁ x => piter_sound (s := { s with heap := h₁, toks := t₁ }) K.rm.handled x hp (hQ.mono e₁)
theorem ifs_sound (S : Sound prog w C T n I) : ∀ {ifs : List Expr} {b : Bool} {s : Shared} {Q : Bool → Shared → Prop}, Ctx prog w C T n h₀ env c X ad σ A s.heap → ifsAll I c σ ifs = some b →
    (∀ h' tk, Ext s.heap h' → Q b { s with heap := h', toks := tk }) →
    wpAny (model prog w) A (forIn ifs true fun c r => if r = true then do let ok ← isTrue c env (eval c env); pure (ForInStep.yield ok) else pure (ForInStep.yield r)) Q E s
  | [], b, s, Q, _, q, hQ => by
    cases q
    exact wpAny_pure (hQ s.heap s.toks (Ext.refl _))
  | e :: es, b, s, Q, K, q, hQ => by
    have skip : ∀ (es : List Expr) (s : Shared), Q false s → wpAny (model prog w) A (forIn es false fun c r => if r = true then do let ok ← isTrue c env (eval c env); pure (ForInStep.yield ok) else pure (ForInStep.yield r)) Q E s := by
      intro es
      induction es with
      | nil => intro s h; exact wpAny_pure h
      | cons e es ih =>
        intro s h
        rw [List.forIn_cons]
        simp only [Bool.false_eq_true, if_false]
        exact wpAny_bind (wpAny_pure (ih s h))
    rw [List.forIn_cons]
    simp only [if_true]
    obtain ⟨t, ht, q1⟩ := Option.bind_eq_some_iff.mp q
    refine wpAny_bind (wpAny_bind (S.ts K ht fun h₁ t₁ e₁ => wpAny_pure ?_))
    cases t with
    | true => exact ifs_sound S (s := { s with heap := h₁, toks := t₁ }) (K.ext e₁) q1 fun h₂ t₂ e₂ => hQ h₂ t₂ (e₁.trans e₂)
    | false => cases q1; exact skip es _ (hQ h₁ t₁ e₁)
end
end Mine
end
section
set_option maxRecDepth 100000
namespace Mine
open PySem PySem.Spec PySem.Calls PyProof.Rows PySem.SeqAt PySem.W
section
variable {prog : Program} {w : World} {C : Addr} {T : Tx} {n : Nat} {I : Itp} {h₀ : Heap} {env : Env} {c : Cx} {ad : Str → Option Addr} {A : Around} {α : Type}
/-- what is done where a comprehension's tests hold: it lays out things -/
noncomputable def InnerOk (prog : Program) (w : World) (C : Addr) (T : Tx) (n : Nat) (h₀ : Heap) (env : Env) (c : Cx) (ad : Str → Option Addr) (A : Around) (e : Expr) (D : Addr) (mk : List α → PV) (P : Addr → Prop) (k : Nat) (inner : St → Option (List α × St)) : Prop :=
  ∀ ⦃X : List Addr⦄ ⦃s : Shared⦄ ⦃σ σ' : St⦄ ⦃l xs : List α⦄ ⦃E : Value → Shared → Prop⦄ ⦃Q : Shared → Prop⦄, Ctx prog w C T n h₀ env c X ad σ A s.heap → (∀ b, P b → b ∈ X) → ownD prog w C s.heap X D (mk l) → inner σ = some (xs, σ') → l.length + xs.length ≤ 100000 →
    (∀ h' tk X', Inv prog w C h₀ env c h' X' ad σ' → (∀ b ∈ X, b ∈ X') → (∀ b ∈ X', b ∈ X ∨ s.heap.get? b = none) → ownD prog w C h' X' D (mk (l ++ xs)) → Eff P s.heap h' → Q { s with heap := h', toks := tk }) →
    TailOk (model prog w) A e k (.ref D) env Q E s
/-- where a comprehension's loop stands -/
inductive LoopAt (prog : Program) (w : World) (C : Addr) (I : Itp) (h₀ : Heap) (env : Env) (c : Cx) (ad : Str → Option Addr) (g : Comprehension) (D J : Addr) (mk : List α → PV) (P : Addr → Prop) (inner : St → Option (List α × St)) (ds : List PV) (St₀ : Nat → Heap → List Addr → Prop)
    (X : List Addr) (s : Shared) (σ' : St) (ys : List α) : Nat → Shared → Prop
  | at (h' : Heap) (tk : Nat) (X' : List Addr) (σi : St) (i : Nat) (l' zs : List α) (V : Inv prog w C h₀ env c h' X' ad σi) (hX1 : ∀ b ∈ X, b ∈ X') (hX2 : ∀ b ∈ X', b ∈ X ∨ s.heap.get? b = none) (st : St₀ i h' X') (hD : ownD prog w C h' X' D (mk l'))
      (q : compLoop I c g inner (ds.drop i) σi = some (zs, σ')) (hl : l' ++ zs = ys) (hE : Eff (fun b => P b ∨ b = J) s.heap h') (hi : i ≤ ds.length) : LoopAt prog w C I h₀ env c ad g D J mk P inner ds St₀ X s σ' ys (ds.length + 1 - i) { s with heap := h', toks := tk }
theorem loop_ok {e : Expr} {k : Nat} {g : Comprehension} {D J : Addr} {mk : List α → PV} {P : Addr → Prop} {inner : St → Option (List α × St)} {ds : List PV} {St₀ : Nat → Heap → List Addr → Prop} {X : List Addr} {s : Shared} {σ σ' : St} {l xs : List α}
    {R : Result → Shared → Prop} (S : Sound prog w C T n I) (he : isComp e = true) (hg : (clausesOf e)[k]? = some g) (ha : g.is_async = 0) (hin : InnerOk prog w C T n h₀ env c ad A e D mk P (k + 1) inner)
    (hT : ∀ x, inT g.target x → ∀ b, WrX env c x b → P b) (W : PWk prog w C J ds St₀) (K : Ctx prog w C T n h₀ env c X ad σ A s.heap) (hPX : ∀ b, P b → b ∈ X) (hPJ : ¬ P J) (hJD : J ≠ D) (hDW : ¬ Wr env c ad D) (hJ0 : h₀.get? J = none) (hJW : ¬ Wr env c ad J) (hst : St₀ 0 s.heap X)
    (hD : ownD prog w C s.heap X D (mk l)) (q : compLoop I c g inner ds σ = some (xs, σ')) (hlen : l.length + xs.length ≤ 100000)
    (hR : ∀ h' tk X', Inv prog w C h₀ env c h' X' ad σ' → (∀ b ∈ X, b ≠ J → b ∈ X') → J ∉ X' → (∀ b ∈ X', b ∈ X ∨ s.heap.get? b = none) → ownD prog w C h' X' D (mk (l ++ xs)) → Eff (fun b => P b ∨ b = J) s.heap h' → R (.ok .next) { s with heap := h', toks := tk }) :
    codeAny (model prog w) A (.compLoop e k (.ref J) (.ref D) env) R s := by
  refine codeAny_loop comp_quiet (LoopAt prog w C I h₀ env c ad g D J mk P inner ds St₀ X s σ' (l ++ xs)) ?_ (ds.length + 1)
    (.at s.heap s.toks X σ 0 l xs K.inv (fun _ h => h) (fun _ h => .inl h) hst hD q rfl (Eff.refl _ _) (Nat.zero_le _))
  rintro _ _ ⟨h₁, t₁, X₁, σ₁, i, l', zs, V, hX1, hX2, st, hD1, q1, hl1, hE1, hi⟩
  refine comp_den rfl he (wpAny_noted (comp_turn he hg ha ?_))
  have hK : ∀ {h σ X}, Inv prog w C h₀ env c h X ad σ → Ctx prog w C T n h₀ env c X ad σ A h := fun V => ⟨K.rm, K.ok, K.g0, V⟩
  have hJX : J ∈ X₁ := W.inX st
  cases hd : ds[i]? with
  | none =>
    have hi' : i = ds.length := by
      have := List.getElem?_eq_none_iff.mp hd; omega
    subst hi'
    rw [List.drop_length] at q1
    obtain ⟨rfl, rfl⟩ := Prod.mk.inj (Option.some.inj q1)
    refine W.done (s := { s with heap := h₁, toks := t₁ }) K.rm.handled st fun h₂ t₂ hk => ?_
    have hmem : ∀ b, b ∈ X₁.filter (fun b => decide (b ≠ J)) ↔ b ∈ X₁ ∧ b ≠ J := fun b => by simp [List.mem_filter]
    have V₂ : Inv prog w C h₀ env c h₂ (X₁.filter fun b => decide (b ≠ J)) ad σ₁ := V.touch hJ0 hJW hk hJX (fun b hb => ((hmem b).mp hb).1) (fun b hb hne => (hmem b).mpr ⟨hb, hne⟩) (fun h => absurd rfl ((hmem J).mp h).2)
    have M : Mv X₁ h₁ (X₁.filter fun b => decide (b ≠ J)) h₂ := ⟨fun b o hb e => hk b o (fun q => hb (q ▸ hJX)) e, fun b hb => .inl ((hmem b).mp hb).1⟩
    refine hR h₂ t₂ _ V₂ (fun b hb hne => (hmem b).mpr ⟨hX1 b hb, hne⟩) (fun h => ((hmem J).mp h).2 rfl) (fun b hb => hX2 b ((hmem b).mp hb).1) ?_ (hE1.trans fun b o hb e => hk b o (fun q => hb (.inr q)) e)
    rw [← hl1, List.append_nil]
    exact hD1.move M fun o e => hk D o (Ne.symm hJD) e
  | some d =>
    have hlt : i < ds.length := (List.getElem?_eq_some_iff.mp hd).1
    have hdrop : ds.drop i = d :: ds.drop (i + 1) := by
      rw [List.drop_eq_getElem_cons hlt]
      have := (List.getElem?_eq_some_iff.mp hd).2
      rw [this]
    rw [hdrop] at q1
    obtain ⟨σ₂, hasg, q2⟩ := Option.bind_eq_some_iff.mp q1
    obtain ⟨bt, ht, q3⟩ := Option.bind_eq_some_iff.mp q2
    refine W.item (s := { s with heap := h₁, toks := t₁ }) K.rm.handled hd st fun v h₂ t₂ hv st₂ hk => ?_
    have V₂ : Inv prog w C h₀ env c h₂ X₁ ad σ₁ := V.touch hJ0 hJW hk hJX (fun b hb => hb) (fun b hb _ => hb) (fun _ => by obtain ⟨o, _, e, _⟩ := W.live st₂; exact ⟨o, e⟩)
    have M₂ : Mv X₁ h₁ X₁ h₂ := ⟨fun b o hb e => hk b o (fun q => hb (q ▸ hJX)) e, fun b hb => .inl hb⟩
    have hD2 : ownD prog w C h₂ X₁ D (mk l') := hD1.move M₂ fun o e => hk D o (Ne.symm hJD) e
    have hE2 : Eff (fun b => P b ∨ b = J) s.heap h₂ := hE1.trans fun b o hb e => hk b o (fun q => hb (.inr q)) e
    refine W.own (s := { s with heap := h₂, toks := t₂ }) st₂ ?_
    refine asg_sound (s := { s with heap := h₂, toks := t₂ }) K.rm.handled K.ok V₂ hv hasg fun h₃ t₃ V₃ e₃ => ?_
    have e₃' : Eff P h₂ h₃ := e₃.mono fun b ⟨x, h1, h2⟩ => hT x h1 b h2
    have hP1 : ∀ b, P b → b ∈ X₁ := fun b hb => hX1 b (hPX b hb)
    have M₃ : Mv X₁ h₂ X₁ h₃ := ⟨fun b o hb e => e₃' b o (fun p => hb (hP1 b p)) e, fun b hb => .inl hb⟩
    have hJ3 : ∀ o, h₂.get? J = some o → h₃.get? J = some o := fun o e => e₃' J o hPJ e
    have hDL : ∀ b, (∃ x, inT g.target x ∧ WrX env c x b) → b ≠ D := fun b ⟨x, _, h2⟩ e => hDW (e ▸ wr_mono b h2)
    have hD3 : ownD prog w C h₃ X₁ D (mk l') := hD2.move M₃ fun o e => e₃ D o (fun p => hDL D p rfl) e
    have st₃ : St₀ (i + 1) h₃ X₁ := W.mv st₂ M₃ hJX hJ3
    have hE3 : Eff (fun b => P b ∨ b = J) s.heap h₃ := hE2.trans (e₃'.mono fun b p => .inl p)
    have V₃' := V₃
    refine ifs_sound (s := { s with heap := h₃, toks := t₃ }) S (hK V₃) ht fun h₄ t₄ e₄ => ?_
    cases bt with
    | true =>
      obtain ⟨⟨ys, σ₄⟩, hinner, q4⟩ := Option.bind_eq_some_iff.mp q3
      obtain ⟨⟨zs', σ₅⟩, hrest, q5⟩ := Option.map_eq_some_iff.mp q4
      cases q5
      simp only [if_true]
      have hlen' : l'.length + (ys ++ zs').length ≤ 100000 := by
        have := congrArg List.length hl1
        simp at this ⊢; omega
      refine hin (s := { s with heap := h₄, toks := t₄ }) (hK (V₃.ext e₄)) hP1 (hD3.move (.of_ext e₄) fun o e => e₄ _ _ e) hinner (by simp at hlen' ⊢; omega) fun h₅ t₅ X₅ V₅ hX5 hX5' hD5 e₅ => ?_
      refine ⟨trivial, ds.length + 1 - (i + 1), by omega, .at h₅ t₅ X₅ σ₄ (i + 1) (l' ++ ys) zs' V₅ (fun b hb => hX5 b (hX1 b hb)) (fun b hb => ?_) ?_ hD5 hrest (by rw [← hl1, List.append_assoc]) ?_ hlt⟩
      · rcases hX5' b hb with hb | hb
        · exact hX2 b hb
        · cases e0 : s.heap.get? b with
          | none => exact .inr rfl
          | some o =>
            by_cases hbX : b ∈ X₁
            · exact e0 ▸ hX2 b hbX
            · have := e₄ b o (hE3 b o (fun p => hbX (p.elim (hP1 b) fun q => q ▸ hJX)) e0)
              rw [hb] at this; cases this
      · exact W.mv (W.mv st₃ (.of_ext e₄) hJX fun o e => e₄ _ _ e) ⟨fun b o hb e => e₅ b o (fun p => hb (hP1 b p)) e, hX5'⟩ (hX5 J hJX) fun o e => e₅ J o hPJ e
      · exact hE3.trans (fun b o hb e => e₅ b o (fun p => hb (.inl p)) (e₄ b o e))
    | false =>
      simp only [Bool.false_eq_true, if_false]
      exact ⟨trivial, ds.length + 1 - (i + 1), by omega, .at h₄ t₄ X₁ σ₂ (i + 1) l' zs (V₃.ext e₄) hX1 hX2 (W.mv st₃ (.of_ext e₄) hJX fun o e => e₄ _ _ e) (hD3.move (.of_ext e₄) fun o e => e₄ _ _ e) q3 hl1 (hE3.trans (Eff.of_ext e₄)) hlt⟩
end
end Mine
end
section
set_option maxRecDepth 100000
namespace Mine
open PySem PySem.Spec PySem.Calls PyProof.Rows PySem.SeqAt PySem.W
theorem dsetAll_append : ∀ (l m acc : List (Key × PV)), dsetAll acc (l ++ m) = dsetAll (dsetAll acc l) m
  | [], _, _ => rfl
  | (k, v) :: l, m, acc => by simp only [List.cons_append, dsetAll]; exact dsetAll_append l m _
theorem dset_length_le (l : List (Key × PV)) (k : Key) (v : PV) : (dset l k v).length ≤ l.length + 1 := by
  unfold dset; split <;> simp
theorem dsetAll_length_le : ∀ (l acc : List (Key × PV)), (dsetAll acc l).length ≤ acc.length + l.length
  | [], _ => Nat.le_refl _
  | (k, v) :: l, acc => by
    have h1 := dsetAll_length_le l (dset acc k v)
    have h2 := dset_length_le acc k v
    simp only [dsetAll, List.length_cons]; omega
section
variable {prog : Program} {w : World} {C : Addr} {T : Tx} {n : Nat} {I : Itp} {h₀ : Heap} {env : Env} {c : Cx} {ad : Str → Option Addr} {A : Around} {α : Type}
theorem emitList_ok {elt : Expr} {gens : List Comprehension} {sc : Scope} {pos : Pos} {D : Addr} {P : Addr → Prop} (S : Sound prog w C T n I) (hD0 : h₀.get? D = none) (hDW : ¬ Wr env c ad D) (hPD : P D) :
    InnerOk prog w C T n h₀ env c ad A (.ListComp elt gens sc pos) D PV.list P gens.length (compGens I c (fun σ => I.ev c σ elt) []) := by
  intro X s σ σ' l xs E Q K hPX hD q hlen hQ
  obtain ⟨d, hd, q1⟩ := Option.map_eq_some_iff.mp q
  obtain ⟨rfl, rfl⟩ := Prod.mk.inj q1
  unfold TailOk
  have : (clausesOf (Expr.ListComp elt gens sc pos))[gens.length]? = none := by simp [clausesOf]
  rw [this]
  show wpAny _ _ (do let _ ← call (.builtin "list.append") [.ref D, ← eval elt env]) _ _ _
  refine wpAny_bind (S.ev K hd fun v h₁ t₁ e₁ x => ?_)
  obtain ⟨vs, hpl, hds⟩ := hD
  have hl := hds.length
  refine wpAny_bind (wpAny_list_append_plain (s := { s with heap := h₁, toks := t₁ }) (items := vs.toArray) (hpl.at fun o e => e₁ _ _ e) (fun h₂ hpl₂ hs => wpAny_pure ?_) (by rw [List.size_toArray, sizeLine_eq]; omega))
  have hDX := hPX D hPD
  have hk : ∀ b o, b ≠ D → h₁.get? b = some o → h₂.get? b = some o := fun b o hb e => (hs.2 b hb).trans e
  have V₂ : Inv prog w C h₀ env c h₂ X ad σ := (K.inv.ext e₁).touch hD0 hDW hk hDX (fun _ h => h) (fun _ h _ => h) (fun _ => let ⟨n, h⟩ := hpl₂; ⟨_, h⟩)
  have M : Mv X h₁ X h₂ := ⟨fun b o hb e => hk b o (fun q => hb (q ▸ hDX)) e, fun _ h => .inl h⟩
  refine hQ h₂ t₁ X V₂ (fun _ h => h) (fun _ h => .inl h) ⟨vs ++ [v], by simpa using hpl₂, ((hds.ext e₁).append (.cons x .nil)).mv M⟩ fun b o hb e => hk b o (fun q => hb (q ▸ hPD)) (e₁ _ _ e)
theorem emitDict_ok {kx vx : Expr} {gens : List Comprehension} {sc : Scope} {pos : Pos} {D : Addr} {P : Addr → Prop} (S : Sound prog w C T n I) (hD0 : h₀.get? D = none) (hDW : ¬ Wr env c ad D) (hPD : P D) :
    InnerOk prog w C T n h₀ env c ad A (.DictComp kx vx gens sc pos) D (fun l => PV.dict (dsetAll [] l)) P gens.length (compGens I c (outPair I kx vx c) []) := by
  intro X s σ σ' l xs E Q K hPX hD q hlen hQ
  obtain ⟨⟨key, d⟩, hd, q1⟩ := Option.map_eq_some_iff.mp q
  obtain ⟨rfl, rfl⟩ := Prod.mk.inj q1
  obtain ⟨key', d', hk, hv, h3⟩ := both_inv hd
  obtain ⟨rfl, rfl⟩ := Prod.mk.inj (Option.some.inj h3)
  obtain ⟨kd, hkd, hkey⟩ := Option.bind_eq_some_iff.mp hk
  unfold TailOk
  have : (clausesOf (Expr.DictComp kx vx gens sc pos))[gens.length]? = none := by simp [clausesOf]
  rw [this]
  show wpAny _ _ (do
    let kv ← eval kx env
    let vv ← holding [kv] (eval vx env)
    standAt { kx.pos with endLine := vx.pos.endLine, endCol := vx.pos.endCol }
    holding [kv, vv] (dictSet D kv vv)) _ _ _
  refine wpAny_bind (S.ev K hkd fun kv h₁ t₁ e₁ x => ?_)
  refine wpAny_bind (wpAny_holding (S.ev (s := { s with heap := h₁, toks := t₁ }) (K.ext e₁) hv fun vv h₂ t₂ e₂ y => ?_))
  refine wpAny_bind (wpAny_standAt (wpAny_holding ?_))
  have e12 := e₁.trans e₂
  obtain ⟨hsys, kvs, hdo, hm, hds⟩ := hD
  have hkl : kvs.length ≤ 100000 := by
    have h1 := congrArg List.length hm
    have h2 := dsetAll_length_le l []
    simp at h1 h2 hlen; omega
  refine wpAny_dictSet_pairs (s := { s with heap := h₂, toks := t₂ }) (knd := keyKind prog w) (x.key hkey) (dictOf_at hdo fun o e => e12 _ _ e) (fun h₃ hdo₃ hs => ?_) (by rw [sizeLine_eq]; omega)
  have hDX := hPX D hPD
  have hk3 : ∀ b o, b ≠ D → h₂.get? b = some o → h₃.get? b = some o := fun b o hb e => (hs.2 b hb).trans e
  have V₃ : Inv prog w C h₀ env c h₃ X ad σ := (K.inv.ext e12).touch hD0 hDW hk3 hDX (fun _ h => h) (fun _ h _ => h) (fun _ => dictOf_some hdo₃)
  have M : Mv X h₂ X h₃ := ⟨fun b o hb e => hk3 b o (fun q => hb (q ▸ hDX)) e, fun _ h => .inl h⟩
  obtain ⟨g1, g2⟩ := stored_den (k := key') hm (hds.ext e12) y
  refine hQ h₃ _ X V₃ (fun _ h => h) (fun _ h => .inl h) ⟨hsys, _, hdo₃, ?_, ?_⟩ fun b o hb e => hk3 b o (fun q => hb (q ▸ hPD)) (e12 _ _ e)
  · rw [dsetAll_append]; exact g1
  · rw [dsetAll_append]; exact g2.mv M
theorem fold_plain {e : Expr} {x : Value} (h : okE e = true) : foldedSetIterable e env x = pure x := by cases e <;> first | rfl | cases h
theorem gens_ok {e : Expr} {D : Addr} {mk : List α → PV} {P : Addr → Prop} {out : St → Option α} (S : Sound prog w C T n I) (he : isComp e = true) (hDW : ¬ Wr env c ad D) (hPD : P D) (hP0 : ∀ b, P b → h₀.get? b = none)
    (base : InnerOk prog w C T n h₀ env c ad A e D mk P (clausesOf e).length (compGens I c out [])) : ∀ (gs : List Comprehension) (k : Nat), (clausesOf e).drop k = gs → k ≤ (clausesOf e).length → (∀ g ∈ gs, ∀ x, inT g.target x → ∀ b, WrX env c x b → P b) →
      InnerOk prog w C T n h₀ env c ad A e D mk P k (compGens I c out gs)
  | [], k, hk, hle, _ => by
    have : k = (clausesOf e).length := by
      have := List.drop_eq_nil_iff.mp hk; omega
    subst this
    exact base
  | g :: gs, k, hk, hle, hT => by
    have hlt : k < (clausesOf e).length := by
      rcases Nat.lt_or_ge k (clausesOf e).length with h | h
      · exact h
      · rw [List.drop_eq_nil_of_le h] at hk; cases hk
    have hg : (clausesOf e)[k]? = some g := by
      have := congrArg (fun l => l[0]?) hk
      simpa using this
    have hdrop : (clausesOf e).drop (k + 1) = gs := by
      have := congrArg List.tail hk
      simpa [List.tail_drop] using this
    have ih := gens_ok S he hDW hPD hP0 base gs (k + 1) hdrop hlt (fun g' hg' => hT g' (List.mem_cons_of_mem _ hg'))
    intro X s σ σ' l xs E Q K hPX hD q hlen hQ
    by_cases ha : g.is_async = 0
    · obtain ⟨ds, hds, q1⟩ := Option.bind_eq_some_iff.mp ((if_pos ha).symm.trans q)
      unfold TailOk
      rw [hg]
      refine ⟨ha, wpAny_mono (evIter_sound (E := E) (Q := fun it s₃ => wpAny (model prog w) A (runOwn (.compStart e k it (.ref D) env) env) (fun _ => Q) E s₃) S K hds ?_) (fun x s₁ h₁ => ?_) fun _ _ e => e⟩
      · intro J St₀ h₁ t₁ e₁ hJ W st
        have hJlive : ∃ o, h₁.get? J = some o := by obtain ⟨o, _, h, _⟩ := W.live st; exact ⟨o, h⟩
        have K' : Ctx prog w C T n h₀ env c (J :: X) ad σ A h₁ := K.grow e₁ hJ hJlive
        have hJX : J ∉ X := K.inv.new_off hJ
        have hnW : ∀ b, s.heap.get? b ≠ none → b ≠ J := fun b hb q => hb (q ▸ hJ)
        have hPJ : ¬ P J := fun p => hJX (hPX J p)
        have hJW : ¬ Wr env c ad J := fun p => hJX (K.inv.wr_in p)
        have hDX : D ∈ X := hPX D hPD
        have hMv : Mv X s.heap (J :: X) h₁ := .more (fun b o _ z => e₁ b o z) hJ
        have loop : ∀ (R : Result → Shared → Prop), (∀ h' tk X', Inv prog w C h₀ env c h' X' ad σ' → (∀ b ∈ X, b ∈ X') → (∀ b ∈ X', b ∈ X ∨ s.heap.get? b = none) → ownD prog w C h' X' D (mk (l ++ xs)) → Eff P s.heap h' → R (.ok .next) { s with heap := h', toks := tk }) →
            codeAny (model prog w) A (.compLoop e k (.ref J) (.ref D) env) R { s with heap := h₁, toks := t₁ } := fun R hR => by
          refine loop_ok (s := { s with heap := h₁, toks := t₁ }) (X := J :: X) (P := P) S he hg ha ih (hT g List.mem_cons_self) W K' (fun b hb => List.mem_cons_of_mem _ (hPX b hb)) hPJ (fun q => hJX (q ▸ hDX)) hDW (none_of_ext K.inv.keep hJ) hJW st
            (hD.move hMv fun o e => e₁ _ _ e) q1 hlen fun h₂ t₂ X₂ V₂ hX1 hJ2 hX2 hD2 hE2 => ?_
          refine hR h₂ t₂ X₂ V₂ (fun b hb => hX1 b (List.mem_cons_of_mem _ hb) (fun q => hJX (q ▸ hb))) (fun b hb => ?_) hD2 fun b o hb e => hE2 b o (fun p => p.elim hb fun q => by rw [q, hJ] at e; cases e) (e₁ b o e)
          rcases hX2 b hb with h | h
          · rcases List.mem_cons.mp h with rfl | h
            · exact absurd hb hJ2
            · exact .inl h
          · exact .inr (none_of_ext e₁ h)
        refine wpAny_runOwn ?_
        have hmark : A.mark none = A := rfl
        rw [hmark]
        have fin := loop (fun r s' => match r with | .ok f => Q s' | .error e => cameBackBy (model prog w) A env E e s') (fun h' tk X' V a b d f => hQ h' tk X' V a b d f)
        refine comp_start he hg ha fin (W.self (s := { s with heap := h₁, toks := t₁ }) K.rm.handled st fin)
      · exact wpAny_of_eq (fold_plain (evIter_ok S hds)) h₁
    · cases (if_neg ha).symm.trans q
end
end Mine
end
section
set_option maxRecDepth 100000
namespace Mine
open PySem PySem.Spec PySem.Calls PyProof.Rows PySem.SeqAt PySem.W
section
variable {prog : Program} {w : World} {C : Addr} {T : Tx} {n : Nat} {I : Itp} {h₀ : Heap} {env : Env} {c : Cx} {X : List Addr} {ad : Str → Option Addr} {σ : St} {A : Around} {s : Shared} {E : Value → Shared → Prop} {α : Type}
theorem okName_is {sc : Scope} {x : Str} {p : Pos} (h : okName sc (.Name x p) = true) : sc.names.lookup x = some .local ∨ sc.names.lookup x = some .cell := by
  rcases (Bool.or_eq_true _ _).mp (show (sc.names.lookup x == some .local || sc.names.lookup x == some .cell) = true from h) with h | h
  · exact .inl (eq_of_beq h)
  · exact .inr (eq_of_beq h)
theorem inT_ok {sc : Scope} {t : Expr} {x : Str} (h : okTgt sc t = true) (hx : inT t x) : sc.names.lookup x = some .local ∨ sc.names.lookup x = some .cell := by
  unfold inT at hx
  unfold okTgt at h
  cases ht : asTup t with
  | some ts =>
    rw [ht] at hx h
    obtain ⟨p, hp⟩ := hx
    exact okName_is (List.all_eq_true.mp h _ hp)
  | none =>
    rw [ht] at hx h
    obtain ⟨p, rfl⟩ := asName_inv hx
    exact okName_is h
theorem comp_run {e : Expr} {sc : Scope} {gens : List Comprehension} {out : Cx → St → Option α} {mk : List α → PV} {xs : List α} {newAcc : Sem Value} {o : Obj} {use : Option (Value → Sem Unit)} {pos : Pos} {Q : Value → Shared → Prop}
    (S : Sound prog w C T n I) (K : Ctx prog w C T n h₀ env c X ad σ A s.heap) (he : isComp e = true) (hcl : clausesOf e = gens)
    (hacc : ∀ (s : Shared) (E : Value → Shared → Prop) (Q : Value → Shared → Prop), Q (.ref s.heap.objs.size) { s with heap := s.heap.push o } → wpAny (model prog w) A newAcc Q E s) (hof : o.isFreed = false)
    (hown : ∀ (h : Heap) (X : List Addr) (D : Addr), h.get? D = some o → (D == sysModules) = false → ownD prog w C h X D (mk []))
    (base : ∀ {env : Env} {c : Cx} {ad : Str → Option Addr} {D : Addr} {P : Addr → Prop}, h₀.get? D = none → ¬ Wr env c ad D → P D → InnerOk prog w C T n h₀ env c ad A e D mk P gens.length (compGens I c (out c) []))
    (q : evComp I c σ sc out gens = some xs)
    (hfin : ∀ D L h' tk m, Ext s.heap h' → s.heap.get? D = none → s.heap.get? L = none → D ≠ L → ownD prog w C h' (D :: L :: X) D (mk xs) → h'.Ns L m → compPost (model prog w) A E use Q (.ref D) L (.ok .next) { s with heap := h', toks := tk }) :
    wpAny (model prog w) A (comprehension e sc env pos newAcc (firstAsync gens) (firstIter gens env) use) Q E s := by
  cases gens with
  | nil => nomatch q
  | cons g gs =>
    by_cases hok : (okScope sc c.sc σ (g :: gs) && g.is_async == 0) = true
    rotate_left
    · cases (if_neg hok).symm.trans q
    obtain ⟨ds, hds, q1⟩ := Option.bind_eq_some_iff.mp ((if_pos hok).symm.trans q)
    obtain ⟨⟨xs', σ'⟩, hloop, q2⟩ := Option.bind_eq_some_iff.mp q1
    rw [Bool.and_eq_true, beq_iff_eq] at hok
    have ha : g.is_async = 0 := hok.2
    have ok := okScope_is hok.1
    by_cases hlen : xs'.length ≤ 100000
    rotate_left
    · cases (if_neg hlen).symm.trans q2
    cases (if_pos hlen).symm.trans q2
    have hfree : ∀ x, sc.names.lookup x = some .free → ∃ a, env.cells.lookup x = some a := fun x hx => by
      obtain ⟨a, v, h1, _⟩ := K.inv.cells x (ok.free x hx)
      exact ⟨a, h1⟩
    have hfree' : ∀ p ∈ sc.names, p.2 = .free → (env.cells.lookup p.1).isSome = true := fun p hp hk => by
      obtain ⟨a, h1⟩ := hfree p.1 (by rw [ok.cons p hp, hk])
      rw [h1]; rfl
    have hcl' : ∀ x, sc.names.lookup x = some .free → (clFrom env sc.names []).lookup x = env.cells.lookup x := fun x hx => clFrom_lookup _ _ hfree' (.inl (mem_of_lookup hx))
    have hasync : firstAsync (g :: gs) = false := by obtain ⟨t, i, fs, a⟩ := g; show (a != 0) = false; simpa using ha
    have hfirst : firstIter (g :: gs) env = eval g.iter env := by obtain ⟨t, i, fs, a⟩ := g; rfl
    rw [hasync, hfirst]
    refine wpAny_comprehension_free hcl (fun x => fold_plain (evIter_ok S hds)) (closure_ok hfree') ok.kind (fun p hp hk => by rw [ok.cons p hp, hk]) ?_
    refine evIter_sound S K hds fun J St₀ h₁ t₁ e₁ hJ W st => ?_
    have hJlive : ∃ o, h₁.get? J = some o := by obtain ⟨o, _, h, _⟩ := W.live st; exact ⟨o, h⟩
    have K₁ : Ctx prog w C T n h₀ env c (J :: X) ad σ A h₁ := K.grow e₁ hJ hJlive
    refine hacc _ _ _ ?_
    have e₂ := Ext.push h₁ o
    have hD₁ : h₁.get? h₁.objs.size = none := size_none _
    have hDat : (h₁.push o).get? h₁.objs.size = some o := Heap.get?_push_size _ hof
    have K₂ : Ctx prog w C T n h₀ env c (h₁.objs.size :: J :: X) ad σ A (h₁.push o) := K₁.grow e₂ hD₁ ⟨o, hDat⟩
    have hsys := K₁.glo.not_sys
    generalize hDD : h₁.objs.size = D at *
    have hownD := hown (h₁.push o) (D :: J :: X) D hDat hsys
    have st₂ : St₀ 0 (h₁.push o) (D :: J :: X) := W.mv st ⟨fun b o' _ e => e₂ b o' e, fun b hb => (List.mem_cons.mp hb).elim (fun q => .inr (q ▸ hD₁)) .inl⟩ (List.mem_cons_of_mem _ (W.inX st)) fun o' e => e₂ _ _ e
    have e12 : Ext s.heap (h₁.push o) := e₁.trans e₂
    have hDn : s.heap.get? D = none := none_of_ext e₁ hD₁
    have hJ₂ : ∃ o', (h₁.push o).get? J = some o' := let ⟨o', z⟩ := hJlive; ⟨o', e₂ _ _ z⟩
    have hJD : J ≠ D := fun q => by obtain ⟨o', z⟩ := hJlive; rw [q, hD₁] at z; cases z
    generalize h₁.push o = h₂ at *
    refine comp_env ok.cons fun cells h₃ N => ?_
    have K₃ := comp_ctx K₂ N ok hcl'
    have hLn : h₂.get? h₂.objs.size = none := size_none _
    show codeAny (model prog w) A (.compStart e 0 (.ref J) (.ref D) (cenv sc env h₂.objs.size cells)) (compPost (model prog w) A E use Q (.ref D) h₂.objs.size) _
    generalize h₂.objs.size = L at *
    have liveN : ∀ b o', h₂.get? b = some o' → b ≠ L := fun b o' e q => by rw [q, hLn] at e; cases e
    have hDL : D ≠ L := liveN D _ hDat
    have ownN : ∀ b ∈ ownCells sc cells, h₂.get? b = none := fun b hb => by
      obtain ⟨⟨x, k⟩, hp, hq⟩ := List.mem_filterMap.mp hb
      by_cases hk : k = .cell
      · subst hk
        obtain ⟨a, g1, _, g3, _⟩ := N.own x (ok.cons _ hp)
        have : cells.lookup x = some b := by simpa using hq
        rw [g1] at this; cases this
        exact g3
      · simp [hk] at hq
    have notWr : ∀ b, (∃ o', h₂.get? b = some o') → s.heap.get? b = none → ¬ Wr (cenv sc env L cells) ⟨relab sc c.sc, []⟩ (innerAd sc ad) b := by
      rintro b ⟨o', hb⟩ hbn p
      rcases p with rfl | ⟨x, hx, e0⟩ | ⟨x, e0⟩
      · exact liveN _ _ hb rfl
      · have e0' : cells.lookup x = some b := e0
        rcases relab_cases hx with ⟨h1, _⟩ | ⟨h1, h2, _⟩ | ⟨_, h2⟩
        · obtain ⟨a, g1, _, g3, _⟩ := N.own x h1
          rw [g1] at e0'; cases e0'
          rw [g3] at hb; cases hb
        · rw [(N.oth x (by rw [h1]; exact fun e => nomatch e)).trans (hcl' x h1)] at e0'
          obtain ⟨a, v, g1, ⟨o'', g2, _⟩, _⟩ := K.inv.cells x h2
          rw [e0'] at g1; cases g1
          rw [hbn] at g2; cases g2
        · cases h2
      · unfold innerAd at e0
        split at e0
        · obtain ⟨o'', z⟩ := K.inv.live b (K.inv.adX x b e0).1
          rw [hbn] at z; cases z
        · cases e0
    let P : Addr → Prop := fun b => b = L ∨ b = D ∨ b ∈ ownCells sc cells
    have hPs : ∀ b, P b → s.heap.get? b = none := fun b p => by
      rcases p with rfl | rfl | p
      · exact none_of_ext e12 hLn
      · exact hDn
      · exact none_of_ext e12 (ownN b p)
    have hPX : ∀ b, P b → b ∈ ownCells sc cells ++ L :: D :: J :: X := fun b p => by
      rcases p with rfl | rfl | p
      · simp
      · simp
      · exact List.mem_append_left _ p
    have hPJ : ¬ P J := fun p => by
      rcases p with p | p | p
      · obtain ⟨o', z⟩ := hJ₂; exact liveN J _ z p
      · exact hJD p
      · obtain ⟨o', z⟩ := hJ₂
        rw [ownN J p] at z; cases z
    have hT : ∀ g' ∈ g :: gs, ∀ x, inT g'.target x → ∀ b, WrX (cenv sc env L cells) ⟨relab sc c.sc, []⟩ x b → P b := fun g' hg' x hx b p => by
      rcases p with p | ⟨p1, p2⟩
      · exact .inl p
      · rcases inT_ok (ok.tgt g' hg') hx with h1 | h1
        · have : relab sc c.sc x = some .local := by unfold relab; rw [h1]; rfl
          have p1' : relab sc c.sc x = some .cell := p1
          rw [this] at p1'; cases p1'
        · have p2' : cells.lookup x = some b := p2
          exact .inr (.inr (List.mem_filterMap.mpr ⟨(x, .cell), mem_of_lookup h1, by simpa using p2'⟩))
    have hDW := notWr D ⟨o, hDat⟩ hDn
    have hD0 : h₀.get? D = none := none_of_ext K.inv.keep hDn
    have hlenC : gs.length + 1 = (clausesOf e).length := by rw [hcl]; rfl
    have inner := gens_ok (P := P) (out := out ⟨relab sc c.sc, []⟩) S he hDW (.inr (.inl rfl)) (fun b p => none_of_ext K.inv.keep (hPs b p)) (by rw [hcl]; exact base hD0 hDW (.inr (.inl rfl))) gs 1 (by rw [hcl]; rfl) (by omega) (fun g' hg' => hT g' (List.mem_cons_of_mem _ hg'))
    have Mv3 : Mv (D :: J :: X) h₂ (ownCells sc cells ++ L :: D :: J :: X) h₃ := ⟨fun b o' _ e => N.ext b o' e, fun b hb => by
      rcases List.mem_append.mp hb with hb | hb
      · exact .inr (ownN b hb)
      · rcases List.mem_cons.mp hb with rfl | hb
        · exact .inr hLn
        · exact .inl hb⟩
    have hg0 : (clausesOf e)[0]? = some g := by rw [hcl]; rfl
    have loop : codeAny (model prog w) A (.compLoop e 0 (.ref J) (.ref D) (cenv sc env L cells)) (compPost (model prog w) A E use Q (.ref D) L) { s with heap := h₃, toks := t₁ } := by
      refine loop_ok (s := { s with heap := h₃, toks := t₁ }) (P := P) (l := []) S he hg0 ha inner (hT g List.mem_cons_self) W K₃ hPX hPJ hJD hDW (none_of_ext K.inv.keep hJ) (notWr J hJ₂ hJ) (W.mv st₂ Mv3 (by simp) fun o' e => N.ext _ _ e)
        (hownD.move Mv3 fun o' e => N.ext _ _ e) hloop (by simpa using hlen) fun h₄ t₄ X₄ V₄ hX1 hJ4 hX2 hD4 hE4 => ?_
      obtain ⟨m, hns, _⟩ := V₄.ns
      have hDX4 : D ∈ X₄ := hX1 D (by simp) (Ne.symm hJD)
      have hLX4 : L ∈ X₄ := hX1 L (by simp) (fun q => hPJ (.inl q.symm))
      have hXX4 : ∀ b ∈ X, b ∈ X₄ := fun b hb => hX1 b (by simp [hb]) (fun q => by
        obtain ⟨o', z⟩ := K.inv.live b hb
        rw [q, hJ] at z; cases z)
      refine hfin D L h₄ t₄ m (fun b o' z => ?_) hDn (none_of_ext e12 hLn) hDL ?_ hns
      · refine hE4 b o' (fun p => ?_) (N.ext _ _ (e12 _ _ z))
        rcases p with p | p
        · rw [hPs b p] at z; cases z
        · rw [p, hJ] at z; cases z
      · refine ownD.move (.anti fun b hb => ?_) (fun o' e => e) (by simpa using hD4)
        rcases List.mem_cons.mp hb with rfl | hb
        · exact hDX4
        · rcases List.mem_cons.mp hb with rfl | hb
          · exact hLX4
          · exact hXX4 b hb
    exact comp_start he hg0 ha loop (W.self (s := { s with heap := h₃, toks := t₁ }) K.rm.handled (W.mv st₂ Mv3 (by simp) fun o' e => N.ext _ _ e) loop)
end
end Mine
end
section
set_option maxRecDepth 100000
namespace Mine
open PySem PySem.Spec PySem.Calls PyProof.Rows PySem.SeqAt PySem.W
section
variable {prog : Program} {w : World} {C : Addr} {T : Tx} {n : Nat} {I : Itp} {h₀ : Heap} {env : Env} {c : Cx} {X : List Addr} {ad : Str → Option Addr} {σ : St} {A : Around} {s : Shared} {E : Value → Shared → Prop}
theorem none_post {d : PV} {D L : Addr} {h' : Heap} {tk : Nat} {m : Str → Option Value} {Q : Value → Shared → Prop} (e : Ext s.heap h') (hD : s.heap.get? D = none) (hL : s.heap.get? L = none) (hDL : D ≠ L) (x : ownD prog w C h' (D :: L :: X) D d) (hn : h'.Ns L m)
    (hQ : ∀ a h' tk, Ext s.heap h' → s.heap.get? a = none → ownD prog w C h' (a :: X) a d → Q (.ref a) { s with heap := h', toks := tk }) : compPost (model prog w) A E none Q (.ref D) L (.ok .next) { s with heap := h', toks := tk } := by
  refine ⟨m, hn, fun h'' hs => hQ D h'' tk (fun b o z => ?_) hD ?_⟩
  · have hb : b ≠ L := fun q => by rw [q, hL] at z; cases z
    rw [hs.2 b hb]; exact e _ _ z
  · refine x.move ⟨fun b o hb z => ?_, fun b hb => ?_⟩ fun o z => ?_
    · have : b ≠ L := fun q => hb (by simp [q])
      exact (hs.2 b this).trans z
    · exact .inl (by rcases List.mem_cons.mp hb with h | h <;> simp [h])
    · exact (hs.2 D hDL).trans z
noncomputable def isComp' (I : Itp) (c : Cx) (σ : St) (e : Expr) (d : PV) : Prop := match e with
  | .ListComp elt gens sc _ => (evComp I c σ sc (fun c' σ' => I.ev c' σ' elt) gens).map .list = some d
  | .DictComp k v gens sc _ => ((evComp I c σ sc (outPair I k v) gens).map fun l => .dict (dsetAll [] l)) = some d
  | _ => False
theorem newList_acc (s : Shared) (E : Value → Shared → Prop) (Q : Value → Shared → Prop) (h : Q (.ref s.heap.objs.size) { s with heap := s.heap.push { cls := .type "list", data := .seq ([] : List Value).toArray } }) : wpAny (model prog w) A (newList []) Q E s := wpAny_newList h (by simp)
theorem newDict_acc (s : Shared) (E : Value → Shared → Prop) (Q : Value → Shared → Prop) (h : Q (.ref s.heap.objs.size) { s with heap := s.heap.push { cls := .type "dict", data := .dict #[] } }) : wpAny (model prog w) A newDict Q E s := wpAny_newObj_type h (by size_fits)
theorem dict_nil {h : Heap} {X : List Addr} {D : Addr} (e : h.get? D = some { cls := .type "dict", data := .dict #[] }) (hs : (D == sysModules) = false) : ownD prog w C h X D (.dict []) := by
  refine ⟨hs, [], ?_, rfl, .nil⟩
  have := Heap.DictOf.new (knd := keyKind prog w) h
  obtain ⟨o, es, ep, ho, r⟩ := this
  have h2 := Heap.get?_push_size (o := { cls := .type "dict", data := .dict #[] }) h rfl
  rw [h2] at ho; cases ho
  exact ⟨_, es, ep, e, r⟩
theorem comp_fresh {e : Expr} {d : PV} {Q : Value → Shared → Prop} (S : Sound prog w C T n I) (K : Ctx prog w C T n h₀ env c X ad σ A s.heap) (q : isComp' I c σ e d)
    (hQ : ∀ a h' tk, Ext s.heap h' → s.heap.get? a = none → ownD prog w C h' (a :: X) a d → Q (.ref a) { s with heap := h', toks := tk }) : wpAny (model prog w) A (eval e env) Q E s := by
  cases e <;> try exact q.elim
  · rename_i elt gens sc pos
    obtain ⟨xs, hx, rfl⟩ := Option.map_eq_some_iff.mp q
    exact comp_run (mk := PV.list) (e := .ListComp elt gens sc pos) (use := none) (newAcc := newList []) S K rfl rfl newList_acc rfl (fun h X D e _ => ⟨[], ⟨_, e⟩, .nil⟩) (fun a b c => emitList_ok S a b c) hx
      (fun D L h' tk m e hD hL hDL x hn => none_post e hD hL hDL x hn hQ)
  · rename_i k v gens sc pos
    obtain ⟨xs, hx, rfl⟩ := Option.map_eq_some_iff.mp q
    exact comp_run (mk := fun l => PV.dict (dsetAll [] l)) (e := .DictComp k v gens sc pos) (use := none) (newAcc := newDict) S K rfl rfl newDict_acc rfl (fun h X D e hs => dict_nil e hs) (fun a b c => emitDict_ok S a b c) hx
      (fun D L h' tk m e hD hL hDL x hn => none_post e hD hL hDL x hn hQ)
theorem comp_used {e : Expr} {d : PV} {Q : Unit → Shared → Prop} {u : Value → Sem Unit} (S : Sound prog w C T n I) (K : Ctx prog w C T n h₀ env c X ad σ A s.heap) (q : isComp' I c σ e d)
    (hQ : ∀ a C' h' tk m, Ext s.heap h' → s.heap.get? a = none → s.heap.get? C' = none → a ≠ C' → ownD prog w C h' (a :: C' :: X) a d → h'.Ns C' m →
      wpAny (model prog w) A (u (.ref a)) (fun _ s'' => ∃ m, s''.heap.Ns C' m ∧ ∀ h'', Heap.SameBut C' s''.heap h'' → Q () { s'' with heap := h'' }) E { s with heap := h', toks := tk }) :
    wpAny (model prog w) A (evalThenUse e env u) Q E s := by
  cases e <;> try exact q.elim
  · rename_i elt gens sc pos
    obtain ⟨xs, hx, rfl⟩ := Option.map_eq_some_iff.mp q
    rw [arm_evalThenUse_ListComp]
    refine wpAny_bind (comp_run (Q := fun _ s' => wpAny (model prog w) A (pure ()) Q E s') (mk := PV.list) (e := .ListComp elt gens sc pos) (use := some u) (newAcc := newList []) S K rfl rfl newList_acc rfl (fun h X D e _ => ⟨[], ⟨_, e⟩, .nil⟩) (fun a b c => emitList_ok S a b c) hx
      (fun D L h' tk m e hD hL hDL x hn => ?_))
    refine wpAny_mono (hQ D L h' tk m e hD hL hDL x hn) (fun _ s'' z => ?_) fun _ _ e => e
    obtain ⟨m, z1, z2⟩ := z
    exact ⟨m, z1, fun h'' hs => wpAny_pure (z2 h'' hs)⟩
  · rename_i k v gens sc pos
    obtain ⟨xs, hx, rfl⟩ := Option.map_eq_some_iff.mp q
    rw [arm_evalThenUse_DictComp]
    refine wpAny_bind (comp_run (Q := fun _ s' => wpAny (model prog w) A (pure ()) Q E s') (mk := fun l => PV.dict (dsetAll [] l)) (e := .DictComp k v gens sc pos) (use := some u) (newAcc := newDict) S K rfl rfl newDict_acc rfl (fun h X D e hs => dict_nil e hs) (fun a b c => emitDict_ok S a b c) hx
      (fun D L h' tk m e hD hL hDL x hn => ?_))
    refine wpAny_mono (hQ D L h' tk m e hD hL hDL x hn) (fun _ s'' z => ?_) fun _ _ e => e
    obtain ⟨m, z1, z2⟩ := z
    exact ⟨m, z1, fun h'' hs => wpAny_pure (z2 h'' hs)⟩
end
end Mine
end
section
set_option maxRecDepth 100000
namespace Mine
open PySem PySem.Spec PySem.Calls PyProof.Rows PySem.SeqAt PySem.W
section
variable {prog : Program} {w : World} {C : Addr} {T : Tx} {n : Nat} {I : Itp} {h₀ : Heap} {env : Env} {c : Cx} {X : List Addr} {ad : Str → Option Addr} {σ : St} {A : Around} {s : Shared} {E : Value → Shared → Prop}
theorem evStep_fresh {e : Expr} {d : PV} {Q : Value → Shared → Prop} (S : Sound prog w C T n I) (K : Ctx prog w C T n h₀ env c X ad σ A s.heap) (hf : isFresh e = true) (q : evStep T I c σ e = some d)
    (hQ : ∀ a h' tk, Ext s.heap h' → s.heap.get? a = none → ownD prog w C h' (a :: X) a d → Q (.ref a) { s with heap := h', toks := tk }) : wpAny (model prog w) A (eval e env) Q E s := by
  cases e with
  | Dict ks vs p =>
    have q : evDict I c σ ks vs = some d := q
    by_cases hl : ks.length ≤ 15
    · obtain ⟨l, hl', rfl⟩ := Option.map_eq_some_iff.mp ((if_pos hl).symm.trans q)
      exact dict_fresh S K hl hl' hQ
    · cases (if_neg hl).symm.trans q
  | ListComp => exact comp_fresh S K q hQ
  | DictComp => exact comp_fresh S K q hQ
  | List es p =>
    have q : evList I c σ es = some d := q
    by_cases hl : es.length ≤ 1000
    · obtain ⟨l, hl', rfl⟩ := Option.map_eq_some_iff.mp ((if_pos hl).symm.trans q)
      exact list_fresh S K hl hl' hQ
    · cases (if_neg hl).symm.trans q
  | _ => nomatch hf
theorem evCmp_inv {l : Expr} {ops : List CmpOp} {rs : List Expr} {b : Bool} (q : evCmp I c σ l ops rs = some b) : ∃ op r a a', ops = [op] ∧ rs = [r] ∧ evB I c σ l = some a ∧ evB I c σ r = some a' ∧ pcmp op a a' = some b := by
  obtain ⟨op, r, h1, h2, q1⟩ := both_inv q
  obtain ⟨a, a', h3, h4, q2⟩ := both_inv q1
  exact ⟨op, r, a, a', one_inv h1, one_inv h2, h3, h4, q2⟩
theorem evCallE_sound {f : Expr} {args : List Expr} {ks : List Keyword} {p : Pos} {d : PV} {Q : Value → Shared → Prop} (S : Sound prog w C T n I) (K : Ctx prog w C T n h₀ env c X ad σ A s.heap) (q : evCallE T I c σ f args ks p = some d)
    (hQ : ∀ v h' tk, Ext s.heap h' → Den prog w C h' X v d → Q v { s with heap := h', toks := tk }) : wpAny (model prog w) A (eval (.Call f args ks p) env) Q E s := by
  by_cases hk : ks.isEmpty = true
  · have q1 := (if_pos hk).symm.trans q
    cases List.isEmpty_iff.mp hk
    cases hn : asName f with
    | some x =>
      rw [hn] at q1
      obtain ⟨np, rfl⟩ := asName_inv hn
      exact evCall_sound S K q1 hQ
    | none =>
      rw [hn] at q1
      obtain ⟨⟨o, m, ap⟩, h1, q2⟩ := Option.bind_eq_some_iff.mp q1
      cases asAttr_inv h1
      by_cases hm : okM o ap p = true ∧ args.length ≤ 10
      · exact evMeth_sound S K hm.1 hm.2 ((if_pos hm).symm.trans q2) hQ
      · cases (if_neg hm).symm.trans q2
  · cases (if_neg hk).symm.trans q
theorem evSub_sound {b i : Expr} {p : Pos} {d : PV} {Q : Value → Shared → Prop} (S : Sound prog w C T n I) (K : Ctx prog w C T n h₀ env c X ad σ A s.heap) (q : evSub I c σ b i = some d)
    (hQ : ∀ v h' tk, Ext s.heap h' → Den prog w C h' X v d → Q v { s with heap := h', toks := tk }) : wpAny (model prog w) A (eval (.Subscript b i p) env) Q E s := by
  unfold evSub at q
  cases hs : asSlice i with
  | some t =>
    rw [hs] at q
    obtain ⟨p', rfl⟩ := asSlice_inv hs
    obtain ⟨d', q1, q'⟩ := Option.bind_eq_some_iff.mp q
    obtain ⟨l, q2, q'⟩ := Option.bind_eq_some_iff.mp q'
    obtain ⟨h, q3, q'⟩ := Option.bind_eq_some_iff.mp q'
    obtain ⟨s', q4, q'⟩ := Option.bind_eq_some_iff.mp q'
    exact slice_sound S K q1 q2 q3 q4 q' hQ
  | none =>
    rw [hs] at q
    obtain ⟨d', k, q1, q2, q3⟩ := both_inv q
    exact item_sound S K (asSlice_none hs) q1 q2 q3 hQ
theorem evStep_sound {e : Expr} {d : PV} {Q : Value → Shared → Prop} (S : Sound prog w C T n I) (K : Ctx prog w C T n h₀ env c X ad σ A s.heap) (q : evStep T I c σ e = some d)
    (hQ : ∀ v h' tk, Ext s.heap h' → Den prog w C h' X v d → Q v { s with heap := h', toks := tk }) : wpAny (model prog w) A (eval e env) Q E s := by
  cases e with
  | Constant k kk p => exact pconst_sound q hQ
  | Name x p =>
    obtain ⟨lv, hd, h1⟩ := Option.bind_eq_some_iff.mp (show (σ.get c x).bind LV.fro? = some d from q)
    cases LV.fro?_inv h1
    exact name_lv K.ok K.inv hd fun v hv => hQ v s.heap s.toks (Ext.refl _) hv
  | BinOp l op r p =>
    obtain ⟨a, b, ha, hb, q1⟩ := both_inv (show evBin I c σ l op r = some d from q)
    exact bin_sound S K ha hb q1 hQ
  | UnaryOp op x p => exact un_sound S K q hQ
  | BoolOp op es p =>
    rw [arm_eval_BoolOp]
    exact bool_sound S K q hQ
  | Compare l ops rs p =>
    obtain ⟨b, hb, rfl⟩ := Option.map_eq_some_iff.mp (show (evCmp I c σ l ops rs).map PV.bool = some d from q)
    obtain ⟨op, r, a, a', rfl, rfl, h1, h2, h3⟩ := evCmp_inv hb
    exact cmp_sound S K h1 h2 h3 hQ
  | IfExp t a b p => exact ifexp_sound S K q hQ
  | Tuple es k p =>
    have q : evTup I c σ es = some d := q
    by_cases hl : es.length ≤ 1000
    · obtain ⟨ds, hds, rfl⟩ := Option.map_eq_some_iff.mp ((if_pos hl).symm.trans q)
      exact tup_sound S K hl hds hQ
    · cases (if_neg hl).symm.trans q
  | Subscript b i p => exact evSub_sound S K q hQ
  | Attribute b a p =>
    have q : evAttr I c σ b a = some d := q
    by_cases h : a = Str.ofString "comp_select_list" ∧ isNm b = true
    · obtain ⟨x, hx, h2⟩ := Option.bind_eq_some_iff.mp ((if_pos h).symm.trans q)
      cases PV.inst?_inv h2
      obtain ⟨rfl, hb⟩ := h
      exact attr_sound hb S K hx hQ
    · cases (if_neg h).symm.trans q
  | Call f args ks p => exact evCallE_sound S K q hQ
  | Dict => exact evStep_fresh S K rfl q fun a h' tk e ha x => fresh_ev K e ha x hQ
  | List => exact evStep_fresh S K rfl q fun a h' tk e ha x => fresh_ev K e ha x hQ
  | ListComp => exact evStep_fresh S K rfl q fun a h' tk e ha x => fresh_ev K e ha x hQ
  | DictComp => exact evStep_fresh S K rfl q fun a h' tk e ha x => fresh_ev K e ha x hQ
  | _ => nomatch (show (none : Option PV) = some d from q)
theorem evStep_dom {e : Expr} {d : PV} (q : evStep T I c σ e = some d) : okE e = true := by
  cases e <;> first | rfl | nomatch (show (none : Option PV) = some d from q)
theorem tsStep_sound {e : Expr} {b : Bool} {Q : Bool → Shared → Prop} (S : Sound prog w C T n I) (K : Ctx prog w C T n h₀ env c X ad σ A s.heap) (q : tsStep I c σ e = some b)
    (hQ : ∀ h' tk, Ext s.heap h' → Q b { s with heap := h', toks := tk }) : wpAny (model prog w) A (isTrue e env (eval e env)) Q E s := by
  have plain : ∀ (e : Expr), isTrue e env (eval e env) = (do let v ← eval e env; standAt e.pos; holding [v] (truthy v)) → (I.ev c σ e).bind ptruth = some b → wpAny (model prog w) A (isTrue e env (eval e env)) Q E s := fun e he q => by
    obtain ⟨d, hd, hp⟩ := Option.bind_eq_some_iff.mp q
    exact isTrue_plain (S.ev K hd fun v h₁ t₁ e₁ x => ptruth_sound (s := { s with heap := h₁, toks := t₁ }) (.inl x) hp (hQ h₁ t₁ e₁)) he
  cases e with
  | UnaryOp op x p =>
    cases op with
    | Not =>
      obtain ⟨b', hb, rfl⟩ := Option.map_eq_some_iff.mp (show (I.ts c σ x).map (!·) = some b from q)
      exact wpAny_isTrue_Not (S.ts K hb fun h₁ t₁ e₁ => hQ h₁ t₁ e₁)
    | _ => exact plain _ rfl q
  | BoolOp op es p => exact wpAny_isTrue_BoolOp (tsAll_sound S K q hQ)
  | IfExp t a b' p => nomatch (show (none : Option Bool) = some b from q)
  | Compare l ops rs p =>
    obtain ⟨op, r, a, a', rfl, rfl, h1, h2, h3⟩ := evCmp_inv (show evCmp I c σ l ops rs = some b from q)
    exact cmpT_sound S K h1 h2 h3 hQ
  | _ => exact plain _ rfl q
end
end Mine
end
section
set_option maxRecDepth 100000
namespace Mine
open PySem PySem.Spec PySem.Calls PyProof.Rows PySem.SeqAt PySem.W
noncomputable def upd (ad : Str → Option Addr) (x : Str) (a : Addr) : Str → Option Addr := fun y => if y = x then some a else ad y
section
variable {prog : Program} {w : World} {C : Addr} {T : Tx} {n : Nat} {I : Itp} {h₀ : Heap} {env : Env} {c : Cx} {X : List Addr} {ad : Str → Option Addr} {σ σ' : St} {A : Around} {s : Shared} {E : Value → Shared → Prop} {Q : Flow → Shared → Prop}
theorem Ctx.offX (K : Ctx prog w C T n h₀ env c X ad σ A s.heap) {a : Addr} (ha : s.heap.get? a = none) : ¬ Wr env c ad a := fun p => K.inv.new_off ha (K.inv.wr_in p)
/-- a frozen value is laid under a name -/
theorem put_fro {x : Str} {v : Value} {d : PV} {h₁ : Heap} {t₁ : Nat} (K : Ctx prog w C T n h₀ env c X ad σ A s.heap) (e : Ext s.heap h₁) (hd : Den prog w C h₁ X v d) (q : σ.set c x (.fro d) = some σ')
    (hQ : StPost prog w C h₀ env c X ad s .next σ' Q) : wpAny (model prog w) A (storeName env x v) (fun _ => Q .next) E { s with heap := h₁, toks := t₁ } :=
  store_fro (s := { s with heap := h₁, toks := t₁ }) K.ok (K.inv.ext e) q hd fun h₂ t₂ V₂ e₂ =>
    hQ h₂ t₂ X ad .next V₂ ⟨(Eff.of_ext e).trans (e₂.mono fun b p => wr_mono b p), fun _ h => h, fun _ h => .inl h, fun _ _ h => .inl h⟩ rfl
theorem upd_facts {x : Str} {a : Addr} {h₁ : Heap} {X₁ : List Addr} (K : Ctx prog w C T n h₀ env c X ad σ A s.heap) (ha : s.heap.get? a = none) (haX : a ∈ X₁) (hs : ∀ b ∈ X, b ∈ X₁) :
    (∀ y, y ≠ x → upd ad x a y = ad y) ∧ (∀ y b, upd ad x a y = some b → b ∈ X₁ ∧ b ≠ env.locals ∧ ∀ z, c.sc z = some .cell → env.cells.lookup z ≠ some b) ∧ (∀ y z b, upd ad x a y = some b → upd ad x a z = some b → y = z) ∧ (∀ y b, upd ad x a y = some b → h₀.get? b = none) := by
  have hW := K.offX ha
  have hne : ∀ y, ad y ≠ some a := fun y e => hW (.inr (.inr ⟨y, e⟩))
  refine ⟨fun y hy => by unfold upd; rw [if_neg hy], fun y b e => ?_, fun y z b e1 e2 => ?_, fun y b e => ?_⟩
  · unfold upd at e
    split at e
    · cases e
      exact ⟨haX, fun q => hW (.inl q), fun z hz q => hW (.inr (.inl ⟨z, hz, q⟩))⟩
    · obtain ⟨p, q, r⟩ := K.inv.adX y b e
      exact ⟨hs b p, q, r⟩
  · unfold upd at e1 e2
    split at e1 <;> split at e2
    · simp_all
    · cases e1; exact absurd e2 (hne z)
    · cases e2; exact absurd e1 (hne y)
    · exact K.inv.adinj y z b e1 e2
  · unfold upd at e
    split at e
    · cases e; exact none_of_ext K.inv.keep ha
    · exact K.inv.offb b (.inr (.inr ⟨y, e⟩))
theorem swaps_cases {value : Expr} {x : Str} {px : Pos} {line : Nat} : swapsWith value (some (.Name x px)) line env = pure false ∨ (swapsWith value (some (.Name x px)) line env = pure true ∧ (isComp value = true ∨ okE value = false)) := by
  cases value with
  | ListComp e g sc p =>
    cases h : (env.blockKind == .function && env.kindOf x == some .local && px.line == (Expr.ListComp e g sc p).pos.line && !(sc.names.any fun (n, k) => n == x && (k == .local || k == .cell))) with
    | false => left; show (pure (_ && _ && _ && _) : Sem Bool) = _; rw [h]
    | true => right; exact ⟨by show (pure (_ && _ && _ && _) : Sem Bool) = _; rw [h], .inl rfl⟩
  | DictComp k v g sc p =>
    cases h : (env.blockKind == .function && env.kindOf x == some .local && px.line == (Expr.DictComp k v g sc p).pos.line && !(sc.names.any fun (n, k) => n == x && (k == .local || k == .cell))) with
    | false => left; show (pure (_ && _ && _ && _) : Sem Bool) = _; rw [h]
    | true => right; exact ⟨by show (pure (_ && _ && _ && _) : Sem Bool) = _; rw [h], .inl rfl⟩
  | SetComp e g sc p =>
    cases h : (env.blockKind == .function && env.kindOf x == some .local && px.line == (Expr.SetComp e g sc p).pos.line && !(sc.names.any fun (n, k) => n == x && (k == .local || k == .cell))) with
    | false => left; show (pure (_ && _ && _ && _) : Sem Bool) = _; rw [h]
    | true => right; exact ⟨by show (pure (_ && _ && _ && _) : Sem Bool) = _; rw [h], .inr rfl⟩
  | _ => left; rfl
theorem asgName_fro {x : Str} {px pos : Pos} {v : Expr} {d : PV} (S : Sound prog w C T n I) (K : Ctx prog w C T n h₀ env c X ad σ A s.heap) (qv : I.ev c σ v = some d) (q : σ.set c x (.fro d) = some σ')
    (hQ : StPost prog w C h₀ env c X ad s .next σ' Q) : wpAny (model prog w) A (exec (.Assign [.Name x px] v pos) env) Q E s := by
  rcases swaps_cases (env := env) (value := v) (x := x) (px := px) (line := pos.line) with hs | ⟨hs, hc⟩
  · exact wpAny_Assign_Name (S.ev K qv fun u h₁ t₁ e₁ z => put_fro K e₁ z q hQ) hs
  · have hc' : isComp v = true := by
      rcases hc with h | h
      · exact h
      · rw [S.dom qv] at h; cases h
    rw [exec_Assign_Name_used x px v pos hs]
    refine wpAny_bind (wpAny_standAt (wpAny_bind (S.us K hc' qv fun a C' h₁ t₁ m e₁ ha hC hne hd hn => ?_)))
    have hClive : ∃ o, h₁.get? C' = some o := let ⟨o, _, _, z, _⟩ := hn; ⟨o, z⟩
    have V₁ : Inv prog w C h₀ env c h₁ (C' :: X) ad σ := K.inv.grow e₁ hC hClive
    have hdv : Den prog w C h₁ (C' :: X) (.ref a) d := ownD.den (hd.move (.anti fun b hb => List.mem_cons_of_mem _ hb) fun o z => z) (fun hm => (List.mem_cons.mp hm).elim hne (K.inv.new_off ha))
    refine wpAny_assign_Name (store_fro (s := { s with heap := h₁, toks := t₁ }) K.ok V₁ q hdv fun h₂ t₂ V₂ e₂ => ?_)
    have hCW := K.offX hC
    have hC₂ : h₂.Ns C' m := hn.at' fun o z => e₂ C' o (fun p => hCW (wr_mono C' p)) z
    refine ⟨m, hC₂, fun h₃ hs₃ => wpAny_pure ?_⟩
    have hk : ∀ b o, b ≠ C' → h₂.get? b = some o → h₃.get? b = some o := fun b o hb z => (hs₃.2 b hb).trans z
    have V₃ : Inv prog w C h₀ env c h₃ X ad σ' := V₂.touch (none_of_ext K.inv.keep hC) hCW hk List.mem_cons_self (fun b hb => List.mem_cons_of_mem _ hb) (fun b hb hne => (List.mem_cons.mp hb).elim (fun q => absurd q hne) id) (fun hm => absurd hm (K.inv.new_off hC))
    exact hQ h₃ t₂ X ad .next V₃ ⟨fun b o hb z => hk b o (fun q => by rw [q, hC] at z; cases z) (e₂ b o (fun p => hb (wr_mono b p)) (e₁ b o z)), fun _ h => h, fun _ h => .inl h, fun _ _ h => .inl h⟩ rfl
theorem Inv.grows {h h₁ : Heap} {Xn : List Addr} (J : Inv prog w C h₀ env c h X ad σ) (e : Ext h h₁) (hn : ∀ b ∈ Xn, h.get? b = none) (hl : ∀ b ∈ Xn, ∃ o, h₁.get? b = some o) : Inv prog w C h₀ env c h₁ (Xn ++ X) ad σ := by
  have M : Mv X h (Xn ++ X) h₁ := ⟨fun b o _ z => e b o z, fun b hb => (List.mem_append.mp hb).elim (fun q => .inr (hn b q)) .inl⟩
  have inX : ∀ b ∈ X, b ∈ Xn ++ X := fun b hb => List.mem_append_right _ hb
  refine ⟨J.keep.trans e, J.offb, fun b hb => ?_, inX _ J.Lx, ?_, fun x lv hx hl => ?_, fun x hx => ?_, J.apart, fun y b z => ?_, J.adinj⟩
  · rcases List.mem_append.mp hb with q | q
    · exact hl b q
    · obtain ⟨o, z⟩ := J.live b q; exact ⟨o, e _ _ z⟩
  · obtain ⟨m, hm, hv⟩ := J.ns
    exact ⟨m, hm.keeps e, fun x lv h1 h2 => let ⟨v, p, q⟩ := hv x lv h1 h2; ⟨v, p, q.move M fun a _ o => e a o⟩⟩
  · obtain ⟨a, v, p, q, r⟩ := J.cl x lv hx hl
    exact ⟨a, v, p, q.keeps e, r.move M fun a _ o => e a o⟩
  · obtain ⟨a, v, p, q, r, t⟩ := J.cells x hx
    exact ⟨a, v, p, q.keeps e, inX _ r, t⟩
  · obtain ⟨p, q, r⟩ := J.adX y b z
    exact ⟨inX _ p, q, r⟩
theorem asgName_own {x : Str} {px pos : Pos} {v : Expr} {d : PV} (hf : isFresh v = true) (S : Sound prog w C T n I) (K : Ctx prog w C T n h₀ env c X ad σ A s.heap) (qv : I.ev c σ v = some d) (q : σ.set c x (.own d) = some σ')
    (hQ : StPost prog w C h₀ env c X ad s .next σ' Q) : wpAny (model prog w) A (exec (.Assign [.Name x px] v pos) env) Q E s := by
  rcases swaps_cases (env := env) (value := v) (x := x) (px := px) (line := pos.line) with hs | ⟨hs, hc⟩
  · refine wpAny_Assign_Name (S.fr K hf qv fun a h₁ t₁ e₁ ha hd => ?_) hs
    have hlive := hd.some
    obtain ⟨u1, u2, u3, u4⟩ := upd_facts (x := x) (h₁ := h₁) (X₁ := a :: X) K ha List.mem_cons_self (fun b hb => List.mem_cons_of_mem _ hb)
    refine store_lv (s := { s with heap := h₁, toks := t₁ }) K.ok (K.inv.grow e₁ ha hlive) q u1 u2 u3 u4 ⟨a, by unfold upd; rw [if_pos rfl], rfl, hd⟩ fun h₂ t₂ V₂ e₂ => ?_
    refine hQ h₂ t₂ _ _ .next V₂ ⟨fun b o hb z => e₂ b o (fun p => hb (wr_mono b p)) (e₁ b o z), fun b hb => List.mem_cons_of_mem _ hb, fun b hb => (List.mem_cons.mp hb).elim (fun q => .inr (q ▸ ha)) .inl, fun y b z => ?_⟩ rfl
    unfold upd at z
    split at z
    · cases z; exact .inr ha
    · exact .inl z
  · have hc' : isComp v = true := by
      rcases hc with h | h
      · exact h
      · rw [S.dom qv] at h; cases h
    rw [exec_Assign_Name_used x px v pos hs]
    refine wpAny_bind (wpAny_standAt (wpAny_bind (S.us K hc' qv fun a C' h₁ t₁ m e₁ ha hC hne hd hn => ?_)))
    have hClive : ∃ o, h₁.get? C' = some o := let ⟨o, _, _, z, _⟩ := hn; ⟨o, z⟩
    have hlive := hd.some
    have V₁ : Inv prog w C h₀ env c h₁ (a :: C' :: X) ad σ := K.inv.grows (Xn := [a, C']) e₁ (fun b hb => by simp at hb; rcases hb with rfl | rfl <;> assumption) (fun b hb => by simp at hb; rcases hb with rfl | rfl <;> assumption)
    obtain ⟨u1, u2, u3, u4⟩ := upd_facts (x := x) (h₁ := h₁) (X₁ := a :: C' :: X) K ha List.mem_cons_self (fun b hb => List.mem_cons_of_mem _ (List.mem_cons_of_mem _ hb))
    refine wpAny_assign_Name (store_lv (s := { s with heap := h₁, toks := t₁ }) K.ok V₁ q u1 u2 u3 u4 ⟨a, by unfold upd; rw [if_pos rfl], rfl, hd⟩ fun h₂ t₂ V₂ e₂ => ?_)
    have hCW := K.offX hC
    have hC₂ : h₂.Ns C' m := hn.at' fun o z => e₂ C' o (fun p => hCW (wr_mono C' p)) z
    refine ⟨m, hC₂, fun h₃ hs₃ => wpAny_pure ?_⟩
    have hk : ∀ b o, b ≠ C' → h₂.get? b = some o → h₃.get? b = some o := fun b o hb z => (hs₃.2 b hb).trans z
    have hCW' : ¬ Wr env c (upd ad x a) C' := fun p => by
      rcases p with p | p | ⟨y, p⟩
      · exact hCW (.inl p)
      · exact hCW (.inr (.inl p))
      · unfold upd at p
        split at p
        · cases p; exact hne rfl
        · exact hCW (.inr (.inr ⟨y, p⟩))
    have V₃ : Inv prog w C h₀ env c h₃ (a :: X) (upd ad x a) σ' := V₂.touch (none_of_ext K.inv.keep hC) hCW' hk (by simp) (fun b hb => by rcases List.mem_cons.mp hb with rfl | hb <;> simp [*]) (fun b hb hbC => by
      rcases List.mem_cons.mp hb with rfl | hb
      · simp
      · rcases List.mem_cons.mp hb with rfl | hb
        · exact absurd rfl hbC
        · exact List.mem_cons_of_mem _ hb) (fun hm => by
      rcases List.mem_cons.mp hm with h | h
      · exact absurd h.symm hne
      · exact absurd h (K.inv.new_off hC))
    refine hQ h₃ t₂ _ _ .next V₃ ⟨fun b o hb z => hk b o (fun q => by rw [q, hC] at z; cases z) (e₂ b o (fun p => hb (wr_mono b p)) (e₁ b o z)), fun b hb => List.mem_cons_of_mem _ hb, fun b hb => (List.mem_cons.mp hb).elim (fun q => .inr (q ▸ ha)) .inl, fun y b z => ?_⟩ rfl
    unfold upd at z
    split at z
    · cases z; exact .inr ha
    · exact .inl z
end
end Mine
end
section
set_option maxRecDepth 100000
namespace Mine
open PySem PySem.Spec PySem.Calls PyProof.Rows PySem.SeqAt PySem.W
section
variable {prog : Program} {w : World} {C : Addr} {T : Tx} {n : Nat} {I : Itp} {h₀ : Heap} {env : Env} {c : Cx} {X : List Addr} {ad : Str → Option Addr} {σ σ' : St} {A : Around} {s : Shared} {E : Value → Shared → Prop} {Q : Flow → Shared → Prop}
theorem asgTuple_ok {ts : List Expr} {k} {tp pos : Pos} {v : Expr} {d : PV} (hv : (asTup v).isSome = false) (S : Sound prog w C T n I) (K : Ctx prog w C T n h₀ env c X ad σ A s.heap) (qv : I.ev c σ v = some d) (q : asg c (.Tuple ts k tp) d σ = some σ')
    (hQ : StPost prog w C h₀ env c X ad s .next σ' Q) : wpAny (model prog w) A (exec (.Assign [.Tuple ts k tp] v pos) env) Q E s := by
  refine Assign_Tuple (S.ev K qv fun u h₁ t₁ e₁ z => ?_) (by cases v <;> rfl) (by cases v <;> first | rfl | nomatch hv)
  refine asg_sound (s := { s with heap := h₁, toks := t₁ }) K.rm.handled K.ok (K.inv.ext e₁) z q fun h₂ t₂ V₂ e₂ => ?_
  exact hQ h₂ t₂ X ad .next V₂ ⟨(Eff.of_ext e₁).trans (e₂.mono fun b ⟨x, _, p⟩ => wr_mono b p), fun _ h => h, fun _ h => .inl h, fun _ _ h => .inl h⟩ rfl
/-- a container of the frame's own has been changed -/
theorem own_changed {x : Str} {d d' : PV} {a : Addr} {h₁ h₂ : Heap} {t₂ : Nat} (K : Ctx prog w C T n h₀ env c X ad σ A s.heap) (e : Ext s.heap h₁) (hg : σ.get c x = some (.own d)) (ha : ad x = some a) (q : σ.set c x (.own d') = some σ')
    (hs : Heap.SameBut a h₁ h₂) (hl : ∃ o, h₂.get? a = some o) (hd : ownD prog w C h₂ X a d') (hQ : StPost prog w C h₀ env c X ad s .next σ' Q) : Q .next { s with heap := h₂, toks := t₂ } :=
  hQ h₂ t₂ X ad .next ((K.inv.ext e).changed q hg ha hs hl hd)
    ⟨fun b o hb z => (hs.2 b (fun q => hb (.inr (.inr ⟨x, q ▸ ha⟩)))).trans (e b o z), fun _ h => h, fun _ h => .inl h, fun _ _ h => .inl h⟩ rfl
theorem setItem_own {x : Str} {l : List (Key × PV)} {k : Key} {v u : Value} {d : PV} {a : Addr} {h₁ : Heap} {t₁ : Nat} (K : Ctx prog w C T n h₀ env c X ad σ A s.heap) (e : Ext s.heap h₁) (hg : σ.get c x = some (.own (.dict l))) (ha : ad x = some a)
    (ho : ownD prog w C h₁ X a (.dict l)) (hk : (keyKind prog w).is k u = true) (hv : Den prog w C h₁ X v d) (hlen : l.length < 100000) (q : σ.set c x (.own (.dict (dset l k d))) = some σ') (hQ : StPost prog w C h₀ env c X ad s .next σ' Q) :
    wpAny (model prog w) A (setItem (.ref a) u v) (fun _ => Q .next) E { s with heap := h₁, toks := t₁ } := by
  obtain ⟨hsys, kvs, hdo, hm, hds⟩ := ho
  have hkl : kvs.length = l.length := by simpa using congrArg List.length hm
  have haX : a ∈ X := (K.inv.adX x a ha).1
  refine wpAny_setItem_pairs (s := { s with heap := h₁, toks := t₁ }) (knd := keyKind prog w) hk hdo (fun h₂ hdo₂ hs => ?_) (by rw [sizeLine_eq]; omega)
  have M : Mv X h₁ X h₂ := ⟨fun b o hb z => (hs.2 b (fun q => hb (q ▸ haX))).trans z, fun _ h => .inl h⟩
  obtain ⟨g1, g2⟩ := stored_den (k := k) hm hds hv
  exact own_changed (s := s) K e hg ha q hs (dictOf_some hdo₂) ⟨hsys, _, hdo₂, g1, g2.mv M⟩ hQ
theorem name_own {x : Str} {p : Pos} {d : PV} {Q : Value → Shared → Prop} (K : Ctx prog w C T n h₀ env c X ad σ A s.heap) (hg : σ.get c x = some (.own d)) (h : ∀ a, ad x = some a → ownD prog w C s.heap X a d → Q (.ref a) s) : wpAny (model prog w) A (eval (.Name x p) env) Q E s := by
  refine name_lv K.ok K.inv hg fun v hv => ?_
  obtain ⟨a, h1, rfl, h2⟩ := hv
  exact h a h1 h2
theorem asgSub_ok {x : Str} {px sp pos : Pos} {i v : Expr} {d : PV} {l : List (Key × PV)} {k : Key} (S : Sound prog w C T n I) (K : Ctx prog w C T n h₀ env c X ad σ A s.heap) (qv : I.ev c σ v = some d) (hg : σ.get c x = some (.own (.dict l)))
    (qi : (I.ev c σ i).bind PV.key = some k) (hlen : l.length < 100000) (q : σ.set c x (.own (.dict (dset l k d))) = some σ') (hQ : StPost prog w C h₀ env c X ad s .next σ' Q) :
    wpAny (model prog w) A (exec (.Assign [.Subscript (.Name x px) i sp] v pos) env) Q E s := by
  obtain ⟨kd, hkd, hkey⟩ := Option.bind_eq_some_iff.mp qi
  refine wpAny_Assign_Subscript (S.ev K qv fun u h₁ t₁ e₁ z => ?_) (by cases v <;> rfl)
  refine name_own (s := { s with heap := h₁, toks := t₁ }) (K.ext e₁) hg fun a ha ho => ?_
  refine S.ev (s := { s with heap := h₁, toks := t₁ }) (K.ext e₁) hkd fun ku h₂ t₂ e₂ y => ?_
  exact setItem_own (s := s) K (e₁.trans e₂) hg ha (ho.move (.of_ext e₂) fun o z => e₂ _ _ z) (y.key hkey) (z.ext e₂) hlen q hQ
theorem augName_ok {x : Str} {px pos : Pos} {op : Operator} {v : Expr} {a b : Int} {r : PV} (S : Sound prog w C T n I) (K : Ctx prog w C T n h₀ env c X ad σ A s.heap) (hg : σ.get c x = some (.fro (.int a))) (qv : evB I c σ v = some (.int b)) (qr : pbin op (.int a) (.int b) = some r)
    (q : σ.set c x (.fro r) = some σ') (hQ : StPost prog w C h₀ env c X ad s .next σ' Q) : wpAny (model prog w) A (exec (.AugAssign (.Name x px) op v pos) env) Q E s := by
  refine wpAny_AugAssign_Name (load_lv K.ok K.inv hg fun u hu => ?_)
  cases hu
  refine evB_sound S K qv fun u' h₁ t₁ e₁ y => ?_
  obtain ⟨t', rfl⟩ := y.int
  refine pinp_sound (C := C) (X := X) (s := { s with heap := h₁, toks := t₁ }) qr fun r' tk z => ?_
  exact put_fro (s := s) K e₁ z q hQ
theorem augSub_ok {x y : Str} {px py sp pos : Pos} {op : Operator} {v : Expr} {ky : PV} {k : Key} {a b : Int} {r : PV} {l : List (Key × PV)} (S : Sound prog w C T n I) (K : Ctx prog w C T n h₀ env c X ad σ A s.heap) (hg : σ.get c x = some (.own (.dict l)))
    (hy : σ.get c y = some (.fro ky)) (hk : ky.key = some k) (hget : dget l k = some (.int a)) (qv : I.ev c σ v = some (.int b)) (qr : pbin op (.int a) (.int b) = some r) (hlen : l.length < 100000)
    (q : σ.set c x (.own (.dict (dset l k r))) = some σ') (hQ : StPost prog w C h₀ env c X ad s .next σ' Q) : wpAny (model prog w) A (exec (.AugAssign (.Subscript (.Name x px) (.Name y py) sp) op v pos) env) Q E s := by
  refine wpAny_AugAssign_Subscript (name_own K hg fun ad' ha ho => ?_)
  refine name_lv K.ok K.inv hy fun ku hku => ?_
  obtain ⟨h, _⟩ := pget_item (A := A) (E := E) (Q := fun u s' => wpAny (model prog w) A (eval v env) (fun v₁ s₄ => wpAny (model prog w) A (inplaceOp op u v₁) (fun new s₅ => wpAny (model prog w) A (setItem (.ref ad') ku new) (fun _ => Q .next) E s₅) E s₄) E s')
    (.inr ⟨ad', rfl, (K.inv.adX x ad' ha).1, ho⟩) hku (by show (ky.key.bind (dget l)) = some (.int a); rw [hk]; exact hget) (fun u tk z => by
      cases z with
      | int i t =>
      refine S.ev (s := { s with toks := tk }) K qv fun u₂ h₂ t₂ e₂ z₂ => ?_
      cases z₂ with
      | int i t' =>
      refine pinp_sound (C := C) (X := X) (s := { s with heap := h₂, toks := t₂ }) qr fun r' tk' z => ?_
      exact setItem_own (s := s) K e₂ hg ha (ho.move (.of_ext e₂) fun o z => e₂ _ _ z) (hku.key hk) z hlen q hQ)
  exact h
theorem append_ok {x : Str} {px ap p pos : Pos} {e : Expr} {d : PV} {l : List PV} (S : Sound prog w C T n I) (K : Ctx prog w C T n h₀ env c X ad σ A s.heap) (hline : (ap.endLine == p.line) = true) (hg : σ.get c x = some (.own (.list l))) (qe : I.ev c σ e = some d) (hlen : l.length < 100000)
    (q : σ.set c x (.own (.list (l ++ [d]))) = some σ') (hQ : StPost prog w C h₀ env c X ad s .next σ' Q) : wpAny (model prog w) A (exec (.Expr (.Call (.Attribute (.Name x px) (Str.ofString "append") ap) [e] [] p) pos) env) Q E s := by
  refine wpAny_Expr ?_ (by unfold interactive; rw [K.ok.kind]; rfl) rfl
  refine wpAny_Call_append rfl (by rw [star_cons (S.dom qe)]; rfl) hline (star_cons (S.dom qe)) (name_own K hg fun a ha ho => ?_)
  obtain ⟨vs, hpl, hds⟩ := ho
  obtain ⟨nn, hat⟩ := id hpl
  refine ⟨a, vs.toArray, rfl, ⟨_, nn, hat, rfl, rfl, rfl⟩, S.ev K qe fun u h₁ t₁ e₁ z => ?_⟩
  have hl := hds.length
  have haX : a ∈ X := (K.inv.adX x a ha).1
  refine wpAny_list_append_plain (s := { s with heap := h₁, toks := t₁ }) (items := vs.toArray) (hpl.at fun o z => e₁ _ _ z) (fun h₂ hpl₂ hs => ?_) (by rw [List.size_toArray, sizeLine_eq]; omega)
  have M : Mv X h₁ X h₂ := ⟨fun b o hb z => (hs.2 b (fun q => hb (q ▸ haX))).trans z, fun _ h => .inl h⟩
  exact own_changed (s := s) K e₁ hg ha q hs (let ⟨n, h⟩ := hpl₂; ⟨_, h⟩) ⟨vs ++ [u], by simpa using hpl₂, ((hds.ext e₁).append (.cons z .nil)).mv M⟩ hQ
theorem if_ok {t : Expr} {a b : List Stmt} {pos : Pos} {fl : Flo} (S : Sound prog w C T n I) (K : Ctx prog w C T n h₀ env c X ad σ A s.heap) (q : exIf I c σ t a b = some (fl, σ'))
    (hQ : StPost prog w C h₀ env c X ad s fl σ' Q) : wpAny (model prog w) A (exec (.If t a b pos) env) Q E s := by
  have pass : ∀ {h₁ t₁}, Ext s.heap h₁ → StPost prog w C h₀ env c X ad { s with heap := h₁, toks := t₁ } fl σ' Q := fun {h₁ t₁} e₁ h₂ t₂ X₂ ad₂ f V₂ st hf =>
    hQ h₂ t₂ X₂ ad₂ f V₂ ((Stp.of_ext e₁).trans K.inv (K.inv.ext e₁) st) hf
  obtain ⟨u, ht, q1⟩ := Option.bind_eq_some_iff.mp q
  refine wpAny_If (S.ts K ht fun h₁ t₁ e₁ => ?_)
  cases u with
  | true => exact S.ex (s := { s with heap := h₁, toks := t₁ }) (K.ext e₁) q1 (pass e₁)
  | false => exact S.ex (s := { s with heap := h₁, toks := t₁ }) (K.ext e₁) q1 (pass e₁)
end
end Mine
end
section
set_option maxRecDepth 100000
namespace Mine
open PySem PySem.Spec PySem.Calls PyProof.Rows PySem.SeqAt PySem.W
theorem lookup_freeze {x : Str} {lv : LV} : ∀ {l : List (Str × LV)}, (l.map fun p => (p.1, p.2.freeze)).lookup x = some lv → ∃ lv', l.lookup x = some lv' ∧ lv = lv'.freeze
  | [], h => by simp at h
  | (y, u) :: l, h => by
    rw [List.map_cons, List.lookup_cons] at h
    rw [List.lookup_cons]
    cases hxy : x == y with
    | true => rw [hxy] at h; cases h; exact ⟨u, rfl, rfl⟩
    | false => rw [hxy] at h; exact lookup_freeze h
section
variable {prog : Program} {w : World} {C : Addr} {T : Tx} {n : Nat} {I : Itp} {h₀ : Heap} {env : Env} {c : Cx} {X : List Addr} {ad : Str → Option Addr} {σ σ' : St} {A : Around} {s : Shared} {E : Value → Shared → Prop} {Q : Flow → Shared → Prop}
theorem LVd.freeze {h : Heap} {X₂ : List Addr} {oa : Option Addr} {v : Value} {lv : LV} (x : LVd prog w C h X oa v lv) (hs : ∀ b ∈ X₂, b ∈ X) (ho : ∀ a, oa = some a → a ∉ X₂) : LVd prog w C h X₂ none v lv.freeze := by
  cases lv with
  | fro d => exact Den.anti hs x
  | own d =>
    obtain ⟨a, h1, rfl, h3⟩ := x
    exact ownD.den (h3.move (.anti hs) fun o e => e) (ho a h1)
open Classical in
theorem Inv.frozen {h : Heap} (J : Inv prog w C h₀ env c h X ad σ) : ∃ X₂, (∀ b ∈ X₂, b ∈ X) ∧ (∀ b ∈ X, (¬ ∃ x, ad x = some b) → b ∈ X₂) ∧ Inv prog w C h₀ env c h X₂ (fun _ => none) σ.freeze := by
  have hm : ∀ b, b ∈ X.filter (fun b => decide (¬ ∃ x, ad x = some b)) ↔ b ∈ X ∧ ¬ ∃ x, ad x = some b := fun b => by rw [List.mem_filter, decide_eq_true_eq]
  have hL : ¬ ∃ x, ad x = some env.locals := fun ⟨x, e⟩ => (J.adX x _ e).2.1 rfl
  have hc : ∀ y, c.sc y = some .cell → ∀ b, env.cells.lookup y = some b → ¬ ∃ x, ad x = some b := fun y hy b hb ⟨x, e⟩ => (J.adX x _ e).2.2 y hy hb
  have hoff : ∀ x a, ad x = some a → a ∉ X.filter (fun b => decide (¬ ∃ x, ad x = some b)) := fun x a e hmem => ((hm a).mp hmem).2 ⟨x, e⟩
  refine ⟨X.filter (fun b => decide (¬ ∃ x, ad x = some b)), fun b hb => ((hm b).mp hb).1, fun b h1 h2 => (hm b).mpr ⟨h1, h2⟩, ⟨J.keep, fun b p => ?_, fun b hb => J.live b ((hm b).mp hb).1, (hm _).mpr ⟨J.Lx, hL⟩, ?_, fun x lv hx hl => ?_, fun x hx => ?_, J.apart, (fun _ _ e => nomatch e), (fun _ _ _ e => nomatch e)⟩⟩
  · rcases p with p | p | ⟨x, p⟩
    · exact J.offb b (.inl p)
    · exact J.offb b (.inr (.inl p))
    · cases p
  · obtain ⟨m, hn, hv⟩ := J.ns
    refine ⟨m, hn, fun x lv h1 h2 => ?_⟩
    obtain ⟨lv', g1, rfl⟩ := lookup_freeze h2
    obtain ⟨v, p, q⟩ := hv x lv' h1 g1
    exact ⟨v, p, q.freeze (fun b hb => ((hm b).mp hb).1) (hoff x)⟩
  · obtain ⟨lv', g1, rfl⟩ := lookup_freeze hl
    obtain ⟨a, v, p, q, r⟩ := J.cl x lv' hx g1
    exact ⟨a, v, p, q, r.freeze (fun b hb => ((hm b).mp hb).1) (hoff x)⟩
  · obtain ⟨a, v, p, q, r, t⟩ := J.cells x hx
    exact ⟨a, v, p, q, (hm a).mpr ⟨r, hc x hx a p⟩, t⟩
theorem ret_ok {e : Expr} {d : PV} {pos : Pos} (S : Sound prog w C T n I) (K : Ctx prog w C T n h₀ env c X ad σ A s.heap) (q : I.ev c σ.freeze e = some d) (hQ : StPost prog w C h₀ env c X ad s (.ret d) σ Q) :
    wpAny (model prog w) A (exec (.Return (some e) pos) env) Q E s := by
  obtain ⟨X₂, h1, h2, J₂⟩ := K.inv.frozen
  refine wpAny_Return_some (S.ev (X := X₂) (ad := fun _ => none) ⟨K.rm, K.ok, K.g0, J₂⟩ q fun v h₁ t₁ e₁ z => ?_)
  refine hQ h₁ t₁ X ad (.ret v) (K.inv.ext e₁) (Stp.of_ext e₁) ⟨v, rfl, fun Y hY => z.anti fun b hb => ?_⟩
  obtain ⟨g1, o, g2⟩ := hY b hb
  refine h2 b g1 fun ⟨x, g3⟩ => ?_
  rw [K.inv.offb b (.inr (.inr ⟨x, g3⟩))] at g2; cases g2
/-- where a while stands -/
inductive WhAt (prog : Program) (w : World) (C : Addr) (I : Itp) (h₀ : Heap) (env : Env) (c : Cx) (ad : Str → Option Addr) (t : Expr) (body : List Stmt) (X : List Addr) (s : Shared) (fl : Flo) (σ' : St) (m : Nat) : Shared → Prop
  | at (h' : Heap) (tk : Nat) (X' : List Addr) (ad' : Str → Option Addr) (σi : St) (V : Inv prog w C h₀ env c h' X' ad' σi) (st : Stp (Wr env c ad) s.heap X ad h' X' ad') (q : whileLoop I c t body m σi = some (fl, σ')) : WhAt prog w C I h₀ env c ad t body X s fl σ' m { s with heap := h', toks := tk }
theorem while_ok {t : Expr} {body : List Stmt} {pos : Pos} {fl : Flo} {N : Nat} (S : Sound prog w C T n I) (K : Ctx prog w C T n h₀ env c X ad σ A s.heap) (q : whileLoop I c t body N σ = some (fl, σ')) (hQ : StPost prog w C h₀ env c X ad s fl σ' Q) :
    wpAny (model prog w) A (exec (.While t body [] pos) env) Q E s := by
  refine wpAny_While (codeAny_whileLoop (WhAt prog w C I h₀ env c ad t body X s fl σ') ?_ N (.at s.heap s.toks X ad σ K.inv (Stp.of_ext (Ext.refl _)) q))
  rintro m _ ⟨h₁, t₁, X₁, ad₁, σ₁, V₁, st₁, q₁⟩
  have hK : ∀ {h X ad σ}, Inv prog w C h₀ env c h X ad σ → Ctx prog w C T n h₀ env c X ad σ A h := fun V => ⟨K.rm, K.ok, K.g0, V⟩
  cases m with
  | zero => nomatch q₁
  | succ m =>
    obtain ⟨u, ht, q₂⟩ := Option.bind_eq_some_iff.mp q₁
    refine S.ts (s := { s with heap := h₁, toks := t₁ }) (hK V₁) ht fun h₂ t₂ e₂ => ?_
    have V₂ := V₁.ext e₂
    have st₂ := st₁.trans K.inv V₁ (Stp.of_ext e₂)
    cases u with
    | true =>
      simp only [if_true]
      obtain ⟨⟨fl₁, σ₃⟩, hb, q₃⟩ := Option.bind_eq_some_iff.mp q₂
      refine S.ex (s := { s with heap := h₂, toks := t₂ }) (hK V₂) hb fun h₃ t₃ X₃ ad₃ f V₃ st₃ hf => ?_
      cases fl₁ with
      | next =>
        cases hf
        exact ⟨m, Nat.lt_succ_self m, .at h₃ t₃ X₃ ad₃ σ₃ V₃ (st₂.trans K.inv V₂ st₃) q₃⟩
      | ret d =>
        obtain ⟨rfl, rfl⟩ := Prod.mk.inj (Option.some.inj q₃)
        obtain ⟨v, rfl, hv⟩ := hf
        exact hQ h₃ t₃ X₃ ad₃ (.ret v) V₃ (st₂.trans K.inv V₂ st₃) (FlowIs.sub (fl := .ret d) (X₁ := X₁) ⟨v, rfl, hv⟩ st₁.sub)
    | false =>
      obtain ⟨rfl, rfl⟩ := Prod.mk.inj (Option.some.inj q₂)
      simp only [Bool.false_eq_true, if_false]
      exact wpAny_execs_nil (hQ h₂ t₂ X₁ ad₁ .next V₂ st₂ rfl)
end
end Mine
end
section
set_option maxRecDepth 100000
namespace Mine
open PySem PySem.Spec PySem.Calls PyProof.Rows PySem.SeqAt PySem.W
structure YWk (prog : Program) (w : World) (C : Addr) (J : Addr) (t : Expr) (ds : List PV) (St : Nat → Heap → List Addr → Prop) : Prop where
  mv : ∀ {i h X h' X'}, St i h X → Mv X h X' h' → J ∈ X' → (∀ o, h.get? J = some o → h'.get? J = some o) → St i h' X'
  inX : ∀ {i h X}, St i h X → J ∈ X
  live : ∀ {i h X}, St i h X → ∃ o, h.get? J = some o
  turn : ∀ {A : Around} {i : Nat} {s : Shared} {X : List Addr} {d : PV} {Q : Value → Shared → Prop} {E : Value → Shared → Prop}, A.handled = none → ds[i]? = some d → St i s.heap X → (∀ b ∈ X, ∃ o, s.heap.get? b = some o) →
    (∀ v h' tk, Den prog w C h' X v d → St (i + 1) h' X → (∀ b o, b ≠ J → s.heap.get? b = some o → h'.get? b = some o) → Q v { s with heap := h', toks := tk }) →
    wpAny (model prog w) A (pyNext (.ref J)) (fun r s₁ => match r with | none => False | some v => wpAny (model prog w) A (letOwnedTupleGo t (.ref J) v) (fun _ s₂ => Q v s₂) E s₁) E s
  done : ∀ {A : Around} {s : Shared} {X : List Addr} {Q : Option Value → Shared → Prop} {E : Value → Shared → Prop}, A.handled = none → St ds.length s.heap X →
    (∀ h' tk, (∀ b o, b ≠ J → s.heap.get? b = some o → h'.get? b = some o) → Q none { s with heap := h', toks := tk }) → wpAny (model prog w) A (pyNext (.ref J)) Q E s
section
variable {prog : Program} {w : World} {C : Addr} {T : Tx} {n : Nat} {I : Itp} {h₀ : Heap} {env : Env} {c : Cx} {X : List Addr} {ad : Str → Option Addr} {σ σ' : St} {A : Around} {s : Shared} {E : Value → Shared → Prop} {Q : Flow → Shared → Prop}
theorem PWk.yields {J : Addr} {ds : List PV} {St : Nat → Heap → List Addr → Prop} (W : PWk prog w C J ds St) (t : Expr) : YWk prog w C J t ds St where
  mv := W.mv
  inX := W.inX
  live := fun st => let ⟨o, _, h, _⟩ := W.live st; ⟨o, h⟩
  turn := fun {A i s X d Q E} hh hd st _ hQ => W.item hh hd st fun v h' tk x st' hk => W.own (s := { s with heap := h', toks := tk }) st' (hQ v h' tk x st' hk)
  done := W.done
theorem items_yield {d : Addr} {J : Addr} {kvs : List (Key × Value)} {l : List (Key × PV)} {ep : Nat} {elts : List Expr} {k} {p : Pos} (hne : d ≠ J) (hkv : kvs.map (·.1) = l.map (·.1)) :
    YWk prog w C J (.Tuple elts k p) (l.map fun (k, d) => PV.tup [k.pv, d]) (fun i h X => (∃ ok ov, IsItemIter h J d i kvs.length ep ok ov) ∧ h.DictAt (keyKind prog w) d kvs ep ∧ J ∈ X ∧ d ∉ X ∧ DenAll prog w C h X (kvs.map (·.2)) (l.map (·.2))) where
  mv := fun {i h X h' X'} st m hJ hk => by
    obtain ⟨⟨ok, ov, h1⟩, h2, h3, h4, h5⟩ := st
    obtain ⟨o, es, ho, r⟩ := id h2
    exact ⟨⟨ok, ov, hk _ h1⟩, h2.at' fun o e => m.keep d o h4 e, hJ, m.off h4 ho, h5.mv m⟩
  inX := fun st => st.2.2.1
  live := fun st => let ⟨ok, ov, h⟩ := st.1; ⟨_, h⟩
  turn := fun {A i s X e Q E} hh hd st hX hQ => by
    obtain ⟨⟨ok, ov, h1⟩, h2, h3, h4, h5⟩ := st
    rw [List.getElem?_map] at hd
    obtain ⟨⟨key, pv⟩, hl, rfl⟩ := Option.map_eq_some_iff.mp hd
    have hk1 : (kvs.map (·.1))[i]? = some key := by rw [hkv]; simp [hl]
    rw [List.getElem?_map] at hk1
    obtain ⟨⟨key', v⟩, hx, rfl⟩ := Option.map_eq_some_iff.mp hk1
    obtain ⟨od, es, hod, rd⟩ := id h2
    refine wpAny_pyNext_items_item h1 h2 hx fun ku h₁ hku heo ht hz hk => ?_
    refine wpAny_letOwnedTupleGo_items heo fun h₂ he hs => ?_
    have hkk : ∀ b o, b ≠ J → s.heap.get? b = some o → h₂.get? b = some o := fun b o hb z => (hs.2 b hb).trans (hk b o hb z)
    have M : Mv X s.heap X h₂ := ⟨fun b o hb z => hkk b o (fun q => hb (q ▸ h3)) z, fun _ h => .inl h⟩
    have hn : s.heap.objs.size ∉ X := fun hm => by
      obtain ⟨o, z⟩ := hX _ hm
      exact absurd (Heap.lt_size z) (Nat.lt_irrefl _)
    have hnJ : s.heap.objs.size ≠ J := fun q => hn (q ▸ h3)
    have hd5 := h5.mv M
    have hv : Den prog w C h₂ X v pv := hd5.at (i := i) (by simp [hx]) (by simp [hl])
    have ht₂ : h₂.get? s.heap.objs.size = some { cls := .type "tuple", data := .seq #[ku, v] } := (hs.2 _ hnJ).trans ht
    exact hQ _ h₂ _ (.tup (vs := [ku, v]) hn ⟨_, ht₂, rfl, 0, rfl⟩ (.cons (den_of_key hku) (.cons hv .nil))) ⟨⟨_, _, he⟩, h2.at' fun o z => hkk d o hne z, h3, h4, hd5⟩ hkk
  done := fun {A s X Q E} hh st hQ => by
    obtain ⟨⟨ok, ov, h1⟩, h2, h3, h4, h5⟩ := st
    have hlen : kvs.length = l.length := by simpa using congrArg List.length hkv
    rw [List.length_map] at h1
    refine wpAny_pyNext_items_end hh h1 h2 (by simp [hlen]) fun h₁ hk => hQ h₁ s.toks fun b o hb z => hk b o hb z
/-- where a for stands -/
inductive ForAt (prog : Program) (w : World) (C : Addr) (I : Itp) (h₀ : Heap) (env : Env) (c : Cx) (ad : Str → Option Addr) (t : Expr) (body : List Stmt) (J : Addr) (ds : List PV) (St₀ : Nat → Heap → List Addr → Prop) (X : List Addr) (s : Shared) (fl : Flo) (σ' : St) : Nat → Shared → Prop
  | at (h' : Heap) (tk : Nat) (X' : List Addr) (ad' : Str → Option Addr) (σi : St) (i : Nat) (V : Inv prog w C h₀ env c h' X' ad' σi) (st : St₀ i h' X') (E : Eff (fun b => Wr env c ad b ∨ b = J) s.heap h') (s1 : ∀ b ∈ X, b ∈ X') (n1 : ∀ b ∈ X', b ∈ X ∨ s.heap.get? b = none)
      (a1 : ∀ x a, ad' x = some a → ad x = some a ∨ s.heap.get? a = none) (q : forLoop I c t body (ds.drop i) σi = some (fl, σ')) (hi : i ≤ ds.length) : ForAt prog w C I h₀ env c ad t body J ds St₀ X s fl σ' (ds.length + 1 - i) { s with heap := h', toks := tk }
theorem for_ok {t : Expr} {body : List Stmt} {J : Addr} {ds : List PV} {St₀ : Nat → Heap → List Addr → Prop} {fl : Flo} {R : Result → Shared → Prop} (S : Sound prog w C T n I) (Y : YWk prog w C J t ds St₀)
    (K : Ctx prog w C T n h₀ env c X ad σ A s.heap) (hJ0 : h₀.get? J = none) (hJW : ¬ Wr env c ad J) (hst : St₀ 0 s.heap X) (q : forLoop I c t body ds σ = some (fl, σ'))
    (hR : ∀ h' tk X' ad' f, Inv prog w C h₀ env c h' X' ad' σ' → Eff (fun b => Wr env c ad b ∨ b = J) s.heap h' → (∀ b ∈ X, b ≠ J → b ∈ X') → (∀ b ∈ X', b ∈ X ∨ s.heap.get? b = none) → (∀ x a, ad' x = some a → ad x = some a ∨ s.heap.get? a = none) →
      FlowIs prog w C h₀ h' X fl f → R (.ok f) { s with heap := h', toks := tk }) :
    codeAny (model prog w) A (.forLoop t (.ref J) body [] env) R s := by
  have hJlive := Y.live hst
  refine codeAny_forLoop_any (ForAt prog w C I h₀ env c ad t body J ds St₀ X s fl σ') ?_ (ds.length + 1) (.at s.heap s.toks X ad σ 0 K.inv hst (Eff.refl _ _) (fun _ h => h) (fun _ h => .inl h) (fun _ _ h => .inl h) q (Nat.zero_le _))
  rintro _ _ ⟨h₁, t₁, X₁, ad₁, σ₁, i, V₁, st₁, E₁, s1, n1, a1, q₁, hi⟩
  have hK : ∀ {h X ad σ}, Inv prog w C h₀ env c h X ad σ → Ctx prog w C T n h₀ env c X ad σ A h := fun V => ⟨K.rm, K.ok, K.g0, V⟩
  have hJX : J ∈ X₁ := Y.inX st₁
  have hJW₁ : ¬ Wr env c ad₁ J := fun p => by
    rcases p with p | p | ⟨x, p⟩
    · exact hJW (.inl p)
    · exact hJW (.inr (.inl p))
    · rcases a1 x J p with r | r
      · exact hJW (.inr (.inr ⟨x, r⟩))
      · obtain ⟨o, z⟩ := hJlive; rw [r] at z; cases z
  have wrback : ∀ b o, s.heap.get? b = some o → Wr env c ad₁ b → Wr env c ad b := fun b o e p => by
    rcases p with p | p | ⟨x, p⟩
    · exact .inl p
    · exact .inr (.inl p)
    · rcases a1 x b p with r | r
      · exact .inr (.inr ⟨x, r⟩)
      · rw [r] at e; cases e
  have noneback : ∀ b, h₁.get? b = none → s.heap.get? b = none := fun b hb => by
    cases e : s.heap.get? b with
    | none => rfl
    | some o =>
      by_cases hX : b ∈ X
      · obtain ⟨o', z⟩ := V₁.live b (s1 b hX)
        rw [hb] at z; cases z
      · rw [E₁ b o (fun p => hX (p.elim (fun p => K.inv.wr_in p) fun q => q ▸ Y.inX hst)) e] at hb; cases hb
  cases hd : ds[i]? with
  | none =>
    have hi' : i = ds.length := by have := List.getElem?_eq_none_iff.mp hd; omega
    subst hi'
    rw [List.drop_length] at q₁
    obtain ⟨rfl, rfl⟩ := Prod.mk.inj (Option.some.inj q₁)
    refine Y.done (s := { s with heap := h₁, toks := t₁ }) K.rm.handled st₁ fun h₂ t₂ hk => wpAny_execs_nil ?_
    have hmem : ∀ b, b ∈ X₁.filter (fun b => decide (b ≠ J)) ↔ b ∈ X₁ ∧ b ≠ J := fun b => by simp [List.mem_filter]
    have V₂ : Inv prog w C h₀ env c h₂ (X₁.filter fun b => decide (b ≠ J)) ad₁ σ₁ := V₁.touch hJ0 hJW₁ hk hJX (fun b hb => ((hmem b).mp hb).1) (fun b hb hne => (hmem b).mpr ⟨hb, hne⟩) (fun h => absurd rfl ((hmem J).mp h).2)
    exact hR h₂ t₂ _ ad₁ .next V₂ (E₁.trans fun b o hb e => hk b o (fun q => hb (.inr q)) e) (fun b hb hne => (hmem b).mpr ⟨s1 b hb, hne⟩) (fun b hb => n1 b ((hmem b).mp hb).1) a1 rfl
  | some d =>
    have hlt : i < ds.length := (List.getElem?_eq_some_iff.mp hd).1
    have hdrop : ds.drop i = d :: ds.drop (i + 1) := by
      rw [List.drop_eq_getElem_cons hlt, (List.getElem?_eq_some_iff.mp hd).2]
    rw [hdrop] at q₁
    obtain ⟨σ₂, hasg, q₂⟩ := Option.bind_eq_some_iff.mp q₁
    obtain ⟨⟨fl₁, σ₄⟩, hb, q₃⟩ := Option.bind_eq_some_iff.mp q₂
    refine wpAny_mono (Y.turn (s := { s with heap := h₁, toks := t₁ }) (Q := fun v s₂ => wpAny (model prog w) A (assign t env v) (fun _ s₂ => wpAny (model prog w) A (execs body env) (fun f s₃ => match f with
        | .next | .cont => ∃ m, m < ds.length + 1 - i ∧ ForAt prog w C I h₀ env c ad t body J ds St₀ X s fl σ' m s₃
        | .brk => R (.ok .next) s₃
        | .ret v => R (.ok (.ret v)) s₃) (notedBy (model prog w) A env fun e s' => R (.error e) s') s₂) (notedBy (model prog w) A env fun e s' => R (.error e) s') s₂) K.rm.handled hd st₁ V₁.live fun v h₂ t₂ hv st₂ hk => ?_) (fun r s₁ z => ?_) fun _ _ e => e
    · have V₂ : Inv prog w C h₀ env c h₂ X₁ ad₁ σ₁ := V₁.touch hJ0 hJW₁ hk hJX (fun b hb => hb) (fun b hb _ => hb) (fun _ => Y.live st₂)
      have E₂ : Eff (fun b => Wr env c ad b ∨ b = J) s.heap h₂ := E₁.trans fun b o hb e => hk b o (fun q => hb (.inr q)) e
      refine asg_sound (s := { s with heap := h₂, toks := t₂ }) K.rm.handled K.ok V₂ hv hasg fun h₃ t₃ V₃ e₃ => ?_
      have e₃' : Eff (Wr env c ad₁) h₂ h₃ := e₃.mono fun b ⟨x, _, p⟩ => wr_mono b p
      have M₃ : Mv X₁ h₂ X₁ h₃ := V₂.eff_mv e₃'
      have st₃ : St₀ (i + 1) h₃ X₁ := Y.mv st₂ M₃ hJX fun o e => e₃' J o hJW₁ e
      have E₃ : Eff (fun b => Wr env c ad b ∨ b = J) s.heap h₃ := fun b o hb e => e₃' b o (fun p => hb (.inl (wrback b o e p))) (E₂ b o hb e)
      have none3 : ∀ b, h₃.get? b = none → s.heap.get? b = none := fun b hb => by
        cases e : s.heap.get? b with
        | none => rfl
        | some o =>
          by_cases hX : b ∈ X
          · obtain ⟨o', z⟩ := V₃.live b (s1 b hX)
            rw [hb] at z; cases z
          · rw [E₃ b o (fun p => hX (p.elim (fun p => K.inv.wr_in p) fun q => q ▸ Y.inX hst)) e] at hb; cases hb
      cases fl₁ with
      | next =>
        refine S.ex (s := { s with heap := h₃, toks := t₃ }) (hK V₃) hb fun h₄ t₄ X₄ ad₄ f V₄ sp hf => ?_
        cases hf
        refine ⟨ds.length + 1 - (i + 1), by omega, .at h₄ t₄ X₄ ad₄ σ₄ (i + 1) V₄ (Y.mv st₃ ⟨fun b o hb e => sp.eff b o (fun p => hb (V₃.wr_in p)) e, sp.new⟩ (sp.sub J hJX) fun o e => sp.eff J o hJW₁ e) (fun b o hb e => sp.eff b o (fun p => hb (.inl (wrback b o e p))) (E₃ b o hb e))
          (fun b hb => sp.sub b (s1 b hb)) (fun b hb => ?_) (fun x a e => ?_) q₃ hlt⟩
        · rcases sp.new b hb with r | r
          · exact n1 b r
          · exact .inr (none3 b r)
        · rcases sp.adn x a e with r | r
          · exact a1 x a r
          · exact .inr (none3 a r)
      | ret d' =>
          obtain ⟨rfl, rfl⟩ := Prod.mk.inj (Option.some.inj q₃)
          refine S.ex (s := { s with heap := h₃, toks := t₃ }) (hK V₃) hb fun h₄ t₄ X₄ ad₄ f V₄ sp hf => ?_
          obtain ⟨v', rfl, hv'⟩ := hf
          refine hR h₄ t₄ X₄ ad₄ (.ret v') V₄ (fun b o hb e => sp.eff b o (fun p => hb (.inl (wrback b o e p))) (E₃ b o hb e)) (fun b hb _ => sp.sub b (s1 b hb)) (fun b hb => ?_) (fun x a e => ?_) (FlowIs.sub (fl := .ret d') (X₁ := X₁) ⟨v', rfl, hv'⟩ s1)
          · rcases sp.new b hb with r | r
            · exact n1 b r
            · exact .inr (none3 b r)
          · rcases sp.adn x a e with r | r
            · exact a1 x a r
            · exact .inr (none3 a r)
    · cases r with
      | none => exact z.elim
      | some v => exact z
end
end Mine
end
section
set_option maxRecDepth 100000
namespace Mine
open PySem PySem.Spec PySem.Calls PyProof.Rows PySem.SeqAt PySem.W
section
variable {prog : Program} {w : World} {C : Addr} {T : Tx} {n : Nat} {I : Itp} {h₀ : Heap} {env : Env} {c : Cx} {X : List Addr} {ad : Str → Option Addr} {σ σ' : St} {A : Around} {s : Shared} {E : Value → Shared → Prop} {Q : Flow → Shared → Prop}
theorem forItems_eq (t : Expr) (body : List Stmt) : ∀ (l : List (Key × PV)) (σ : St), forItems I c t body l σ = forLoop I c t body (l.map fun (k, d) => PV.tup [k.pv, d]) σ
  | [], σ => rfl
  | (k, d) :: l, σ => by
    show (asg c t (.tup [k.pv, d]) σ).bind _ = (asg c t (.tup [k.pv, d]) σ).bind _
    congr 1
    funext σ₁
    congr 1
    funext r
    cases r.1 with
    | next => exact forItems_eq t body l r.2
    | ret => rfl
/-- the walk over an iterator that has just been made -/
theorem for_run {t : Expr} {body : List Stmt} {J : Addr} {ds : List PV} {St₀ : Nat → Heap → List Addr → Prop} {fl : Flo} {h₁ : Heap} {t₁ : Nat} (S : Sound prog w C T n I) (Y : YWk prog w C J t ds St₀) (K : Ctx prog w C T n h₀ env c X ad σ A s.heap)
    (e₁ : Ext s.heap h₁) (hJ : s.heap.get? J = none) (st : St₀ 0 h₁ (J :: X)) (q : forLoop I c t body ds σ = some (fl, σ')) (hQ : StPost prog w C h₀ env c X ad s fl σ' Q) :
    codeAny (model prog w) A (.forLoop t (.ref J) body [] env) (fun r s' => match r with | .ok f => Q f s' | .error e => cameBackBy (model prog w) A env E e s') { s with heap := h₁, toks := t₁ } := by
  have hJX : J ∉ X := K.inv.new_off hJ
  refine for_ok (s := { s with heap := h₁, toks := t₁ }) S Y (K.grow e₁ hJ (Y.live st)) (none_of_ext K.inv.keep hJ) (K.offX hJ) st q fun h₂ t₂ X₂ ad₂ f V₂ E₂ s₂ n₂ a₂ hf => ?_
  refine hQ h₂ t₂ X₂ ad₂ f V₂ ⟨fun b o hb e => E₂ b o (fun p => p.elim hb fun q => by rw [q, hJ] at e; cases e) (e₁ b o e), fun b hb => s₂ b (List.mem_cons_of_mem _ hb) (fun q => hJX (q ▸ hb)), fun b hb => ?_, fun x a e => ?_⟩ (hf.sub fun b hb => List.mem_cons_of_mem _ hb)
  · rcases n₂ b hb with r | r
    · rcases List.mem_cons.mp r with r | r
      · exact .inr (r ▸ hJ)
      · exact .inl r
    · exact .inr (none_of_ext e₁ r)
  · rcases a₂ x a e with r | r
    · exact .inl r
    · exact .inr (none_of_ext e₁ r)
theorem exFor_ok {t it : Expr} {body : List Stmt} {pos : Pos} {fl : Flo} (S : Sound prog w C T n I) (K : Ctx prog w C T n h₀ env c X ad σ A s.heap) (q : exFor I c σ t it body = some (fl, σ')) (hQ : StPost prog w C h₀ env c X ad s fl σ' Q) :
    wpAny (model prog w) A (exec (.For t it body [] pos) env) Q E s := by
  have plain : ((evIter I c σ it).bind fun ds => forLoop I c t body ds σ) = some (fl, σ') → wpAny (model prog w) A (exec (.For t it body [] pos) env) Q E s := fun q => by
    obtain ⟨ds, hds, q⟩ := Option.bind_eq_some_iff.mp q
    refine wpAny_For (evIter_sound S K hds fun J St₀ h₁ t₁ e₁ hJ W st => ?_) (fun x => fold_plain (evIter_ok S hds))
    exact for_run S (W.yields t) K e₁ hJ st q hQ
  unfold exFor at q
  cases hm0 : meth0 (Str.ofString "items") it with
  | none => rw [hm0] at q; exact plain q
  | some o =>
    rw [hm0] at q
    obtain ⟨ap, p, rfl, hm⟩ := meth0_inv hm0
    by_cases htw : twoNames t = true
    · obtain ⟨ts, kt, tp, rfl⟩ : ∃ ts k p, t = .Tuple ts k p := by
        cases ht : asTup t with
        | none => unfold twoNames at htw; rw [ht] at htw; nomatch htw
        | some ts => exact ⟨ts, asTup_inv ht⟩
      obtain ⟨l, hl0, q2⟩ := Option.bind_eq_some_iff.mp ((if_pos htw).symm.trans q)
      obtain ⟨dl, hl, hdl⟩ := Option.bind_eq_some_iff.mp hl0
      cases PV.dict?_inv hdl
      rw [forItems_eq] at q2
      refine wpAny_For ?_ (fun x => rfl)
      refine wpAny_Call_method (T := "dict") (id := "dict.items") (base_plain hm) rfl (okM_line hm) F.plainAttrs_dict F.slot_dict_items F.type_dict_items (S.ev K hl fun v h₁ t₁ e₁ x => ?_)
      obtain ⟨da, kvs, rfl, hsys, hdo, hkv, hde, hoff⟩ := x.dict'
      refine ⟨hdo.typeIs, hdo.mapOf.noDict, ?_⟩
      show wpAny _ _ (callWith p (.builtin "dict.items") [.ref da] [] []) _ _ _
      refine method_meetsIn F.slot_dict_items F.entry_dict_items rfl (PySem.evalArgs_none ⟨rfl, hdo.typeIs, F.args_dict_items_1 _, _, meets_dict_items (keyKind prog w) da hsys, ⟨kvs, hdo⟩, ?_⟩)
      have e₂ := Ext.push h₁ { cls := .type "dict_items", data := .fields #[.ref da] }
      obtain ⟨ep, hat⟩ := hdo.dictAt
      obtain ⟨od, es, hod, rd⟩ := id hat
      have hat₂ := hat.at' fun o z => e₂ da o z
      refine wpAny_pyIter_items (s := { s with heap := h₁.push { cls := .type "dict_items", data := .fields #[.ref da] }, toks := t₁ }) (knd := keyKind prog w) (d := da) (kvs := kvs) (ep := ep) ⟨_, Heap.get?_push_size _ rfl, rfl, rfl⟩ hat₂ ?_
      have e₃ := Ext.push (h₁.push { cls := .type "dict_items", data := .fields #[.ref da] }) { cls := .type "dict_itemiterator", data := .fields #[.none, .bool false, .ref da, .int 0 0, .int kvs.length 0, .int ep 0, .none, .none] }
      have e13 : Ext s.heap _ := e₁.trans (e₂.trans e₃)
      have hne : da ≠ (h₁.push { cls := .type "dict_items", data := .fields #[.ref da] }).objs.size := size_ne_of (e₂ _ _ hod)
      have hJn := size_none (h₁.push { cls := .type "dict_items", data := .fields #[.ref da] })
      refine for_run (s := s) S (items_yield (kvs := kvs) (ep := ep) hne hkv) K e13 (none_of_ext (e₁.trans e₂) hJn) ⟨⟨.none, .none, Heap.get?_push_size _ rfl⟩, hat₂.at' fun o z => e₃ da o z, List.mem_cons_self, fun hmm => (List.mem_cons.mp hmm).elim hne hoff, ?_⟩ q2 hQ
      exact (hde.ext e₂).mv (.more (fun b o _ z => e₃ b o z) hJn)
    · cases (if_neg htw).symm.trans q
theorem exStep_ok {st : Stmt} {fl : Flo} (S : Sound prog w C T n I) (K : Ctx prog w C T n h₀ env c X ad σ A s.heap) (q : exStep I c σ st = some (fl, σ')) (hQ : StPost prog w C h₀ env c X ad s fl σ' Q) : wpAny (model prog w) A (exec st env) Q E s := by
  have nx : ∀ {o : Option St} {fl : Flo} {σ' : St}, nextIf o = some (fl, σ') → o = some σ' ∧ fl = .next := fun {o fl σ'} h => by
    obtain ⟨σ₁, h1, h2⟩ := Option.map_eq_some_iff.mp h
    cases h2; exact ⟨h1, rfl⟩
  have od : ∀ {x : Str} {l : List (Key × PV)}, ownDict c σ x = some l → σ.get c x = some (.own (.dict l)) := fun {x l} h => by
    obtain ⟨d, h1, h2⟩ := Option.bind_eq_some_iff.mp h
    obtain ⟨lv, h3, h4⟩ := Option.bind_eq_some_iff.mp h1
    cases PV.dict?_inv h2; cases LV.own?_inv h4
    exact h3
  cases st with
  | Assign ts v pos =>
    obtain ⟨t, ht, q1⟩ := Option.bind_eq_some_iff.mp (show exAssign I c σ ts v = _ from q)
    cases one_inv ht
    cases hn : asName t with
    | some x =>
      rw [hn] at q1
      obtain ⟨px, rfl⟩ := asName_inv hn
      obtain ⟨d, hd, q2⟩ := Option.bind_eq_some_iff.mp (show exName I c σ x v = _ from q1)
      by_cases hmu : c.mu.contains x = true
      · have q3 := (if_pos hmu).symm.trans q2
        by_cases hf : isFresh v = true
        · obtain ⟨h1, rfl⟩ := nx ((if_pos hf).symm.trans q3)
          exact asgName_own hf S K hd h1 hQ
        · cases (if_neg hf).symm.trans q3
      · obtain ⟨h1, rfl⟩ := nx ((if_neg hmu).symm.trans q2)
        exact asgName_fro S K hd h1 hQ
    | none =>
      rw [hn] at q1
      dsimp only at q1
      cases ht : asTup t with
      | some ts =>
        rw [ht] at q1
        obtain ⟨k, tp, rfl⟩ := asTup_inv ht
        have q2 : exTup I c σ (.Tuple ts k tp) v = _ := q1
        by_cases hv : (asTup v).isSome = true
        · cases (if_pos hv).symm.trans q2
        · obtain ⟨d, hd, q3⟩ := Option.bind_eq_some_iff.mp ((if_neg hv).symm.trans q2)
          obtain ⟨h1, rfl⟩ := nx q3
          exact asgTuple_ok (Bool.eq_false_iff.mpr hv) S K hd h1 hQ
      | none =>
        rw [ht] at q1
        obtain ⟨⟨b, i⟩, hs, q2⟩ := Option.bind_eq_some_iff.mp q1
        obtain ⟨sp, rfl⟩ := asSub_inv hs
        obtain ⟨x, hx, q3⟩ := Option.bind_eq_some_iff.mp (show exSub I c σ b i v = _ from q2)
        obtain ⟨px, rfl⟩ := asName_inv hx
        by_cases hsl : (asSlice i).isSome = true
        · cases (if_pos hsl).symm.trans q3
        · obtain ⟨d, hd, q4⟩ := Option.bind_eq_some_iff.mp ((if_neg hsl).symm.trans q3)
          obtain ⟨l, k, hl, hk, q5⟩ := both_inv q4
          by_cases hlen : l.length < 100000
          · obtain ⟨h1, rfl⟩ := nx ((if_pos hlen).symm.trans q5)
            exact asgSub_ok S K hd (od hl) hk hlen h1 hQ
          · cases (if_neg hlen).symm.trans q5
  | AugAssign t op v pos =>
    have q : exAug I c σ t op v = _ := q
    unfold exAug at q
    cases hn : asName t with
    | some x =>
      rw [hn] at q
      obtain ⟨px, rfl⟩ := asName_inv hn
      obtain ⟨a, b, ha, hb, q1⟩ := both_inv (show exAugName I c σ x op v = _ from q)
      obtain ⟨d, h1, h2⟩ := Option.bind_eq_some_iff.mp ha
      obtain ⟨lv, h3, h4⟩ := Option.bind_eq_some_iff.mp h1
      cases PV.int?_inv h2; cases LV.fro?_inv h4
      obtain ⟨e, h5, h6⟩ := Option.bind_eq_some_iff.mp hb
      cases PV.int?_inv h6
      by_cases hmu : c.mu.contains x = true
      · cases (if_pos hmu).symm.trans q1
      · obtain ⟨r, hr, q2⟩ := Option.bind_eq_some_iff.mp ((if_neg hmu).symm.trans q1)
        obtain ⟨g1, rfl⟩ := nx q2
        exact augName_ok S K h3 h5 hr g1 hQ
    | none =>
      rw [hn] at q
      obtain ⟨⟨b, i⟩, hs, q1⟩ := Option.bind_eq_some_iff.mp q
      obtain ⟨sp, rfl⟩ := asSub_inv hs
      obtain ⟨x, y, hx, hy, q2⟩ := both_inv q1
      obtain ⟨px, rfl⟩ := asName_inv hx
      obtain ⟨py, rfl⟩ := asName_inv hy
      obtain ⟨l, k, hl, hk, q3⟩ := both_inv (show exAugSub I c σ x y op v = _ from q2)
      obtain ⟨a, b', ha, hb, q4⟩ := both_inv q3
      obtain ⟨ky, h1, h2⟩ := Option.bind_eq_some_iff.mp hk
      obtain ⟨lv, h3, h4⟩ := Option.bind_eq_some_iff.mp h1
      cases LV.fro?_inv h4
      obtain ⟨d1, h5, h6⟩ := Option.bind_eq_some_iff.mp ha
      cases PV.int?_inv h6
      obtain ⟨d2, h7, h8⟩ := Option.bind_eq_some_iff.mp hb
      cases PV.int?_inv h8
      obtain ⟨r, hr, q5⟩ := Option.bind_eq_some_iff.mp q4
      by_cases hlen : l.length < 100000
      · obtain ⟨g1, rfl⟩ := nx ((if_pos hlen).symm.trans q5)
        exact augSub_ok S K (od hl) h3 h2 h5 h7 hr hlen g1 hQ
      · cases (if_neg hlen).symm.trans q5
  | If t a b pos => exact if_ok S K q hQ
  | While t body orelse pos =>
    have q1 : (if orelse.isEmpty = true then whileLoop I c t body 64 σ else none) = some (fl, σ') := q
    cases orelse with
    | nil => exact while_ok S K q1 hQ
    | cons => nomatch q1
  | For t it body orelse pos =>
    have q1 : (if orelse.isEmpty = true then exFor I c σ t it body else none) = some (fl, σ') := q
    cases orelse with
    | nil => exact exFor_ok S K q1 hQ
    | cons => nomatch q1
  | Return v pos =>
    obtain ⟨e, rfl, q1⟩ := Option.bind_eq_some_iff.mp (show exRet I c σ v = _ from q)
    obtain ⟨d, h1, h2⟩ := Option.map_eq_some_iff.mp q1
    cases h2
    exact ret_ok S K h1 hQ
  | Expr e pos =>
    obtain ⟨⟨x, a⟩, ha, q1⟩ := Option.bind_eq_some_iff.mp (show exExpr I c σ e = _ from q)
    obtain ⟨px, ap, p, rfl, hline⟩ := appArg_inv ha
    obtain ⟨l, d, hl, hd, q2⟩ := both_inv (show exApp I c σ x a = _ from q1)
    obtain ⟨d1, h1, h2⟩ := Option.bind_eq_some_iff.mp hl
    obtain ⟨lv, h3, h4⟩ := Option.bind_eq_some_iff.mp h1
    cases PV.list?_inv h2; cases LV.own?_inv h4
    by_cases hlen : l.length < 100000
    · obtain ⟨g1, rfl⟩ := nx ((if_pos hlen).symm.trans q2)
      exact append_ok S K hline h3 hd hlen g1 hQ
    · cases (if_neg hlen).symm.trans q2
  | _ => nomatch (show (none : Option (Flo × St)) = some (fl, σ') from q)
theorem exList_ok (S : Sound prog w C T n I) : ∀ {body : List Stmt} {X : List Addr} {ad : Str → Option Addr} {σ σ' : St} {s : Shared} {fl : Flo} {Q : Flow → Shared → Prop}, Ctx prog w C T n h₀ env c X ad σ A s.heap → exList I c body σ = some (fl, σ') → StPost prog w C h₀ env c X ad s fl σ' Q →
    wpAny (model prog w) A (execs body env) Q E s
  | [], X, ad, σ, σ', s, fl, Q, K, q, hQ => by
    obtain ⟨rfl, rfl⟩ := Prod.mk.inj (Option.some.inj q)
    exact wpAny_execs_nil (hQ s.heap s.toks X ad .next K.inv (Stp.of_ext (Ext.refl _)) rfl)
  | st :: rest, X, ad, σ, σ', s, fl, Q, K, q, hQ => by
    obtain ⟨⟨fl₁, σ₁⟩, h1, q1⟩ := Option.bind_eq_some_iff.mp q
    refine wpAny_execs_cons (exStep_ok S K h1 fun h₁ t₁ X₁ ad₁ f V₁ sp hf => ?_)
    cases fl₁ with
    | next =>
      cases hf
      exact exList_ok S (s := { s with heap := h₁, toks := t₁ }) ⟨K.rm, K.ok, K.g0, V₁⟩ q1 fun h₂ t₂ X₂ ad₂ f V₂ sp₂ hf => hQ h₂ t₂ X₂ ad₂ f V₂ (sp.trans K.inv V₁ sp₂) (hf.sub sp.sub)
    | ret d =>
      obtain ⟨rfl, rfl⟩ := Prod.mk.inj (Option.some.inj q1)
      obtain ⟨v, rfl, hv⟩ := hf
      exact hQ h₁ t₁ X₁ ad₁ (.ret v) V₁ sp ⟨v, rfl, hv⟩
end
end Mine
end
section
set_option maxRecDepth 100000
namespace Mine
open PySem PySem.Spec PySem.Calls PyProof.Rows PySem.SeqAt PySem.W
section
variable {prog : Program} {w : World} {C : Addr} {T : Tx} {n : Nat} {I : Itp}
theorem binds_den {h : Heap} {X : List Addr} {sc : Str → Option NameKind} : ∀ {as : List Arg} {vs : List Value} {ds : List PV} {σ σ' : St} {m cm : Str → Option Value}, DenAll prog w C h X vs ds → bindArgs0 sc as ds σ = some σ' →
    (∀ x lv, sc x = some .local → σ.loc.lookup x = some lv → ∃ v, m x = some v ∧ LVd prog w C h X none v lv) → (∀ x lv, sc x = some .cell → σ.cel.lookup x = some lv → ∃ v, cm x = some v ∧ LVd prog w C h X none v lv) →
    (∀ x lv, sc x = some .local → σ'.loc.lookup x = some lv → ∃ v, bindL sc ((as.map (·.arg)).zip vs) m x = some v ∧ LVd prog w C h X none v lv) ∧ (∀ x lv, sc x = some .cell → σ'.cel.lookup x = some lv → ∃ v, bindC sc ((as.map (·.arg)).zip vs) cm x = some v ∧ LVd prog w C h X none v lv) ∧
    (∀ y ∈ (as.map (·.arg)).zip vs, sc y.1 = some .local ∨ sc y.1 = some .cell) ∧ vs.length = as.length
  | [], vs, ds, σ, σ', m, cm, hd, q, h1, h2 => by
    cases ds with
    | nil =>
      cases hd
      obtain rfl := Option.some.inj q
      exact ⟨h1, h2, (fun _ h => nomatch h), rfl⟩
    | cons _ _ => nomatch q
  | a :: as, vs, ds, σ, σ', m, cm, hd, q, h1, h2 => by
    cases hd with
    | nil => nomatch q
    | cons x r =>
      rename_i v vs d ds
      obtain ⟨σ₁, hσ, q1⟩ := Option.bind_eq_some_iff.mp q
      · rcases St.set_cases hσ with ⟨hk, rfl⟩ | ⟨hk, rfl⟩
        · have hk : sc a.arg = some .local := hk
          have := binds_den (m := fun y => if y = a.arg then some v else m y) (cm := cm) r q1 (fun y lv hy hl => by
            dsimp only at hl
            rw [lookup_aset] at hl
            by_cases hya : y = a.arg
            · rw [if_pos hya] at hl; cases hl
              exact ⟨v, by simp [hya], x⟩
            · rw [if_neg hya] at hl
              obtain ⟨u, hu, hd⟩ := h1 y lv hy hl
              exact ⟨u, by simp [hya, hu], hd⟩) h2
          obtain ⟨g1, g2, g3, g4⟩ := this
          refine ⟨fun y lv hy hl => ?_, fun y lv hy hl => ?_, fun y hy => ?_, by simp [g4]⟩
          · simp only [List.map_cons, List.zip_cons_cons, bindL, hk, if_true]; exact g1 y lv hy hl
          · simp only [List.map_cons, List.zip_cons_cons, bindC, hk, if_true]; exact g2 y lv hy hl
          · rcases List.mem_cons.mp hy with rfl | hy
            · exact .inl hk
            · exact g3 y hy
        · have hk : sc a.arg = some .cell := hk
          have hnl : ¬ sc a.arg = some .local := by rw [hk]; exact fun e => nomatch e
          have := binds_den (m := m) (cm := fun y => if y = a.arg then some v else cm y) r q1 h1 (fun y lv hy hl => by
            dsimp only at hl
            rw [lookup_aset] at hl
            by_cases hya : y = a.arg
            · rw [if_pos hya] at hl; cases hl
              exact ⟨v, by simp [hya], x⟩
            · rw [if_neg hya] at hl
              obtain ⟨u, hu, hd⟩ := h2 y lv hy hl
              exact ⟨u, by simp [hya, hu], hd⟩)
          obtain ⟨g1, g2, g3, g4⟩ := this
          refine ⟨fun y lv hy hl => ?_, fun y lv hy hl => ?_, fun y hy => ?_, by simp [g4]⟩
          · simp only [List.map_cons, List.zip_cons_cons, bindL, if_neg hnl]; exact g1 y lv hy hl
          · simp only [List.map_cons, List.zip_cons_cons, bindC, if_neg hnl]; exact g2 y lv hy hl
          · rcases List.mem_cons.mp hy with rfl | hy
            · exact .inr hk
            · exact g3 y hy
theorem own_mem {sc : Scope} {cells : List (Str × Addr)} {b : Addr} (h : b ∈ ownCells sc cells) : ∃ x, cells.lookup x = some b := by
  obtain ⟨⟨x, k⟩, hp, hq⟩ := List.mem_filterMap.mp h
  by_cases hk : k = .cell
  · subst hk; exact ⟨x, by simpa using hq⟩
  · simp [hk] at hq
theorem call_ok (S : Sound prog w C T n I) : CallOk prog w C T (n + 1) (step T I) := by
  intro f d hd X A s R a vals ds r hr G hf hX hv q hR
  have q : clStep T I f ds = some r := q
  obtain ⟨d', hd', q0⟩ := Option.bind_eq_some_iff.mp q
  cases hd.symm.trans hd'
  obtain ⟨σ, hσ, q1⟩ := Option.bind_eq_some_iff.mp q0
  obtain ⟨⟨fl, σ'⟩, hx, rfl⟩ := Option.map_eq_some_iff.mp q1
  clear q q0 q1
  obtain ⟨o, fd, f1, f2, f3, f4, f5, f6, f7, f8, f9, k1, k2, k3, k4⟩ := hf
  generalize hL : s.heap.objs.size = L at *
  have hLn : s.heap.get? L = none := by rw [← hL]; exact size_none _
  have above : ∀ b, L ≤ b → s.heap.get? b = none := fun b hb => by
    cases e : s.heap.get? b with
    | none => rfl
    | some o => exact absurd (Heap.lt_size e) (Nat.not_lt.mpr (hL ▸ hb))
  have pre := binds_den (prog := prog) (w := w) (C := C) (m := fun _ => none) (cm := fun _ => none) hv hσ (fun _ _ _ h => by simp at h) (fun _ _ _ h => by simp at h)
  have hkc : ∀ x, d.scope.names.lookup x = some .cell → ∃ b, (cellsFrom (L + 1) d.scope.names []).lookup x = some b := fun x hx => Option.isSome_iff_exists.mp (cellsFrom_some _ _ [] (.inl (mem_of_lookup hx)))
  refine codeAny_call_cells (by have := hr.depth; unfold recursionLimit; omega) f1 f2 G.nolimit f8 f3 (f9 vals pre.2.2.2) f5 (fun y hy => ?_) (fun s₁ x₁ => ?_) (by rw [f4]; exact k2) (by rw [f4]; exact k3) (by rw [f4]; exact k1)
  · rw [f4, hL]
    rcases pre.2.2.1 y hy with h | h
    · exact .inl h
    · obtain ⟨b, hb⟩ := hkc _ h
      exact .inr ⟨h, by rw [hb]; rfl⟩
  · rw [hL] at *
    obtain ⟨h₁, t₁, rfl, hk⟩ := x₁.done
    have hsc : ∀ x, (callEnvC fd L a).kindOf x = d.scope.names.lookup x := fun x => by show fd.scope.names.lookup x = _; rw [f4]
    have hcells : (callEnvC fd L a).cells = cellsFrom (L + 1) d.scope.names [] := by show cellsFrom (L + 1) fd.scope.names [] = _; rw [f4]
    have hloc : (callEnvC fd L a).locals = L := rfl
    have hkind : (callEnvC fd L a).kindOf = fun x => d.scope.names.lookup x := funext hsc
    have hns := x₁.toInCall.ns
    have hcell := x₁.cell
    have happ := x₁.apart
    have habove := x₁.above
    rw [hcells] at hcell happ habove
    rw [hkind] at hns hcell
    have hO : EnvOk (callEnvC fd L a) (defCx d) := ⟨by show fd.scope.kind = _; rw [f4]; exact k1, hsc, f6, f7, k4⟩
    have M : Mv X s.heap (ownCells d.scope (cellsFrom (L + 1) d.scope.names []) ++ L :: X) h₁ := ⟨fun b o _ e => hk b o e, fun b hb => by
      rcases List.mem_append.mp hb with h | h
      · obtain ⟨x, h1⟩ := own_mem h
        exact .inr (above _ (Nat.le_of_lt (habove x b (mem_of_lookup h1))))
      · rcases List.mem_cons.mp h with rfl | h
        · exact .inr hLn
        · exact .inl h⟩
    have post := binds_den (prog := prog) (w := w) (C := C) (m := fun _ => none) (cm := fun _ => none) (hv.mv M) hσ (fun _ _ _ h => by simp at h) (fun _ _ _ h => by simp at h)
    have V : Inv prog w C s.heap (callEnvC fd L a) (defCx d) h₁ (ownCells d.scope (cellsFrom (L + 1) d.scope.names []) ++ L :: X) (fun _ => none) σ := by
      refine ⟨hk, fun b p => ?_, fun b hb => ?_, ?_, ⟨_, hns, post.1⟩, fun x lv hx hl => ?_, fun x hx => ?_, fun x y b hx hy p q => ?_, (fun _ _ e => nomatch e), (fun _ _ _ e => nomatch e)⟩
      · rcases p with rfl | ⟨x, hx, e⟩ | ⟨x, e⟩
        · exact hLn
        · rw [hcells] at e
          exact above _ (Nat.le_of_lt (habove x b (mem_of_lookup e)))
        · cases e
      · rcases List.mem_append.mp hb with h | h
        · obtain ⟨x, h1⟩ := own_mem h
          obtain ⟨o, z, _⟩ := hcell x b h1
          exact ⟨o, z⟩
        · rcases List.mem_cons.mp h with rfl | h
          · obtain ⟨o, _, _, z, _⟩ := hns; exact ⟨o, z⟩
          · obtain ⟨o, z⟩ := hX b h; exact ⟨o, hk _ _ z⟩
      · exact List.mem_append_right _ List.mem_cons_self
      · obtain ⟨b, hb⟩ := hkc x hx
        obtain ⟨v, g1, g2⟩ := post.2.1 x lv hx hl
        refine ⟨b, v, by rw [hcells]; exact hb, ?_, g2⟩
        have := hcell x b hb
        rwa [g1] at this
      · obtain ⟨b, hb⟩ := hkc x hx
        exact ⟨b, _, by rw [hcells]; exact hb, hcell x b hb, List.mem_append_left _ (List.mem_filterMap.mpr ⟨(x, .cell), mem_of_lookup hx, by simpa using hb⟩), Nat.ne_of_gt (habove x b (mem_of_lookup hb))⟩
      · rw [hcells] at p q
        exact name_of_addr happ (mem_of_lookup p) (mem_of_lookup q)
    have K : Ctx prog w C T n s.heap (callEnvC fd L a) (defCx d) (ownCells d.scope (cellsFrom (L + 1) d.scope.names []) ++ L :: X) (fun _ => none) σ (A.deeper (callEnvC fd L a)) h₁ := ⟨hr.deeper _, hO, G, V⟩
    refine S.ex (s := { s with heap := h₁, toks := t₁ }) K hx fun h₂ t₂ X₂ ad₂ f V₂ sp hf => ?_
    cases fl with
    | ret r' =>
      obtain ⟨v, rfl, hv'⟩ := hf
      exact hR v h₂ t₂ V₂.keep (hv' X fun b hb => ⟨List.mem_append_right _ (List.mem_cons_of_mem _ hb), hX b hb⟩)
    | next =>
      cases hf
      exact hR .none h₂ t₂ V₂.keep .none
theorem Ctx.le {m n : Nat} {h₀ : Heap} {env : Env} {c : Cx} {X : List Addr} {ad : Str → Option Addr} {σ : St} {A : Around} {h : Heap} (K : Ctx prog w C T n h₀ env c X ad σ A h) (hm : m ≤ n) : Ctx prog w C T m h₀ env c X ad σ A h := ⟨K.rm.le hm, K.ok, K.g0, K.inv⟩
theorem step_sound (S : Sound prog w C T n I) : Sound prog w C T (n + 1) (step T I) where
  dom := fun q => evStep_dom q
  ev := fun K q hQ => evStep_sound S (K.le (Nat.le_succ n)) q hQ
  fr := fun K hf q hQ => evStep_fresh S (K.le (Nat.le_succ n)) hf q hQ
  us := fun {h₀ env c X ad σ A s E Q u e d} K he q hQ => comp_used S (K.le (Nat.le_succ n)) (by cases e <;> first | exact q | nomatch he) hQ
  ts := fun K q hQ => tsStep_sound S (K.le (Nat.le_succ n)) q hQ
  ex := fun K q hQ => exList_ok S (K.le (Nat.le_succ n)) q hQ
  cl := call_ok S
theorem run_sound : ∀ n : Nat, Sound prog w C T n (run T n)
  | 0 => {
      dom := fun q => nomatch q
      ev := fun _ q _ => nomatch q
      fr := fun _ _ q _ => nomatch q
      us := fun _ _ q _ => nomatch q
      ts := fun _ q _ => nomatch q
      ex := fun _ q _ => nomatch q
      cl := fun _ _ _ _ _ _ _ _ _ _ _ _ _ _ _ _ q _ => nomatch q }
  | n + 1 => step_sound (run_sound n)
end
end Mine
end
section
set_option maxRecDepth 100000
namespace Mine
open PySem PySem.Spec PySem.Calls PyProof.Rows PySem.SeqAt PySem.W
theorem lookup_zip {n : Str} : ∀ {ks : List Str} {vs : List Value}, ks.length = vs.length → n ∈ ks → ∃ v, (ks.zip vs).lookup n = some v
  | [], _, _, h => by cases h
  | k :: ks, [], hl, _ => by simp at hl
  | k :: ks, v :: vs, hl, h => by
    rw [List.zip_cons_cons, List.lookup_cons]
    cases hk : n == k with
    | true => exact ⟨v, rfl⟩
    | false =>
      rcases List.mem_cons.mp h with h | h
      · subst h; simp at hk
      · exact lookup_zip (by simpa using hl) h
theorem filter_zip : ∀ {ks : List Str} {vs : List Value}, ks.length = vs.length → ks.Nodup → ∀ (pre : List (Str × Value)), (∀ k ∈ ks, k ∉ pre.map (·.1)) → (ks.filterMap fun n => ((pre ++ ks.zip vs).lookup n).map (n, ·)) = ks.zip vs
  | [], vs, _, _, pre, _ => by simp
  | k :: ks, [], hl, _, _, _ => by simp at hl
  | k :: ks, v :: vs, hl, hn, pre, hp => by
    obtain ⟨hk, hn⟩ := List.nodup_cons.mp hn
    have look : ∀ (l : List (Str × Value)), (∀ p ∈ l, p.1 ≠ k) → (l ++ (k, v) :: ks.zip vs).lookup k = some v := by
      intro l
      induction l with
      | nil => intro _; simp [List.lookup_cons]
      | cons p l ih =>
        intro h
        rw [List.cons_append, List.lookup_cons]
        have : (k == p.1) = false := by simpa using (h p List.mem_cons_self).symm
        rw [this]
        exact ih fun q hq => h q (List.mem_cons_of_mem _ hq)
    have h1 := look pre fun p hp' e => hp k List.mem_cons_self (List.mem_map.mpr ⟨p, hp', e⟩)
    rw [List.zip_cons_cons, List.filterMap_cons, h1]
    simp only [Option.map_some]
    congr 1
    have := filter_zip (ks := ks) (vs := vs) (by simpa using hl) hn (pre ++ [(k, v)]) (fun k' hk' hm => by
      rw [List.map_append, List.mem_append] at hm
      rcases hm with hm | hm
      · exact hp k' (List.mem_cons_of_mem _ hk') hm
      · simp at hm; exact hk (hm ▸ hk'))
    simpa using this
theorem bind_plain' {fd : FuncData} {vals : List Value} (h1 : fd.params.posonlyargs = []) (h2 : fd.params.vararg = none) (h3 : fd.params.kwonlyargs = []) (h4 : fd.params.kwarg = none) (hd : fd.defaults = .none)
    (hz : ((fd.params.args.map (·.arg)).filterMap fun n => (((fd.params.args.map (·.arg)).zip vals).lookup n).map (n, ·)) = (fd.params.args.map (·.arg)).zip vals)
    (hm : ((fd.params.args.map (·.arg)).filter fun n => (((fd.params.args.map (·.arg)).zip vals).lookup n).isNone) = [])
    (hl : vals.length = (fd.params.args.map (·.arg)).length) : bindArgs fd ⟨vals, []⟩ = pure ((fd.params.args.map (·.arg)).zip vals) := by
  obtain ⟨n1, n2, ⟨p1, p2, p3, p4, p5, p6, p7⟩, n4, n5, n6, n7, n8, n9, n10, n11, n12, n13, n14, n15⟩ := fd
  dsimp only at h1 h2 h3 h4 hd hz hm hl
  subst h1 h2 h3 h4 hd
  dsimp only
  generalize hks : p2.map (·.arg) = ks at hz hm hl
  have e1 : (decide (vals.length > ks.length) && true) = false := by rw [hl]; simp
  have e2 : (!(((ks.take ks.length).filter fun n => ((ks.zip vals).lookup n).isNone)).isEmpty) = false := by rw [List.take_length, hm]; rfl
  have e3 : ¬ ((decide (vals.length > ks.length) && true) = true) := by rw [e1]; decide
  have e4 : ¬ ((!(((ks.take ks.length).filter fun n => ((ks.zip vals).lookup n).isNone)).isEmpty) = true) := by rw [e2]; decide
  subst hks
  refine Eq.trans (pure_bind (m := Sem) _ _) (Eq.trans (pure_bind (m := Sem) _ _) ?_)
  refine (if_neg e3).trans ?_
  have hd0 : ∀ k : Nat, List.drop k (((none : Option (Array Value)).getD #[]).toList) = [] := fun k => List.drop_nil
  simp only [hd0]
  have hz2 : ∀ (l : List Str), l.zip ([] : List Value) = [] := fun l => List.zip_nil_right
  refine (if_neg e4).trans ?_
  simp only [hz2]
  have hz3 : ((((p2.map fun a : Arg => a.arg) ++ []).filterMap fun n => (((p2.map fun a : Arg => a.arg).zip vals).lookup n).map (n, ·))) = (p2.map fun a : Arg => a.arg).zip vals := by rw [List.append_nil]; exact hz
  exact congrArg (pure (f := Sem)) hz3
theorem bind_plain {fd : FuncData} {vals : List Value} (h1 : fd.params.posonlyargs = []) (h2 : fd.params.vararg = none) (h3 : fd.params.kwonlyargs = []) (h4 : fd.params.kwarg = none) (hd : fd.defaults = .none) (hn : (fd.params.args.map (·.arg)).Nodup)
    (hl : vals.length = fd.params.args.length) : bindArgs fd ⟨vals, []⟩ = pure ((fd.params.args.map (·.arg)).zip vals) := by
  have hz := filter_zip (ks := fd.params.args.map (·.arg)) (vs := vals) (by simp [hl]) hn [] (by simp)
  have hm : ((fd.params.args.map (·.arg)).filter fun n => (((fd.params.args.map (·.arg)).zip vals).lookup n).isNone) = [] := by
    rw [List.filter_eq_nil_iff]
    intro n hn'
    obtain ⟨v, hv⟩ := lookup_zip (vs := vals) (by simp [hl]) hn'
    rw [hv]; simp
  exact bind_plain' h1 h2 h3 h4 hd (by simpa using hz) hm (by simp [hl])
noncomputable def toDef (d : DefRec) : Def := ⟨d.name, d.params, d.body, d.scope⟩
noncomputable def okDef (d : Def) : Bool := d.params.posonlyargs.isEmpty && d.params.vararg.isNone && d.params.kwonlyargs.isEmpty && d.params.kwarg.isNone && decide ((d.params.args.map (·.arg)).Nodup) &&
  d.scope.kind == .function && !d.scope.isCoroutine && !d.scope.isGenerator && (d.scope.names.lookup dbg).isNone
structure OkDef (d : Def) : Prop where
  h1 : d.params.posonlyargs = []
  h2 : d.params.vararg = none
  h3 : d.params.kwonlyargs = []
  h4 : d.params.kwarg = none
  hn : (d.params.args.map (·.arg)).Nodup
  k1 : d.scope.kind = .function
  k2 : d.scope.isCoroutine = false
  k3 : d.scope.isGenerator = false
  k4 : d.scope.names.lookup dbg = none
theorem okDef_is {d : Def} (h : okDef d = true) : OkDef d := by
  unfold okDef at h
  simp only [Bool.and_eq_true, List.isEmpty_iff, Option.isNone_iff_eq_none, decide_eq_true_eq, beq_iff_eq, Bool.not_eq_true'] at h
  obtain ⟨⟨⟨⟨⟨⟨⟨⟨h1, h2⟩, h3⟩, h4⟩, h5⟩, h6⟩, h7⟩, h8⟩, h9⟩ := h
  exact ⟨h1, h2, h3, h4, h5, h6, h7, h8, h9⟩
theorem fnAt_of {h : Heap} {a : Addr} {o : Obj} {fd : FuncData} {d : Def} (ho : h.get? a = some o) (hd : o.data = .func fd) (hp : fd.params = d.params) (hb : fd.body = .stmts d.body) (hs : fd.scope = d.scope) (hc : fd.closure = []) (hg : fd.globals = mainGlobals)
    (hbu : fd.builtins = builtinsNs) (hdf : fd.defaults = .none) (hcd : h.CodeRec fd.code fd.qualname) (hok : okDef d = true) : FnAt h a d := by
  have k := okDef_is hok
  refine ⟨o, fd, ho, hd, hb, hs, hc, hg, hbu, hcd, fun vals hl => ?_, k.k1, k.k2, k.k3, k.k4⟩
  rw [← hp] at hl ⊢
  exact bind_plain (by rw [hp]; exact k.h1) (by rw [hp]; exact k.h2) (by rw [hp]; exact k.h3) (by rw [hp]; exact k.h4) hdf (by rw [hp]; exact k.hn) hl
noncomputable def freeIn (p : Program) (loose : List Str) (x : Str) : Bool :=
  !startupNames.contains x && !loose.contains x && !((recsOf p).map (·.name)).contains x && !((litsOf p).map (·.1)).contains x && !((clssOf p loose).map (·.name)).contains x && (x != Str.ofString "__name__")
theorem glo_of {p : Program} {loose : List Str} {mean : ExcName → Option Value} {mg mb : Str → Option Value} {h : Heap} {Tr : Tx} {C : Addr} (T : Top p loose mean mg mb h) (hD : (recsOf p).map toDef = Tr.D) (hP : Tr.D.all okDef = true) (hf : bnames.all (freeIn p loose) = true)
    (hC : mg (Str.ofString "TupleComp") = some (.ref C)) (hcls : ClsOk Tr C h) : Glo Tr C h where
  g := by
    refine ⟨mg, mb, T.g, T.b, fun x hx => ?_, fun d hd => ?_, hC⟩
    · have := List.all_eq_true.mp hf x hx
      unfold freeIn at this
      simp only [Bool.and_eq_true, Bool.not_eq_true', List.contains_eq_mem, decide_eq_false_iff_not, bne_iff_ne, ne_eq] at this
      obtain ⟨⟨⟨⟨⟨a1, a2⟩, a3⟩, a4⟩, a5⟩, a6⟩ := this
      exact ⟨T.free x a1 a2 a3 a4 a5, T.builtins x a6⟩
    · rw [← hD] at hd
      obtain ⟨r, hr, rfl⟩ := List.mem_map.mp hd
      obtain ⟨a, o, pm, cd, doc, g1, g2, g3, g4⟩ := T.fn r hr
      refine ⟨a, g1, fnAt_of g2 g3 rfl rfl rfl rfl rfl rfl rfl g4 ?_⟩
      exact List.all_eq_true.mp hP _ (hD ▸ List.mem_map.mpr ⟨r, hr, rfl⟩)
  nolimit := T.nolimit
  cls := hcls
/-! ## the defs of a program's text -/
noncomputable def defsOf : List Stmt → List Def
  | [] => []
  | .FunctionDef n a b _ _ _ s _ _ _ :: r => ⟨n, a, b, s⟩ :: defsOf r
  | _ :: r => defsOf r
noncomputable def methsIn : List Stmt → List Def
  | [] => []
  | .ClassDef n _ _ body _ _ _ _ _ _ _ :: r => (body.filterMap fun | .FunctionDef m a b _ _ _ s _ _ _ => some ⟨n ++ Str.ofString "." ++ m, a, b, s⟩ | _ => none) ++ methsIn r
  | _ :: r => methsIn r
noncomputable def noDef : Def := ⟨Str.ofString "", ⟨[], [], none, [], [], none, []⟩, [], { kind := .function, names := [], isGenerator := false, isCoroutine := false }⟩
noncomputable def methAt (p : Program) (i : Nat) : Def := (methsIn p.main.body).getD i noDef
noncomputable def txOf (p : Program) : Tx := ⟨defsOf p.main.body, methsIn p.main.body⟩
theorem intsDen {prog : Program} {w : World} {C : Addr} {h : Heap} {X : List Addr} : ∀ {vs : List Value} {ns : List Int}, IntsAre vs ns → DenAll prog w C h X vs (ns.map .int)
  | _, _, .nil => .nil
  | _, _, .cons _ _ r => .cons (.int _ _) (intsDen r)
theorem rm_caller : Rm 60 callerA := ⟨rfl, by decide +kernel, by decide +kernel⟩
/-- the law's call, from the law told in plain Lean -/
theorem law_call {prog : Program} {w : World} {Tr : Tx} {C : Addr} {s₁ : Shared} {mg : Str → Option Value} {fa l : Addr} {vs : List Value} {ns : List Int} {R : Result → Shared → Prop} (G : Glo Tr C s₁.heap) (hg : s₁.heap.Ns mainGlobals mg)
    (hfind : isFun Tr (Str.ofString "law") = true) (hm : mg (Str.ofString "law") = some (.ref fa)) (hl : s₁.heap.IsList l vs.toArray) (hi : IntsAre vs ns)
    (q : (run Tr 60).cl (Str.ofString "law") [.list (ns.map .int)] = some (.bool true)) (hR : ∀ h' tk, Ext s₁.heap h' → R (.ok (.ret (.bool true))) { s₁ with heap := h', toks := tk }) :
    codeAny (model prog w) callerA (.call (.ref fa) ⟨[.ref l], []⟩) R s₁ := by
  obtain ⟨d, hd, hf, hn⟩ := find_def hfind
  obtain ⟨mg', mb, g1, g2, g3, g4, g5⟩ := G.g
  obtain ⟨a, ha, hfa⟩ := g4 d hd
  have he : mg' d.name = mg (Str.ofString "law") := by
    obtain ⟨o, es, ep, ho, hd', _, hfind'⟩ := g1
    obtain ⟨o2, es2, ep2, ho2, hd2, _, hfind2⟩ := hg
    rw [ho] at ho2; cases ho2
    rw [hd'] at hd2; cases hd2
    rw [← hfind', ← hfind2, hn]
  rw [ha, hm] at he
  cases he
  refine (run_sound (prog := prog) (w := w) 60).cl (Str.ofString "law") d hf (X := []) rm_caller G hfa (fun _ h => nomatch h) (.cons (.list (fun h => nomatch h) hl (intsDen hi)) .nil) q fun v h' tk e x => ?_
  cases x
  exact hR h' tk e
end Mine
end
section
set_option maxRecDepth 100000
namespace Mine
open PySem PySem.Spec PySem.Calls PyProof.Rows PySem.SeqAt PySem.W
/-! the head, told of the heap itself: nothing of it is written out -/
noncomputable def fragOf (h : Heap) (as : List Addr) : W.Frag := as.filterMap fun a => (h.get? a).map fun o => (a, o)
theorem fragOf_in (h : Heap) : ∀ as : List Addr, (fragOf h as).In h
  | [], a, o, e => by cases e
  | b :: as, a, o, e => by
    have ih := fragOf_in h as
    unfold fragOf at ih e
    rw [List.filterMap_cons] at e
    cases hb : h.get? b with
    | none => rw [hb] at e; exact ih a o e
    | some x =>
      rw [hb] at e
      simp only [Option.map_some, List.lookup_cons] at e
      split at e
      · rename_i q; cases e; rw [beq_iff_eq.mp q]; exact hb
      · exact ih a o e
noncomputable def fnView (K : W.Frag) (a : Addr) : Option (Arguments × FuncBody × Scope × List (Str × Addr) × Addr × Addr × Value × Bool) := match K.lookup a with
  | some ⟨_, _, .func fd, _⟩ => some (fd.params, fd.body, fd.scope, fd.closure, fd.globals, fd.builtins, fd.defaults, codeIn K fd.code fd.qualname)
  | _ => none
theorem fnView_at {K : W.Frag} {h : Heap} {a : Addr} {d : Def} (X : K.In h) (e : fnView K a = some (d.params, .stmts d.body, d.scope, [], mainGlobals, builtinsNs, .none, true)) (ok : okDef d = true) : FnAt h a d := by
  unfold fnView at e
  split at e
  · rename_i c dd fd sl hl
    simp only [Option.some.injEq, Prod.mk.injEq] at e
    obtain ⟨e1, e2, e3, e4, e5, e6, e7, e8⟩ := e
    exact fnAt_of (X _ _ hl) rfl e1 e2 e3 e4 e5 e6 e7 (codeRec_of X e8) ok
  · cases e
structure HeadAt where
  T : Tx
  C : Addr
  fI : Addr
  fc : Addr
  di : Def
  dc : Def
  p1 : Pos
  p2 : Pos
  p3 : Pos
  p4 : Pos
  as : List Addr
structure ClsView where
  a1 : Bool
  a2 : Option (Option Value)
  a3 : Option Value
  a4 : Option (Option Value)
  a5 : Bool
  a6 : Option (Option Value)
  a7 : Bool
  a8 : Bool
  a9 : Option (Option Value)
  b1 : Option (Option Value)
  b2 : Bool
  b3 : Bool
  b4 : Option (Option Value)
noncomputable def clsView (H : HeadAt) (K : W.Frag) : ClsView :=
  ⟨W.makesIn K H.C, W.findIn K (.ref H.C) "__init__", W.typeIn K (.ref H.fI), W.findIn K (.ref H.C) "__setattr__", W.plainOver K H.C, W.takerIn K H.C theList, W.hasDictIn K H.C, W.plainGet K H.C theList, W.findIn K (.ref H.C) theList,
    W.findIn K (.ref H.C) (Str.ofString "compare"), W.isFn K (.ref H.fc), W.keepIn K (.ref H.C), W.nsIn K mainGlobals (Str.ofString "TupleComp")⟩
structure HeadOk (H : HeadAt) : Prop where
  oi : okDef H.di = true
  oc : okDef H.dc = true
  ni : H.di.params.args.map (·.arg) = [Str.ofString "self", theList]
  bi : H.di.body = [Stmt.Assign [.Attribute (.Name (Str.ofString "self") H.p1) theList H.p2] (.Name theList H.p3) H.p4]
  si : H.di.scope.names.lookup (Str.ofString "self") = some .local
  sl : H.di.scope.names.lookup theList = some .local
  fc : (H.T.D ++ H.T.M).find? (fun d => decide (d.name = Str.ofString "TupleComp.compare")) = some H.dc
noncomputable def HeadSays (H : HeadAt) (h : Heap) : Prop := (∃ K : W.Frag, K.In h ∧ W.nsIn K mainGlobals (Str.ofString "TupleComp") = some (some (.ref H.C))) ∧ ClsOk H.T H.C h
noncomputable def clsWant (H : HeadAt) : ClsView :=
  ⟨true, some (some (.ref H.fI)), some (.type "function"), some (some (.builtin "object.__setattr__")), true, some none, true, true, some none, some (some (.ref H.fc)), true, true, some (some (.ref H.C))⟩
noncomputable def fnWant (d : Def) : Option (Arguments × FuncBody × Scope × List (Str × Addr) × Addr × Addr × Value × Bool) := some (d.params, .stmts d.body, d.scope, [], mainGlobals, builtinsNs, .none, true)
noncomputable def headObs (H : HeadAt) (h : Heap) : ClsView × Option (Arguments × FuncBody × Scope × List (Str × Addr) × Addr × Addr × Value × Bool) × Option (Arguments × FuncBody × Scope × List (Str × Addr) × Addr × Addr × Value × Bool) :=
  let K := fragOf h H.as
  (clsView H K, fnView K H.fI, fnView K H.fc)
theorem head_says {H : HeadAt} (k : HeadOk H) {h : Heap} (e : headObs H h = (clsWant H, fnWant H.di, fnWant H.dc)) : HeadSays H h := by
  unfold headObs at e
  dsimp only at e
  have X := fragOf_in h H.as
  generalize fragOf h H.as = K at e X
  obtain ⟨e1, e2⟩ := Prod.mk.inj e
  obtain ⟨e2, e3⟩ := Prod.mk.inj e2
  have f1 := fnView_at X e2 k.oi
  have f2 := fnView_at X e3 k.oc
  have c1 := congrArg ClsView.a1 e1
  have c2 := congrArg ClsView.a2 e1
  have c3 := congrArg ClsView.a3 e1
  have c4 := congrArg ClsView.a4 e1
  have c5 := congrArg ClsView.a5 e1
  have c6 := congrArg ClsView.a6 e1
  have c7 := congrArg ClsView.a7 e1
  have c8 := congrArg ClsView.a8 e1
  have c9 := congrArg ClsView.a9 e1
  have d1 := congrArg ClsView.b1 e1
  have d2 := congrArg ClsView.b2 e1
  have d3 := congrArg ClsView.b3 e1
  have d4 := congrArg ClsView.b4 e1
  exact ⟨⟨K, X, d4⟩, K, H.fI, H.fc, H.di, H.dc, H.p1, H.p2, H.p3, H.p4, X, c1, c2, c3, f1, k.ni, k.bi, k.si, k.sl, c4, c5, c6, c7, c8, c9, d1, d2, f2, k.fc, d3⟩
noncomputable def headHook (H : HeadAt) (k : HeadOk H) : W.Hook where
  α := _
  obs := fun s => headObs H s.heap
  val := fun _ => (clsWant H, fnWant H.di, fnWant H.dc)
  says := fun _ h => HeadSays H h
  of := fun _ _ e => head_says k e
  keeps := fun _ _ _ x e => ⟨x.1.imp fun _ y => ⟨y.1.keeps e, y.2⟩, x.2.kept e⟩
noncomputable def keepSt : Stmt → Bool
  | .Assign .. => false
  | _ => true
noncomputable def viewOf (p : Program) : Program := { p with main := { p.main with body := p.main.body.filter keepSt } }
theorem goodW_true {c : ClaimW} {cl : PySem.Str → Option Addr} {mean : ExcName → Option Value} {args : List WData} {s₁ : Shared} {h' : Heap} {tk : Nat} (e : Ext s₁.heap h') (hg : s₁.gens = #[]) (hn : ∀ cls, c.raises args cls = false) (hp : c.post args (.bool true) args = true) :
    GoodWG c cl mean args s₁ (.ok (.ret (.bool true))) { s₁ with heap := h', toks := tk } :=
  GoodW.toG ⟨.inl ⟨_, _, [], rfl, hn, .bool true, hp, fun _ => ⟨List.nodup_nil, fun _ h => nomatch h⟩⟩, e, rfl, hg⟩
end Mine
end
section
set_option maxRecDepth 100000
set_option linter.unusedVariables false
namespace Mine
open PySem
/-! rules to step through a text in the evaluator -/
section
variable {T : Tx} {n : Nat} {I : Itp} {c : Cx} {σ σ' σ₁ : St} {x : Str} {lv : LV} {d d' a b r : PV} {e l i : Expr} {p q p' : Pos}
theorem g_loc (h : c.sc x = some .local) (h2 : σ.loc.lookup x = some lv) : σ.get c x = some lv := by unfold St.get; rw [h]; exact h2
theorem g_cel (h : c.sc x = some .cell) (h2 : σ.cel.lookup x = some lv) : σ.get c x = some lv := by unfold St.get; rw [h]; exact h2
theorem s_loc (h : c.sc x = some .local) : σ.set c x lv = some ⟨aset σ.loc x lv, σ.cel⟩ := by unfold St.set; rw [h]; rfl
theorem s_cel (h : c.sc x = some .cell) : σ.set c x lv = some ⟨σ.loc, aset σ.cel x lv⟩ := by unfold St.set; rw [h]; rfl
theorem lk_hit {m : List (Str × LV)} : (aset m x lv).lookup x = some lv := by rw [lookup_aset, if_pos rfl]
theorem lk_miss {m : List (Str × LV)} {y : Str} {w : LV} {o : Option LV} (h : decide (x = y) = false) (h2 : m.lookup x = o) : (aset m y w).lookup x = o := by rw [lookup_aset, if_neg (of_decide_eq_false h)]; exact h2
theorem lookup_fr (l : List (Str × LV)) (x : Str) : (l.map fun p => (p.1, p.2.freeze)).lookup x = (l.lookup x).map LV.freeze := by
  induction l with
  | nil => rfl
  | cons p l ih =>
    rw [List.map_cons, List.lookup_cons, List.lookup_cons]
    cases x == p.1 with
    | true => rfl
    | false => exact ih
theorem fz_loc {lv' : LV} (h : σ.loc.lookup x = some lv) (h2 : lv.freeze = lv') : σ.freeze.loc.lookup x = some lv' := (lookup_fr σ.loc x).trans (by rw [h, ← h2]; rfl)
theorem fz_cel {lv' : LV} (h : σ.cel.lookup x = some lv) (h2 : lv.freeze = lv') : σ.freeze.cel.lookup x = some lv' := (lookup_fr σ.cel x).trans (by rw [h, ← h2]; rfl)
theorem fz_fro : (LV.fro d).freeze = .fro d := rfl
theorem fz_own : (LV.own d).freeze = .fro d := rfl
theorem d_fro : (LV.fro d).d = d := rfl
theorem d_own : (LV.own d).d = d := rfl
theorem e_int {k : Int} {kk : Nat} : (run T (n + 1)).ev c σ (.Constant (.int k) kk p) = some (.int k) := rfl
theorem e_str {k : Str} {kk : Nat} : (run T (n + 1)).ev c σ (.Constant (.str k) kk p) = some (.str k) := rfl
theorem e_name (h : σ.get c x = some (.fro d)) : (run T (n + 1)).ev c σ (.Name x p) = some d := by
  show (σ.get c x).bind LV.fro? = _; rw [h]; rfl
theorem B_name (h : σ.get c x = some lv) (h2 : lv.d = d) : evB I c σ (.Name x p) = some d := by
  show (σ.get c x).map LV.d = _; rw [h, ← h2]; rfl
theorem B_ev (hn : (asName e).isSome = false) (h : I.ev c σ e = some d) : evB I c σ e = some d := by
  unfold evB
  cases h' : asName e with
  | none => exact h
  | some x => rw [h'] at hn; cases hn
theorem both_of {α β γ : Type} {u : Option α} {v : Option β} {f : α → β → Option γ} {a : α} {b : β} {o : Option γ} (h1 : u = some a) (h2 : v = some b) (h : f a b = o) : both u v f = o := by subst h1 h2; exact h
theorem bind_of {α β : Type} {u : Option α} {f : α → Option β} {a : α} {o : Option β} (h1 : u = some a) (h : f a = o) : u.bind f = o := by subst h1; exact h
theorem map_of {α β : Type} {u : Option α} {f : α → β} {a : α} (h1 : u = some a) : u.map f = some (f a) := by subst h1; rfl
theorem e_bin {op : Operator} {rr : Expr} (h1 : evB (run T n) c σ l = some a) (h2 : evB (run T n) c σ rr = some b) (h3 : pbin op a b = some d) : (run T (n + 1)).ev c σ (.BinOp l op rr p) = some d := both_of h1 h2 h3
theorem e_un {op : UnaryOp} (h1 : evB (run T n) c σ l = some a) (h3 : pun op a = some d) : (run T (n + 1)).ev c σ (.UnaryOp op l p) = some d := bind_of h1 h3
theorem cmp_of {op : CmpOp} {rr : Expr} {u : Bool} (h1 : evB I c σ l = some a) (h2 : evB I c σ rr = some b) (h3 : pcmp op a b = some u) : evCmp I c σ l [op] [rr] = some u := both_of (u := one [op]) (v := one [rr]) rfl rfl (both_of h1 h2 h3)
theorem e_cmp {op : CmpOp} {rr : Expr} {u : Bool} (h1 : evB (run T n) c σ l = some a) (h2 : evB (run T n) c σ rr = some b) (h3 : pcmp op a b = some u) : (run T (n + 1)).ev c σ (.Compare l [op] [rr] p) = some (.bool u) := map_of (cmp_of h1 h2 h3)
theorem all_nil : evAll I c σ [] = some [] := rfl
theorem all_cons {es : List Expr} {ds : List PV} (h1 : I.ev c σ e = some d) (h2 : evAll I c σ es = some ds) : evAll I c σ (e :: es) = some (d :: ds) := both_of h1 h2 rfl
theorem e_tup {es : List Expr} {k : Nat} {ds : List PV} (h : evAll (run T n) c σ es = some ds) (hl : es.length ≤ 1000) : (run T (n + 1)).ev c σ (.Tuple es k p) = some (.tup ds) := (if_pos hl).trans (map_of h)
theorem e_list {es : List Expr} {ds : List PV} (h : evAll (run T n) c σ es = some ds) (hl : es.length ≤ 1000) : (run T (n + 1)).ev c σ (.List es p) = some (.list ds) := (if_pos hl).trans (map_of h)
theorem pr_nil : evPairs I c σ [] [] = some [] := rfl
theorem pr_cons {ks : List (Option Expr)} {vs : List Expr} {k v : Expr} {kd : PV} {key : Key} {m : List (Key × PV)} (h1 : I.ev c σ k = some kd) (hk : kd.key = some key) (h2 : I.ev c σ v = some d) (h3 : evPairs I c σ ks vs = some m) : evPairs I c σ (some k :: ks) (v :: vs) = some ((key, d) :: m) :=
  both_of (bind_of (f := fun e => (I.ev c σ e).bind PV.key) rfl (bind_of h1 hk)) h2 (map_of h3)
theorem e_dict {ks : List (Option Expr)} {vs : List Expr} {m : List (Key × PV)} (h : evPairs (run T n) c σ ks vs = some m) (hl : ks.length ≤ 15) : (run T (n + 1)).ev c σ (.Dict ks vs p) = some (.dict (dsetAll [] m)) := (if_pos hl).trans (map_of h)
theorem k_int {k : Int} : (PV.int k).key = some (.int k) := rfl
theorem e_sub (hs : asSlice i = none) (h1 : evB (run T n) c σ l = some a) (h2 : (run T n).ev c σ i = some b) (h3 : pget a b = some d) : (run T (n + 1)).ev c σ (.Subscript l i p) = some d := by
  show evSub (run T n) c σ l i = _
  unfold evSub
  rw [hs]
  exact both_of h1 h2 h3
theorem o_none : evOptInt I c σ none = some none := rfl
theorem o_some {j : Int} (h : evB I c σ e = some (.int j)) : evOptInt I c σ (some e) = some (some j) := bind_of h rfl
theorem e_slice {lo hi st : Option Expr} {a1 a2 a3 : Option Int} (h1 : evB (run T n) c σ l = some a) (g1 : evOptInt (run T n) c σ lo = some a1) (g2 : evOptInt (run T n) c σ hi = some a2) (g3 : evOptInt (run T n) c σ st = some a3) (h3 : pslice a a1 a2 a3 = some d) :
    (run T (n + 1)).ev c σ (.Subscript l (.Slice lo hi st p') p) = some d := bind_of h1 (bind_of g1 (bind_of g2 (bind_of g3 h3)))
theorem e_call {f : Str} {args : List Expr} {ds : List PV} (hg : c.sc f = some .globalImplicit) (hf : isFun T f = true) (ha : evAll (run T n) c σ args = some ds) (hc : (run T n).cl f ds = some r) : (run T (n + 1)).ev c σ (.Call (.Name f q) args [] p) = some r :=
  (if_pos hg).trans ((if_pos hf).trans (bind_of ha hc))
theorem e_one {f : Str} {u : Expr} (hg : c.sc f = some .globalImplicit) (hf : isFun T f = false) (h1 : decide (f = Str.ofString "TupleComp") = false) (h2 : decide (f = Str.ofString "isinstance") = false) (ha : evB (run T n) c σ u = some a) (hp : pone f a = some r) : (run T (n + 1)).ev c σ (.Call (.Name f q) [u] [] p) = some r :=
  (if_pos hg).trans ((if_neg (by rw [hf]; decide)).trans ((if_neg (of_decide_eq_false h1)).trans ((if_neg (of_decide_eq_false h2)).trans (bind_of (f := fun a => (evB (run T n) c σ a).bind (pone f)) rfl (bind_of ha hp)))))
theorem e_new {f : Str} {u : Expr} (hg : c.sc f = some .globalImplicit) (hf : isFun T f = false) (h1 : decide (f = Str.ofString "TupleComp") = true) (ha : (run T n).ev c σ u = some a) : (run T (n + 1)).ev c σ (.Call (.Name f q) [u] [] p) = some (.inst a) :=
  (if_pos hg).trans ((if_neg (by rw [hf]; decide)).trans ((if_pos (of_decide_eq_true h1)).trans (bind_of (all_cons ha all_nil) rfl)))
theorem e_isi {u t : Expr} {k : Int} (hg : c.sc (Str.ofString "isinstance") = some .globalImplicit) (hf : isFun T (Str.ofString "isinstance") = false) (ht : isName "tuple" t = true) (hk : c.sc (Str.ofString "tuple") = some .globalImplicit) (ha : (run T n).ev c σ u = some (.int k)) :
    (run T (n + 1)).ev c σ (.Call (.Name (Str.ofString "isinstance") q) [u, t] [] p) = some (.bool false) := by
  have h : evIsi (run T n) c σ [u, t] = some (.bool false) := by
    unfold evIsi
    refine bind_of (u := two [u, t]) rfl ?_
    refine (if_pos (by rw [ht, decide_eq_true hk]; rfl)).trans (bind_of ha rfl)
  exact (if_pos hg).trans ((if_neg (by rw [hf]; decide)).trans ((if_neg (by decide)).trans ((if_pos rfl).trans h)))
theorem e_compare {o : Expr} {m : Str} {ap : Pos} {args : List Expr} {ds : List PV} (hm : decide (m = Str.ofString "compare") = true) (hk : okM o ap p = true) (hl : args.length ≤ 10) (ho : evB (run T n) c σ o = some (.inst a)) (ha : evAll (run T n) c σ args = some ds)
    (hc : (run T n).cl (Str.ofString "TupleComp.compare") (.inst a :: ds) = some r) : (run T (n + 1)).ev c σ (.Call (.Attribute o m ap) args [] p) = some r := by
  cases of_decide_eq_true hm
  exact (if_pos (⟨hk, hl⟩ : okM o ap p = true ∧ args.length ≤ 10)).trans ((if_neg (show ¬ Str.ofString "compare" = Str.ofString "get" by decide)).trans ((if_pos rfl).trans (bind_of (bind_of ho rfl) (bind_of ha hc))))
theorem e_get {o u v : Expr} {m : Str} {ap : Pos} {dl : List (Key × PV)} {k : Key} (hm : decide (m = Str.ofString "get") = true) (hk : okM o ap p = true) (ho : evB (run T n) c σ o = some (.dict dl)) (h1 : (run T n).ev c σ u = some a) (hka : a.key = some k) (h2 : (run T n).ev c σ v = some b) :
    (run T (n + 1)).ev c σ (.Call (.Attribute o m ap) [u, v] [] p) = some ((dget dl k).getD b) := by
  cases of_decide_eq_true hm
  have h : evGet (run T n) c σ dl [u, v] = some ((dget dl k).getD b) := by
    unfold evGet
    exact bind_of (u := two [u, v]) rfl (both_of (bind_of h1 hka) h2 rfl)
  exact (if_pos (⟨hk, Nat.le_of_ble_eq_true rfl⟩ : okM o ap p = true ∧ [u, v].length ≤ 10)).trans ((if_pos rfl).trans (bind_of (bind_of ho rfl) h))
theorem t_cmp {op : CmpOp} {rr : Expr} {u : Bool} (h1 : evB (run T n) c σ l = some a) (h2 : evB (run T n) c σ rr = some b) (h3 : pcmp op a b = some u) : (run T (n + 1)).ts c σ (.Compare l [op] [rr] p) = some u := cmp_of h1 h2 h3
theorem t_not {u : Bool} (h : (run T n).ts c σ e = some u) : (run T (n + 1)).ts c σ (.UnaryOp .Not e p) = some (!u) := map_of h
theorem t_bool {op : BoolOp} {es : List Expr} {u : Bool} (h : tsAll (run T n) c σ op es = some u) : (run T (n + 1)).ts c σ (.BoolOp op es p) = some u := h
theorem a_one {u : Bool} (h1 : I.ts c σ e = some u) : tsAll I c σ .And [e] = some u := bind_of h1 (by cases u <;> rfl)
theorem a_cons {es : List Expr} {u v : Bool} (h1 : I.ts c σ e = some u) (h2 : u = true → tsAll I c σ .And es = some v) : tsAll I c σ .And (e :: es) = some (u && v) := by
  refine bind_of h1 ?_
  cases u with
  | true => exact h2 rfl
  | false => rfl
theorem or_one {u : Bool} (h1 : I.ts c σ e = some u) : tsAll I c σ .Or [e] = some u := bind_of h1 (by cases u <;> rfl)
theorem or_cons {es : List Expr} {u v : Bool} (h1 : I.ts c σ e = some u) (h2 : u = false → tsAll I c σ .Or es = some v) : tsAll I c σ .Or (e :: es) = some (u || v) := by
  refine bind_of h1 ?_
  cases u with
  | true => rfl
  | false => exact h2 rfl
theorem t_bin {op : Operator} {rr : Expr} {u : Bool} (h : (run T n).ev c σ (.BinOp l op rr p) = some d) (h2 : ptruth d = some u) : (run T (n + 1)).ts c σ (.BinOp l op rr p) = some u := bind_of h h2
theorem t_call {f : Expr} {args : List Expr} {ks : List Keyword} {u : Bool} (h : (run T n).ev c σ (.Call f args ks p) = some d) (h2 : ptruth d = some u) : (run T (n + 1)).ts c σ (.Call f args ks p) = some u := bind_of h h2
end
end Mine
end
section
set_option maxRecDepth 100000
set_option linter.unusedVariables false
namespace Mine
open PySem
section
variable {T : Tx} {n : Nat} {I : Itp} {c : Cx} {σ σ' σ₁ : St} {x y : Str} {lv : LV} {d d' a b r : PV} {e l i v : Expr} {p q p' p'' : Pos} {body : List Stmt} {o : Option (Flo × St)} {fl : Flo}
theorem x_name (hm : c.mu.contains x = false) (h : I.ev c σ v = some d) (hs : σ.set c x (.fro d) = some σ') : exStep I c σ (.Assign [.Name x q] v p) = some (.next, σ') :=
  show exName I c σ x v = _ from bind_of h ((if_neg (by rw [hm]; decide)).trans (map_of hs))
theorem x_own (hm : c.mu.contains x = true) (hf : isFresh v = true) (h : I.ev c σ v = some d) (hs : σ.set c x (.own d) = some σ') : exStep I c σ (.Assign [.Name x q] v p) = some (.next, σ') :=
  show exName I c σ x v = _ from bind_of h ((if_pos hm).trans ((if_pos hf).trans (map_of hs)))
theorem aa_nil : asgAll c [] [] σ = some σ := rfl
theorem aa_cons {ts : List Expr} {ds : List PV} (hm : c.mu.contains x = false) (hs : σ.set c x (.fro d) = some σ₁) (h : asgAll c ts ds σ₁ = some σ') : asgAll c (.Name x q :: ts) (d :: ds) σ = some σ' :=
  show (if c.mu.contains x then none else (σ.set c x (.fro d)).bind fun σ' => asgAll c ts ds σ') = _ from (if_neg (by rw [hm]; decide)).trans (bind_of hs h)
theorem x_tup {ts : List Expr} {k : Nat} {ds : List PV} (hv : (asTup v).isSome = false) (h : I.ev c σ v = some (.tup ds)) (ha : asgAll c ts ds σ = some σ') : exStep I c σ (.Assign [.Tuple ts k q] v p) = some (.next, σ') :=
  show exTup I c σ (.Tuple ts k q) v = _ from (if_neg (by rw [hv]; decide)).trans (bind_of h (map_of (show asgAll c ts ds σ = _ from ha)))
theorem own_of {dl : List (Key × PV)} (h : σ.get c x = some (.own (.dict dl))) : ownDict c σ x = some dl := bind_of (bind_of h rfl) rfl
theorem x_sub {dl : List (Key × PV)} {k : Key} (hs0 : asSlice i = none) (h : I.ev c σ v = some d) (hx : σ.get c x = some (.own (.dict dl))) (hk : I.ev c σ i = some a) (hka : a.key = some k) (hl : dl.length < 100000) (hs : σ.set c x (.own (.dict (dset dl k d))) = some σ') :
    exStep I c σ (.Assign [.Subscript (.Name x q) i p'] v p) = some (.next, σ') :=
  show exSub I c σ (.Name x q) i v = _ from bind_of (u := some x) (a := x) rfl ((if_neg (by rw [hs0]; decide)).trans (bind_of h (both_of (own_of hx) (bind_of hk hka) ((if_pos hl).trans (map_of hs)))))
theorem x_aug {op : Operator} {j k : Int} (hm : c.mu.contains x = false) (hx : σ.get c x = some (.fro (.int j))) (h : evB I c σ v = some (.int k)) (hr : pbin op (.int j) (.int k) = some r) (hs : σ.set c x (.fro r) = some σ') : exStep I c σ (.AugAssign (.Name x q) op v p) = some (.next, σ') :=
  show exAugName I c σ x op v = _ from both_of (bind_of (bind_of hx rfl) rfl) (bind_of h rfl) ((if_neg (by rw [hm]; decide)).trans (bind_of hr (map_of hs)))
theorem x_augsub {op : Operator} {dl : List (Key × PV)} {k : Key} {u w : Int} (hx : σ.get c x = some (.own (.dict dl))) (hy : σ.get c y = some (.fro a)) (hk : a.key = some k) (hg : dget dl k = some (.int u)) (h : I.ev c σ v = some (.int w)) (hr : pbin op (.int u) (.int w) = some r) (hl : dl.length < 100000)
    (hs : σ.set c x (.own (.dict (dset dl k r))) = some σ') : exStep I c σ (.AugAssign (.Subscript (.Name x q) (.Name y p') p'') op v p) = some (.next, σ') :=
  show exAugSub I c σ x y op v = _ from (both_of (own_of hx) (bind_of (bind_of hy rfl) hk) (both_of (bind_of hg rfl) (bind_of h rfl) (bind_of hr ((if_pos hl).trans (map_of hs)))))
theorem x_ift {t : Expr} {u w : List Stmt} (ht : I.ts c σ t = some true) (h : I.ex c σ u = o) : exStep I c σ (.If t u w p) = o := bind_of ht h
theorem x_iff {t : Expr} {u w : List Stmt} (ht : I.ts c σ t = some false) (h : I.ex c σ w = o) : exStep I c σ (.If t u w p) = o := bind_of ht h
theorem ex_of {T : Tx} {n : Nat} {b : List Stmt} (h : exList (run T n) c b σ = o) : (run T (n + 1)).ex c σ b = o := h
theorem x_for {t it : Expr} {ds : List PV} (hn : meth0 (Str.ofString "items") it = none) (hi : evIter I c σ it = some ds) (h : forLoop I c t body ds σ = o) : exStep I c σ (.For t it body [] p) = o := by
  show exFor I c σ t it body = o
  unfold exFor
  rw [hn]
  exact bind_of hi h
theorem x_items {t it u : Expr} {dl : List (Key × PV)} (hn : meth0 (Str.ofString "items") it = some u) (ht : twoNames t = true) (hi : I.ev c σ u = some (.dict dl)) (h : forItems I c t body dl σ = o) : exStep I c σ (.For t it body [] p) = o := by
  show exFor I c σ t it body = o
  unfold exFor
  rw [hn]
  exact (if_pos ht).trans (bind_of (bind_of hi rfl) h)
theorem meth0_is {o : Expr} {m w : Str} {ap : Pos} (hm : decide (m = w) = true) (hk : okM o ap p = true) : meth0 w (.Call (.Attribute o m ap) [] [] p) = some o := if_pos ⟨of_decide_eq_true hm, hk, rfl, rfl⟩
theorem x_itm {t u : Expr} {m : Str} {ap : Pos} {dl : List (Key × PV)} (hm : decide (m = Str.ofString "items") = true) (hk : okM u ap q = true) (ht : twoNames t = true) (hi : I.ev c σ u = some (.dict dl)) (h : forItems I c t body dl σ = o) : exStep I c σ (.For t (.Call (.Attribute u m ap) [] [] q) body [] p) = o :=
  x_items (meth0_is hm hk) ht hi h
theorem x_ret (h : I.ev c σ.freeze e = some d) : exStep I c σ (.Return (some e) p) = some (.ret d, σ) := show exRet I c σ (some e) = _ from map_of h
theorem x_app {u : Expr} {dl : List PV} (hn : appArg e = some (x, u)) (hx : σ.get c x = some (.own (.list dl))) (h : I.ev c σ u = some d) (hl : dl.length < 100000) (hs : σ.set c x (.own (.list (dl ++ [d]))) = some σ') : exStep I c σ (.Expr e p) = some (.next, σ') :=
  show exExpr I c σ e = _ from bind_of hn (show exApp I c σ x u = _ from both_of (bind_of (bind_of hx rfl) rfl) h ((if_pos hl).trans (map_of hs)))
theorem x_push {u : Expr} {m : Str} {ap : Pos} {dl : List PV} (hm : decide (m = Str.ofString "append") = true) (hp : (ap.endLine == p'.line) = true) (hx : σ.get c x = some (.own (.list dl))) (h : I.ev c σ u = some d) (hl : dl.length < 100000) (hs : σ.set c x (.own (.list (dl ++ [d]))) = some σ') :
    exStep I c σ (.Expr (.Call (.Attribute (.Name x q) m ap) [u] [] p') p) = some (.next, σ') :=
  x_app (if_pos ⟨of_decide_eq_true hm, hp, rfl⟩) hx h hl hs
theorem l_nil : exList I c [] σ = some (.next, σ) := rfl
theorem l_next {s : Stmt} {ss : List Stmt} (h : exStep I c σ s = some (.next, σ₁)) (h2 : exList I c ss σ₁ = o) : exList I c (s :: ss) σ = o := bind_of h h2
theorem l_ret {s : Stmt} {ss : List Stmt} (h : exStep I c σ s = some (.ret d, σ₁)) : exList I c (s :: ss) σ = some (.ret d, σ₁) := bind_of h rfl
theorem l_one {s : Stmt} (h : exStep I c σ s = some (fl, σ₁)) : exList I c [s] σ = some (fl, σ₁) := by
  refine bind_of h ?_
  cases fl <;> rfl
theorem as_name (hm : c.mu.contains x = false) (hs : σ.set c x (.fro d) = some σ') : asg c (.Name x q) d σ = some σ' := (if_neg (by rw [hm]; decide)).trans hs
theorem as_tup {ts : List Expr} {k : Nat} {ds : List PV} (h : asgAll c ts ds σ = some σ') : asg c (.Tuple ts k q) (.tup ds) σ = some σ' := both_of (u := asTup (.Tuple ts k q)) rfl rfl h
theorem fl_cons {t : Expr} {ds : List PV} (h1 : asg c t d σ = some σ₁) (h2 : I.ex c σ₁ body = some (.next, σ')) (h3 : forLoop I c t body ds σ' = o) : forLoop I c t body (d :: ds) σ = o := bind_of h1 (bind_of h2 h3)
theorem fi_cons {t : Expr} {ds : List (Key × PV)} {k : Key} (h1 : asg c t (.tup [k.pv, d]) σ = some σ₁) (h2 : I.ex c σ₁ body = some (.next, σ')) (h3 : forItems I c t body ds σ' = o) : forItems I c t body ((k, d) :: ds) σ = o := bind_of h1 (bind_of h2 h3)
theorem w_stop {t : Expr} {N : Nat} (h : I.ts c σ t = some false) : whileLoop I c t body (N + 1) σ = some (.next, σ) := bind_of h rfl
theorem w_go {t : Expr} {N : Nat} (h : I.ts c σ t = some true) (h2 : I.ex c σ body = some (.next, σ₁)) (h3 : whileLoop I c t body N σ₁ = o) : whileLoop I c t body (N + 1) σ = o := bind_of h ((if_pos rfl).trans (bind_of h2 h3))
theorem it_list {ds : List PV} (hr : rangeArg c e = none) (hv : meth0 (Str.ofString "values") e = none) (h : I.ev c σ e = some d) (hp : piter d = some ds) : evIter I c σ e = some ds := by
  unfold evIter
  rw [hr]
  dsimp only
  rw [hv]
  exact bind_of h hp
theorem it_range {k : Int} (hr : rangeArg c e = some l) (h : I.ev c σ l = some (.int k)) (hk : -100000 ≤ k ∧ k < 100000) : evIter I c σ e = some ((List.range k.toNat).map fun (i : Nat) => .int (i : Int)) := by
  unfold evIter
  rw [hr]
  exact bind_of h (bind_of (u := PV.int? (.int k)) rfl (if_pos hk))
theorem it_vals {dl : List (Key × PV)} (hr : rangeArg c e = none) (hv : meth0 (Str.ofString "values") e = some l) (h : I.ev c σ l = some (.dict dl)) : evIter I c σ e = some (dl.map (·.2)) := by
  unfold evIter
  rw [hr]
  dsimp only
  rw [hv]
  exact bind_of h rfl
theorem it_rng {f : Str} {k : Int} (hf : decide (f = Str.ofString "range") = true) (hg : c.sc f = some .globalImplicit) (h : I.ev c σ l = some (.int k)) (hk : -100000 ≤ k ∧ k < 100000) : evIter I c σ (.Call (.Name f q) [l] [] p) = some ((List.range k.toNat).map fun (i : Nat) => .int (i : Int)) := by
  cases of_decide_eq_true hf
  exact it_range (if_pos ⟨rfl, hg, rfl⟩) h hk
theorem it_rngc {T : Tx} {n : Nat} {f : Str} {k : Int} {kk : Nat} (hf : decide (f = Str.ofString "range") = true) (hg : c.sc f = some .globalImplicit) (hk : -100000 ≤ k ∧ k < 100000) : evIter (run T (n + 1)) c σ (.Call (.Name f q) [.Constant (.int k) kk p'] [] p) = some ((List.range k.toNat).map fun (i : Nat) => .int (i : Int)) :=
  it_rng hf hg rfl hk
theorem it_val {m : Str} {ap : Pos} {dl : List (Key × PV)} (hm : decide (m = Str.ofString "values") = true) (hk : okM l ap p = true) (h : I.ev c σ l = some (.dict dl)) : evIter I c σ (.Call (.Attribute l m ap) [] [] p) = some (dl.map (·.2)) :=
  it_vals rfl (meth0_is hm hk) h
theorem pi_list {ds : List PV} : piter (.list ds) = some ds := rfl
theorem pi_tup {ds : List PV} : piter (.tup ds) = some ds := rfl
theorem pi_dict {dl : List (Key × PV)} : piter (.dict dl) = some (dl.map (·.1.pv)) := rfl
/-! comprehensions -/
theorem e_lcomp {elt : Expr} {gens : List Comprehension} {sc : Scope} {ds : List PV} (h : evComp (run T n) c σ sc (fun c' σ' => (run T n).ev c' σ' elt) gens = some ds) : (run T (n + 1)).ev c σ (.ListComp elt gens sc p) = some (.list ds) := map_of h
theorem e_dcomp {k u : Expr} {gens : List Comprehension} {sc : Scope} {dl : List (Key × PV)} (h : evComp (run T n) c σ sc (outPair (run T n) k u) gens = some dl) : (run T (n + 1)).ev c σ (.DictComp k u gens sc p) = some (.dict (dsetAll [] dl)) := map_of h
theorem out_pair {k u : Expr} {key : Key} (h1 : I.ev c σ k = some a) (hk : a.key = some key) (h2 : I.ev c σ u = some b) : outPair I k u c σ = some (key, b) := both_of (bind_of h1 hk) h2 rfl
theorem loop_map {α β : Type} {t it : Expr} {ai : Int} {out : St → Option α} (enc : β → PV) (f : β → α) {cel : List (Str × LV)} (st : β → List (Str × LV) → List (Str × LV)) : ∀ (ds : List β), (∀ d ∈ ds, ∀ m, asg c t (enc d) ⟨m, cel⟩ = some ⟨st d m, cel⟩ ∧ out ⟨st d m, cel⟩ = some (f d)) →
    ∀ m, ∃ m', compLoop I c ⟨t, it, [], ai⟩ (compGens I c out []) (ds.map enc) ⟨m, cel⟩ = some (ds.map f, ⟨m', cel⟩)
  | [], _, m => ⟨m, rfl⟩
  | d :: ds, h, m => by
    obtain ⟨h1, h2⟩ := h d List.mem_cons_self m
    obtain ⟨m', e⟩ := loop_map enc f st ds (fun d' hd' => h d' (List.mem_cons_of_mem _ hd')) (st d m)
    exact ⟨m', bind_of h1 (bind_of (u := ifsAll I c ⟨st d m, cel⟩ []) rfl ((if_pos rfl).trans (bind_of (map_of h2) (map_of e))))⟩
theorem loop_filt {α β : Type} {t it g : Expr} {ai : Int} {out : St → Option α} (enc : β → PV) (f : β → α) (w : β → Bool) {cel : List (Str × LV)} (st : β → List (Str × LV) → List (Str × LV)) : ∀ (ds : List β), (∀ d ∈ ds, ∀ m, asg c t (enc d) ⟨m, cel⟩ = some ⟨st d m, cel⟩ ∧ I.ts c ⟨st d m, cel⟩ g = some (w d) ∧ (w d = true → out ⟨st d m, cel⟩ = some (f d))) →
    ∀ m, ∃ m', compLoop I c ⟨t, it, [g], ai⟩ (compGens I c out []) (ds.map enc) ⟨m, cel⟩ = some ((ds.filter w).map f, ⟨m', cel⟩)
  | [], _, m => ⟨m, rfl⟩
  | d :: ds, h, m => by
    obtain ⟨h1, h2, h3⟩ := h d List.mem_cons_self m
    obtain ⟨m', e⟩ := loop_filt enc f w st ds (fun d' hd' => h d' (List.mem_cons_of_mem _ hd')) (st d m)
    refine ⟨m', bind_of h1 ?_⟩
    rw [List.filter_cons]
    cases hw : w d with
    | true =>
      rw [hw] at h2
      exact bind_of (u := ifsAll I c ⟨st d m, cel⟩ [g]) (bind_of h2 rfl) ((if_pos rfl).trans (bind_of (map_of (h3 hw)) (map_of e)))
    | false =>
      rw [hw] at h2
      exact bind_of (u := ifsAll I c ⟨st d m, cel⟩ [g]) (bind_of h2 rfl) e
theorem c_map {α β : Type} {t it : Expr} {sc : Scope} {out : Cx → St → Option α} (enc : β → PV) (f : β → α) (st : β → List (Str × LV) → List (Str × LV)) {ds : List β} (hok : okScope sc c.sc σ [⟨t, it, [], 0⟩] = true) (hi : evIter I c σ it = some (ds.map enc)) (hlen : ds.length ≤ 100000)
    (h : ∀ d ∈ ds, ∀ m, asg ⟨relab sc c.sc, []⟩ t (enc d) ⟨m, σ.cel⟩ = some ⟨st d m, σ.cel⟩ ∧ out ⟨relab sc c.sc, []⟩ ⟨st d m, σ.cel⟩ = some (f d)) : evComp I c σ sc out [⟨t, it, [], 0⟩] = some (ds.map f) := by
  obtain ⟨m', e⟩ := loop_map (I := I) (it := it) (ai := 0) enc f st ds h []
  refine (if_pos (by rw [hok]; rfl)).trans (bind_of hi (bind_of e (if_pos ?_)))
  rw [List.length_map]; exact hlen
theorem c_filt {α β : Type} {t it g : Expr} {sc : Scope} {out : Cx → St → Option α} (enc : β → PV) (f : β → α) (w : β → Bool) (st : β → List (Str × LV) → List (Str × LV)) {ds : List β} (hok : okScope sc c.sc σ [⟨t, it, [g], 0⟩] = true) (hi : evIter I c σ it = some (ds.map enc)) (hlen : ds.length ≤ 100000)
    (h : ∀ d ∈ ds, ∀ m, asg ⟨relab sc c.sc, []⟩ t (enc d) ⟨m, σ.cel⟩ = some ⟨st d m, σ.cel⟩ ∧ I.ts ⟨relab sc c.sc, []⟩ ⟨st d m, σ.cel⟩ g = some (w d) ∧ (w d = true → out ⟨relab sc c.sc, []⟩ ⟨st d m, σ.cel⟩ = some (f d))) : evComp I c σ sc out [⟨t, it, [g], 0⟩] = some ((ds.filter w).map f) := by
  obtain ⟨m', e⟩ := loop_filt (I := I) (it := it) (ai := 0) enc f w st ds h []
  refine (if_pos (by rw [hok]; rfl)).trans (bind_of hi (bind_of e (if_pos ?_)))
  rw [List.length_map]
  exact Nat.le_trans (List.length_filter_le _ _) hlen
/-! loops with a relation kept -/
theorem for_invN {α S : Type} {t : Expr} (enc : α → PV) (P : Nat → S → St → Prop) (f : S → α → S) (N : Nat) : ∀ (ds : List α), (∀ d ∈ ds, ∀ k s σ, k < N → P k s σ → ∃ σ₁, asg c t (enc d) σ = some σ₁ ∧ ∃ σ₂, I.ex c σ₁ body = some (.next, σ₂) ∧ P (k + 1) (f s d) σ₂) →
    ∀ k s σ, k + ds.length ≤ N → P k s σ → ∃ σ', forLoop I c t body (ds.map enc) σ = some (.next, σ') ∧ P (k + ds.length) (ds.foldl f s) σ'
  | [], _, k, s, σ, _, p => ⟨σ, rfl, p⟩
  | d :: ds, h, k, s, σ, hN, p => by
    have hN' : k + 1 + ds.length ≤ N := by rw [List.length_cons] at hN; omega
    obtain ⟨σ₁, e1, σ₂, e2, p2⟩ := h d List.mem_cons_self k s σ (by omega) p
    obtain ⟨σ₃, e3, p3⟩ := for_invN enc P f N ds (fun d' hd' => h d' (List.mem_cons_of_mem _ hd')) (k + 1) (f s d) σ₂ hN' p2
    refine ⟨σ₃, fl_cons e1 e2 e3, ?_⟩
    rw [List.foldl_cons, List.length_cons, show k + (ds.length + 1) = k + 1 + ds.length by omega]
    exact p3
/-- a def is called -/
theorem cl_of {f : Str} {args : List PV} {D : Def} (hf : (T.D ++ T.M).find? (fun d => decide (d.name = f)) = some D) (hb : bindArgs0 (fun x => D.scope.names.lookup x) D.params.args args ⟨[], []⟩ = some σ) (h : exList (run T n) (defCx D) D.body σ = some (.ret r, σ')) : (run T (n + 2)).cl f args = some r :=
  bind_of hf (bind_of hb (map_of (f := fun r => r.1.val) h))
end
/-! operators -/
theorem pbin_add (a b : Int) : pbin .Add (.int a) (.int b) = some (.int (a + b)) := rfl
theorem pbin_sub (a b : Int) : pbin .Sub (.int a) (.int b) = some (.int (a - b)) := rfl
theorem pbin_or (a b : Int) : pbin .BitOr (.int a) (.int b) = some (.int (Builtin.bitOr a b)) := rfl
theorem pbin_and (a b : Int) : pbin .BitAnd (.int a) (.int b) = some (.int (Builtin.bitAnd a b)) := rfl
theorem pbin_mul {a b : Int} (h : mulOk a b = true) : pbin .Mult (.int a) (.int b) = some (.int (a * b)) := congrArg (Option.map PV.int) (if_pos h : pint .Mult a b = _)
theorem pbin_mod {a b : Int} (h : b ≠ 0) : pbin .Mod (.int a) (.int b) = some (.int (a.fmod b)) := congrArg (Option.map PV.int) (if_neg h : pint .Mod a b = _)
theorem pbin_fdiv {a b : Int} (h : ¬ (b = 0 ∨ 1000000000 < b.natAbs)) : pbin .FloorDiv (.int a) (.int b) = some (.int (a.fdiv b)) := congrArg (Option.map PV.int) (if_neg h : pint .FloorDiv a b = _)
theorem pbin_pow {a b : Int} (h : 0 ≤ b ∧ b ≤ 1000 ∧ a.natAbs < 2 ^ 64) : pbin .Pow (.int a) (.int b) = some (.int (a ^ b.toNat)) := congrArg (Option.map PV.int) (if_pos h : pint .Pow a b = _)
theorem pbin_addl {a b : List PV} (h : a.length + b.length ≤ 100000) : pbin .Add (.list a) (.list b) = some (.list (a ++ b)) := if_pos h
theorem mulOk_small {a b : Int} (ha : a.natAbs ≤ 1000000000) (hb : b.natAbs ≤ 1000000000) : mulOk a b = true := by
  have h : 1000000000 < 2 ^ 4096 := by decide +kernel
  unfold mulOk
  rw [Bool.and_eq_true, decide_eq_true_eq, decide_eq_true_eq]
  exact ⟨Nat.lt_of_le_of_lt ha h, Nat.lt_of_le_of_lt hb h⟩
theorem pget_list {l : List PV} {i : Int} (h : okAt i = true) : pget (.list l) (.int i) = l[i.toNat]? := if_pos h
theorem pints_map : ∀ l : List Int, pints (l.map .int) = some l
  | [] => rfl
  | x :: l => both_of (u := PV.int? (.int x)) rfl (pints_map l) rfl
theorem p_sum (l : List Int) : pone (Str.ofString "sum") (.list (l.map .int)) = some (.int l.sum) := (if_neg (by decide)).trans ((if_pos rfl).trans (bind_of (u := PV.list? (.list (l.map .int))) rfl (map_of (pints_map l))))
theorem p_len {l : List PV} (h : l.length < 1000000000) : pone (Str.ofString "len") (.list l) = some (.int l.length) := (if_pos rfl).trans (if_pos h)
theorem c_eqi (a b : Int) : pcmp .Eq (.int a) (.int b) = some (a == b) := rfl
theorem c_nei (a b : Int) : pcmp .NotEq (.int a) (.int b) = some (!(a == b)) := rfl
theorem c_lti (a b : Int) : pcmp .Lt (.int a) (.int b) = some (decide (a < b)) := rfl
theorem c_gti (a b : Int) : pcmp .Gt (.int a) (.int b) = some (decide (b < a)) := rfl
theorem c_in {l : List (Key × PV)} {k : Key} {d : PV} (h : d.key = some k) : pcmp .In d (.dict l) = some (dget l k).isSome := map_of (f := fun k => (dget l k).isSome) h
theorem tr_bool (b : Bool) : ptruth (.bool b) = some b := rfl
end Mine
end
section
open PySem Mine
local macro_rules | `(tactic| walk_at "pv") => `(tactic| first
  | with_reducible first
    | (show _ = _; assumption)
    | (show _ < _; assumption)
    | exact lk_hit
    | refine' lk_miss (by kernel_rfl) ?_
    | exact d_fro
    | exact d_own
    | exact fz_fro
    | exact fz_own
    | exact e_int
    | exact e_str
    | exact k_int
    | exact all_nil
    | refine' all_cons ?_ ?_
    | refine' e_name ?_
    | refine' B_name ?_ ?_
    | refine' B_ev (by kernel_rfl) ?_
    | refine' g_loc (by decide +kernel) ?_
    | refine' g_cel (by decide +kernel) ?_
    | exact s_loc (by decide +kernel)
    | exact s_cel (by decide +kernel)
    | refine' fz_loc ?_ ?_
    | refine' fz_cel ?_ ?_
    | refine' e_bin ?_ ?_ ?_
    | refine' e_un ?_ ?_
    | refine' e_cmp ?_ ?_ ?_
    | refine' e_tup ?_ (by decide)
    | refine' e_list ?_ (by decide)
    | exact pr_nil
    | refine' pr_cons ?_ ?_ ?_ ?_
    | refine' e_dict ?_ (by decide)
    | refine' e_slice ?_ ?_ ?_ ?_ ?_
    | refine' e_sub (by kernel_rfl) ?_ ?_ ?_
    | exact o_none
    | refine' o_some ?_
    | refine' e_isi (by decide +kernel) (by decide +kernel) (by kernel_rfl) (by decide +kernel) ?_
    | refine' e_call (by decide +kernel) (by decide +kernel) ?_ ?_
    | refine' e_one (by decide +kernel) (by decide +kernel) (by decide +kernel) (by decide +kernel) ?_ ?_
    | refine' e_new (by decide +kernel) (by decide +kernel) (by decide +kernel) ?_
    | refine' e_get (by decide +kernel) (by kernel_rfl) ?_ ?_ ?_ ?_
    | refine' e_compare (by decide +kernel) (by kernel_rfl) (by decide) ?_ ?_ ?_
    | refine' t_cmp ?_ ?_ ?_
    | refine' t_not ?_
    | refine' t_bool ?_
    | refine' t_bin ?_ ?_
    | refine' t_call ?_ ?_
    | exact l_nil
    | refine' l_next ?_ ?_
    | refine' x_name (by kernel_rfl) ?_ ?_
    | refine' x_tup (by kernel_rfl) ?_ ?_
    | exact aa_nil
    | refine' aa_cons (by kernel_rfl) ?_ ?_
    | refine' x_sub (by kernel_rfl) ?_ ?_ ?_ ?_ ?_ ?_
    | refine' x_aug (by kernel_rfl) ?_ ?_ ?_ ?_
    | refine' x_augsub ?_ ?_ ?_ ?_ ?_ ?_ ?_ ?_
    | refine' x_ret ?_
    | refine' x_push (by kernel_rfl) (by kernel_rfl) ?_ ?_ ?_ ?_
    | exact it_rngc (by kernel_rfl) (by decide +kernel) (by decide)
    | refine' it_rng (by kernel_rfl) (by decide +kernel) ?_ (by decide)
    | refine' it_val (by kernel_rfl) (by kernel_rfl) ?_
    | exact pi_list
    | exact pi_tup
    | exact pi_dict
    | refine' as_name (by kernel_rfl) ?_
    | refine' as_tup ?_
    | exact pbin_add _ _
    | exact pbin_sub _ _
    | exact pbin_or _ _
    | exact pbin_and _ _
    | exact pbin_mod (by decide)
    | exact pbin_fdiv (by decide)
    | exact c_eqi _ _
    | exact c_nei _ _
    | exact c_lti _ _
    | exact c_gti _ _
    | exact tr_bool _
    | exact p_sum _
    | exact p_len (by assumption)
  | exact s_loc (by decide +kernel)
  | exact s_cel (by decide +kernel)
  | exact fz_fro
  | exact fz_own)
section
set_option maxRecDepth 100000
set_option linter.unusedVariables false
set_option linter.unusedSimpArgs false
namespace Mine
open PySem
noncomputable abbrev hp : Program := PySem.Challenge.pw_wn0016_03
noncomputable abbrev T1 : Tx := txOf hp
noncomputable def dAt (i : Nat) : Def := (defsOf hp.main.body).getD i noDef
noncomputable def stmtAt (d : Def) (i : Nat) : Stmt := d.body.getD i (.Pass ⟨0,0,0,0⟩)
noncomputable def getFor : Stmt → Expr × Expr × List Stmt
  | .For t it b _ _ => (t, it, b)
  | _ => (.Constant .none 0 ⟨0,0,0,0⟩, .Constant .none 0 ⟨0,0,0,0⟩, [])
noncomputable def iAS : Nat := 1
noncomputable def iAC : Nat := 2
noncomputable def iCC : Nat := 3
/-! ior -/
theorem ior_eq (n : Nat) (a b : Int) : (run T1 (n + 4)).cl (Str.ofString "ior") [.int a, .int b] = some (.int (Builtin.bitOr a b)) := by rfl
/-! TupleComp.compare -/
noncomputable def cmpD : Def := methAt hp 1
noncomputable def cmpF := getFor (stmtAt cmpD 0)
noncomputable def keyPV (k : Int × Int) : PV := .tup [.int k.1, .int k.2]
noncomputable def cmpRes (lt gt : Int → Bool) : List (Int × Int) → Option Int
  | [] => none
  | (i, d) :: r => if lt i then some (-d) else if gt i then some d else cmpRes lt gt r
theorem cmp_turn (n : Nat) (σ : St) (L R : List PV) (i d : Int) (x y : PV) (hl : σ.loc.lookup (Str.ofString "left") = some (.fro (.tup L))) (hr : σ.loc.lookup (Str.ofString "right") = some (.fro (.tup R)))
    (hx : pget (.tup L) (.int i) = some x) (hy : pget (.tup R) (.int i) = some y) (b1 b2 : Bool) (h1 : plt depth x y = some b1) (h2 : pgt depth x y = some b2) :
    ∃ σ', σ'.loc.lookup (Str.ofString "left") = some (.fro (.tup L)) ∧ σ'.loc.lookup (Str.ofString "right") = some (.fro (.tup R)) ∧ ∃ σ₁, asg (defCx cmpD) cmpF.1 (.tup [.int i, .int d]) σ = some σ₁ ∧
      exList (run T1 (n + 6)) (defCx cmpD) cmpF.2.2 σ₁ = some (bif b1 then .ret (.int (-d)) else bif b2 then .ret (.int d) else .next, σ') := by
  have c1 : pcmp .Lt x y = some b1 := h1
  have c2 : pcmp .Gt x y = some b2 := h2
  have u1 : pun .USub (.int d) = some (.int (-d)) := rfl
  refine ⟨⟨aset (aset (aset (aset σ.loc (Str.ofString "index") (.fro (.int i))) (Str.ofString "direction") (.fro (.int d))) (Str.ofString "l") (.fro x)) (Str.ofString "r") (.fro y), σ.cel⟩, ?_, ?_, ⟨aset (aset σ.loc (Str.ofString "index") (.fro (.int i))) (Str.ofString "direction") (.fro (.int d)), σ.cel⟩, ?_, ?_⟩
  · repeat' walk_at "pv"
  · repeat' walk_at "pv"
  · refine' as_tup ?_
    repeat' walk_at "pv"
  · refine l_next (σ₁ := ⟨aset (aset (aset σ.loc (Str.ofString "index") (.fro (.int i))) (Str.ofString "direction") (.fro (.int d))) (Str.ofString "l") (.fro x), σ.cel⟩) ?_ ?_
    · repeat' walk_at "pv"
    refine l_next (σ₁ := ⟨aset (aset (aset (aset σ.loc (Str.ofString "index") (.fro (.int i))) (Str.ofString "direction") (.fro (.int d))) (Str.ofString "l") (.fro x)) (Str.ofString "r") (.fro y), σ.cel⟩) ?_ ?_
    · repeat' walk_at "pv"
    cases b1 with
    | true => dsimp only [cond_true, cond_false]; exact l_ret (x_ift (by repeat' walk_at "pv") (ex_of (l_one (by repeat' walk_at "pv"))))
    | false =>
      refine l_next (x_iff (by repeat' walk_at "pv") (ex_of l_nil)) ?_
      cases b2 with
      | true => dsimp only [cond_true, cond_false]; exact l_one (x_ift (by repeat' walk_at "pv") (ex_of (l_one (by repeat' walk_at "pv"))))
      | false => dsimp only [cond_true, cond_false]; exact l_one (x_iff (by repeat' walk_at "pv") (ex_of l_nil))
theorem cmp_loop (n : Nat) (L R : List PV) (lt gt : Int → Bool) : ∀ (ks : List (Int × Int)) (σ : St), σ.loc.lookup (Str.ofString "left") = some (.fro (.tup L)) → σ.loc.lookup (Str.ofString "right") = some (.fro (.tup R)) →
    (∀ k ∈ ks, ∃ x y, pget (.tup L) (.int k.1) = some x ∧ pget (.tup R) (.int k.1) = some y ∧ plt depth x y = some (lt k.1) ∧ pgt depth x y = some (gt k.1)) →
    ∃ σ', forLoop (run T1 (n + 7)) (defCx cmpD) cmpF.1 cmpF.2.2 (ks.map keyPV) σ = some ((match cmpRes lt gt ks with | some v => .ret (.int v) | none => .next), σ')
  | [], σ, _, _, _ => ⟨σ, rfl⟩
  | (i, d) :: ks, σ, hl, hr, h => by
    obtain ⟨x, y, hx, hy, h1, h2⟩ := h (i, d) List.mem_cons_self
    obtain ⟨σ', g1, g2, σ₁, e1, e2⟩ := cmp_turn n σ L R i d x y hl hr hx hy _ _ h1 h2
    unfold cmpRes
    cases hlt : lt i with
    | true =>
      rw [hlt] at e2
      exact ⟨σ', bind_of e1 (bind_of e2 rfl)⟩
    | false =>
      rw [hlt] at e2
      cases hgt : gt i with
      | true => rw [hgt] at e2; exact ⟨σ', bind_of e1 (bind_of e2 rfl)⟩
      | false =>
        rw [hgt] at e2
        obtain ⟨σ₂, e3⟩ := cmp_loop n L R lt gt ks σ' g1 g2 fun k hk => h k (List.mem_cons_of_mem _ hk)
        exact ⟨σ₂, bind_of e1 (bind_of e2 e3)⟩
theorem cmp_cl (n : Nat) (L R : List PV) (lt gt : Int → Bool) (ks : List (Int × Int))
    (h : ∀ k ∈ ks, ∃ x y, pget (.tup L) (.int k.1) = some x ∧ pget (.tup R) (.int k.1) = some y ∧ plt depth x y = some (lt k.1) ∧ pgt depth x y = some (gt k.1)) :
    (run T1 (n + 9)).cl (Str.ofString "TupleComp.compare") [.inst (.list (ks.map keyPV)), .tup L, .tup R] = some (.int ((cmpRes lt gt ks).getD 0)) := by
  let σ0 : St := ⟨[(Str.ofString "right", .fro (.tup R)), (Str.ofString "left", .fro (.tup L)), (Str.ofString "self", .fro (.inst (.list (ks.map keyPV))))], []⟩
  obtain ⟨σ', hf⟩ := cmp_loop n L R lt gt ks σ0 (by rfl) (by rfl) h
  have e0 : exList (run T1 (n + 7)) (defCx cmpD) cmpD.body σ0 = (forLoop (run T1 (n + 7)) (defCx cmpD) cmpF.1 cmpF.2.2 (ks.map keyPV) σ0).bind fun u => match u.1 with
    | .next => some (.ret (.int 0), u.2)
    | .ret _ => some u := by rfl
  rw [hf] at e0
  refine cl_of (D := cmpD) (σ := σ0) (σ' := σ') (by rfl) (by rfl) (e0.trans ?_)
  cases cmpRes lt gt ks <;> rfl
end Mine
end
section
set_option maxRecDepth 100000
set_option linter.unusedSimpArgs false
set_option linter.unusedVariables false
namespace Mine
open PySem
theorem pv_key (k : Key) : k.pv.key = some k := by cases k <;> rfl
noncomputable def acD : Def := dAt iAC
noncomputable def acF1 := getFor (stmtAt acD 1)
noncomputable def acF2 := getFor (stmtAt acD 2)
/-! dicts of ints -/
noncomputable def encD (l : List (Key × Int)) : List (Key × PV) := l.map fun p => (p.1, .int p.2)
noncomputable def iget : List (Key × Int) → Key → Option Int
  | [], _ => none
  | (k', a) :: r, k => if k' = k then some a else iget r k
noncomputable def ibump : List (Key × Int) → Key → Int → List (Key × Int)
  | [], k, v => [(k, v)]
  | (k', a) :: r, k, v => if k' = k then (k', a + v) :: r else (k', a) :: ibump r k v
theorem dget_enc (k : Key) : ∀ l : List (Key × Int), dget (encD l) k = (iget l k).map .int
  | [] => rfl
  | (k', a) :: r => by
    have ih := dget_enc k r
    by_cases h : k' = k
    · simp [dget, encD, iget, h]
    · simp only [iget, if_neg h]
      rw [← ih]
      simp [dget, encD, h]
theorem iget_none_mem {k : Key} : ∀ {l : List (Key × Int)}, iget l k = none → k ∉ l.map (·.1)
  | [], _ => by simp
  | (k', a) :: r, h => by
    unfold iget at h
    split at h
    · cases h
    · rename_i hk
      simp only [List.map_cons, List.mem_cons, not_or]
      exact ⟨fun e => hk e.symm, iget_none_mem h⟩
theorem dset_not {k : Key} {v : PV} : ∀ {l : List (Key × Int)}, k ∉ l.map (·.1) → dset (encD l) k v = encD l ++ [(k, v)] := by
  intro l h
  unfold dset
  rw [if_neg]
  simp only [List.any_eq_true, not_exists, not_and, encD, List.mem_map]
  rintro x ⟨p, hp, rfl⟩ hx
  exact h (List.mem_map.mpr ⟨p, hp, by simpa using hx⟩)
theorem map_not {k : Key} {v : PV} : ∀ {l : List (Key × Int)}, k ∉ l.map (·.1) → (encD l).map (fun kv => if kv.1 = k then (kv.1, v) else kv) = encD l
  | [], _ => rfl
  | (k', a) :: r, h => by
    simp only [List.map_cons, List.mem_cons, not_or] at h
    have ih := map_not (v := v) h.2
    have : ¬ k' = k := fun e => h.1 e.symm
    simp only [encD, List.map_cons, if_neg this, List.cons.injEq, true_and]
    exact ih
theorem ibump_new {k : Key} {v : Int} : ∀ {l : List (Key × Int)}, iget l k = none → dset (encD l) k (.int v) = encD (ibump l k v) := by
  intro l h
  rw [dset_not (iget_none_mem h)]
  induction l with
  | nil => rfl
  | cons p l ih =>
    obtain ⟨k', a⟩ := p
    unfold iget at h
    split at h
    · cases h
    · rename_i hk
      simp only [encD, List.map_cons, List.cons_append, ibump, if_neg hk, List.cons.injEq, true_and]
      exact ih h
theorem ibump_old {k : Key} {v a : Int} : ∀ {l : List (Key × Int)}, iget l k = some a → (l.map (·.1)).Nodup → dset (encD l) k (.int (a + v)) = encD (ibump l k v)
  | [], h, _ => by simp [iget] at h
  | (k', b) :: r, h, hn => by
    simp only [List.map_cons, List.nodup_cons] at hn
    unfold iget at h
    by_cases hk : k' = k
    · rw [if_pos hk] at h; cases h
      subst hk
      have := map_not (v := .int (a + v)) hn.1
      simp only [ibump, if_true, dset, encD, List.map_cons, List.any_cons, decide_true, Bool.true_or, List.cons.injEq, true_and]
      exact this
    · rw [if_neg hk] at h
      have ih := ibump_old (v := v) h hn.2
      have hany : (encD r).any (fun kv => decide (kv.1 = k)) = true := by
        have : dget (encD r) k = some (.int a) := by rw [dget_enc, h]; rfl
        cases e : (encD r).any (fun kv => decide (kv.1 = k)) with
        | true => rfl
        | false =>
          exfalso
          unfold dget at this
          have hf : (encD r).find? (fun kv => decide (kv.1 = k)) = none := by
            rw [List.find?_eq_none]
            intro x hx
            have := List.any_eq_false.mp e x hx
            simpa using this
          rw [hf] at this; cases this
      unfold dset at ih
      rw [if_pos hany] at ih
      unfold dset
      rw [if_pos (by simp only [encD, List.map_cons, List.any_cons, Bool.or_eq_true]; exact .inr hany)]
      simp only [encD, List.map_cons, if_neg hk, ibump, List.cons.injEq, true_and]
      exact ih
theorem ibump_keys (k : Key) (v : Int) : ∀ l : List (Key × Int), (ibump l k v).map (·.1) = l.map (·.1) ∨ (k ∉ l.map (·.1) ∧ (ibump l k v).map (·.1) = l.map (·.1) ++ [k])
  | [] => .inr ⟨by simp, rfl⟩
  | (k', a) :: r => by
    unfold ibump
    by_cases hk : k' = k
    · rw [if_pos hk]; exact .inl rfl
    · rw [if_neg hk]
      rcases ibump_keys k v r with h | ⟨h1, h2⟩
      · exact .inl (by simp [h])
      · refine .inr ⟨?_, by simp [h2]⟩
        simp only [List.map_cons, List.mem_cons, not_or]
        exact ⟨fun e => hk e.symm, h1⟩
theorem ibump_nodup {k : Key} {v : Int} {l : List (Key × Int)} (h : (l.map (·.1)).Nodup) : ((ibump l k v).map (·.1)).Nodup := by
  rcases ibump_keys k v l with e | ⟨h1, h2⟩
  · rw [e]; exact h
  · rw [h2]
    exact List.nodup_append.mpr ⟨h, by simp, fun a ha b hb e => h1 (by simp at hb; rw [← hb, ← e]; exact ha)⟩
theorem ibump_len (k : Key) (v : Int) (l : List (Key × Int)) : (ibump l k v).length ≤ l.length + 1 := by
  rcases ibump_keys k v l with e | ⟨_, h2⟩
  · have := congrArg List.length e; simp at this; omega
  · have := congrArg List.length h2; simp at this; omega
noncomputable def ibumpAll (l s : List (Key × Int)) : List (Key × Int) := s.foldl (fun l p => ibump l p.1 p.2) l
theorem dsetAll_nodup : ∀ (l acc : List (Key × Int)), ((acc ++ l).map (·.1)).Nodup → dsetAll (encD acc) (encD l) = encD (acc ++ l)
  | [], acc, _ => by simp [encD, dsetAll]
  | (k, v) :: l, acc, h => by
    have hk : k ∉ acc.map (·.1) := by
      intro hm
      rw [List.map_append, List.nodup_append] at h
      exact h.2.2 k hm k (by simp) rfl
    show dsetAll (dset (encD acc) k (.int v)) (encD l) = _
    rw [dset_not hk]
    have := dsetAll_nodup l (acc ++ [(k, v)]) (by simpa using h)
    simpa [encD] using this
structure AcAt (src : List (Key × PV)) (k : Nat) (acc : List (Key × PV)) (σ : St) : Prop where
  nc : σ.loc.lookup (Str.ofString "new_callers") = some (.own (.dict acc))
  so : σ.loc.lookup (Str.ofString "source") = some (.fro (.dict src))
  len : acc.length ≤ k
theorem ac_turn1 (n : Nat) (src : List (Key × PV)) (k : Nat) (hk : k < 100000) (acc : List (Key × PV)) (σ : St) (L : AcAt src k acc σ) (key : Key) (d : PV) :
    ∃ σ₁, asg (defCx acD) acF1.1 (.tup [key.pv, d]) σ = some σ₁ ∧ ∃ σ₂, (run T1 (n + 6)).ex (defCx acD) σ₁ acF1.2.2 = some (.next, σ₂) ∧ AcAt src (k + 1) (dset acc key d) σ₂ := by
  obtain ⟨h1, h2, h3⟩ := L
  have hkey := pv_key key
  have hlen : acc.length < 100000 := Nat.lt_of_le_of_lt h3 hk
  refine ⟨⟨aset (aset σ.loc (Str.ofString "func") (.fro key.pv)) (Str.ofString "caller") (.fro d), σ.cel⟩, ?_, ⟨aset (aset (aset σ.loc (Str.ofString "func") (.fro key.pv)) (Str.ofString "caller") (.fro d)) (Str.ofString "new_callers") (.own (.dict (dset acc key d))), σ.cel⟩, ex_of (l_one ?_), ?_, ?_, ?_⟩
  · refine' as_tup ?_
    repeat' walk_at "pv"
  · refine' x_sub (by kernel_rfl) ?_ ?_ ?_ ?_ ?_ ?_
    all_goals repeat' walk_at "pv"
  · exact lk_hit
  · repeat' walk_at "pv"
  · exact Nat.le_trans (dset_length_le acc key d) (Nat.succ_le_succ h3)
theorem foldl_dset : ∀ (l acc : List (Key × PV)), l.foldl (fun a p => dset a p.1 p.2) acc = dsetAll acc l
  | [], _ => rfl
  | p :: l, acc => foldl_dset l (dset acc p.1 p.2)
theorem items_invN {α S : Type} {I : Itp} {c : Cx} {body : List Stmt} {t : Expr} (k : α → Key) (v : α → PV) (P : Nat → S → St → Prop) (f : S → α → S) (N : Nat) : ∀ (ds : List α), (∀ d ∈ ds, ∀ j s σ, j < N → P j s σ → ∃ σ₁, asg c t (.tup [(k d).pv, v d]) σ = some σ₁ ∧ ∃ σ₂, I.ex c σ₁ body = some (.next, σ₂) ∧ P (j + 1) (f s d) σ₂) →
    ∀ j s σ, j + ds.length ≤ N → P j s σ → ∃ σ', forItems I c t body (ds.map fun d => (k d, v d)) σ = some (.next, σ') ∧ P (j + ds.length) (ds.foldl f s) σ'
  | [], _, j, s, σ, _, p => ⟨σ, rfl, p⟩
  | d :: ds, h, j, s, σ, hN, p => by
    have hN' : j + 1 + ds.length ≤ N := by rw [List.length_cons] at hN; omega
    obtain ⟨σ₁, e1, σ₂, e2, p2⟩ := h d List.mem_cons_self j s σ (by omega) p
    obtain ⟨σ₃, e3, p3⟩ := items_invN k v P f N ds (fun d' hd' => h d' (List.mem_cons_of_mem _ hd')) (j + 1) (f s d) σ₂ hN' p2
    refine ⟨σ₃, fi_cons e1 e2 e3, ?_⟩
    rw [List.foldl_cons, List.length_cons, show j + (ds.length + 1) = j + 1 + ds.length by omega]
    exact p3
structure AdAt (k : Nat) (acc : List (Key × Int)) (σ : St) : Prop where
  nc : σ.loc.lookup (Str.ofString "new_callers") = some (.own (.dict (encD acc)))
  nd : (acc.map (·.1)).Nodup
  len : acc.length ≤ k
theorem ac_turn2 (n : Nat) (k : Nat) (hk : k < 100000) (acc : List (Key × Int)) (σ : St) (L : AdAt k acc σ) (key : Key) (v : Int) :
    ∃ σ₁, asg (defCx acD) acF2.1 (.tup [key.pv, .int v]) σ = some σ₁ ∧ ∃ σ₂, (run T1 (n + 8)).ex (defCx acD) σ₁ acF2.2.2 = some (.next, σ₂) ∧ AdAt (k + 1) (ibump acc key v) σ₂ := by
  obtain ⟨h1, h2, h3⟩ := L
  have hkey := pv_key key
  have hlen : (encD acc).length < 100000 := by unfold encD; rw [List.length_map]; exact Nat.lt_of_le_of_lt h3 hk
  refine ⟨⟨aset (aset σ.loc (Str.ofString "func") (.fro key.pv)) (Str.ofString "caller") (.fro (.int v)), σ.cel⟩, ?_, ⟨aset (aset (aset σ.loc (Str.ofString "func") (.fro key.pv)) (Str.ofString "caller") (.fro (.int v))) (Str.ofString "new_callers") (.own (.dict (encD (ibump acc key v)))), σ.cel⟩, ex_of (l_one ?_), ?_, ?_, ?_⟩
  · refine' as_tup ?_
    repeat' walk_at "pv"
  · cases hg : iget acc key with
    | none =>
      have hd : (dget (encD acc) key).isSome = false := by rw [dget_enc, hg]; rfl
      have hin : pcmp .In key.pv (.dict (encD acc)) = some false := by rw [c_in hkey, hd]
      have hs := ibump_new (v := v) hg
      refine x_iff ?_ (ex_of (l_one ?_))
      · refine' t_cmp ?_ ?_ ?_
        all_goals repeat' walk_at "pv"
      · rw [← hs]
        refine' x_sub (by kernel_rfl) ?_ ?_ ?_ ?_ ?_ ?_
        all_goals repeat' walk_at "pv"
    | some a =>
      have hd : dget (encD acc) key = some (.int a) := by rw [dget_enc, hg]; rfl
      have hin : pcmp .In key.pv (.dict (encD acc)) = some true := by rw [c_in hkey, hd]; rfl
      have hs := ibump_old (v := v) hg h2
      refine x_ift ?_ (ex_of (l_one (x_iff ?_ (ex_of (l_one ?_)))))
      · refine' t_cmp ?_ ?_ ?_
        all_goals repeat' walk_at "pv"
      · refine' t_call ?_ ?_
        all_goals repeat' walk_at "pv"
      · rw [← hs]
        refine' x_augsub ?_ ?_ ?_ ?_ ?_ ?_ ?_ ?_
        all_goals repeat' walk_at "pv"
  · exact lk_hit
  · exact ibump_nodup h2
  · exact Nat.le_trans (ibump_len key v acc) (Nat.succ_le_succ h3)
theorem ac_cl (n : Nat) (a s : List (Key × Int)) (hn : (a.map (·.1)).Nodup) (hl : a.length + s.length < 100000) :
    (run T1 (n + 10)).cl (Str.ofString "add_callers") [.dict (encD a), .dict (encD s)] = some (.dict (encD (ibumpAll a s))) := by
  let σ0 : St := ⟨aset (aset [] (Str.ofString "target") (.fro (.dict (encD a)))) (Str.ofString "source") (.fro (.dict (encD s))), []⟩
  let σ1 : St := ⟨aset σ0.loc (Str.ofString "new_callers") (.own (.dict [])), []⟩
  have la : (encD a).length = a.length := List.length_map ..
  obtain ⟨σ₂, e2, p2⟩ := items_invN (I := run T1 (n + 8)) (c := defCx acD) (t := acF1.1) (body := acF1.2.2) (fun p : Key × PV => p.1) (fun p => p.2) (AcAt (encD s)) (fun acc p => dset acc p.1 p.2) 99999 (encD a)
    (fun p _ j acc σ hj L => ac_turn1 (n + 2) (encD s) j (by omega) acc σ L p.1 p.2) 0 [] σ1 (by omega) ⟨by exact lk_hit, by repeat' walk_at "pv", Nat.le_refl _⟩
  rw [foldl_dset, show dsetAll [] (encD a) = encD a from dsetAll_nodup a [] hn, show (encD a).map (fun d : Key × PV => (d.1, d.2)) = encD a from List.map_id' _] at *
  obtain ⟨q1, q2, q3⟩ := p2
  obtain ⟨σ₃, e3, p3⟩ := items_invN (I := run T1 (n + 8)) (c := defCx acD) (t := acF2.1) (body := acF2.2.2) (fun p : Key × Int => p.1) (fun p => .int p.2) AdAt (fun acc p => ibump acc p.1 p.2) 99999 s
    (fun p _ j acc σ hj L => ac_turn2 n j (by omega) acc σ L p.1 p.2) a.length a σ₂ (by omega) ⟨q1, hn, Nat.le_refl _⟩
  have e3' : forItems (run T1 (n + 8)) (defCx acD) acF2.1 acF2.2.2 (encD s) σ₂ = some (.next, σ₃) := e3
  have p3 : σ₃.loc.lookup (Str.ofString "new_callers") = some (.own (.dict (encD (ibumpAll a s)))) := p3.nc
  refine cl_of (D := acD) (σ := σ0) (σ' := σ₃) (by rfl) (by rfl) ?_
  refine l_next (σ₁ := σ1) ?_ ?_
  · refine' x_own (by kernel_rfl) (by kernel_rfl) ?_ ?_
    all_goals repeat' walk_at "pv"
  refine l_next (σ₁ := σ₂) ?_ ?_
  · refine' x_itm (by kernel_rfl) (by kernel_rfl) (by kernel_rfl) ?_ e2
    repeat' walk_at "pv"
  refine l_next (σ₁ := σ₃) ?_ (l_one ?_)
  · refine' x_itm (by kernel_rfl) (by kernel_rfl) (by kernel_rfl) ?_ e3'
    repeat' walk_at "pv"
  · refine' x_ret ?_
    repeat' walk_at "pv"
/-! add_func_stats -/
noncomputable def asD : Def := dAt iAS
theorem as_cl (n : Nat) (a0 a1 a2 a3 b0 b1 b2 b3 : Int) (D D' D2 : PV) (h : (run T1 (n + 1)).cl (Str.ofString "add_callers") [D, D'] = some D2) :
    (run T1 (n + 5)).cl (Str.ofString "add_func_stats") [.tup [.int a0, .int a1, .int a2, .int a3, D], .tup [.int b0, .int b1, .int b2, .int b3, D']] = some (.tup [.int (b0 + a0), .int (b1 + a1), .int (b2 + a2), .int (b3 + a3), D2]) := by
  refine cl_of (D := asD) (σ' := ⟨aset (aset (aset (aset (aset (aset (aset (aset (aset (aset (aset (aset [] (Str.ofString "target") (.fro (.tup [.int a0, .int a1, .int a2, .int a3, D]))) (Str.ofString "source") (.fro (.tup [.int b0, .int b1, .int b2, .int b3, D']))) (Str.ofString "cc") (.fro (.int b0))) (Str.ofString "nc") (.fro (.int b1))) (Str.ofString "tt") (.fro (.int b2))) (Str.ofString "ct") (.fro (.int b3))) (Str.ofString "callers") (.fro D'))
      (Str.ofString "t_cc") (.fro (.int a0))) (Str.ofString "t_nc") (.fro (.int a1))) (Str.ofString "t_tt") (.fro (.int a2))) (Str.ofString "t_ct") (.fro (.int a3))) (Str.ofString "t_callers") (.fro D), []⟩) (σ := ⟨aset (aset [] (Str.ofString "target") (.fro (.tup [.int a0, .int a1, .int a2, .int a3, D]))) (Str.ofString "source") (.fro (.tup [.int b0, .int b1, .int b2, .int b3, D'])), []⟩) (by rfl) (by rfl) ?_
  refine l_next (σ₁ := ⟨aset (aset (aset (aset (aset (aset (aset [] (Str.ofString "target") (.fro (.tup [.int a0, .int a1, .int a2, .int a3, D]))) (Str.ofString "source") (.fro (.tup [.int b0, .int b1, .int b2, .int b3, D']))) (Str.ofString "cc") (.fro (.int b0))) (Str.ofString "nc") (.fro (.int b1))) (Str.ofString "tt") (.fro (.int b2))) (Str.ofString "ct") (.fro (.int b3))) (Str.ofString "callers") (.fro D'), []⟩) ?_ ?_
  · refine' x_tup (by kernel_rfl) ?_ ?_
    all_goals repeat' walk_at "pv"
  refine l_next (σ₁ := ⟨aset (aset (aset (aset (aset (aset (aset (aset (aset (aset (aset (aset [] (Str.ofString "target") (.fro (.tup [.int a0, .int a1, .int a2, .int a3, D]))) (Str.ofString "source") (.fro (.tup [.int b0, .int b1, .int b2, .int b3, D']))) (Str.ofString "cc") (.fro (.int b0))) (Str.ofString "nc") (.fro (.int b1))) (Str.ofString "tt") (.fro (.int b2))) (Str.ofString "ct") (.fro (.int b3))) (Str.ofString "callers") (.fro D'))
      (Str.ofString "t_cc") (.fro (.int a0))) (Str.ofString "t_nc") (.fro (.int a1))) (Str.ofString "t_tt") (.fro (.int a2))) (Str.ofString "t_ct") (.fro (.int a3))) (Str.ofString "t_callers") (.fro D), []⟩) ?_ (l_one (x_ret ?_))
  · refine' x_tup (by kernel_rfl) ?_ ?_
    all_goals repeat' walk_at "pv"
  · repeat' walk_at "pv"
/-! count_calls -/
noncomputable def ccD : Def := dAt iCC
noncomputable def sumV (l : List (Key × Int)) : Int := (l.map (·.2)).foldl (· + ·) 0
theorem cc_cl (n : Nat) (l : List (Key × Int)) : (run T1 (n + 10)).cl (Str.ofString "count_calls") [.dict (encD l)] = some (.int (sumV l)) := by
  have hv : (encD l).map (·.2) = (l.map (·.2)).map PV.int := by simp [encD]
  let σ1 : St := ⟨aset (aset [] (Str.ofString "callers") (.fro (.dict (encD l)))) (Str.ofString "nc") (.fro (.int 0)), []⟩
  obtain ⟨σ', e, p⟩ := for_invN (I := run T1 (n + 8)) (c := defCx ccD) (t := (getFor (stmtAt ccD 1)).1) (body := (getFor (stmtAt ccD 1)).2.2) PV.int (fun _ (s : Int) σ => σ.loc.lookup (Str.ofString "nc") = some (.fro (.int s))) (· + ·) (l.map (·.2)).length (l.map (·.2)) (by
    intro d _ k s σ _ p
    refine ⟨⟨aset σ.loc (Str.ofString "calls") (.fro (.int d)), σ.cel⟩, ?_, ⟨aset (aset σ.loc (Str.ofString "calls") (.fro (.int d))) (Str.ofString "nc") (.fro (.int (s + d))), σ.cel⟩, ex_of (l_one ?_), lk_hit⟩
    · refine' as_name (by kernel_rfl) ?_
      repeat' walk_at "pv"
    · refine' x_aug (by kernel_rfl) ?_ ?_ ?_ ?_
      all_goals repeat' walk_at "pv") 0 0 σ1 (by omega) lk_hit
  rw [← hv] at e
  refine cl_of (D := ccD) (σ := ⟨aset [] (Str.ofString "callers") (.fro (.dict (encD l))), []⟩) (σ' := σ') (by rfl) (by rfl) ?_
  refine l_next (σ₁ := σ1) ?_ (l_next (σ₁ := σ') ?_ (l_one ?_))
  · refine' x_name (by kernel_rfl) ?_ ?_
    all_goals repeat' walk_at "pv"
  · refine' x_for (by kernel_rfl) (it_val (by kernel_rfl) (by kernel_rfl) ?_) e
    repeat' walk_at "pv"
  · refine' x_ret ?_
    repeat' walk_at "pv"
end Mine
end
section
set_option maxRecDepth 100000
set_option linter.unusedSimpArgs false
set_option linter.unusedVariables false
namespace Mine
open PySem
/-! whole numbers below 32 -/
noncomputable abbrev iN (x : Nat) : PV := .int (x : Int)
noncomputable abbrev encN (l : List Nat) : PV := .list (l.map iN)
theorem or32 : ∀ a < 32, ∀ b < 32, Builtin.bitOr (a : Nat) (b : Nat) = ((a ||| b : Nat) : Int) ∧ a ||| b < 32 := by decide +kernel
theorem or_nat {a b : Nat} (ha : a < 32) (hb : b < 32) : pbin .BitOr (iN a) (iN b) = some (iN (a ||| b)) := (pbin_or _ _).trans (by rw [(or32 a ha b hb).1])
theorem ior_nat (n : Nat) {a b : Nat} (ha : a < 32) (hb : b < 32) : (run T1 (n + 4)).cl (Str.ofString "ior") [iN a, iN b] = some (iN (a ||| b)) := (ior_eq n a b).trans (by rw [(or32 a ha b hb).1])
theorem pin_nats (j : Nat) : ∀ l : List Nat, pin (iN j) (l.map iN) = some (l.any fun y => y == j)
  | [] => rfl
  | y :: l => both_of (u := peq depth (iN y) (iN j)) (a := y == j) (congrArg some (by rw [Bool.eq_iff_iff, beq_iff_eq, beq_iff_eq, Int.ofNat_inj])) (pin_nats j l) rfl
theorem notin_nats (j : Nat) (l : List Nat) : pcmp .NotIn (iN j) (encN l) = some (!l.any fun y => y == j) := map_of (f := (!·)) (pin_nats j l)
/-! _law_closed -/
noncomputable def coD : Def := dAt 4
noncomputable def coF := getFor (stmtAt coD 1)
noncomputable def coG := getFor (coF.2.2.getD 0 (.Pass ⟨0,0,0,0⟩))
theorem coG_all : coG.2.2 = [coG.2.2.getD 0 (.Pass ⟨0,0,0,0⟩), coG.2.2.getD 1 (.Pass ⟨0,0,0,0⟩)] := by rfl
noncomputable def uStep (m : Nat) (acc : List Nat) (x : Nat) : List Nat := bif acc.any fun y => y == (x ||| m) then acc else acc ++ [x ||| m]
noncomputable def uOne (acc : List Nat) (m : Nat) : List Nat := (m :: acc).foldl (uStep m) acc
noncomputable def closedOf (ms : List Nat) : List Nat := ms.foldl uOne []
structure CoAt (b : Nat) (m : Nat) (k : Nat) (acc : List Nat) (σ : St) : Prop where
  j : σ.loc.lookup (Str.ofString "family") = some (.own (encN acc))
  m : σ.loc.lookup (Str.ofString "mark") = some (.fro (iN m))
  n : acc.length ≤ b + k
  lt : ∀ x ∈ acc, x < 32
theorem uStep_len (m : Nat) (acc : List Nat) (k : Nat) : (uStep m acc k).length ≤ acc.length + 1 := by
  unfold uStep
  cases acc.any fun y => y == (k ||| m)
  · rw [cond_false, List.length_append]; exact Nat.le_refl _
  · exact Nat.le_succ _
theorem uStep_lt {m : Nat} {acc : List Nat} {k : Nat} (hm : m < 32) (hk : k < 32) (h : ∀ x ∈ acc, x < 32) : ∀ x ∈ uStep m acc k, x < 32 := by
  unfold uStep
  cases acc.any fun y => y == (k ||| m)
  · intro x hx
    rcases List.mem_append.mp hx with hx | hx
    · exact h x hx
    · rw [List.mem_singleton.mp hx]; exact (or32 k hk m hm).2
  · exact h
theorem co_turn (n : Nat) (b : Nat) (hb : b < 1000) (m : Nat) (hm : m < 32) (x : Nat) (hx : x < 32) (k : Nat) (hk : k < 1000) (acc : List Nat) (σ : St) (L : CoAt b m k acc σ) :
    ∃ σ₁, asg (defCx coD) coG.1 (iN x) σ = some σ₁ ∧ ∃ σ₂, (run T1 (n + 14)).ex (defCx coD) σ₁ coG.2.2 = some (.next, σ₂) ∧ CoAt b m (k + 1) (uStep m acc x) σ₂ := by
  obtain ⟨h1, h2, h3, h4⟩ := L
  let σ1 : St := ⟨aset σ.loc (Str.ofString "other") (.fro (iN x)), σ.cel⟩
  let σ2 : St := ⟨aset σ1.loc (Str.ofString "joined") (.fro (iN (x ||| m))), σ1.cel⟩
  have hn := notin_nats (x ||| m) acc
  have hjl := uStep_len m acc x
  have hjt := uStep_lt (m := m) (k := x) hm hx h4
  have e1 : exStep (run T1 (n + 13)) (defCx coD) σ1 (coG.2.2.getD 0 (.Pass ⟨0,0,0,0⟩)) = some (.next, σ2) := by
    refine' x_name (by kernel_rfl) (e_call (by decide +kernel) (by decide +kernel) ?_ (ior_nat _ hx hm)) (s_loc (by decide +kernel))
    all_goals repeat' walk_at "pv"
  have hlen : (acc.map iN).length < 100000 := by rw [List.length_map]; omega
  unfold uStep at hjl hjt ⊢
  cases ha : acc.any fun y => y == (x ||| m) with
  | true =>
    rw [ha] at hn hjl
    refine ⟨σ1, as_name (by kernel_rfl) (s_loc (by decide +kernel)), σ2, ex_of ?_, lk_miss (by kernel_rfl) (lk_miss (by kernel_rfl) h1), lk_miss (by kernel_rfl) (lk_miss (by kernel_rfl) h2), Nat.le_succ_of_le h3, h4⟩
    rw [coG_all]
    refine l_next (σ₁ := σ2) e1 (l_one ?_)
    refine' x_iff (t_cmp ?_ ?_ hn) (ex_of l_nil)
    all_goals repeat' walk_at "pv"
  | false =>
    rw [ha] at hn hjl hjt
    have hap : encN (acc ++ [x ||| m]) = .list (acc.map iN ++ [iN (x ||| m)]) := congrArg PV.list List.map_append
    refine ⟨σ1, as_name (by kernel_rfl) (s_loc (by decide +kernel)), ⟨aset σ2.loc (Str.ofString "family") (.own (.list (acc.map iN ++ [iN (x ||| m)]))), σ2.cel⟩, ex_of ?_, ?_, lk_miss (by kernel_rfl) (lk_miss (by kernel_rfl) (lk_miss (by kernel_rfl) h2)), ?_, hjt⟩
    · rw [coG_all]
      refine l_next (σ₁ := σ2) e1 (l_one ?_)
      refine' x_ift (t_cmp ?_ ?_ hn) (ex_of (l_one (x_push (by kernel_rfl) (by kernel_rfl) (dl := acc.map iN) ?_ ?_ hlen ?_)))
      all_goals repeat' walk_at "pv"
    · rw [cond_false, hap]; exact lk_hit
    · exact Nat.le_trans hjl (Nat.succ_le_succ h3)
structure CuAt (k : Nat) (acc : List Nat) (σ : St) : Prop where
  j : σ.loc.lookup (Str.ofString "family") = some (.own (encN acc))
  n : acc.length < 2 ^ k
  lt : ∀ x ∈ acc, x < 32
theorem closed_cl (n : Nat) (ms : List Nat) (hl : ms.length ≤ 4) (hm : ∀ m ∈ ms, m < 32) : (run T1 (n + 20)).cl (Str.ofString "_law_closed") [encN ms] = some (encN (closedOf ms)) ∧ (closedOf ms).length < 16 ∧ ∀ x ∈ closedOf ms, x < 32 := by
  let σ0 : St := ⟨aset [] (Str.ofString "marks") (.fro (encN ms)), []⟩
  let σ1 : St := ⟨aset σ0.loc (Str.ofString "family") (.own (.list [])), []⟩
  obtain ⟨σ', e, p⟩ := for_invN (I := run T1 (n + 18)) (c := defCx coD) (t := coF.1) (body := coF.2.2) iN CuAt uOne 4 ms (by
    rintro m hmm k acc σ hk ⟨h1, h2, h3⟩
    have hm32 := hm m hmm
    have hp : 2 ^ k ≤ 16 := Nat.pow_le_pow_right (by decide) (Nat.le_of_lt hk)
    let σ2 : St := ⟨aset σ.loc (Str.ofString "mark") (.fro (iN m)), σ.cel⟩
    have hlt : ∀ x ∈ m :: acc, x < 32 := fun x hx => by
      rcases List.mem_cons.mp hx with hx | hx
      · rw [hx]; exact hm32
      · exact h3 x hx
    obtain ⟨σ3, e3, g1, g2, g3, g4⟩ := for_invN (I := run T1 (n + 17)) (c := defCx coD) (t := coG.1) (body := coG.2.2) iN (CoAt acc.length m) (uStep m) 900 (m :: acc) (fun x hx k acc' σ hk L => co_turn (n + 3) acc.length (by omega) m hm32 x (hlt x hx) k (by omega) acc' σ L) 0 acc σ2 (by rw [List.length_cons]; omega) ⟨lk_miss (by kernel_rfl) h1, lk_hit, Nat.le_refl _, h3⟩
    have hadd : pbin .Add (.list [iN m]) (.list (acc.map iN)) = some (.list (iN m :: acc.map iN)) := pbin_addl (by rw [List.length_singleton, List.length_map]; omega)
    refine ⟨σ2, as_name (by kernel_rfl) (s_loc (by decide +kernel)), σ3, ex_of (l_one ?_), g1, ?_, g4⟩
    · refine' x_for (by kernel_rfl) (it_list (by kernel_rfl) (by kernel_rfl) (e_bin ?_ ?_ hadd) pi_list) e3
      all_goals repeat' walk_at "pv"
    · show (uOne acc m).length < _
      have : (uOne acc m).length ≤ acc.length + (0 + (m :: acc).length) := g3
      rw [List.length_cons] at this
      rw [Nat.pow_succ]; omega) 0 [] σ1 (by omega) ⟨lk_hit, by decide, fun _ h => nomatch h⟩
  obtain ⟨p1, p2, p3⟩ := p
  have p1 : σ'.loc.lookup (Str.ofString "family") = some (.own (encN (closedOf ms))) := p1
  refine ⟨?_, Nat.lt_of_lt_of_le p2 (Nat.pow_le_pow_right (n := 2) (by decide) (show 0 + ms.length ≤ 4 by omega)), p3⟩
  refine cl_of (D := coD) (σ := σ0) (σ' := σ') (by rfl) (by rfl) ?_
  refine l_next (σ₁ := σ1) (by rfl) (l_next (σ₁ := σ') ?_ (l_one ?_))
  · refine' x_for (by kernel_rfl) (it_list (d := encN ms) (by kernel_rfl) (by kernel_rfl) ?_ pi_list) e
    repeat' walk_at "pv"
  · refine' x_ret ?_
    repeat' walk_at "pv"
end Mine
end
section
set_option maxRecDepth 100000
set_option linter.unusedSimpArgs false
set_option linter.unusedVariables false
namespace Mine
open PySem
/-! _law_ranked -/
noncomputable def getWhile : Stmt → Expr × List Stmt
  | .While t b _ _ => (t, b)
  | _ => (.Constant .none 0 ⟨0,0,0,0⟩, [])
noncomputable def rkD : Def := dAt 5
noncomputable def rkF := getFor (stmtAt rkD 1)
noncomputable def rs (i : Nat) : Stmt := rkF.2.2.getD i (.Pass ⟨0,0,0,0⟩)
theorem rs_all : rkF.2.2 = [rs 0, rs 1, rs 2] := by rfl
noncomputable def rkW := getWhile (rs 1)
noncomputable def posOf (less : Nat → Nat → Bool) (x : Nat) (d : List Nat) : Nat → Nat
  | 0 => 0
  | k + 1 => if less x (d.getD k 0) then posOf less x d k else k + 1
noncomputable def putIn (less : Nat → Nat → Bool) (d : List Nat) (x : Nat) : List Nat := d.take (posOf less x d d.length) ++ [x] ++ d.drop (posOf less x d d.length)
noncomputable def settle (less : Nat → Nat → Bool) (line : List Nat) : List Nat := line.foldl (putIn less) []
theorem posOf_le (less : Nat → Nat → Bool) (x : Nat) (d : List Nat) : ∀ k, posOf less x d k ≤ k
  | 0 => Nat.le_refl _
  | k + 1 => by
    unfold posOf
    cases less x (d.getD k 0) with
    | true => exact Nat.le_succ_of_le (posOf_le less x d k)
    | false => exact Nat.le_refl _
theorem okAt_nat {k : Nat} (hk : k < 1000) : okAt (k : Int) = true := by
  unfold okAt
  rw [Bool.and_eq_true, decide_eq_true_eq, decide_eq_true_eq]
  omega
theorem ls_get (row : Nat → PV) {l : List Nat} {k c : Nat} (h : l[k]? = some c) (hk : k < 1000) : pget (.list (l.map row)) (.int (k : Int)) = some (row c) := by
  rw [pget_list (okAt_nat hk), Int.toNat_natCast, List.getElem?_map, h]
  rfl
theorem psL (l : List PV) (lo hi : Option Int) (h : okCut lo hi l.length) : pslice (.list l) lo hi none = some (.list (cutL l (lo.getD 0).toNat (hi.getD l.length).toNat)) := by
  show pslL l lo hi none = _
  exact if_pos h
theorem ls_take (l : List PV) (k : Nat) (hk : k < 1000) (hl : l.length < 1000) : pslice (.list l) none (some (k : Int)) none = some (.list (l.take k)) := by
  have hc : okCut none (some (k : Int)) l.length := ⟨Int.le_refl _, by decide, Int.natCast_nonneg k, show (k : Int) < 1000000 by omega, by omega⟩
  rw [psL _ _ _ hc, Option.getD_some, Option.getD_none, Int.toNat_natCast, Int.toNat_zero]
  unfold cutL
  rw [List.drop_zero, Nat.sub_zero]
theorem ls_drop (l : List PV) (k : Nat) (hk : k < 1000) (hl : l.length < 1000) : pslice (.list l) (some (k : Int)) none none = some (.list (l.drop k)) := by
  have hc : okCut (some (k : Int)) none l.length := ⟨Int.natCast_nonneg k, show (k : Int) < 1000000 by omega, Int.le_refl _, by decide, by omega⟩
  rw [psL _ _ _ hc, Option.getD_some, Option.getD_none, Int.toNat_natCast, Int.toNat_natCast]
  unfold cutL
  rw [List.take_of_length_le (by rw [List.length_drop]; exact Nat.le_refl _)]
structure Judge (n : Nat) (J : PV) (row : Nat → PV) (less : Nat → Nat → Bool) : Prop where
  cmp : ∀ x y, x < 5 → y < 5 → ∃ r, (run T1 n).cl (Str.ofString "TupleComp.compare") [.inst J, row x, row y] = some (.int r) ∧ decide (r < 0) = less x y
structure RkAt (J : PV) (row : Nat → PV) (x : Nat) (d : List Nat) (k : Nat) (σ : St) : Prop where
  j : σ.loc.lookup (Str.ofString "judge") = some (.fro (.inst J))
  x : σ.loc.lookup (Str.ofString "row") = some (.fro (row x))
  d : σ.loc.lookup (Str.ofString "ranked") = some (.fro (.list (d.map row)))
  k : σ.loc.lookup (Str.ofString "k") = some (.fro (.int (k : Int)))
theorem rk_while (n : Nat) (J : PV) (row : Nat → PV) (less : Nat → Nat → Bool) (hJ : Judge (n + 17) J row less) (x : Nat) (hx : x < 5) (d : List Nat) (hd : ∀ c ∈ d, c < 5) (hdl : d.length < 60) : ∀ (k : Nat) (σ : St) (N : Nat), k ≤ d.length → k < N → RkAt J row x d k σ →
    ∃ σ', whileLoop (run T1 (n + 20)) (defCx rkD) rkW.1 rkW.2 N σ = some (.next, σ') ∧ RkAt J row x d (posOf less x d k) σ'
  | k, σ, 0, _, hN, _ => absurd hN (Nat.not_lt_zero _)
  | 0, σ, N + 1, _, _, L => by
    obtain ⟨h1, h3, h4, h5⟩ := L
    refine ⟨σ, w_stop ?_, ⟨h1, h3, h4, h5⟩⟩
    have hg : pcmp .Gt (.int ((0 : Nat) : Int)) (.int 0) = some false := rfl
    refine' t_bool (a_cons (u := false) (v := false) (t_cmp ?_ ?_ ?_) (fun h => nomatch h))
    all_goals repeat' walk_at "pv"
  | k + 1, σ, N + 1, hk, hN, L => by
    obtain ⟨h1, h3, h4, h5⟩ := L
    obtain ⟨c, hc⟩ : ∃ c, d[k]? = some c := ⟨d[k], List.getElem?_eq_getElem hk⟩
    have hcD : d.getD k 0 = c := by rw [List.getD_eq_getElem?_getD, hc]; rfl
    have hc3 : c < 5 := hd c (List.mem_of_getElem? hc)
    have hg : pcmp .Gt (.int ((k + 1 : Nat) : Int)) (.int 0) = some true := congrArg some (decide_eq_true (by omega))
    have hs : pbin .Sub (.int ((k + 1 : Nat) : Int)) (.int 1) = some (.int (k : Int)) := (pbin_sub _ _).trans (by rw [show ((k + 1 : Nat) : Int) - 1 = (k : Int) by omega])
    have hgt := ls_get row hc (by omega)
    obtain ⟨r, hr, hlt0⟩ := hJ.cmp x c hx hc3
    have hlt : pcmp .Lt (.int r) (.int 0) = some (less x c) := congrArg some hlt0
    have htest : (run T1 (n + 20)).ts (defCx rkD) σ rkW.1 = some (true && less x c) := by
      refine' t_bool (a_cons (t_cmp ?_ ?_ hg) (fun _ => a_one (t_cmp ?_ ?_ hlt)))
      all_goals repeat' walk_at "pv"
    unfold posOf
    rw [hcD]
    cases hl : less x c with
    | false =>
      rw [hl] at htest
      exact ⟨σ, w_stop htest, ⟨h1, h3, h4, h5⟩⟩
    | true =>
      rw [hl] at htest
      let σ1 : St := ⟨aset σ.loc (Str.ofString "k") (.fro (.int (k : Int))), σ.cel⟩
      obtain ⟨σ', e, L'⟩ := rk_while n J row less hJ x hx d hd hdl k σ1 N (by omega) (by omega) ⟨lk_miss (by kernel_rfl) h1, lk_miss (by kernel_rfl) h3, lk_miss (by kernel_rfl) h4, lk_hit⟩
      refine ⟨σ', w_go htest (ex_of (l_one ?_)) e, L'⟩
      refine' x_aug (by kernel_rfl) ?_ ?_ hs ?_
      all_goals repeat' walk_at "pv"
structure RdAt (J : PV) (row : Nat → PV) (k : Nat) (d : List Nat) (σ : St) : Prop where
  j : σ.loc.lookup (Str.ofString "judge") = some (.fro (.inst J))
  dn : σ.loc.lookup (Str.ofString "ranked") = some (.fro (.list (d.map row)))
  lt : ∀ c ∈ d, c < 5
  len : d.length ≤ k
theorem rk_turn (n : Nat) (J : PV) (row : Nat → PV) (less : Nat → Nat → Bool) (hJ : Judge (n + 17) J row less) (x : Nat) (hx : x < 5) (k : Nat) (hk : k < 50) (d : List Nat) (σ : St) (L : RdAt J row k d σ) :
    ∃ σ₁, asg (defCx rkD) rkF.1 (row x) σ = some σ₁ ∧ ∃ σ₂, (run T1 (n + 21)).ex (defCx rkD) σ₁ rkF.2.2 = some (.next, σ₂) ∧ RdAt J row (k + 1) (putIn less d x) σ₂ := by
  obtain ⟨h1, h3, h4, h5⟩ := L
  let σ1 : St := ⟨aset σ.loc (Str.ofString "row") (.fro (row x)), σ.cel⟩
  let σ2 : St := ⟨aset σ1.loc (Str.ofString "k") (.fro (.int (d.length : Int))), σ1.cel⟩
  obtain ⟨σ3, e, g1, g3, g4, g5⟩ := rk_while n J row less hJ x hx d h4 (by omega) d.length σ2 64 (Nat.le_refl _) (by omega) ⟨lk_miss (by kernel_rfl) (lk_miss (by kernel_rfl) h1), lk_miss (by kernel_rfl) lk_hit, lk_miss (by kernel_rfl) (lk_miss (by kernel_rfl) h3), lk_hit⟩
  have hpl := posOf_le less x d d.length
  have hput : putIn less d x = d.take (posOf less x d d.length) ++ [x] ++ d.drop (posOf less x d d.length) := rfl
  generalize posOf less x d d.length = q at g5 hpl hput
  have hml : (d.map row).length = d.length := List.length_map _
  have hlen : pone (Str.ofString "len") (.list (d.map row)) = some (.int (d.length : Int)) := (p_len (by omega)).trans (by rw [hml])
  have hd : (d.map row).length < 1000 := by omega
  have hq : q < 1000 := by omega
  have hsum : ((d.map row).take q).length + ((d.map row).drop q).length = (d.map row).length := by rw [← List.length_append, List.take_append_drop]
  have t1 := ls_take (d.map row) q hq hd
  have t2 := ls_drop (d.map row) q hq hd
  have t3 : pbin .Add (.list ((d.map row).take q)) (.list [row x]) = some (.list ((d.map row).take q ++ [row x])) := pbin_addl (show _ + 1 ≤ 100000 by omega)
  have t4 : pbin .Add (.list ((d.map row).take q ++ [row x])) (.list ((d.map row).drop q)) = some (.list ((putIn less d x).map row)) := (pbin_addl (by rw [List.length_append]; exact (show _ + 1 + _ ≤ 100000 by omega))).trans (by rw [hput, List.map_append, List.map_append, List.map_take, List.map_drop]; rfl)
  refine ⟨σ1, as_name (by kernel_rfl) (s_loc (by decide +kernel)), ⟨aset σ3.loc (Str.ofString "ranked") (.fro (.list ((putIn less d x).map row))), σ3.cel⟩, ex_of ?_, lk_miss (by kernel_rfl) g1, lk_hit, fun c hc => ?_, ?_⟩
  · rw [rs_all]
    refine l_next (σ₁ := σ2) ?_ (l_next (σ₁ := σ3) e (l_one ?_))
    · refine' x_name (by kernel_rfl) (e_one (by decide +kernel) (by decide +kernel) (by decide +kernel) (by decide +kernel) ?_ hlen) (s_loc (by decide +kernel))
      repeat' walk_at "pv"
    · refine' x_name (by kernel_rfl) (e_bin ?_ ?_ t4) (s_loc (by decide +kernel))
      all_goals repeat' walk_at "pv"
  · rw [hput] at hc
    rcases List.mem_append.mp hc with hc | hc
    · rcases List.mem_append.mp hc with hc | hc
      · exact h4 c (List.mem_of_mem_take hc)
      · rw [List.mem_singleton] at hc; rw [hc]; exact hx
    · exact h4 c (List.mem_of_mem_drop hc)
  · have hs2 : (d.take q).length + (d.drop q).length = d.length := by rw [← List.length_append, List.take_append_drop]
    rw [hput, List.length_append, List.length_append]
    exact (show _ + 1 + _ ≤ k + 1 by omega)
theorem ranked_cl (n : Nat) (J : PV) (row : Nat → PV) (less : Nat → Nat → Bool) (hJ : Judge (n + 17) J row less) (line : List Nat) (hl : ∀ c ∈ line, c < 5) (hll : line.length ≤ 50) :
    (run T1 (n + 23)).cl (Str.ofString "_law_ranked") [.list (line.map row), .inst J] = some (.list ((settle less line).map row)) := by
  let σ0 : St := ⟨aset (aset [] (Str.ofString "rows") (.fro (.list (line.map row)))) (Str.ofString "judge") (.fro (.inst J)), []⟩
  let σ1 : St := ⟨aset σ0.loc (Str.ofString "ranked") (.fro (.list [])), []⟩
  obtain ⟨σ', e, p⟩ := for_invN (I := run T1 (n + 21)) (c := defCx rkD) (t := rkF.1) (body := rkF.2.2) row (RdAt J row) (putIn less) 50 line (fun x hx k d σ hk L => rk_turn n J row less hJ x (hl x hx) k hk d σ L) 0 [] σ1 (by omega) ⟨lk_miss (by kernel_rfl) lk_hit, lk_hit, (fun _ h => nomatch h), Nat.le_refl _⟩
  have p3 : σ'.loc.lookup (Str.ofString "ranked") = some (.fro (.list ((settle less line).map row))) := p.dn
  refine cl_of (D := rkD) (σ := σ0) (σ' := σ') (by rfl) (by rfl) ?_
  refine l_next (σ₁ := σ1) (by rfl) (l_next (σ₁ := σ') ?_ (l_one ?_))
  · refine' x_for (by kernel_rfl) (it_list (by kernel_rfl) (by kernel_rfl) ?_ pi_list) e
    repeat' walk_at "pv"
  · refine' x_ret ?_
    repeat' walk_at "pv"
end Mine
end
section
set_option maxRecDepth 100000
set_option linter.unusedSimpArgs false
set_option linter.unusedVariables false
namespace Mine
open PySem
/-! a dict of the members' ends -/
noncomputable abbrev kN (m : Nat) : Key := .int (m : Int)
noncomputable def tE (fam : List Nat) (e : Nat → Nat) : List (Key × Int) := fam.map fun m => (kN m, (e m : Int))
noncomputable def updN (e : Nat → Nat) (m v : Nat) : Nat → Nat := fun x => if x = m then v else e x
theorem kN_inj {a b : Nat} (h : kN a = kN b) : a = b := by injection h with h; exact Int.ofNat_inj.mp h
theorem pow_nat : ∀ {q : Nat}, q < 5 → pbin .Pow (.int 2) (iN q) = some (iN (2 ^ q)) ∧ 2 ^ q < 32
  | 0, _ => ⟨by kernel_rfl, by decide⟩
  | 1, _ => ⟨by kernel_rfl, by decide⟩
  | 2, _ => ⟨by kernel_rfl, by decide⟩
  | 3, _ => ⟨by kernel_rfl, by decide⟩
  | 4, _ => ⟨by kernel_rfl, by decide⟩
  | k + 5, h => absurd h (by omega)
theorem encD_map (fam : List Nat) (e : Nat → Nat) : encD (tE fam e) = fam.map fun m => (kN m, iN (e m)) := by unfold encD tE; rw [List.map_map]; rfl
theorem iget_tE (e : Nat → Nat) {m : Nat} : ∀ {fam : List Nat}, m ∈ fam → iget (tE fam e) (kN m) = some (e m : Int)
  | x :: fam, h => by
    show (if kN x = kN m then some (e x : Int) else iget (tE fam e) (kN m)) = _
    by_cases hx : x = m
    · rw [if_pos (by rw [hx]), hx]
    · rw [if_neg fun h2 => hx (kN_inj h2)]
      exact iget_tE e ((List.mem_cons.mp h).resolve_left fun h2 => hx h2.symm)
theorem pget_tE {fam : List Nat} (e : Nat → Nat) {m : Nat} (h : m ∈ fam) : pget (.dict (encD (tE fam e))) (iN m) = some (iN (e m)) := by
  show dget (encD (tE fam e)) (kN m) = _
  rw [dget_enc, iget_tE e h]; rfl
theorem dset_tE {fam : List Nat} (e : Nat → Nat) {m : Nat} (v : Nat) (h : m ∈ fam) : dset (encD (tE fam e)) (kN m) (iN v) = encD (tE fam (updN e m v)) := by
  rw [encD_map, encD_map]
  unfold dset
  rw [if_pos, List.map_map]
  · refine List.map_congr_left fun x _ => ?_
    show (if kN x = kN m then (kN x, iN v) else (kN x, iN (e x))) = (kN x, iN (updN e m v x))
    unfold updN
    by_cases hx : x = m
    · rw [if_pos (by rw [hx]), if_pos hx]
    · rw [if_neg fun h2 => hx (kN_inj h2), if_neg hx]
  · rw [List.any_eq_true]
    exact ⟨_, List.mem_map.mpr ⟨m, h, rfl⟩, decide_eq_true rfl⟩
theorem tE_nodup {fam : List Nat} (e : Nat → Nat) (h : fam.Nodup) : ((tE fam e).map (·.1)).Nodup := by
  unfold tE
  rw [List.map_map]
  exact List.Pairwise.map _ (fun a b hab h => hab (kN_inj h)) h
/-! _law_raised -/
noncomputable def raD : Def := dAt 6
noncomputable def raF := getFor (stmtAt raD 1)
noncomputable def raG := getFor (raF.2.2.getD 1 (.Pass ⟨0,0,0,0⟩))
theorem raF_all : raF.2.2 = [raF.2.2.getD 0 (.Pass ⟨0,0,0,0⟩), raF.2.2.getD 1 (.Pass ⟨0,0,0,0⟩)] := by rfl
theorem raG_all : raG.2.2 = [raG.2.2.getD 0 (.Pass ⟨0,0,0,0⟩), raG.2.2.getD 1 (.Pass ⟨0,0,0,0⟩)] := by rfl
noncomputable def rStep (th : List Nat) (q : Nat) (e : Nat → Nat) (m : Nat) : Nat → Nat := bif th.any fun y => y == (e m ||| 2 ^ q) then e else updN e m (e m ||| 2 ^ q)
noncomputable def rOne (fam : List Nat) (e : Nat → Nat) (q : Nat) : Nat → Nat := fam.foldl (rStep (fam.map e) q) e
noncomputable def raisedOf (fam pts : List Nat) : Nat → Nat := pts.foldl (rOne fam) id
structure RaAt (fam th : List Nat) (q : Nat) (k : Nat) (e : Nat → Nat) (σ : St) : Prop where
  f : σ.loc.lookup (Str.ofString "family") = some (.fro (encN fam))
  p : σ.loc.lookup (Str.ofString "point") = some (.fro (iN q))
  t : σ.loc.lookup (Str.ofString "there") = some (.fro (encN th))
  en : σ.cel.lookup (Str.ofString "ends") = some (.own (.dict (encD (tE fam e))))
  lt : ∀ m ∈ fam, e m < 32
theorem ra_turn (n : Nat) (fam th : List Nat) (hfl : fam.length < 1000) (q : Nat) (hq : q < 5) (m : Nat) (hm : m ∈ fam) (k : Nat) (e : Nat → Nat) (σ : St) (L : RaAt fam th q k e σ) :
    ∃ σ₁, asg (defCx raD) raG.1 (iN m) σ = some σ₁ ∧ ∃ σ₂, (run T1 (n + 14)).ex (defCx raD) σ₁ raG.2.2 = some (.next, σ₂) ∧ RaAt fam th q (k + 1) (rStep th q e m) σ₂ := by
  obtain ⟨h1, h2, h3, h4, h5⟩ := L
  obtain ⟨hp, hp2⟩ := pow_nat hq
  have hme := h5 m hm
  let σ1 : St := ⟨aset σ.loc (Str.ofString "member") (.fro (iN m)), σ.cel⟩
  let σ2 : St := ⟨aset σ1.loc (Str.ofString "raised") (.fro (iN (e m ||| 2 ^ q))), σ1.cel⟩
  have hg := pget_tE e hm
  have hn := notin_nats (e m ||| 2 ^ q) th
  have e1 : exStep (run T1 (n + 13)) (defCx raD) σ1 (raG.2.2.getD 0 (.Pass ⟨0,0,0,0⟩)) = some (.next, σ2) := by
    refine' x_name (by kernel_rfl) (e_call (by decide +kernel) (by decide +kernel) (all_cons (e_sub (by kernel_rfl) ?_ ?_ hg) (all_cons (e_bin ?_ ?_ hp) all_nil)) (ior_nat _ hme hp2)) (s_loc (by decide +kernel))
    all_goals repeat' walk_at "pv"
  have hlen : (encD (tE fam e)).length < 100000 := by rw [encD_map, List.length_map]; omega
  unfold rStep
  cases ha : th.any fun y => y == (e m ||| 2 ^ q) with
  | true =>
    rw [ha] at hn
    refine ⟨σ1, as_name (by kernel_rfl) (s_loc (by decide +kernel)), σ2, ex_of ?_, lk_miss (by kernel_rfl) (lk_miss (by kernel_rfl) h1), lk_miss (by kernel_rfl) (lk_miss (by kernel_rfl) h2), lk_miss (by kernel_rfl) (lk_miss (by kernel_rfl) h3), h4, h5⟩
    rw [raG_all]
    refine l_next (σ₁ := σ2) e1 (l_one ?_)
    refine' x_iff (t_cmp ?_ ?_ hn) (ex_of l_nil)
    all_goals repeat' walk_at "pv"
  | false =>
    rw [ha] at hn
    have hds := dset_tE e (e m ||| 2 ^ q) hm
    refine ⟨σ1, as_name (by kernel_rfl) (s_loc (by decide +kernel)), ⟨σ2.loc, aset σ2.cel (Str.ofString "ends") (.own (.dict (dset (encD (tE fam e)) (kN m) (iN (e m ||| 2 ^ q)))))⟩, ex_of ?_, lk_miss (by kernel_rfl) (lk_miss (by kernel_rfl) h1), lk_miss (by kernel_rfl) (lk_miss (by kernel_rfl) h2), lk_miss (by kernel_rfl) (lk_miss (by kernel_rfl) h3), ?_, ?_⟩
    · rw [raG_all]
      refine l_next (σ₁ := σ2) e1 (l_one ?_)
      refine' x_ift (t_cmp ?_ ?_ hn) (ex_of (l_one (x_sub (by kernel_rfl) ?_ ?_ ?_ (k := kN m) k_int hlen (s_cel (by decide +kernel)))))
      all_goals repeat' walk_at "pv"
    · rw [hds]; exact lk_hit
    · intro x hx
      show updN e m (e m ||| 2 ^ q) x < 32
      unfold updN
      by_cases hxm : x = m
      · rw [if_pos hxm]; exact (or32 _ hme _ hp2).2
      · rw [if_neg hxm]; exact h5 x hx
structure RbAt (fam : List Nat) (k : Nat) (e : Nat → Nat) (σ : St) : Prop where
  f : σ.loc.lookup (Str.ofString "family") = some (.fro (encN fam))
  en : σ.cel.lookup (Str.ofString "ends") = some (.own (.dict (encD (tE fam e))))
  lt : ∀ m ∈ fam, e m < 32
theorem raised_cl (n : Nat) (fam pts : List Nat) (hn : fam.Nodup) (hfl : fam.length < 1000) (hf : ∀ m ∈ fam, m < 32) (hp : ∀ q ∈ pts, q < 5) :
    (run T1 (n + 20)).cl (Str.ofString "_law_raised") [encN fam, encN pts] = some (.dict (encD (tE fam (raisedOf fam pts)))) ∧ ∀ m ∈ fam, raisedOf fam pts m < 32 := by
  let σ0 : St := ⟨aset (aset [] (Str.ofString "family") (.fro (encN fam))) (Str.ofString "points") (.fro (encN pts)), []⟩
  let σ1 : St := ⟨σ0.loc, aset [] (Str.ofString "ends") (.own (.dict (encD (tE fam id))))⟩
  obtain ⟨σ', e, p⟩ := for_invN (I := run T1 (n + 18)) (c := defCx raD) (t := raF.1) (body := raF.2.2) iN (RbAt fam) (rOne fam) pts.length pts (by
    rintro q hq k e σ hk ⟨h1, h2, h3⟩
    let σ2 : St := ⟨aset σ.loc (Str.ofString "point") (.fro (iN q)), σ.cel⟩
    let σ3 : St := ⟨aset σ2.loc (Str.ofString "there") (.fro (encN (fam.map e))), σ2.cel⟩
    obtain ⟨σ4, e4, g1, g2, g3, g4, g5⟩ := for_invN (I := run T1 (n + 17)) (c := defCx raD) (t := raG.1) (body := raG.2.2) iN (RaAt fam (fam.map e) q) (rStep (fam.map e) q) fam.length fam (fun m hm k e' σ _ L => ra_turn (n + 3) fam (fam.map e) hfl q (hp q hq) m hm k e' σ L) 0 e σ3 (by omega) ⟨lk_miss (by kernel_rfl) (lk_miss (by kernel_rfl) h1), lk_miss (by kernel_rfl) lk_hit, lk_hit, h2, h3⟩
    refine ⟨σ2, as_name (by kernel_rfl) (s_loc (by decide +kernel)), σ4, ex_of ?_, g1, g4, g5⟩
    rw [raF_all]
    refine l_next (σ₁ := σ3) ?_ (l_one ?_)
    · have hth : encN (fam.map e) = .list (fam.map fun m => iN (e m)) := congrArg PV.list (List.map_map)
      rw [show σ3 = ⟨aset σ2.loc (Str.ofString "there") (.fro (.list (fam.map fun m => iN (e m)))), σ2.cel⟩ by rw [← hth]]
      refine' x_name (by kernel_rfl) (e_lcomp (c_map iN (fun m => iN (e m)) (fun m l => aset l (Str.ofString "member") (.fro (iN m))) (ds := fam) (by kernel_rfl) ?_ (by omega) ?_)) (s_loc (by decide +kernel))
      · refine' it_list (d := encN fam) (by kernel_rfl) (by kernel_rfl) ?_ pi_list
        repeat' walk_at "pv"
      · intro m hm l
        have hg := pget_tE e hm
        refine ⟨as_name (by kernel_rfl) (s_loc (by decide +kernel)), ?_⟩
        refine' e_sub (by kernel_rfl) ?_ ?_ hg
        all_goals repeat' walk_at "pv"
    · refine' x_for (by kernel_rfl) (it_list (d := encN fam) (by kernel_rfl) (by kernel_rfl) ?_ pi_list) e4
      repeat' walk_at "pv") 0 id σ1 (by omega) ⟨lk_miss (by kernel_rfl) lk_hit, lk_hit, hf⟩
  obtain ⟨p1, p2, p3⟩ := p
  have p2 : σ'.cel.lookup (Str.ofString "ends") = some (.own (.dict (encD (tE fam (raisedOf fam pts))))) := p2
  refine ⟨?_, p3⟩
  refine cl_of (D := raD) (σ := σ0) (σ' := σ') (by rfl) (by rfl) ?_
  refine l_next (σ₁ := σ1) ?_ (l_next (σ₁ := σ') ?_ (l_one ?_))
  · have hd : encD (tE fam id) = dsetAll [] (fam.map fun m => (kN m, iN m)) := by
      have := dsetAll_nodup (tE fam id) [] (by rw [List.nil_append]; exact tE_nodup id hn)
      rw [List.nil_append, encD_map] at this
      rw [encD_map]
      exact this.symm
    rw [show σ1 = ⟨σ0.loc, aset [] (Str.ofString "ends") (.own (.dict (dsetAll [] (fam.map fun m => (kN m, iN m)))))⟩ by rw [← hd]]
    refine' x_own (by kernel_rfl) (by kernel_rfl) (e_dcomp (c_map iN (fun m => (kN m, iN m)) (fun m l => aset l (Str.ofString "member") (.fro (iN m))) (ds := fam) (by kernel_rfl) ?_ (by omega) ?_)) (s_cel (by decide +kernel))
    · refine' it_list (d := encN fam) (by kernel_rfl) (by kernel_rfl) ?_ pi_list
      repeat' walk_at "pv"
    · intro m hm l
      refine ⟨as_name (by kernel_rfl) (s_loc (by decide +kernel)), ?_⟩
      refine' out_pair (a := iN m) (e_name ?_) k_int (e_name ?_)
      all_goals repeat' walk_at "pv"
  · refine' x_for (by kernel_rfl) (it_list (d := encN pts) (by kernel_rfl) (by kernel_rfl) ?_ pi_list) e
    repeat' walk_at "pv"
  · refine' x_ret ?_
    repeat' walk_at "pv"
end Mine
end
section
set_option maxRecDepth 100000
set_option linter.unusedSimpArgs false
set_option linter.unusedVariables false
namespace Mine
open PySem
theorem and32 : ∀ a < 32, ∀ b < 32, Builtin.bitAnd (a : Nat) (b : Nat) = ((a &&& b : Nat) : Int) := by decide +kernel
theorem and_nat {a b : Nat} (ha : a < 32) (hb : b < 32) : pbin .BitAnd (iN a) (iN b) = some (iN (a &&& b)) := (pbin_and _ _).trans (by rw [and32 a ha b hb])
theorem add_nat (a b : Nat) : pbin .Add (iN a) (iN b) = some (iN (a + b)) := (pbin_add _ _).trans (by rw [← Int.natCast_add])
theorem tr_nat : ∀ x : Nat, ptruth (iN x) = some (x != 0)
  | 0 => rfl
  | x + 1 => rfl
theorem eq_nat (a b : Nat) : pcmp .Eq (iN a) (iN b) = some (a == b) := (c_eqi _ _).trans (congrArg some (by rw [Bool.eq_iff_iff, beq_iff_eq, beq_iff_eq, Int.ofNat_inj]))
theorem for_pre {α : Type} {I : Itp} {c : Cx} {body : List Stmt} {t : Expr} (enc : α → PV) (P : List α → St → Prop) (all : List α) (h : ∀ pre d post, all = pre ++ d :: post → ∀ σ, P pre σ → ∃ σ₁, asg c t (enc d) σ = some σ₁ ∧ ∃ σ₂, I.ex c σ₁ body = some (.next, σ₂) ∧ P (pre ++ [d]) σ₂) :
    ∀ post pre, all = pre ++ post → ∀ σ, P pre σ → ∃ σ', forLoop I c t body (post.map enc) σ = some (.next, σ') ∧ P all σ'
  | [], pre, e, σ, p => ⟨σ, rfl, by rw [e, List.append_nil]; exact p⟩
  | d :: post, pre, e, σ, p => by
    obtain ⟨σ₁, e1, σ₂, e2, p2⟩ := h pre d post e σ p
    obtain ⟨σ₃, e3, p3⟩ := for_pre enc P all h post (pre ++ [d]) (by rw [e, List.append_assoc]; rfl) σ₂ p2
    exact ⟨σ₃, fl_cons e1 e2 e3, p3⟩
theorem any_not {k : Key} {l : List (Key × PV)} (h : k ∉ l.map (·.1)) : l.any (fun kv => decide (kv.1 = k)) = false := by
  rw [List.any_eq_false]
  intro p hp hk
  exact h (List.mem_map.mpr ⟨p, hp, of_decide_eq_true hk⟩)
theorem dset_new {k : Key} {v : PV} {l : List (Key × PV)} (h : k ∉ l.map (·.1)) : dset l k v = l ++ [(k, v)] := by
  unfold dset
  rw [any_not h]; rfl
theorem dget_new {k : Key} {l : List (Key × PV)} (h : k ∉ l.map (·.1)) : dget l k = none := by
  unfold dget
  rw [List.find?_eq_none.mpr fun p hp hk => h (List.mem_map.mpr ⟨p, hp, of_decide_eq_true hk⟩)]; rfl
/-! _law_cells -/
noncomputable def ceD : Def := dAt 7
noncomputable def ceF := getFor (stmtAt ceD 1)
noncomputable def ce (i : Nat) : Stmt := ceF.2.2.getD i (.Pass ⟨0,0,0,0⟩)
theorem ce_all : ceF.2.2 = [ce 0, ce 1, ce 2] := by rfl
noncomputable def ceB := getFor (ce 1)
noncomputable def ceC := getFor (ce 2)
noncomputable def bits5 : List Nat := [1, 2, 4, 8, 16]
noncomputable def cellStep (a e : Nat) (cs : List Nat) (b : Nat) : List Nat := bif (e &&& b != 0) && !(a &&& b != 0) then cs ++ cs.map (· + b) else cs
noncomputable def cellsOf (a e : Nat) : List Nat := bits5.foldl (cellStep a e) [a]
theorem bits_lt : ∀ b ∈ bits5, b < 32 := by decide
structure CbAt (fam : List Nat) (e : Nat → Nat) (a : Nat) (B : PV) (k : Nat) (cs : List Nat) (σ : St) : Prop where
  f : σ.loc.lookup (Str.ofString "ends") = some (.fro (.dict (encD (tE fam e))))
  m : σ.loc.lookup (Str.ofString "member") = some (.fro (iN a))
  b : σ.loc.lookup (Str.ofString "book") = some (.own B)
  c : σ.loc.lookup (Str.ofString "cells") = some (.fro (encN cs))
  n : cs.length ≤ 2 ^ k
theorem cell_len (a e : Nat) (cs : List Nat) (b k : Nat) (h : cs.length ≤ 2 ^ k) : (cellStep a e cs b).length ≤ 2 ^ (k + 1) := by
  unfold cellStep
  cases (e &&& b != 0) && !(a &&& b != 0)
  · rw [cond_false, Nat.pow_succ]; omega
  · rw [cond_true, List.length_append, List.length_map, Nat.pow_succ]; omega
theorem cb_turn (n : Nat) (fam : List Nat) (e : Nat → Nat) (a : Nat) (ha : a ∈ fam) (ha32 : a < 32) (he : e a < 32) (B : PV) (b : Nat) (hb : b < 32) (k : Nat) (hk : k < 5) (cs : List Nat) (σ : St) (L : CbAt fam e a B k cs σ) :
    ∃ σ₁, asg (defCx ceD) ceB.1 (iN b) σ = some σ₁ ∧ ∃ σ₂, (run T1 (n + 14)).ex (defCx ceD) σ₁ ceB.2.2 = some (.next, σ₂) ∧ CbAt fam e a B (k + 1) (cellStep a (e a) cs b) σ₂ := by
  obtain ⟨h1, h2, h3, h4, h5⟩ := L
  have hg := pget_tE e ha
  have hm1 := and_nat he hb
  have hm2 := and_nat ha32 hb
  have hcl := cell_len a (e a) cs b k h5
  have hp : 2 ^ k ≤ 16 := Nat.pow_le_pow_right (n := 2) (by decide) (show k ≤ 4 by omega)
  let σ1 : St := ⟨σ.loc, aset σ.cel (Str.ofString "bit") (.fro (iN b))⟩
  have htest : (run T1 (n + 13)).ts (defCx ceD) σ1 (match ceB.2.2 with | [.If t _ _ _] => t | _ => .Constant .none 0 ⟨0,0,0,0⟩) = some ((e a &&& b != 0) && !(a &&& b != 0)) := by
    refine' t_bool (a_cons (t_bin (e_bin (B_ev (by kernel_rfl) (e_sub (by kernel_rfl) ?_ ?_ hg)) ?_ hm1) (tr_nat _)) (fun _ => a_one (t_not (t_bin (e_bin ?_ ?_ hm2) (tr_nat _)))))
    all_goals repeat' walk_at "pv"
  refine ⟨σ1, as_name (by kernel_rfl) (s_cel (by decide +kernel)), ?_⟩
  unfold cellStep at hcl ⊢
  cases ht : (e a &&& b != 0) && !(a &&& b != 0) with
  | false =>
    rw [ht] at htest hcl
    exact ⟨σ1, ex_of (l_one (x_iff htest (ex_of l_nil))), h1, h2, h3, h4, hcl⟩
  | true =>
    rw [ht] at htest hcl
    have hap : pbin .Add (encN cs) (.list (cs.map fun c => iN (c + b))) = some (encN (cs ++ cs.map (· + b))) := (pbin_addl (by rw [List.length_map, List.length_map]; omega)).trans (by unfold encN; rw [List.map_append, List.map_map]; rfl)
    refine ⟨⟨aset σ1.loc (Str.ofString "cells") (.fro (encN (cs ++ cs.map (· + b)))), σ1.cel⟩, ex_of (l_one (x_ift htest (ex_of (l_one ?_)))), lk_miss (by kernel_rfl) h1, lk_miss (by kernel_rfl) h2, lk_miss (by kernel_rfl) h3, lk_hit, hcl⟩
    refine' x_name (by kernel_rfl) (e_bin ?_ (B_ev (by kernel_rfl) (e_lcomp (c_map iN (fun c => iN (c + b)) (fun c l => aset l (Str.ofString "cell") (.fro (iN c))) (ds := cs) (by kernel_rfl) ?_ (by omega) ?_))) hap) (s_loc (by decide +kernel))
    · repeat' walk_at "pv"
    · refine' it_list (d := encN cs) (by kernel_rfl) (by kernel_rfl) ?_ pi_list
      repeat' walk_at "pv"
    · intro c _ l
      have hc := add_nat c b
      refine ⟨as_name (by kernel_rfl) (s_loc (by decide +kernel)), ?_⟩
      refine' e_bin ?_ ?_ hc
      all_goals repeat' walk_at "pv"
noncomputable def entry (e : Nat → Nat) (a c : Nat) : PV := .tup [.int 1, iN a, iN (e a), iN c, .dict [(kN a, .int 1)]]
noncomputable def kvOf (e : Nat → Nat) (a c : Nat) : Key × PV := (kN c, entry e a c)
theorem add_new (n a t c : Nat) : (run T1 (n + 14)).cl (Str.ofString "add_func_stats") [.tup [.int 0, .int 0, .int 0, .int 0, .dict []], .tup [.int 1, iN a, iN t, iN c, .dict [(kN a, .int 1)]]] = some (.tup [.int 1, iN a, iN t, iN c, .dict [(kN a, .int 1)]]) := by
  have h := as_cl (n + 9) 0 0 0 0 1 a t c (.dict (encD [])) (.dict (encD [(kN a, 1)])) _ (ac_cl n [] [(kN a, 1)] List.nodup_nil (Nat.lt_of_sub_pos (Nat.succ_pos _)))
  rw [Int.add_zero, Int.add_zero, Int.add_zero] at h
  exact h
structure CcAt (fam : List Nat) (e : Nat → Nat) (a : Nat) (B : List (Key × PV)) (pre : List Nat) (σ : St) : Prop where
  f : σ.loc.lookup (Str.ofString "ends") = some (.fro (.dict (encD (tE fam e))))
  m : σ.loc.lookup (Str.ofString "member") = some (.fro (iN a))
  b : σ.loc.lookup (Str.ofString "book") = some (.own (.dict (B ++ pre.map (kvOf e a))))
theorem cc_turn (n : Nat) (fam : List Nat) (e : Nat → Nat) (a : Nat) (ha : a ∈ fam) (B : List (Key × PV)) (hB : B.length < 1000) (pre : List Nat) (hp : pre.length < 1000) (c : Nat) (hc : kN c ∉ (B ++ pre.map (kvOf e a)).map (·.1)) (σ : St) (L : CcAt fam e a B pre σ) :
    ∃ σ₁, asg (defCx ceD) ceC.1 (iN c) σ = some σ₁ ∧ ∃ σ₂, (run T1 (n + 24)).ex (defCx ceD) σ₁ ceC.2.2 = some (.next, σ₂) ∧ CcAt fam e a B (pre ++ [c]) σ₂ := by
  obtain ⟨h1, h2, h3⟩ := L
  have hg := pget_tE e ha
  have hds := dset_new (v := entry e a c) hc
  have hdg : (dget (B ++ pre.map (kvOf e a)) (kN c)).getD (.tup [.int 0, .int 0, .int 0, .int 0, .dict []]) = .tup [.int 0, .int 0, .int 0, .int 0, .dict []] := by rw [dget_new hc]; rfl
  have hl : (B ++ pre.map (kvOf e a)).length < 100000 := by rw [List.length_append, List.length_map]; omega
  let σ1 : St := ⟨aset σ.loc (Str.ofString "cell") (.fro (iN c)), σ.cel⟩
  refine ⟨σ1, as_name (by kernel_rfl) (s_loc (by decide +kernel)), ⟨aset σ1.loc (Str.ofString "book") (.own (.dict (dset (B ++ pre.map (kvOf e a)) (kN c) (entry e a c)))), σ1.cel⟩, ex_of (l_one ?_), lk_miss (by kernel_rfl) (lk_miss (by kernel_rfl) h1), lk_miss (by kernel_rfl) (lk_miss (by kernel_rfl) h2), ?_⟩
  · refine' x_sub (by kernel_rfl) (e_call (by decide +kernel) (by decide +kernel) (all_cons (hdg ▸ e_get (k := kN c) (by decide +kernel) (by kernel_rfl) ?_ ?_ k_int (e_tup (all_cons ?_ (all_cons ?_ (all_cons ?_ (all_cons ?_ (all_cons (e_dict pr_nil (by decide)) all_nil))))) (by decide)))
      (all_cons (e_tup (all_cons ?_ (all_cons ?_ (all_cons (e_sub (by kernel_rfl) ?_ ?_ hg) (all_cons ?_ (all_cons (e_dict (pr_cons ?_ k_int ?_ pr_nil) (by decide)) all_nil))))) (by decide)) all_nil)) (add_new _ _ _ _)) ?_ ?_ (k := kN c) k_int hl (s_loc (by decide +kernel))
    all_goals repeat' walk_at "pv"
  · rw [hds, List.map_append, ← List.append_assoc]; exact lk_hit
noncomputable def rowsOf (e : Nat → Nat) (a : Nat) : List (Key × PV) := (cellsOf a (e a)).map (kvOf e a)
noncomputable def cellsAll (e : Nat → Nat) (fam : List Nat) : List Nat := fam.flatMap fun a => cellsOf a (e a)
theorem rows_keys (e : Nat → Nat) (a : Nat) (l : List Nat) : (l.map (kvOf e a)).map (·.1) = l.map kN := by rw [List.map_map]; rfl
theorem all_keys (e : Nat → Nat) : ∀ fam : List Nat, (fam.flatMap (rowsOf e)).map (·.1) = (cellsAll e fam).map kN
  | [] => rfl
  | a :: fam => by
    rw [List.flatMap_cons, List.map_append, all_keys e fam]
    unfold cellsAll
    rw [List.flatMap_cons, List.map_append]
    exact congrArg (· ++ _) (rows_keys e a _)
structure CdAt (fam : List Nat) (e : Nat → Nat) (pre : List Nat) (σ : St) : Prop where
  f : σ.loc.lookup (Str.ofString "ends") = some (.fro (.dict (encD (tE fam e))))
  b : σ.loc.lookup (Str.ofString "book") = some (.own (.dict (pre.flatMap (rowsOf e))))
theorem cells_cl (n : Nat) (fam : List Nat) (e : Nat → Nat) (hf : ∀ a ∈ fam, a < 32 ∧ e a < 32) (hd : (cellsAll e fam).Nodup) (hl : (cellsAll e fam).length < 1000) :
    (run T1 (n + 30)).cl (Str.ofString "_law_cells") [encN fam, .dict (encD (tE fam e))] = some (.dict (fam.flatMap (rowsOf e))) := by
  let σ0 : St := ⟨aset (aset [] (Str.ofString "family") (.fro (encN fam))) (Str.ofString "ends") (.fro (.dict (encD (tE fam e)))), []⟩
  let σ1 : St := ⟨aset σ0.loc (Str.ofString "book") (.own (.dict [])), []⟩
  obtain ⟨σ', e0, p⟩ := for_pre (I := run T1 (n + 28)) (c := defCx ceD) (t := ceF.1) (body := ceF.2.2) iN (CdAt fam e) fam (by
    rintro pre a post hfam σ ⟨h1, h2⟩
    have ham : a ∈ fam := by rw [hfam]; exact List.mem_append_right _ List.mem_cons_self
    obtain ⟨ha32, hea⟩ := hf a ham
    let σ2 : St := ⟨aset σ.loc (Str.ofString "member") (.fro (iN a)), σ.cel⟩
    let σ3 : St := ⟨aset σ2.loc (Str.ofString "cells") (.fro (encN [a])), σ2.cel⟩
    obtain ⟨σ4, e4, g1, g2, g3, g4, g5⟩ := for_invN (I := run T1 (n + 27)) (c := defCx ceD) (t := ceB.1) (body := ceB.2.2) iN (CbAt fam e a (.dict (pre.flatMap (rowsOf e)))) (cellStep a (e a)) 5 bits5 (fun b hb k cs σ hk L => cb_turn (n + 13) fam e a ham ha32 hea _ b (bits_lt b hb) k hk cs σ L) 0 [a] σ3 (by decide) ⟨lk_miss (by kernel_rfl) (lk_miss (by kernel_rfl) h1), lk_miss (by kernel_rfl) lk_hit, lk_miss (by kernel_rfl) (lk_miss (by kernel_rfl) h2), lk_hit, Nat.le_refl _⟩
    have hcs : bits5.foldl (cellStep a (e a)) [a] = cellsOf a (e a) := rfl
    rw [hcs] at g4 g5
    have hspl : cellsAll e fam = cellsAll e pre ++ (cellsOf a (e a) ++ cellsAll e post) := by
      rw [hfam]
      unfold cellsAll
      rw [List.flatMap_append, List.flatMap_cons]
    rw [hspl] at hd hl
    rw [List.length_append, List.length_append] at hl
    have hkeys := all_keys e pre
    have hlen : (pre.flatMap (rowsOf e)).length = (cellsAll e pre).length := by
      have := congrArg List.length hkeys
      rw [List.length_map, List.length_map] at this
      exact this
    obtain ⟨σ5, e5, k1, k2, k3⟩ := for_pre (I := run T1 (n + 27)) (c := defCx ceD) (t := ceC.1) (body := ceC.2.2) iN (CcAt fam e a (pre.flatMap (rowsOf e))) (cellsOf a (e a)) (by
      intro p c q hpc σ L
      rw [hpc] at hd hl
      rw [List.length_append] at hl
      refine cc_turn (n + 3) fam e a ham _ (by omega) p (by omega) c ?_ σ L
      rw [List.map_append, hkeys, rows_keys, ← List.map_append]
      intro hm
      obtain ⟨c', hc', hk⟩ := List.mem_map.mp hm
      rw [kN_inj hk, List.mem_append] at hc'
      rw [List.nodup_append] at hd
      rcases hc' with hc' | hc'
      · exact hd.2.2 c hc' c (List.mem_append_left _ (List.mem_append_right _ List.mem_cons_self)) rfl
      · have h3 := (List.nodup_append.mp hd.2.1).1
        exact (List.nodup_append.mp h3).2.2 c hc' c List.mem_cons_self rfl) (cellsOf a (e a)) [] rfl σ4 ⟨g1, g2, by rw [List.map_nil, List.append_nil]; exact g3⟩
    refine ⟨σ2, as_name (by kernel_rfl) (s_loc (by decide +kernel)), σ5, ex_of ?_, k1, ?_⟩
    · rw [ce_all]
      refine l_next (σ₁ := σ3) ?_ (l_next (σ₁ := σ4) ?_ (l_one (fl := .next) ?_))
      · refine' x_name (by kernel_rfl) (e_list (ds := [iN a]) (all_cons ?_ all_nil) (by decide)) (s_loc (by decide +kernel))
        repeat' walk_at "pv"
      · refine' x_for (by kernel_rfl) (it_list (d := .tup (bits5.map iN)) (by kernel_rfl) (by kernel_rfl) (by rfl) pi_tup) e4
      · refine' x_for (by kernel_rfl) (it_list (d := encN (cellsOf a (e a))) (by kernel_rfl) (by kernel_rfl) ?_ pi_list) e5
        repeat' walk_at "pv"
    · rw [List.flatMap_append, List.flatMap_singleton]; exact k3) fam [] rfl σ1 ⟨lk_miss (by kernel_rfl) lk_hit, lk_hit⟩
  have p2 := p.b
  refine cl_of (D := ceD) (σ := σ0) (σ' := σ') (by rfl) (by rfl) ?_
  refine l_next (σ₁ := σ1) (by rfl) (l_next (σ₁ := σ') ?_ (l_one ?_))
  · refine' x_for (by kernel_rfl) (it_list (d := encN fam) (by kernel_rfl) (by kernel_rfl) ?_ pi_list) e0
    repeat' walk_at "pv"
  · refine' x_ret ?_
    repeat' walk_at "pv"
end Mine
end
section
set_option maxRecDepth 100000
set_option linter.unusedSimpArgs false
set_option linter.unusedVariables false
namespace Mine
open PySem
/-! _law_due -/
noncomputable def duD : Def := dAt 8
noncomputable def duF := getFor (stmtAt duD 1)
noncomputable def du (i : Nat) : Stmt := duF.2.2.getD i (.Pass ⟨0,0,0,0⟩)
theorem du_all : duF.2.2 = [du 0, du 1, du 2, du 3, du 4] := by rfl
noncomputable def duJ := getFor (du 2)
noncomputable def innerOf (fam : List Nat) (c : Nat) : List Nat := fam.filter fun m => (m ||| c) == c
noncomputable def joinL (l : List Nat) : Nat := l.foldl (· ||| ·) 0
noncomputable def topOf (fam : List Nat) (e : Nat → Nat) (x : Nat) : Nat := if x ∈ fam then e x else 0
noncomputable def dueIf (fam : List Nat) (e : Nat → Nat) (c : Nat) : Bool := !(innerOf fam c).isEmpty && ((topOf fam e (joinL (innerOf fam c)) ||| c) == topOf fam e (joinL (innerOf fam c)))
noncomputable def dueEntry (fam : List Nat) (e : Nat → Nat) (c : Nat) : PV := .tup [.int 1, iN (joinL (innerOf fam c)), iN (topOf fam e (joinL (innerOf fam c))), iN c, .dict [(kN (joinL (innerOf fam c)), .int 1)]]
noncomputable def dueBook (fam : List Nat) (e : Nat → Nat) (cs : List Nat) : List (Key × PV) := (cs.filter (dueIf fam e)).map fun c => (kN c, dueEntry fam e c)
theorem e_getr {T : Tx} {n : Nat} {c : Cx} {σ : St} {o u v : Expr} {m : Str} {ap p : Pos} {dl : List (Key × PV)} {k : Key} {a b r : PV} (hr : (dget dl k).getD b = r) (hm : decide (m = Str.ofString "get") = true) (hk : okM o ap p = true) (ho : evB (run T n) c σ o = some (.dict dl)) (h1 : (run T n).ev c σ u = some a) (hka : a.key = some k) (h2 : (run T n).ev c σ v = some b) :
    (run T (n + 1)).ev c σ (.Call (.Attribute o m ap) [u, v] [] p) = some r := hr ▸ e_get hm hk ho h1 hka h2
theorem x_iftb {I : Itp} {c : Cx} {σ : St} {p : Pos} {t : Expr} {u w : List Stmt} {o : Option (Flo × St)} {b : Bool} (hb : b = true) (ht : I.ts c σ t = some b) (h : I.ex c σ u = o) : exStep I c σ (.If t u w p) = o := x_ift (hb ▸ ht) h
theorem x_iffb {I : Itp} {c : Cx} {σ : St} {p : Pos} {t : Expr} {u w : List Stmt} {o : Option (Flo × St)} {b : Bool} (hb : b = false) (ht : I.ts c σ t = some b) (h : I.ex c σ w = o) : exStep I c σ (.If t u w p) = o := x_iff (hb ▸ ht) h
theorem ne_nil : ∀ l : List Nat, pcmp .NotEq (encN l) (.list []) = some (!l.isEmpty)
  | [] => rfl
  | x :: l => rfl
theorem dget_top (fam : List Nat) (e : Nat → Nat) (x : Nat) : (dget (encD (tE fam e)) (kN x)).getD (.int 0) = iN (topOf fam e x) := by
  unfold topOf
  by_cases h : x ∈ fam
  · have : dget (encD (tE fam e)) (kN x) = some (iN (e x)) := pget_tE e h
    rw [if_pos h, this]; rfl
  · rw [if_neg h, dget_new]
    · rfl
    · intro hm
      rw [encD_map, List.map_map] at hm
      obtain ⟨y, hy, hk⟩ := List.mem_map.mp hm
      exact h (kN_inj hk ▸ hy)
structure DjAt (fam : List Nat) (e : Nat → Nat) (B : PV) (c : Nat) (inn : List Nat) (k : Nat) (x : Nat) (σ : St) : Prop where
  fm : σ.loc.lookup (Str.ofString "family") = some (.fro (encN fam))
  en : σ.loc.lookup (Str.ofString "ends") = some (.fro (.dict (encD (tE fam e))))
  bk : σ.loc.lookup (Str.ofString "book") = some (.own B)
  ce : σ.cel.lookup (Str.ofString "cell") = some (.fro (iN c))
  inn : σ.loc.lookup (Str.ofString "inner") = some (.fro (encN inn))
  jn : σ.loc.lookup (Str.ofString "joined") = some (.fro (iN x))
  lt : x < 32
theorem dj_turn (n : Nat) (fam : List Nat) (e : Nat → Nat) (B : PV) (c : Nat) (inn : List Nat) (m : Nat) (hm : m < 32) (k x : Nat) (σ : St) (L : DjAt fam e B c inn k x σ) :
    ∃ σ₁, asg (defCx duD) duJ.1 (iN m) σ = some σ₁ ∧ ∃ σ₂, (run T1 (n + 14)).ex (defCx duD) σ₁ duJ.2.2 = some (.next, σ₂) ∧ DjAt fam e B c inn (k + 1) (x ||| m) σ₂ := by
  obtain ⟨h1, h2, h3, h4, h5, h6, h7⟩ := L
  have ho := or_nat h7 hm
  let σ1 : St := ⟨aset σ.loc (Str.ofString "member") (.fro (iN m)), σ.cel⟩
  refine ⟨σ1, as_name (by kernel_rfl) (s_loc (by decide +kernel)), ⟨aset σ1.loc (Str.ofString "joined") (.fro (iN (x ||| m))), σ1.cel⟩, ex_of (l_one ?_), lk_miss (by kernel_rfl) (lk_miss (by kernel_rfl) h1), lk_miss (by kernel_rfl) (lk_miss (by kernel_rfl) h2), lk_miss (by kernel_rfl) (lk_miss (by kernel_rfl) h3), h4, lk_miss (by kernel_rfl) (lk_miss (by kernel_rfl) h5), lk_hit, (or32 _ h7 _ hm).2⟩
  refine' x_name (by kernel_rfl) (e_bin ?_ ?_ ho) (s_loc (by decide +kernel))
  all_goals repeat' walk_at "pv"
structure DuAt (fam : List Nat) (e : Nat → Nat) (pre : List Nat) (σ : St) : Prop where
  fm : σ.loc.lookup (Str.ofString "family") = some (.fro (encN fam))
  en : σ.loc.lookup (Str.ofString "ends") = some (.fro (.dict (encD (tE fam e))))
  bk : σ.loc.lookup (Str.ofString "book") = some (.own (.dict (dueBook fam e pre)))
theorem due_snoc (fam : List Nat) (e : Nat → Nat) (pre : List Nat) (c : Nat) : dueBook fam e (pre ++ [c]) = dueBook fam e pre ++ (bif dueIf fam e c then [(kN c, dueEntry fam e c)] else []) := by
  unfold dueBook
  rw [List.filter_append, List.map_append]
  congr 1
  cases h : dueIf fam e c with
  | true => rw [List.filter_cons_of_pos h]; rfl
  | false => rw [List.filter_cons_of_neg (by rw [h]; decide)]; rfl
theorem due_keys (fam : List Nat) (e : Nat → Nat) (cs : List Nat) : (dueBook fam e cs).map (·.1) = (cs.filter (dueIf fam e)).map kN := by
  unfold dueBook
  rw [List.map_map]; rfl
theorem due_turn (n : Nat) (fam : List Nat) (e : Nat → Nat) (hf : ∀ a ∈ fam, a < 32 ∧ e a < 32) (hl : fam.length < 1000) (pre : List Nat) (hp : pre.length < 1000) (c : Nat) (hc : c < 32) (hcp : c ∉ pre) (σ : St) (L : DuAt fam e pre σ) :
    ∃ σ₁, asg (defCx duD) duF.1 (iN c) σ = some σ₁ ∧ ∃ σ₂, (run T1 (n + 18)).ex (defCx duD) σ₁ duF.2.2 = some (.next, σ₂) ∧ DuAt fam e (pre ++ [c]) σ₂ := by
  obtain ⟨h1, h2, h3⟩ := L
  let σ1 : St := ⟨σ.loc, aset σ.cel (Str.ofString "cell") (.fro (iN c))⟩
  let σ2 : St := ⟨aset σ1.loc (Str.ofString "inner") (.fro (encN (innerOf fam c))), σ1.cel⟩
  let σ3 : St := ⟨aset σ2.loc (Str.ofString "joined") (.fro (iN 0)), σ2.cel⟩
  have hin : ∀ x ∈ innerOf fam c, x < 32 := fun x hx => (hf x (List.mem_filter.mp hx).1).1
  obtain ⟨σ4, e4, g1, g2, g3, g4, g5, g6, g7⟩ := for_invN (I := run T1 (n + 17)) (c := defCx duD) (t := duJ.1) (body := duJ.2.2) iN (DjAt fam e (.dict (dueBook fam e pre)) c (innerOf fam c)) (· ||| ·) (innerOf fam c).length (innerOf fam c) (fun m hm k x σ _ L => dj_turn (n + 3) fam e _ c _ m (hin m hm) k x σ L) 0 0 σ3 (by omega) ⟨lk_miss (by kernel_rfl) (lk_miss (by kernel_rfl) h1), lk_miss (by kernel_rfl) (lk_miss (by kernel_rfl) h2), lk_miss (by kernel_rfl) (lk_miss (by kernel_rfl) h3), lk_hit, lk_miss (by kernel_rfl) lk_hit, lk_hit, by decide⟩
  have g6 : σ4.loc.lookup (Str.ofString "joined") = some (.fro (iN (joinL (innerOf fam c)))) := g6
  have htop := dget_top fam e (joinL (innerOf fam c))
  have hne := ne_nil (innerOf fam c)
  have htlt : topOf fam e (joinL (innerOf fam c)) < 32 := by
    unfold topOf
    by_cases h : joinL (innerOf fam c) ∈ fam
    · rw [if_pos h]; exact (hf _ h).2
    · rw [if_neg h]; decide
  have hsn := due_snoc fam e pre c
  have hif : dueIf fam e c = (!(innerOf fam c).isEmpty && ((topOf fam e (joinL (innerOf fam c)) ||| c) == topOf fam e (joinL (innerOf fam c)))) := rfl
  have hen : dueEntry fam e c = .tup [.int 1, iN (joinL (innerOf fam c)), iN (topOf fam e (joinL (innerOf fam c))), iN c, .dict [(kN (joinL (innerOf fam c)), .int 1)]] := rfl
  generalize joinL (innerOf fam c) = J at g6 htop htlt hif hen
  generalize topOf fam e J = t at htop htlt hif hen
  have hor := or_nat htlt hc
  have heq := eq_nat (t ||| c) t
  let σ5 : St := ⟨aset σ4.loc (Str.ofString "top") (.fro (iN t)), σ4.cel⟩
  have e2 : exStep (run T1 (n + 17)) (defCx duD) σ1 (du 0) = some (.next, σ2) := by
    have hfl : encN (innerOf fam c) = .list ((fam.filter fun m => (m ||| c) == c).map iN) := rfl
    rw [show σ2 = ⟨aset σ1.loc (Str.ofString "inner") (.fro (.list ((fam.filter fun m => (m ||| c) == c).map iN))), σ1.cel⟩ from rfl]
    refine' x_name (by kernel_rfl) (e_lcomp (c_filt iN iN (fun m => (m ||| c) == c) (fun m l => aset l (Str.ofString "member") (.fro (iN m))) (ds := fam) (by kernel_rfl) ?_ (by omega) ?_)) (s_loc (by decide +kernel))
    · refine' it_list (d := encN fam) (by kernel_rfl) (by kernel_rfl) ?_ pi_list
      repeat' walk_at "pv"
    · intro m hm l
      have ho := or_nat (hf m hm).1 hc
      have hq := eq_nat (m ||| c) c
      refine ⟨as_name (by kernel_rfl) (s_loc (by decide +kernel)), ?_, fun _ => ?_⟩
      · refine' t_cmp (B_ev (by kernel_rfl) (e_bin ?_ ?_ ho)) ?_ hq
        all_goals repeat' walk_at "pv"
      · refine' e_name ?_
        all_goals repeat' walk_at "pv"
  have e3 : exStep (run T1 (n + 17)) (defCx duD) σ2 (du 1) = some (.next, σ3) := by
    exact x_name (by kernel_rfl) e_int (s_loc (by decide +kernel))
  have e4' : exStep (run T1 (n + 17)) (defCx duD) σ3 (du 2) = some (.next, σ4) := by
    refine' x_for (by kernel_rfl) (it_list (d := encN (innerOf fam c)) (by kernel_rfl) (by kernel_rfl) ?_ pi_list) e4
    repeat' walk_at "pv"
  have e5 : exStep (run T1 (n + 17)) (defCx duD) σ4 (du 3) = some (.next, σ5) := by
    refine' x_name (by kernel_rfl) (e_getr htop (by decide +kernel) (by kernel_rfl) ?_ ?_ k_int e_int) (s_loc (by decide +kernel))
    all_goals repeat' walk_at "pv"
  refine ⟨σ1, as_name (by kernel_rfl) (s_cel (by decide +kernel)), ?_⟩
  rw [du_all]
  have k1 : σ5.loc.lookup (Str.ofString "family") = some (.fro (encN fam)) := lk_miss (by kernel_rfl) g1
  have k2 : σ5.loc.lookup (Str.ofString "ends") = some (.fro (.dict (encD (tE fam e)))) := lk_miss (by kernel_rfl) g2
  have k3 : σ5.loc.lookup (Str.ofString "book") = some (.own (.dict (dueBook fam e pre))) := lk_miss (by kernel_rfl) g3
  have k4 : σ5.cel.lookup (Str.ofString "cell") = some (.fro (iN c)) := g4
  have k6 : σ5.loc.lookup (Str.ofString "joined") = some (.fro (iN J)) := lk_miss (by kernel_rfl) g6
  have k7 : σ5.loc.lookup (Str.ofString "top") = some (.fro (iN t)) := lk_hit
  cases hd : dueIf fam e c with
  | false =>
    rw [hd] at hsn
    rw [cond_false, List.append_nil] at hsn
    have e6 : exStep (run T1 (n + 17)) (defCx duD) σ5 (du 4) = some (.next, σ5) := by
      refine' x_iffb (hif.symm.trans hd) (t_bool (a_cons (t_cmp ?_ ?_ hne) (fun _ => a_one (t_cmp (B_ev (by kernel_rfl) (e_bin ?_ ?_ hor)) ?_ heq)))) (ex_of l_nil)
      all_goals repeat' walk_at "pv"
    exact ⟨σ5, ex_of (l_next e2 (l_next e3 (l_next e4' (l_next e5 (l_one e6))))), k1, k2, by rw [hsn]; exact k3⟩
  | true =>
    rw [hd] at hsn
    rw [cond_true] at hsn
    have hnew : kN c ∉ (dueBook fam e pre).map (·.1) := by
      rw [due_keys]
      intro hm
      obtain ⟨y, hy, hk⟩ := List.mem_map.mp hm
      exact hcp (kN_inj hk ▸ (List.mem_filter.mp hy).1)
    have hds := dset_new (v := dueEntry fam e c) hnew
    have hll : (dueBook fam e pre).length < 100000 := by
      unfold dueBook
      rw [List.length_map]
      exact Nat.lt_of_le_of_lt (List.length_filter_le _ _) (by omega)
    refine ⟨⟨aset σ5.loc (Str.ofString "book") (.own (.dict (dset (dueBook fam e pre) (kN c) (dueEntry fam e c)))), σ5.cel⟩, ex_of (l_next e2 (l_next e3 (l_next e4' (l_next e5 (l_one ?_))))), lk_miss (by kernel_rfl) k1, lk_miss (by kernel_rfl) k2, ?_⟩
    · rw [hen]
      refine' x_iftb (hif.symm.trans hd) (t_bool (a_cons (t_cmp ?_ ?_ hne) (fun _ => a_one (t_cmp (B_ev (by kernel_rfl) (e_bin ?_ ?_ hor)) ?_ heq)))) (ex_of (l_one ?_))
      rotate_right
      refine' x_sub (by kernel_rfl) (e_tup (all_cons ?_ (all_cons ?_ (all_cons ?_ (all_cons ?_ (all_cons (e_dict (pr_cons ?_ k_int ?_ pr_nil) (by decide)) all_nil))))) (by decide)) ?_ ?_ (k := kN c) k_int hll (s_loc (by decide +kernel))
      all_goals repeat' walk_at "pv"
    · rw [hsn, hds]; exact lk_hit
theorem due_cl (n : Nat) (fam : List Nat) (e : Nat → Nat) (hf : ∀ a ∈ fam, a < 32 ∧ e a < 32) (hl : fam.length < 1000) :
    (run T1 (n + 21)).cl (Str.ofString "_law_due") [encN fam, .dict (encD (tE fam e))] = some (.dict (dueBook fam e (List.range 32))) := by
  let σ0 : St := ⟨aset (aset [] (Str.ofString "family") (.fro (encN fam))) (Str.ofString "ends") (.fro (.dict (encD (tE fam e)))), []⟩
  let σ1 : St := ⟨aset σ0.loc (Str.ofString "book") (.own (.dict [])), []⟩
  obtain ⟨σ', e0, p⟩ := for_pre (I := run T1 (n + 19)) (c := defCx duD) (t := duF.1) (body := duF.2.2) iN (DuAt fam e) (List.range 32) (by
    intro pre c post hs σ L
    have hnd : (pre ++ c :: post).Nodup := hs ▸ List.nodup_range
    have hcm : c ∈ List.range 32 := by rw [hs]; exact List.mem_append_right _ List.mem_cons_self
    have hlen : (pre ++ c :: post).length = 32 := by rw [← hs]; rfl
    rw [List.length_append] at hlen
    exact due_turn (n + 1) fam e hf hl pre (by omega) c (List.mem_range.mp hcm) (fun hcp => (List.nodup_append.mp hnd).2.2 c hcp c List.mem_cons_self rfl) σ L) (List.range 32) [] rfl σ1 ⟨lk_miss (by kernel_rfl) (lk_miss (by kernel_rfl) lk_hit), lk_miss (by kernel_rfl) lk_hit, lk_hit⟩
  have p2 := p.bk
  refine cl_of (D := duD) (σ := σ0) (σ' := σ') (by rfl) (by rfl) ?_
  refine l_next (σ₁ := σ1) (by rfl) (l_next (σ₁ := σ') ?_ (l_one ?_))
  · exact x_for (by kernel_rfl) (it_rngc (by kernel_rfl) (by decide +kernel) (by decide)) e0
  · refine' x_ret ?_
    repeat' walk_at "pv"
end Mine
end
section
set_option maxRecDepth 100000
set_option linter.unusedSimpArgs false
set_option linter.unusedVariables false
namespace Mine
open PySem
/-! helpers -/
theorem loop_mapP {α β : Type} {I : Itp} {c : Cx} {t it : Expr} {ai : Int} {out : St → Option α} (enc : β → PV) (f : β → α) (P : St → Prop) : ∀ (ds : List β), (∀ d ∈ ds, ∀ σ, P σ → ∃ σ₁, asg c t (enc d) σ = some σ₁ ∧ P σ₁ ∧ out σ₁ = some (f d)) →
    ∀ σ, P σ → ∃ σ', compLoop I c ⟨t, it, [], ai⟩ (compGens I c out []) (ds.map enc) σ = some (ds.map f, σ')
  | [], _, σ, _ => ⟨σ, rfl⟩
  | d :: ds, h, σ, p => by
    obtain ⟨σ₁, h1, p1, h2⟩ := h d List.mem_cons_self σ p
    obtain ⟨m', e⟩ := loop_mapP enc f P ds (fun d' hd' => h d' (List.mem_cons_of_mem _ hd')) σ₁ p1
    exact ⟨m', bind_of h1 (bind_of (u := ifsAll I c σ₁ []) rfl ((if_pos rfl).trans (bind_of (map_of h2) (map_of e))))⟩
theorem c_mapP {α β : Type} {I : Itp} {c : Cx} {σ : St} {t it : Expr} {sc : Scope} {out : Cx → St → Option α} (enc : β → PV) (f : β → α) (P : St → Prop) {ds : List β} (hok : okScope sc c.sc σ [⟨t, it, [], 0⟩] = true) (hi : evIter I c σ it = some (ds.map enc)) (hlen : ds.length ≤ 100000) (hP : P ⟨[], σ.cel⟩)
    (h : ∀ d ∈ ds, ∀ σ, P σ → ∃ σ₁, asg ⟨relab sc c.sc, []⟩ t (enc d) σ = some σ₁ ∧ P σ₁ ∧ out ⟨relab sc c.sc, []⟩ σ₁ = some (f d)) : evComp I c σ sc out [⟨t, it, [], 0⟩] = some (ds.map f) := by
  obtain ⟨m', e⟩ := loop_mapP (I := I) (it := it) (ai := 0) enc f P ds h ⟨[], σ.cel⟩ hP
  refine (if_pos (by rw [hok]; rfl)).trans (bind_of hi (bind_of e (if_pos ?_)))
  rw [List.length_map]; exact hlen
theorem p_sorted {l : List PV} (h : 2 ≤ l.length ∧ l.length < 64 ∧ l.all isListV = true ∧ asc l = true) : pone (Str.ofString "sorted") (.list l) = some (.list l) :=
  (if_neg (by decide)).trans ((if_neg (by decide)).trans ((if_neg (by decide)).trans ((if_neg (by decide)).trans ((if_pos rfl).trans (map_of (bind_of (u := PV.list? (.list l)) rfl (if_pos h)))))))
theorem seqEq_refl (e : PV → PV → Option Bool) : ∀ l : List PV, (∀ x ∈ l, e x x = some true) → seqEq e l l = some true
  | [], _ => rfl
  | x :: l, h => both_of (h x List.mem_cons_self) (seqEq_refl e l fun y hy => h y (List.mem_cons_of_mem _ hy)) rfl
theorem peq_list {n : Nat} {l : List PV} (h : ∀ x ∈ l, peq n x x = some true) : peq (n + 1) (.list l) (.list l) = some true := (if_pos rfl : (if l.length = l.length then seqEq (peq n) l l else some false) = _).trans (seqEq_refl _ l h)
theorem peq_int (n : Nat) (a : Int) : peq (n + 1) (.int a) (.int a) = some true := congrArg some (beq_self_eq_true a)
theorem okScope_one {sc : Scope} {o : Str → Option NameKind} {σ : St} {gens : List Comprehension} {x : Str} (h0 : okScope sc o ⟨[], []⟩ gens = true) (h1 : (sc.names.all fun p => p.2 != .cell || decide (p.1 = x)) = true) (h2 : σ.cel.lookup x = none) : okScope sc o σ gens = true := by
  unfold okScope at h0 ⊢
  have h3 : (sc.names.all fun p => p.2 != .cell || (σ.cel.lookup p.1).isNone) = true := by
    rw [List.all_eq_true] at h1 ⊢
    intro p hp
    have := h1 p hp
    rw [Bool.or_eq_true] at this ⊢
    rcases this with h | h
    · exact Or.inl h
    · rw [of_decide_eq_true h, h2]; exact Or.inr rfl
  rw [h3]
  have h4 : (sc.names.all fun p => p.2 != .cell || (List.lookup p.1 ([] : List (Str × LV))).isNone) = true := by
    rw [List.all_eq_true]
    intro p _
    rw [Bool.or_eq_true]
    exact Or.inr rfl
  rw [h4] at h0
  exact h0
theorem everyNth_map {α β : Type} (f : α → β) (n : Nat) : ∀ (k : Nat) (l : List α), everyNth n k (l.map f) = (everyNth n k l).map f
  | k, [] => by cases k <;> rfl
  | 0, x :: l => congrArg (f x :: ·) (everyNth_map f n _ l)
  | k + 1, x :: l => everyNth_map f n k l
theorem slice_step (ns : List Int) (p st : Int) (hl : ns.length < 1000000) (h0 : 0 ≤ p) (h1 : p < 1000000) (h2 : 0 < st) (h3 : st < 1000) :
    pslice (.list (ns.map .int)) (some p) none (some st) = some (.list ((everyNth st.toNat 0 (ns.drop p.toNat)).map .int)) := by
  refine (if_pos ⟨h0, h1, Int.le_refl _, by decide, by rw [List.length_map]; exact hl⟩).trans ((if_pos ⟨h2, h3, rfl⟩).trans ?_)
  rw [← everyNth_map, List.map_drop]; rfl
theorem slice_take (ns : List Int) (k : Int) (h0 : 0 ≤ k) (h1 : k < 1000000) (hl : ns.length < 1000000) : pslice (.list (ns.map .int)) none (some k) none = some (.list ((ns.take k.toNat).map .int)) := by
  refine (if_pos ⟨by decide, by decide, h0, h1, by rw [List.length_map]; exact hl⟩).trans ?_
  rw [List.map_take]
  rfl
theorem us (a : Int) : pun .USub (.int a) = some (.int (-a)) := rfl
/-! law -/
noncomputable def lwD : Def := dAt 9
noncomputable def lw (i : Nat) : Stmt := stmtAt lwD i
theorem lw_all : lwD.body = [lw 0, lw 1, lw 2, lw 3, lw 4, lw 5, lw 6, lw 7, lw 8, lw 9, lw 10, lw 11, lw 12, lw 13, lw 14, lw 15, lw 16, lw 17, lw 18, lw 19, lw 20, lw 21] := by rfl
theorem lw0 (n : Nat) (σ : St) (ns : List Int) (hl : ns.length ≤ 63) (h1 : σ.loc.lookup (Str.ofString "script") = some (.fro (.list (ns.map .int)))) :
    exStep (run T1 (n + 10)) (defCx lwD) σ (lw 0) = some (.next, ⟨σ.loc, aset σ.cel (Str.ofString "numbers") (.fro (.list ((ns.take (Int.toNat 30)).map .int)))⟩) := by
  have hs := slice_take ns 30 (by decide) (by decide) (by omega)
  refine' x_name (by kernel_rfl) (e_slice ?_ ?_ ?_ ?_ hs) (s_cel (by decide +kernel))
  all_goals repeat' walk_at "pv"
noncomputable def totOf (ns : List Int) : Int := ns.sum.fmod 1000003
theorem lw1 (n : Nat) (σ : St) (ns : List Int) (h1 : σ.cel.lookup (Str.ofString "numbers") = some (.fro (.list (ns.map .int)))) :
    exStep (run T1 (n + 10)) (defCx lwD) σ (lw 1) = some (.next, ⟨σ.loc, aset σ.cel (Str.ofString "total") (.fro (.int (totOf ns)))⟩) := by
  have hm : pbin .Mod (.int ns.sum) (.int 1000003) = some (.int (totOf ns)) := pbin_mod (by decide)
  refine' x_name (by kernel_rfl) (e_bin ?_ ?_ hm) (s_cel (by decide +kernel))
  all_goals repeat' walk_at "pv"
noncomputable def drawAt (ns : List Int) (k : Nat) : Int := (7 * (k : Int) + 2 + (everyNth (Int.toNat 5) 0 (ns.drop (Int.toNat (k : Int)))).sum).fmod 9
noncomputable def list5 (d : Nat → Int) : List Int := (List.range 5).map d
theorem lw2 (n : Nat) (σ : St) (ns : List Int) (hl : ns.length < 1000000) (h1 : σ.cel.lookup (Str.ofString "numbers") = some (.fro (.list (ns.map .int)))) :
    exStep (run T1 (n + 14)) (defCx lwD) σ (lw 2) = some (.next, ⟨σ.loc, aset σ.cel (Str.ofString "draws") (.fro (.list ((list5 (drawAt ns)).map .int)))⟩) := by
  have hl5 : (list5 (drawAt ns)).map PV.int = (List.range 5).map fun k => PV.int (drawAt ns k) := by unfold list5; rw [List.map_map]; rfl
  rw [hl5]
  refine' x_name (by kernel_rfl) (e_lcomp (c_map iN (fun k => PV.int (drawAt ns k)) (fun k l => aset l (Str.ofString "k") (.fro (iN k))) (ds := List.range 5) (by kernel_rfl) (it_rngc (by kernel_rfl) (by decide +kernel) (by decide)) (by decide) ?_)) (s_cel (by decide +kernel))
  intro k hk m
  have hk5 : k < 5 := List.mem_range.mp hk
  have hs := slice_step ns (k : Int) 5 hl (by omega) (by omega) (by decide) (by decide)
  have hm : pbin .Mult (.int 7) (iN k) = some (.int (7 * (k : Int))) := pbin_mul (mulOk_small (by decide) (by omega))
  have hq : pbin .Mod (.int (7 * (k : Int) + 2 + (everyNth (Int.toNat 5) 0 (ns.drop (Int.toNat (k : Int)))).sum)) (.int 9) = some (.int (drawAt ns k)) := pbin_mod (by decide)
  refine ⟨as_name (by kernel_rfl) (s_loc (by decide +kernel)), ?_⟩
  refine' e_bin (B_ev (by kernel_rfl) (e_bin (B_ev (by kernel_rfl) (e_bin (B_ev (by kernel_rfl) (e_bin ?_ ?_ hm)) ?_ (pbin_add _ _))) (B_ev (by kernel_rfl) (e_one (by decide +kernel) (by decide +kernel) (by decide +kernel) (by decide +kernel) (B_ev (by kernel_rfl) (e_slice ?_ (o_some ?_) o_none (o_some ?_) hs)) (p_sum _))) (pbin_add _ _))) ?_ hq
  all_goals repeat' walk_at "pv"
noncomputable def txt (f : Int) : Str := if f = 0 then Str.ofString "a" else if f = 1 then Str.ofString "ab" else Str.ofString "b"
theorem three {a : Int} (h0 : 0 ≤ a) (h3 : a < 3) : a = 0 ∨ a = 1 ∨ a = 2 := by omega
theorem txt_get {i : Int} (a : 0 ≤ i) (b : i < 3) : pget (.tup [.str (Str.ofString "a"), .str (Str.ofString "ab"), .str (Str.ofString "b")]) (.int i) = some (.str (txt i)) := by
  rcases three a b with rfl | rfl | rfl <;> rfl
/-- the plain figures of a point's row -/
noncomputable def fgOf (d : Nat → Int) (i c : Nat) : Int := if c = 0 then (d i).fmod 3 else if c = 1 then (d i).fdiv 3 else (i : Int)
noncomputable def Draws (d : Nat → Int) : Prop := ∀ k, 0 ≤ d k ∧ d k < 9
theorem fg0 (d : Nat → Int) (i : Nat) : 0 ≤ (d i).fmod 3 ∧ (d i).fmod 3 < 3 := ⟨Int.fmod_nonneg_of_pos _ (by decide), Int.fmod_lt_of_pos _ (by decide)⟩
theorem fg1 {d : Nat → Int} (hd : Draws d) (i : Nat) : 0 ≤ (d i).fdiv 3 ∧ (d i).fdiv 3 < 3 := by
  have := hd i
  rw [Int.fdiv_eq_ediv_of_nonneg _ (by decide)]
  omega
theorem d5_get (d : Nat → Int) : ∀ {k : Nat}, k < 5 → pget (.list ((list5 d).map .int)) (iN k) = some (.int (d k))
  | 0, _ => rfl
  | 1, _ => rfl
  | 2, _ => rfl
  | 3, _ => rfl
  | 4, _ => rfl
  | k + 5, h => absurd h (by omega)
noncomputable def rowL (d : Nat → Int) (i : Nat) : List PV := [.int ((d i).fmod 3), .str (txt ((d i).fdiv 3)), iN i]
noncomputable def rowP (d : Nat → Int) (i : Nat) : PV := .tup (rowL d i)
theorem lw3 (n : Nat) (σ : St) (d : Nat → Int) (hd : Draws d) (h1 : σ.cel.lookup (Str.ofString "draws") = some (.fro (.list ((list5 d).map .int)))) :
    exStep (run T1 (n + 14)) (defCx lwD) σ (lw 3) = some (.next, ⟨aset σ.loc (Str.ofString "rows") (.fro (.list ((List.range 5).map (rowP d)))), σ.cel⟩) := by
  refine' x_name (by kernel_rfl) (e_lcomp (c_map iN (rowP d) (fun k l => aset l (Str.ofString "k") (.fro (iN k))) (ds := List.range 5) (by kernel_rfl) (it_rngc (by kernel_rfl) (by decide +kernel) (by decide)) (by decide) ?_)) (s_loc (by decide +kernel))
  intro k hk m
  have hk5 : k < 5 := List.mem_range.mp hk
  have hg := d5_get d hk5
  have h2 := fg1 hd k
  have ht := txt_get h2.1 h2.2
  have hm : pbin .Mod (.int (d k)) (.int 3) = some (.int ((d k).fmod 3)) := pbin_mod (by decide)
  have hv : pbin .FloorDiv (.int (d k)) (.int 3) = some (.int ((d k).fdiv 3)) := pbin_fdiv (by decide)
  refine ⟨as_name (by kernel_rfl) (s_loc (by decide +kernel)), ?_⟩
  refine' e_tup (all_cons (e_bin (B_ev (by kernel_rfl) (e_sub (by kernel_rfl) ?_ ?_ hg)) ?_ hm) (all_cons (e_sub (by kernel_rfl) ?_ (e_bin (B_ev (by kernel_rfl) (e_sub (by kernel_rfl) ?_ ?_ hg)) ?_ hv) ht) (all_cons ?_ all_nil))) (by decide)
  all_goals repeat' walk_at "pv"
noncomputable def wayAt (i : Int) : Int := if i = 0 then 1 else if i = 1 then -1 else if i = 2 then 2 else -3
noncomputable def wyOf (t : Int) (c : Nat) : Int := wayAt (((108 + t).fdiv (4 ^ c)).fmod 4)
theorem wy_ne (t : Int) (c : Nat) : wyOf t c ≠ 0 ∧ (wyOf t c).natAbs ≤ 3 := by
  unfold wyOf
  generalize ((108 + t).fdiv (4 ^ c)).fmod 4 = i
  by_cases h : i = 0
  · rw [wayAt, if_pos h]; decide
  by_cases h1 : i = 1
  · rw [wayAt, if_neg h, if_pos h1]; decide
  by_cases h2 : i = 2
  · rw [wayAt, if_neg h, if_neg h1, if_pos h2]; decide
  · rw [wayAt, if_neg h, if_neg h1, if_neg h2]; decide
theorem way_get (x : Int) : pget (.tup [.int 1, .int (-1), .int 2, .int (-3)]) (.int (x.fmod 4)) = some (.int (wayAt (x.fmod 4))) := by
  have a := Int.fmod_nonneg_of_pos x (show (0 : Int) < 4 by decide)
  have b := Int.fmod_lt_of_pos x (show (0 : Int) < 4 by decide)
  generalize x.fmod 4 = i at a b ⊢
  rcases (by omega : i = 0 ∨ i = 1 ∨ i = 2 ∨ i = 3) with rfl | rfl | rfl | rfl <;> rfl
theorem div4s : ∀ c : Nat, c < 3 → (0 ≤ (c : Int) ∧ (c : Int) ≤ 1000 ∧ (4 : Int).natAbs < 2 ^ 64) ∧ ¬ ((4 ^ c : Int) = 0 ∨ 1000000000 < (4 ^ c : Int).natAbs) := by decide
noncomputable def colsOf (t : Int) : List Nat := if t.fmod 2 = 0 then [0, 1, 2] else [1, 0, 2]
theorem cols_lt (t : Int) : ∀ c ∈ colsOf t, c < 3 := by
  unfold colsOf
  by_cases h : t.fmod 2 = 0
  · rw [if_pos h]; decide
  · rw [if_neg h]; decide
theorem cols_len (t : Int) : (colsOf t).length = 3 := by
  unfold colsOf
  by_cases h : t.fmod 2 = 0
  · rw [if_pos h]; rfl
  · rw [if_neg h]; rfl
theorem cols_get (t : Int) : pget (.tup [.tup [.int 0, .int 1, .int 2], .tup [.int 1, .int 0, .int 2]]) (.int (t.fmod 2)) = some (.tup ((colsOf t).map iN)) := by
  have a := Int.fmod_nonneg_of_pos t (show (0 : Int) < 2 by decide)
  have b := Int.fmod_lt_of_pos t (show (0 : Int) < 2 by decide)
  unfold colsOf
  generalize t.fmod 2 = i at a b ⊢
  rcases (by omega : i = 0 ∨ i = 1) with rfl | rfl <;> rfl
noncomputable def key1 (wy : Nat → Int) (c : Nat) : PV := .tup [iN c, .int (wy c)]
noncomputable def keysPV (wy : Nat → Int) (p : List Nat) : List PV := p.map (key1 wy)
theorem lw4 (n : Nat) (σ : St) (t : Int) (h1 : σ.cel.lookup (Str.ofString "total") = some (.fro (.int t))) :
    exStep (run T1 (n + 14)) (defCx lwD) σ (lw 4) = some (.next, ⟨σ.loc, aset σ.cel (Str.ofString "keys") (.fro (.list (keysPV (wyOf t) (colsOf t))))⟩) := by
  have hg := cols_get t
  have hm : pbin .Mod (.int t) (.int 2) = some (.int (t.fmod 2)) := pbin_mod (by decide)
  refine' x_name (by kernel_rfl) (e_lcomp (c_map iN (key1 (wyOf t)) (fun c l => aset l (Str.ofString "column") (.fro (iN c))) (ds := colsOf t) (by kernel_rfl) ?_ (by rw [cols_len]; decide) ?_)) (s_cel (by decide +kernel))
  · refine' it_list (by kernel_rfl) (by kernel_rfl) (e_sub (by kernel_rfl) ?_ (e_bin ?_ ?_ hm) hg) pi_tup
    all_goals repeat' walk_at "pv"
  · intro c hc m
    obtain ⟨g1, g2⟩ := div4s c (cols_lt t c hc)
    have hp : pbin .Pow (.int 4) (iN c) = some (.int (4 ^ c)) := pbin_pow g1
    have hd : pbin .FloorDiv (.int (108 + t)) (.int (4 ^ c)) = some (.int ((108 + t).fdiv (4 ^ c))) := pbin_fdiv g2
    have hw : pget (.tup [.int 1, .int (-1), .int 2, .int (-3)]) (.int (((108 + t).fdiv (4 ^ c)).fmod 4)) = some (.int (wyOf t c)) := way_get ((108 + t).fdiv (4 ^ c))
    have u1 := us 1
    have u3 := us 3
    refine ⟨as_name (by kernel_rfl) (s_loc (by decide +kernel)), ?_⟩
    refine' e_tup (all_cons ?_ (all_cons (e_sub (by kernel_rfl) ?_ ?_ hw) all_nil)) (by decide)
    all_goals repeat' walk_at "pv"
theorem lw5 (n : Nat) (σ : St) (R : List PV) (K g : PV) (hr : (run T1 (n + 13)).cl (Str.ofString "_law_ranked") [.list R, .inst K] = some g) (h1 : σ.loc.lookup (Str.ofString "rows") = some (.fro (.list R))) (h2 : σ.cel.lookup (Str.ofString "keys") = some (.fro K)) :
    exStep (run T1 (n + 14)) (defCx lwD) σ (lw 5) = some (.next, ⟨aset σ.loc (Str.ofString "ranked") (.fro g), σ.cel⟩) := by
  refine' x_name (by kernel_rfl) (e_call (by decide +kernel) (by decide +kernel) ?_ hr) (s_loc (by decide +kernel))
  all_goals repeat' walk_at "pv"
noncomputable def plainP (d : Nat → Int) (i : Nat) : PV := .tup [.int (fgOf d i 0), .int (fgOf d i 1), .int (fgOf d i 2)]
theorem lw6 (n : Nat) (σ : St) (d : Nat → Int) (g : List Nat) (hg : ∀ i ∈ g, i < 5) (hgl : g.length ≤ 100000) (h1 : σ.cel.lookup (Str.ofString "draws") = some (.fro (.list ((list5 d).map .int)))) (h2 : σ.loc.lookup (Str.ofString "ranked") = some (.fro (.list (g.map (rowP d))))) :
    exStep (run T1 (n + 14)) (defCx lwD) σ (lw 6) = some (.next, ⟨aset σ.loc (Str.ofString "plain") (.fro (.list (g.map (plainP d)))), σ.cel⟩) := by
  refine' x_name (by kernel_rfl) (e_lcomp (c_map (rowP d) (plainP d) (fun k l => aset l (Str.ofString "row") (.fro (rowP d k))) (ds := g) (by kernel_rfl) ?_ hgl ?_)) (s_loc (by decide +kernel))
  · refine' it_list (by kernel_rfl) (by kernel_rfl) ?_ pi_list
    repeat' walk_at "pv"
  · intro k hk m
    have hd := d5_get d (hg k hk)
    have h2 : pget (rowP d k) (.int 2) = some (iN k) := rfl
    have hm : pbin .Mod (.int (d k)) (.int 3) = some (.int ((d k).fmod 3)) := pbin_mod (by decide)
    have hv : pbin .FloorDiv (.int (d k)) (.int 3) = some (.int ((d k).fdiv 3)) := pbin_fdiv (by decide)
    refine ⟨as_name (by kernel_rfl) (s_loc (by decide +kernel)), ?_⟩
    rw [show plainP d k = .tup [.int ((d k).fmod 3), .int ((d k).fdiv 3), iN k] from rfl]
    refine' e_tup (all_cons (e_bin (B_ev (by kernel_rfl) (e_sub (by kernel_rfl) ?_ (e_sub (by kernel_rfl) ?_ ?_ h2) hd)) ?_ hm) (all_cons (e_bin (B_ev (by kernel_rfl) (e_sub (by kernel_rfl) ?_ (e_sub (by kernel_rfl) ?_ ?_ h2) hd)) ?_ hv) (all_cons (e_sub (by kernel_rfl) ?_ ?_ h2) all_nil))) (by decide)
    all_goals repeat' walk_at "pv"
noncomputable def stepPV (wy : Nat → Int) (fg : Nat → Nat → Int) (p : List Nat) (i : Nat) : PV := .list (p.map fun c => .int (wy c * fg i c))
noncomputable def stepsPV (wy : Nat → Int) (fg : Nat → Nat → Int) (p g : List Nat) : List PV := g.map (stepPV wy fg p)
theorem plain_get (d : Nat → Int) (i : Nat) : ∀ {c : Nat}, c < 3 → pget (plainP d i) (iN c) = some (.int (fgOf d i c))
  | 0, _ => rfl
  | 1, _ => rfl
  | 2, _ => rfl
  | k + 3, h => absurd h (by omega)
theorem lw7 (n : Nat) (σ : St) (d wy : Nat → Int) (p g : List Nat) (hp : ∀ c ∈ p, c < 3) (hpl : p.length ≤ 100000) (hgl : g.length ≤ 100000) (hb : ∀ i ∈ g, ∀ c < 3, mulOk (wy c) (fgOf d i c) = true)
    (h1 : σ.loc.lookup (Str.ofString "plain") = some (.fro (.list (g.map (plainP d))))) (h2 : σ.cel.lookup (Str.ofString "keys") = some (.fro (.list (keysPV wy p)))) (h4 : σ.cel.lookup (Str.ofString "three") = none) :
    exStep (run T1 (n + 17)) (defCx lwD) σ (lw 7) = some (.next, ⟨aset σ.loc (Str.ofString "steps") (.fro (.list (stepsPV wy (fgOf d) p g))), σ.cel⟩) := by
  refine' x_name (by kernel_rfl) (e_lcomp (c_mapP (plainP d) (stepPV wy (fgOf d) p) (fun σ => σ.cel.lookup (Str.ofString "keys") = some (.fro (.list (keysPV wy p)))) (ds := g) (okScope_one (x := Str.ofString "three") (by kernel_rfl) (by kernel_rfl) h4) ?_ hgl h2 ?_)) (s_loc (by decide +kernel))
  · refine' it_list (by kernel_rfl) (by kernel_rfl) ?_ pi_list
    repeat' walk_at "pv"
  · intro i hi σ k2
    let σ1 : St := ⟨σ.loc, aset σ.cel (Str.ofString "three") (.fro (plainP d i))⟩
    have k2' : σ1.cel.lookup (Str.ofString "keys") = some (.fro (.list (keysPV wy p))) := lk_miss (by kernel_rfl) k2
    have k4' : σ1.cel.lookup (Str.ofString "three") = some (.fro (plainP d i)) := lk_hit
    refine ⟨σ1, as_name (by kernel_rfl) (s_cel (by decide +kernel)), k2', ?_⟩
    refine' e_lcomp (c_map (key1 wy) (fun c => PV.int (wy c * fgOf d i c)) (fun c m => aset (aset m (Str.ofString "column") (.fro (iN c))) (Str.ofString "way") (.fro (.int (wy c)))) (ds := p) (by kernel_rfl) ?_ hpl ?_)
    · refine' it_list (d := .list (keysPV wy p)) (by kernel_rfl) (by kernel_rfl) ?_ pi_list
      repeat' walk_at "pv"
    · intro c hc m
      have g1 := plain_get d i (hp c hc)
      have hm := pbin_mul (hb i hi c (hp c hc))
      refine ⟨?_, ?_⟩
      · unfold key1
        refine' as_tup ?_
        repeat' walk_at "pv"
      · refine' e_bin ?_ (B_ev (by kernel_rfl) (e_sub (by kernel_rfl) ?_ ?_ g1)) hm
        all_goals repeat' walk_at "pv"
theorem steps_ne (wy : Nat → Int) (fg : Nat → Nat → Int) (p g : List Nat) : pcmp .NotEq (.list (stepsPV wy fg p g)) (.list (stepsPV wy fg p g)) = some false :=
  map_of (f := (!·)) (peq_list fun x hx => by
    obtain ⟨i, _, rfl⟩ := List.mem_map.mp hx
    exact peq_list fun y hy => by
      obtain ⟨c, _, rfl⟩ := List.mem_map.mp hy
      exact peq_int _ _)
theorem steps_lists (wy : Nat → Int) (fg : Nat → Nat → Int) (p g : List Nat) : (stepsPV wy fg p g).all isListV = true := by
  rw [List.all_eq_true]
  intro x hx
  obtain ⟨i, _, rfl⟩ := List.mem_map.mp hx
  rfl
theorem lw8 (n : Nat) (σ : St) (wy : Nat → Int) (fg : Nat → Nat → Int) (p g : List Nat) (hgl : g.length = 5) (ha : asc (stepsPV wy fg p g) = true) (h1 : σ.loc.lookup (Str.ofString "steps") = some (.fro (.list (stepsPV wy fg p g)))) :
    exStep (run T1 (n + 17)) (defCx lwD) σ (lw 8) = some (.next, σ) := by
  have hl : (stepsPV wy fg p g).length = 5 := by unfold stepsPV; rw [List.length_map, hgl]
  have hso := p_sorted ⟨by omega, by omega, steps_lists wy fg p g, ha⟩
  have hne := steps_ne wy fg p g
  refine' x_iff (t_cmp ?_ (B_ev (by kernel_rfl) (e_one (by decide +kernel) (by decide +kernel) (by decide +kernel) (by decide +kernel) ?_ hso)) hne) (ex_of l_nil)
  all_goals repeat' walk_at "pv"
end Mine
end
section
set_option maxRecDepth 100000
set_option linter.unusedSimpArgs false
set_option linter.unusedVariables false
namespace Mine
open PySem
/-! the judge of the rows -/
theorem row_cmp {d : Nat → Int} (hd : Draws d) (i j : Nat) : ∀ c < 3, ∃ x y, pget (.tup (rowL d i)) (iN c) = some x ∧ pget (.tup (rowL d j)) (iN c) = some y ∧
    plt depth x y = some (decide (fgOf d i c < fgOf d j c)) ∧ pgt depth x y = some (decide (fgOf d j c < fgOf d i c))
  | 0, _ => ⟨_, _, rfl, rfl, rfl, rfl⟩
  | 1, _ => by
    refine ⟨_, _, rfl, rfl, ?_⟩
    have a := fg1 hd i
    have b := fg1 hd j
    have e1 : fgOf d i 1 = (d i).fdiv 3 := rfl
    have e2 : fgOf d j 1 = (d j).fdiv 3 := rfl
    rw [e1, e2]
    generalize (d i).fdiv 3 = u at a ⊢
    generalize (d j).fdiv 3 = v at b ⊢
    rcases three a.1 a.2 with rfl | rfl | rfl <;> rcases three b.1 b.2 with rfl | rfl | rfl <;> exact ⟨by kernel_rfl, by kernel_rfl⟩
  | 2, _ => ⟨_, _, rfl, rfl, rfl, rfl⟩
  | k + 3, h => absurd h (by omega)
noncomputable def lessF (wy fi fj : Nat → Int) : List Nat → Bool
  | [] => false
  | c :: p => if wy c * fi c < wy c * fj c then true else if wy c * fj c < wy c * fi c then false else lessF wy fi fj p
theorem mul_lt_pos {w a b : Int} (h : 0 < w) : w * a < w * b ↔ a < b := Int.mul_lt_mul_left h
theorem mul_lt_neg {w a b : Int} (h : w < 0) : w * a < w * b ↔ b < a := by
  have := mul_lt_pos (w := -w) (a := b) (b := a) (by omega)
  rw [Int.neg_mul, Int.neg_mul] at this
  omega
theorem res_less (wy fi fj : Nat → Int) (hw : ∀ c, wy c ≠ 0) : ∀ p : List Nat, decide (((cmpRes (fun k => decide (fi k.toNat < fj k.toNat)) (fun k => decide (fj k.toNat < fi k.toNat)) (p.map fun c : Nat => ((c : Int), wy c))).getD 0) < 0) = lessF wy fi fj p
  | [] => rfl
  | c :: p => by
    have ih := res_less wy fi fj hw p
    rw [List.map_cons]
    unfold cmpRes lessF
    rw [Int.toNat_natCast]
    have hc := hw c
    by_cases h0 : 0 < wy c
    · by_cases h1 : fi c < fj c
      · rw [if_pos (decide_eq_true h1), if_pos ((mul_lt_pos h0).mpr h1)]
        exact decide_eq_true (show -wy c < 0 by omega)
      · rw [if_neg (by rw [decide_eq_false h1]; decide), if_neg (fun e => h1 ((mul_lt_pos h0).mp e))]
        by_cases h2 : fj c < fi c
        · rw [if_pos (decide_eq_true h2), if_pos ((mul_lt_pos h0).mpr h2)]
          exact decide_eq_false (show ¬ wy c < 0 by omega)
        · rw [if_neg (by rw [decide_eq_false h2]; decide), if_neg (fun e => h2 ((mul_lt_pos h0).mp e))]
          exact ih
    · have h0 : wy c < 0 := by omega
      by_cases h1 : fi c < fj c
      · rw [if_pos (decide_eq_true h1), if_neg (fun e => absurd ((mul_lt_neg h0).mp e) (by omega)), if_pos ((mul_lt_neg h0).mpr h1)]
        exact decide_eq_false (show ¬ -wy c < 0 by omega)
      · rw [if_neg (by rw [decide_eq_false h1]; decide)]
        by_cases h2 : fj c < fi c
        · rw [if_pos (decide_eq_true h2), if_pos ((mul_lt_neg h0).mpr h2)]
          exact decide_eq_true (show wy c < 0 by omega)
        · rw [if_neg (by rw [decide_eq_false h2]; decide), if_neg (fun e => h2 ((mul_lt_neg h0).mp e)), if_neg (fun e => h1 ((mul_lt_neg h0).mp e))]
          exact ih
theorem judge_of (n : Nat) {d : Nat → Int} (hd : Draws d) (wy : Nat → Int) (hw : ∀ c, wy c ≠ 0) (p : List Nat) (hp : ∀ c ∈ p, c < 3) :
    Judge (n + 9) (.list (keysPV wy p)) (rowP d) (fun i j => lessF wy (fgOf d i) (fgOf d j) p) := by
  refine ⟨fun i j _ _ => ⟨_, ?_, res_less wy (fgOf d i) (fgOf d j) hw p⟩⟩
  have hk : keysPV wy p = (p.map fun c : Nat => ((c : Int), wy c)).map keyPV := by unfold keysPV; rw [List.map_map]; rfl
  rw [hk]
  refine cmp_cl n _ _ _ _ _ fun k hk => ?_
  obtain ⟨c, hc, rfl⟩ := List.mem_map.mp hk
  have := row_cmp hd i j c (hp c hc)
  rw [Int.toNat_natCast]
  exact this
theorem lessF_asymm (wy fi fj : Nat → Int) : ∀ p, lessF wy fi fj p = true → lessF wy fj fi p = false
  | [], h => by cases h
  | c :: p, h => by
    have ih := lessF_asymm wy fi fj p
    unfold lessF at h ⊢
    by_cases h1 : wy c * fi c < wy c * fj c
    · rw [if_neg (by omega), if_pos h1]
    · rw [if_neg h1] at h
      by_cases h2 : wy c * fj c < wy c * fi c
      · rw [if_pos h2] at h; cases h
      · rw [if_neg h2] at h
        rw [if_neg h2, if_neg h1]
        exact ih h
theorem plt_steps (wy : Nat → Int) (fg : Nat → Nat → Int) (i j : Nat) : ∀ (p : List Nat), seqLt (peq 5) (plt 5) (p.map fun c => PV.int (wy c * fg i c)) (p.map fun c => PV.int (wy c * fg j c)) = some (lessF wy (fg i) (fg j) p)
  | [] => rfl
  | c :: p => by
    have ih := plt_steps wy fg i j p
    rw [List.map_cons, List.map_cons]
    unfold lessF
    show (some (wy c * fg i c == wy c * fg j c)).bind (fun b => if b then _ else some (decide (wy c * fg i c < wy c * fg j c))) = _
    rw [ih]
    by_cases h : wy c * fg i c = wy c * fg j c
    · rw [h, if_neg (Int.lt_irrefl _), if_neg (Int.lt_irrefl _), beq_self_eq_true]; rfl
    · by_cases h1 : wy c * fg i c < wy c * fg j c
      · rw [if_pos h1, decide_eq_true h1, beq_eq_false_iff_ne.mpr h]; rfl
      · rw [if_neg h1, if_pos (by omega), decide_eq_false h1, beq_eq_false_iff_ne.mpr h]; rfl
theorem plt_step (wy : Nat → Int) (fg : Nat → Nat → Int) (p : List Nat) (i j : Nat) : plt depth (stepPV wy fg p i) (stepPV wy fg p j) = some (lessF wy (fg i) (fg j) p) := plt_steps wy fg i j p
/-! rows put in one by one stand in their order -/
noncomputable def ascB (less : Nat → Nat → Bool) : List Nat → Bool
  | x :: y :: r => !less y x && ascB less (y :: r)
  | _ => true
theorem asc_of (wy : Nat → Int) (fg : Nat → Nat → Int) (p : List Nat) : ∀ g : List Nat, ascB (fun i j => lessF wy (fg i) (fg j) p) g = true → asc (stepsPV wy fg p g) = true
  | [], _ => rfl
  | [x], _ => rfl
  | x :: y :: r, ha => by
    unfold ascB at ha
    rw [Bool.and_eq_true] at ha
    have ih := asc_of wy fg p (y :: r) ha.2
    have e : plt depth (stepPV wy fg p y) (stepPV wy fg p x) = some false := by
      rw [plt_step]
      cases hh : lessF wy (fg y) (fg x) p with
      | false => rfl
      | true => rw [hh] at ha; cases ha.1
    show (decide (plt depth (stepPV wy fg p y) (stepPV wy fg p x) = some false) && asc (stepsPV wy fg p (y :: r))) = true
    rw [e, ih]
    rfl
theorem ascB_tail {less : Nat → Nat → Bool} : ∀ {x : Nat} {l : List Nat}, ascB less (x :: l) = true → ascB less l = true
  | x, [], _ => rfl
  | x, y :: l, h => (Bool.and_eq_true _ _ ▸ h : _ ∧ _).2
theorem ascB_take {less : Nat → Nat → Bool} : ∀ (k : Nat) (l : List Nat), ascB less l = true → ascB less (l.take k) = true
  | 0, l, _ => by rw [List.take_zero]; rfl
  | k + 1, [], _ => rfl
  | 1, x :: l, _ => by rw [List.take_succ_cons, List.take_zero]; rfl
  | k + 2, [x], _ => rfl
  | k + 2, x :: y :: l, h => by
    have h : (!less y x && ascB less (y :: l)) = true := h
    rw [Bool.and_eq_true] at h
    have ih := ascB_take (k + 1) (y :: l) h.2
    rw [List.take_succ_cons] at ih
    rw [List.take_succ_cons, List.take_succ_cons]
    show (!less y x && ascB less (y :: l.take k)) = true
    rw [h.1, ih]; rfl
theorem ascB_drop {less : Nat → Nat → Bool} : ∀ (k : Nat) (l : List Nat), ascB less l = true → ascB less (l.drop k) = true
  | 0, l, h => by rw [List.drop_zero]; exact h
  | k + 1, [], _ => rfl
  | k + 1, x :: l, h => by rw [List.drop_succ_cons]; exact ascB_drop k l (ascB_tail h)
theorem ascB_app {less : Nat → Nat → Bool} : ∀ (a b : List Nat), ascB less a = true → ascB less b = true → (∀ x ∈ a.getLast?, ∀ y ∈ b.head?, less y x = false) → ascB less (a ++ b) = true
  | [], b, _, h, _ => h
  | [x], [], _, _, _ => rfl
  | [x], y :: b, _, h, hb => by
    show (!less y x && ascB less (y :: b)) = true
    rw [hb x rfl y rfl, h]; rfl
  | x :: y :: a, b, h, h2, hb => by
    have h : (!less y x && ascB less (y :: a)) = true := h
    rw [Bool.and_eq_true] at h
    have ih := ascB_app (y :: a) b h.2 h2 (fun z hz => hb z (by rw [List.getLast?_cons_cons]; exact hz))
    show (!less y x && ascB less (y :: (a ++ b))) = true
    rw [h.1]
    exact ih
theorem posOf_spec (less : Nat → Nat → Bool) (x : Nat) (d : List Nat) : ∀ k, (∀ j, posOf less x d k = j + 1 → less x (d.getD j 0) = false) ∧ (posOf less x d k < k → less x (d.getD (posOf less x d k) 0) = true)
  | 0 => ⟨(fun j h => nomatch h), (fun h => nomatch h)⟩
  | k + 1 => by
    have ih := posOf_spec less x d k
    unfold posOf
    cases h : less x (d.getD k 0) with
    | true =>
      rw [if_pos rfl]
      refine ⟨ih.1, fun hlt => ?_⟩
      by_cases hk : posOf less x d k < k
      · exact ih.2 hk
      · have := posOf_le less x d k
        rw [show posOf less x d k = k by omega]; exact h
    | false =>
      rw [if_neg (by decide)]
      refine ⟨fun j hj => ?_, fun hlt => absurd hlt (Nat.lt_irrefl _)⟩
      cases hj; exact h
theorem putIn_asc {less : Nat → Nat → Bool} (ha : ∀ x y, less x y = true → less y x = false) (d : List Nat) (x : Nat) (h : ascB less d = true) : ascB less (putIn less d x) = true := by
  have hs := posOf_spec less x d d.length
  have hle := posOf_le less x d d.length
  unfold putIn
  generalize posOf less x d d.length = q at hs hle
  obtain ⟨s1, s2⟩ := hs
  refine ascB_app _ _ (ascB_app _ _ (ascB_take q d h) rfl ?_) (ascB_drop q d h) ?_
  · intro z hz y hy
    cases hy
    cases q with
    | zero => rw [List.take_zero] at hz; cases hz
    | succ j =>
      rw [List.getLast?_take, if_neg (Nat.succ_ne_zero j), Nat.add_sub_cancel] at hz
      have hj : d[j]? = some d[j] := List.getElem?_eq_getElem (by omega)
      rw [hj] at hz
      cases hz
      have := s1 j rfl
      rw [List.getD_eq_getElem?_getD, hj] at this
      exact this
  · intro z hz y hy
    rw [List.getLast?_append, List.getLast?_singleton] at hz
    cases hz
    rw [List.head?_drop] at hy
    have hq : q < d.length := (List.getElem?_eq_some_iff.mp hy).1
    have := s2 hq
    rw [List.getD_eq_getElem?_getD, hy] at this
    exact ha _ _ this
theorem settle_asc {less : Nat → Nat → Bool} (ha : ∀ x y, less x y = true → less y x = false) : ∀ (line d : List Nat), ascB less d = true → ascB less (line.foldl (putIn less) d) = true
  | [], d, h => h
  | x :: line, d, h => settle_asc ha line (putIn less d x) (putIn_asc ha d x h)
theorem putIn_perm (less : Nat → Nat → Bool) (d : List Nat) (x : Nat) : (putIn less d x).Perm (x :: d) := by
  unfold putIn
  generalize posOf less x d d.length = q
  rw [List.append_assoc]
  refine (List.perm_middle (l₁ := d.take q) (a := x) (l₂ := d.drop q)).trans ?_
  rw [List.take_append_drop]
theorem settle_perm (less : Nat → Nat → Bool) : ∀ (line d : List Nat), (line.foldl (putIn less) d).Perm (d ++ line)
  | [], d => by rw [List.append_nil]; exact List.Perm.refl _
  | x :: line, d => by
    refine (settle_perm less line (putIn less d x)).trans ?_
    exact ((putIn_perm less d x).append_right line).trans List.perm_middle.symm
end Mine
end
section
set_option maxRecDepth 100000
set_option linter.unusedSimpArgs false
set_option linter.unusedVariables false
namespace Mine
open PySem
noncomputable def baseAt (k : Nat) : Int := [3, 6, 24, 17].getD k 0
noncomputable def markI (ns : List Int) (k : Nat) : Int := (baseAt k + (everyNth (Int.toNat 4) 0 (ns.drop (Int.toNat (k : Int)))).sum).fmod 32
noncomputable def markAt (ns : List Int) (k : Nat) : Nat := (markI ns k).toNat
theorem mark_bd (ns : List Int) (k : Nat) : PV.int (markI ns k) = iN (markAt ns k) ∧ markAt ns k < 32 := by
  have a : 0 ≤ markI ns k := Int.fmod_nonneg_of_pos _ (by decide)
  have b : markI ns k < 32 := Int.fmod_lt_of_pos _ (by decide)
  unfold markAt
  refine ⟨?_, by omega⟩
  show PV.int (markI ns k) = PV.int ((markI ns k).toNat : Int)
  rw [Int.toNat_of_nonneg a]
noncomputable def marksOf (ns : List Int) : List Nat := (List.range 4).map (markAt ns)
theorem base_get : ∀ {k : Nat}, k < 4 → pget (.tup [.int 3, .int 6, .int 24, .int 17]) (iN k) = some (.int (baseAt k))
  | 0, _ => rfl
  | 1, _ => rfl
  | 2, _ => rfl
  | 3, _ => rfl
  | k + 4, h => absurd h (by omega)
theorem marks_lt (ns : List Int) : ∀ m ∈ marksOf ns, m < 32 := fun m hm => by
  obtain ⟨k, _, rfl⟩ := List.mem_map.mp hm
  exact (mark_bd ns k).2
theorem lw9 (n : Nat) (σ : St) (ns : List Int) (hl : ns.length < 1000000) (h1 : σ.cel.lookup (Str.ofString "numbers") = some (.fro (.list (ns.map .int)))) :
    exStep (run T1 (n + 22)) (defCx lwD) σ (lw 9) = some (.next, ⟨σ.loc, aset σ.cel (Str.ofString "family") (.fro (encN (closedOf (marksOf ns))))⟩) := by
  have hc := (closed_cl (n + 1) (marksOf ns) (by unfold marksOf; rw [List.length_map, List.length_range]; exact Nat.le_refl _) (marks_lt ns)).1
  have hms : encN (marksOf ns) = .list ((List.range 4).map fun k => iN (markAt ns k)) := by unfold marksOf encN; rw [List.map_map]; rfl
  refine' x_name (by kernel_rfl) (e_call (by decide +kernel) (by decide +kernel) (all_cons ?_ all_nil) hc) (s_cel (by decide +kernel))
  rw [hms]
  refine' e_lcomp (c_map iN (fun k => iN (markAt ns k)) (fun k l => aset l (Str.ofString "k") (.fro (iN k))) (ds := List.range 4) (by kernel_rfl) (it_rngc (by kernel_rfl) (by decide +kernel) (by decide)) (by decide) ?_)
  intro k hk m
  have hk4 : k < 4 := List.mem_range.mp hk
  have hs := slice_step ns (k : Int) 4 hl (by omega) (by omega) (by decide) (by decide)
  have hb := base_get hk4
  have hq : pbin .Mod (.int (baseAt k + (everyNth (Int.toNat 4) 0 (ns.drop (Int.toNat (k : Int)))).sum)) (.int 32) = some (iN (markAt ns k)) := (pbin_mod (by decide)).trans (congrArg some (mark_bd ns k).1)
  refine ⟨as_name (by kernel_rfl) (s_loc (by decide +kernel)), ?_⟩
  refine' e_bin (B_ev (by kernel_rfl) (e_bin (B_ev (by kernel_rfl) (e_sub (by kernel_rfl) ?_ ?_ hb)) (B_ev (by kernel_rfl) (e_one (by decide +kernel) (by decide +kernel) (by decide +kernel) (by decide +kernel) (B_ev (by kernel_rfl) (e_slice ?_ (o_some ?_) o_none (o_some ?_) hs)) (p_sum _))) (pbin_add _ _))) ?_ hq
  all_goals repeat' walk_at "pv"
theorem lw10 (n : Nat) (σ : St) (d : Nat → Int) (fam g : List Nat) (hgl : g.length ≤ 100000) (r : PV) (hr : (run T1 (n + 21)).cl (Str.ofString "_law_raised") [encN fam, encN g] = some r) (h1 : σ.cel.lookup (Str.ofString "family") = some (.fro (encN fam))) (h2 : σ.loc.lookup (Str.ofString "ranked") = some (.fro (.list (g.map (rowP d))))) :
    exStep (run T1 (n + 22)) (defCx lwD) σ (lw 10) = some (.next, ⟨σ.loc, aset σ.cel (Str.ofString "ends") (.fro r)⟩) := by
  refine' x_name (by kernel_rfl) (e_call (by decide +kernel) (by decide +kernel) (all_cons ?_ (all_cons ?_ all_nil)) hr) (s_cel (by decide +kernel))
  · refine' e_name ?_
    repeat' walk_at "pv"
  refine' e_lcomp (c_map (rowP d) iN (fun k l => aset l (Str.ofString "row") (.fro (rowP d k))) (ds := g) (by kernel_rfl) ?_ hgl ?_)
  · refine' it_list (by kernel_rfl) (by kernel_rfl) ?_ pi_list
    repeat' walk_at "pv"
  · intro k hk m
    have h2 : pget (rowP d k) (.int 2) = some (iN k) := rfl
    refine ⟨as_name (by kernel_rfl) (s_loc (by decide +kernel)), ?_⟩
    refine' e_sub (by kernel_rfl) ?_ ?_ h2
    all_goals repeat' walk_at "pv"
theorem lw11 (n : Nat) (σ : St) (fam : List Nat) (e : Nat → Nat) (hfl : fam.length ≤ 100000) (h1 : σ.cel.lookup (Str.ofString "family") = some (.fro (encN fam))) (h2 : σ.cel.lookup (Str.ofString "ends") = some (.fro (.dict (encD (tE fam e))))) :
    exStep (run T1 (n + 14)) (defCx lwD) σ (lw 11) = some (.next, ⟨σ.loc, aset σ.cel (Str.ofString "tops") (.fro (encN (fam.map e)))⟩) := by
  have hth : encN (fam.map e) = .list (fam.map fun m => iN (e m)) := congrArg PV.list (List.map_map)
  rw [hth]
  refine' x_name (by kernel_rfl) (e_lcomp (c_map iN (fun m => iN (e m)) (fun m l => aset l (Str.ofString "member") (.fro (iN m))) (ds := fam) (by kernel_rfl) ?_ hfl ?_)) (s_cel (by decide +kernel))
  · refine' it_list (d := encN fam) (by kernel_rfl) (by kernel_rfl) ?_ pi_list
    repeat' walk_at "pv"
  · intro m hm l
    have hg := pget_tE e hm
    refine ⟨as_name (by kernel_rfl) (s_loc (by decide +kernel)), ?_⟩
    refine' e_sub (by kernel_rfl) ?_ ?_ hg
    all_goals repeat' walk_at "pv"
structure Told where
  a : Nat
  b : Nat
  c : Nat
  d : Nat
  t : List (Key × Int)
noncomputable def Told.pv (x : Told) : PV := .tup [iN x.a, iN x.b, iN x.c, iN x.d, .dict (encD x.t)]
noncomputable def hasP (m q : Nat) : Bool := m / 2 ^ q % 2 == 1
noncomputable def ownOf (m : Nat) : List Nat := (List.range 5).filter (hasP m)
noncomputable def onesOf (l : List Nat) : List (Key × Int) := l.map fun q => (kN q, 1)
noncomputable def addOne (e : Nat → Nat) (x : Told) (m : Nat) : Told := ⟨1 + x.a, (ownOf m).length + x.b, m + x.c, e m + x.d, ibumpAll x.t (onesOf (ownOf m))⟩
noncomputable def nil5 : Told := ⟨0, 0, 0, 0, []⟩
noncomputable def toldOf (fam : List Nat) (e : Nat → Nat) : Told := fam.foldl (addOne e) nil5
theorem lw12 (n : Nat) (σ : St) : exStep (run T1 (n + 14)) (defCx lwD) σ (lw 12) = some (.next, ⟨σ.loc, aset σ.cel (Str.ofString "points") (.fro nil5.pv)⟩) := by
  refine' x_name (by kernel_rfl) (e_tup (all_cons e_int (all_cons e_int (all_cons e_int (all_cons e_int (all_cons (e_dict pr_nil (by decide)) all_nil))))) (by decide)) (s_cel (by decide +kernel))
theorem fdiv_nat {a b : Nat} (hb : 0 < b) (h : b ≤ 1000) : pbin .FloorDiv (iN a) (iN b) = some (iN (a / b)) :=
  (pbin_fdiv (by omega)).trans (by rw [Int.fdiv_eq_ediv_of_nonneg _ (Int.natCast_nonneg b), ← Int.natCast_ediv])
theorem mod2_nat (a : Nat) : pbin .Mod (iN a) (.int 2) = some (iN (a % 2)) :=
  (pbin_mod (by decide)).trans (by rw [Int.fmod_eq_emod_of_nonneg _ (by decide)]; rfl)
theorem has_pb {q : Nat} (hq : q < 5) (m : Nat) : pbin .Pow (.int 2) (iN q) = some (iN (2 ^ q)) ∧ pbin .FloorDiv (iN m) (iN (2 ^ q)) = some (iN (m / 2 ^ q)) ∧ pbin .Mod (iN (m / 2 ^ q)) (.int 2) = some (iN (m / 2 ^ q % 2)) ∧ pcmp .Eq (iN (m / 2 ^ q % 2)) (.int 1) = some (hasP m q) :=
  ⟨(pow_nat hq).1, fdiv_nat (Nat.pow_pos (by decide)) (Nat.le_trans (Nat.le_of_lt (pow_nat hq).2) (by decide)), mod2_nat _, eq_nat _ 1⟩
theorem ibumpAll_nodup : ∀ (s l : List (Key × Int)), (l.map (·.1)).Nodup → ((ibumpAll l s).map (·.1)).Nodup
  | [], l, h => h
  | p :: s, l, h => ibumpAll_nodup s (ibump l p.1 p.2) (ibump_nodup h)
theorem ibumpAll_len : ∀ (s l : List (Key × Int)), (ibumpAll l s).length ≤ l.length + s.length
  | [], l => Nat.le_refl _
  | p :: s, l => by
    have h1 : (ibumpAll l (p :: s)).length ≤ _ := ibumpAll_len s (ibump l p.1 p.2)
    have h2 := ibump_len p.1 p.2 l
    rw [List.length_cons]
    omega
theorem own_len (m : Nat) : (ownOf m).length ≤ 5 := Nat.le_trans (List.length_filter_le _ _) (by rw [List.length_range]; exact Nat.le_refl _)
theorem own_nodup (m : Nat) : (ownOf m).Nodup := List.nodup_range.filter _
theorem ones_keys (l : List Nat) : (onesOf l).map (·.1) = l.map kN := by unfold onesOf; rw [List.map_map]; rfl
theorem kN_nodup {l : List Nat} (h : l.Nodup) : (l.map kN).Nodup := List.Pairwise.map _ (fun a b hab h => hab (kN_inj h)) h
noncomputable def lwF13 := getFor (lw 13)
noncomputable def lq (i : Nat) : Stmt := lwF13.2.2.getD i (.Pass ⟨0,0,0,0⟩)
theorem lq_all : lwF13.2.2 = [lq 0, lq 1] := by rfl
structure PtAt (fam : List Nat) (e : Nat → Nat) (k : Nat) (x : Told) (σ : St) : Prop where
  f : σ.cel.lookup (Str.ofString "family") = some (.fro (encN fam))
  en : σ.cel.lookup (Str.ofString "ends") = some (.fro (.dict (encD (tE fam e))))
  tp : σ.cel.lookup (Str.ofString "tops") = some (.fro (encN (fam.map e)))
  po : σ.cel.lookup (Str.ofString "points") = some (.fro x.pv)
  pt : σ.cel.lookup (Str.ofString "point") = none
  nd : (x.t.map (·.1)).Nodup
  len : x.t.length ≤ 5 * k
theorem pt_turn (n : Nat) (fam : List Nat) (e : Nat → Nat) (m : Nat) (hm : m ∈ fam) (k : Nat) (hk : k < 1000) (x : Told) (σ : St) (L : PtAt fam e k x σ) :
    ∃ σ₁, asg (defCx lwD) lwF13.1 (iN m) σ = some σ₁ ∧ ∃ σ₂, (run T1 (n + 21)).ex (defCx lwD) σ₁ lwF13.2.2 = some (.next, σ₂) ∧ PtAt fam e (k + 1) (addOne e x m) σ₂ := by
  obtain ⟨h1, h2, h3, h4, h5, h6, h7⟩ := L
  let σ1 : St := ⟨σ.loc, aset σ.cel (Str.ofString "member") (.fro (iN m))⟩
  let σ2 : St := ⟨aset σ1.loc (Str.ofString "own") (.fro (encN (ownOf m))), σ1.cel⟩
  have hol := own_len m
  have hon := own_nodup m
  have e1 : exStep (run T1 (n + 20)) (defCx lwD) σ1 (lq 0) = some (.next, σ2) := by
    rw [show σ2 = ⟨aset σ1.loc (Str.ofString "own") (.fro (.list (((List.range 5).filter (hasP m)).map iN))), σ1.cel⟩ from rfl]
    refine' x_name (by kernel_rfl) (e_lcomp (c_filt iN iN (hasP m) (fun q l => aset l (Str.ofString "point") (.fro (iN q))) (ds := List.range 5) (by kernel_rfl) (it_rngc (by kernel_rfl) (by decide +kernel) (by decide)) (by decide) ?_)) (s_loc (by decide +kernel))
    intro q hq l
    obtain ⟨b1, b2, b3, b4⟩ := has_pb (List.mem_range.mp hq) m
    refine ⟨as_name (by kernel_rfl) (s_loc (by decide +kernel)), ?_, fun _ => ?_⟩
    · refine' t_cmp (B_ev (by kernel_rfl) (e_bin (B_ev (by kernel_rfl) (e_bin ?_ (B_ev (by kernel_rfl) (e_bin ?_ ?_ b1)) b2)) ?_ b3)) ?_ b4
      all_goals repeat' walk_at "pv"
    · refine' e_name ?_
      all_goals repeat' walk_at "pv"
  have hg := pget_tE e hm
  have hlen : pone (Str.ofString "len") (encN (ownOf m)) = some (iN (ownOf m).length) := (p_len (by rw [List.length_map]; omega)).trans (by rw [List.length_map])
  have hones : encD (onesOf (ownOf m)) = dsetAll [] ((ownOf m).map fun q => (kN q, PV.int 1)) := by
    have := dsetAll_nodup (onesOf (ownOf m)) [] (by rw [List.nil_append, ones_keys]; exact kN_nodup hon)
    rw [List.nil_append] at this
    rw [← this]
    unfold onesOf encD
    rw [List.map_map]; rfl
  let σ3 : St := ⟨σ2.loc, aset σ2.cel (Str.ofString "points") (.fro (addOne e x m).pv)⟩
  refine ⟨σ1, as_name (by kernel_rfl) (s_cel (by decide +kernel)), σ3, ex_of ?_, lk_miss (by kernel_rfl) (lk_miss (by kernel_rfl) h1), lk_miss (by kernel_rfl) (lk_miss (by kernel_rfl) h2), lk_miss (by kernel_rfl) (lk_miss (by kernel_rfl) h3), lk_hit, lk_miss (by kernel_rfl) (lk_miss (by kernel_rfl) h5), ibumpAll_nodup _ _ h6, ?_⟩
  · rw [lq_all]
    refine l_next (σ₁ := σ2) e1 (l_one ?_)
    have has' : (run T1 (n + 19)).cl (Str.ofString "add_func_stats") [x.pv, .tup [.int 1, iN (ownOf m).length, iN m, iN (e m), .dict (encD (onesOf (ownOf m)))]] = some (addOne e x m).pv := as_cl (n + 14) x.a x.b x.c x.d 1 (ownOf m).length m (e m) (.dict (encD x.t)) (.dict (encD (onesOf (ownOf m)))) _ (ac_cl (n + 5) x.t (onesOf (ownOf m)) h6 (by unfold onesOf; rw [List.length_map]; omega))
    rw [hones] at has'
    refine' x_name (by kernel_rfl) (e_call (by decide +kernel) (by decide +kernel) (all_cons ?_ (all_cons (e_tup (all_cons e_int (all_cons (e_one (by decide +kernel) (by decide +kernel) (by decide +kernel) (by decide +kernel) ?_ hlen) (all_cons ?_ (all_cons (e_sub (by kernel_rfl) ?_ ?_ hg) (all_cons (e_dcomp (c_map iN (fun q => (kN q, PV.int 1)) (fun q l => aset l (Str.ofString "point") (.fro (iN q))) (ds := ownOf m) (by kernel_rfl) ?_ (by omega) ?_)) all_nil))))) (by decide)) all_nil)) has') (s_cel (by decide +kernel))
    rotate_right
    · intro q _ l
      refine ⟨as_name (by kernel_rfl) (s_loc (by decide +kernel)), ?_⟩
      refine' out_pair (a := iN q) (e_name ?_) k_int e_int
      all_goals repeat' walk_at "pv"
    rotate_right
    · refine' it_list (d := encN (ownOf m)) (by kernel_rfl) (by kernel_rfl) ?_ pi_list
      repeat' walk_at "pv"
    all_goals repeat' walk_at "pv"
  · have := ibumpAll_len (onesOf (ownOf m)) x.t
    have h8 : (onesOf (ownOf m)).length = (ownOf m).length := by unfold onesOf; rw [List.length_map]
    show (ibumpAll x.t (onesOf (ownOf m))).length ≤ 5 * (k + 1)
    omega
theorem lw13 (n : Nat) (σ : St) (fam : List Nat) (e : Nat → Nat) (hfl : fam.length < 1000) (h : PtAt fam e 0 nil5 σ) :
    ∃ σ', exStep (run T1 (n + 21)) (defCx lwD) σ (lw 13) = some (.next, σ') ∧ PtAt fam e fam.length (toldOf fam e) σ' := by
  obtain ⟨σ', e1, p⟩ := for_invN (I := run T1 (n + 21)) (c := defCx lwD) (t := lwF13.1) (body := lwF13.2.2) iN (PtAt fam e) (addOne e) 1000 fam (fun m hm k x σ hk L => pt_turn n fam e m hm k hk x σ L) 0 nil5 σ (by omega) h
  rw [Nat.zero_add] at p
  refine ⟨σ', x_for (by kernel_rfl) (it_list (d := encN fam) (by kernel_rfl) (by kernel_rfl) ?_ pi_list) e1, p⟩
  have h1 := h.f
  repeat' walk_at "pv"
end Mine
end
section
set_option maxRecDepth 100000
set_option linter.unusedSimpArgs false
set_option linter.unusedVariables false
namespace Mine
open PySem
noncomputable def cntOf (fam : List Nat) (q : Nat) : Nat := (fam.filter fun m => hasP m q).length
noncomputable def countsOf (fam : List Nat) : List Nat := (List.range 5).map (cntOf fam)
theorem len_nat {l : List Nat} (h : l.length < 1000000) : pone (Str.ofString "len") (encN l) = some (iN l.length) := (p_len (by rw [List.length_map]; omega)).trans (by rw [List.length_map])
theorem lw14 (n : Nat) (σ : St) (fam : List Nat) (hfl : fam.length < 1000) (h1 : σ.cel.lookup (Str.ofString "family") = some (.fro (encN fam))) (h5 : σ.cel.lookup (Str.ofString "point") = none) :
    exStep (run T1 (n + 20)) (defCx lwD) σ (lw 14) = some (.next, ⟨σ.loc, aset σ.cel (Str.ofString "counts") (.fro (encN (countsOf fam)))⟩) := by
  have hth : encN (countsOf fam) = .list ((List.range 5).map fun q => iN (cntOf fam q)) := congrArg PV.list (List.map_map)
  rw [hth]
  refine' x_name (by kernel_rfl) (e_lcomp (c_mapP iN (fun q => iN (cntOf fam q)) (fun σ => σ.cel.lookup (Str.ofString "family") = some (.fro (encN fam))) (ds := List.range 5) (okScope_one (x := Str.ofString "point") (by kernel_rfl) (by kernel_rfl) h5) (it_rngc (by kernel_rfl) (by decide +kernel) (by decide)) (by decide) h1 ?_)) (s_cel (by decide +kernel))
  intro q hq σ k2
  let σ1 : St := ⟨σ.loc, aset σ.cel (Str.ofString "point") (.fro (iN q))⟩
  have k2' : σ1.cel.lookup (Str.ofString "family") = some (.fro (encN fam)) := lk_miss (by kernel_rfl) k2
  have k4' : σ1.cel.lookup (Str.ofString "point") = some (.fro (iN q)) := lk_hit
  have hlen : pone (Str.ofString "len") (.list ((fam.filter fun m => hasP m q).map iN)) = some (iN (cntOf fam q)) := len_nat (Nat.lt_of_le_of_lt (List.length_filter_le _ _) (by omega))
  refine ⟨σ1, as_name (by kernel_rfl) (s_cel (by decide +kernel)), k2', ?_⟩
  refine' e_one (by decide +kernel) (by decide +kernel) (by decide +kernel) (by decide +kernel) (B_ev (by kernel_rfl) (e_lcomp (c_filt iN iN (fun m => hasP m q) (fun m l => aset l (Str.ofString "member") (.fro (iN m))) (ds := fam) (by kernel_rfl) ?_ (by omega) ?_))) hlen
  · refine' it_list (d := encN fam) (by kernel_rfl) (by kernel_rfl) ?_ pi_list
    repeat' walk_at "pv"
  · intro m _ l
    obtain ⟨b1, b2, b3, b4⟩ := has_pb (List.mem_range.mp hq) m
    refine ⟨as_name (by kernel_rfl) (s_loc (by decide +kernel)), ?_, fun _ => ?_⟩
    · refine' t_cmp (B_ev (by kernel_rfl) (e_bin (B_ev (by kernel_rfl) (e_bin ?_ (B_ev (by kernel_rfl) (e_bin ?_ ?_ b1)) b2)) ?_ b3)) ?_ b4
      all_goals repeat' walk_at "pv"
    · refine' e_name ?_
      all_goals repeat' walk_at "pv"
noncomputable def metQs (fam : List Nat) : List Nat := (List.range 5).filter fun q => decide ((0 : Int) < (cntOf fam q : Int))
noncomputable def metOf (fam : List Nat) : List (Key × Int) := (metQs fam).map fun q => (kN q, (cntOf fam q : Int))
theorem met_keys (fam : List Nat) : (metOf fam).map (·.1) = (metQs fam).map kN := by unfold metOf; rw [List.map_map]; rfl
theorem met_nodup (fam : List Nat) : ((metOf fam).map (·.1)).Nodup := by rw [met_keys]; exact kN_nodup (List.nodup_range.filter _)
theorem cnt_get (fam : List Nat) : ∀ {q : Nat}, q < 5 → pget (encN (countsOf fam)) (iN q) = some (iN (cntOf fam q))
  | 0, _ => rfl
  | 1, _ => rfl
  | 2, _ => rfl
  | 3, _ => rfl
  | 4, _ => rfl
  | k + 5, h => absurd h (by omega)
theorem lw15 (n : Nat) (σ : St) (fam : List Nat) (h1 : σ.cel.lookup (Str.ofString "counts") = some (.fro (encN (countsOf fam)))) :
    exStep (run T1 (n + 20)) (defCx lwD) σ (lw 15) = some (.next, ⟨aset σ.loc (Str.ofString "met") (.fro (.dict (encD (metOf fam)))), σ.cel⟩) := by
  have hd : encD (metOf fam) = dsetAll [] ((metQs fam).map fun q => (kN q, iN (cntOf fam q))) := by
    have := dsetAll_nodup (metOf fam) [] (by rw [List.nil_append]; exact met_nodup fam)
    rw [List.nil_append] at this
    rw [← this]
    unfold metOf encD
    rw [List.map_map]; rfl
  rw [hd]
  refine' x_name (by kernel_rfl) (e_dcomp (c_filt iN (fun q => (kN q, iN (cntOf fam q))) (fun q => decide ((0 : Int) < (cntOf fam q : Int))) (fun q l => aset l (Str.ofString "point") (.fro (iN q))) (ds := List.range 5) (by kernel_rfl) (it_rngc (by kernel_rfl) (by decide +kernel) (by decide)) (by decide) ?_)) (s_loc (by decide +kernel))
  intro q hq l
  have hg := cnt_get fam (List.mem_range.mp hq)
  refine ⟨as_name (by kernel_rfl) (s_loc (by decide +kernel)), ?_, fun _ => ?_⟩
  · refine' t_cmp (B_ev (by kernel_rfl) (e_sub (by kernel_rfl) ?_ ?_ hg)) ?_ (c_gti _ _)
    all_goals repeat' walk_at "pv"
  · refine' out_pair (a := iN q) (e_name ?_) k_int (e_sub (by kernel_rfl) ?_ ?_ hg)
    all_goals repeat' walk_at "pv"
theorem sum_cast : ∀ l : List Nat, (l.map fun x : Nat => (x : Int)).sum = (l.sum : Int)
  | [] => rfl
  | x :: l => by rw [List.map_cons, List.sum_cons, List.sum_cons, sum_cast l, Int.natCast_add]
theorem sum_nat (l : List Nat) : pone (Str.ofString "sum") (encN l) = some (iN l.sum) := by
  have := p_sum (l.map fun x : Nat => (x : Int))
  rw [List.map_map, sum_cast] at this
  exact this
theorem told_get (x : Told) : pget x.pv (.int 0) = some (iN x.a) ∧ pget x.pv (.int 1) = some (iN x.b) ∧ pget x.pv (.int 4) = some (.dict (encD x.t)) := ⟨rfl, rfl, rfl⟩
theorem told_ne (a b c d : Nat) (D E : PV) (h : peq 5 D E = some true) : pcmp .NotEq (.tup [iN a, iN b, iN c, iN d, D]) (.tup [iN a, iN b, iN c, iN d, E]) = some false := by
  have h2 : seqEq (peq 5) [iN a, iN b, iN c, iN d, D] [iN a, iN b, iN c, iN d, E] = some true :=
    both_of (peq_int _ _) (both_of (peq_int _ _) (both_of (peq_int _ _) (both_of (peq_int _ _) (both_of h (show seqEq (peq 5) [] [] = some true from rfl) rfl) rfl) rfl) rfl) rfl
  exact map_of (f := (!·)) h2
theorem lw16 (n : Nat) (σ : St) (fam : List Nat) (e : Nat → Nat) (hfl : fam.length < 1000) (x : Told) (ha : x.a = fam.length) (hb : x.b = (countsOf fam).sum) (hc : x.c = fam.sum) (hd : x.d = (fam.map e).sum) (ht : peq 5 (.dict (encD x.t)) (.dict (encD (metOf fam))) = some true)
    (h1 : σ.cel.lookup (Str.ofString "points") = some (.fro x.pv)) (h2 : σ.cel.lookup (Str.ofString "family") = some (.fro (encN fam))) (h3 : σ.cel.lookup (Str.ofString "counts") = some (.fro (encN (countsOf fam)))) (h4 : σ.cel.lookup (Str.ofString "tops") = some (.fro (encN (fam.map e)))) (h5 : σ.loc.lookup (Str.ofString "met") = some (.fro (.dict (encD (metOf fam))))) :
    exStep (run T1 (n + 20)) (defCx lwD) σ (lw 16) = some (.next, σ) := by
  have hne : pcmp .NotEq x.pv (.tup [iN x.a, iN x.b, iN x.c, iN x.d, .dict (encD (metOf fam))]) = some false := told_ne x.a x.b x.c x.d _ _ ht
  have hl : pone (Str.ofString "len") (encN fam) = some (iN x.a) := (len_nat (by omega)).trans (by rw [ha])
  have s1 : pone (Str.ofString "sum") (encN (countsOf fam)) = some (iN x.b) := (sum_nat _).trans (by rw [hb])
  have s2 : pone (Str.ofString "sum") (encN fam) = some (iN x.c) := (sum_nat _).trans (by rw [hc])
  have s3 : pone (Str.ofString "sum") (encN (fam.map e)) = some (iN x.d) := (sum_nat _).trans (by rw [hd])
  refine' x_iff (t_cmp ?_ (B_ev (by kernel_rfl) (e_tup (all_cons (e_one (by decide +kernel) (by decide +kernel) (by decide +kernel) (by decide +kernel) ?_ hl) (all_cons (e_one (by decide +kernel) (by decide +kernel) (by decide +kernel) (by decide +kernel) ?_ s1) (all_cons (e_one (by decide +kernel) (by decide +kernel) (by decide +kernel) (by decide +kernel) ?_ s2) (all_cons (e_one (by decide +kernel) (by decide +kernel) (by decide +kernel) (by decide +kernel) ?_ s3) (all_cons ?_ all_nil))))) (by decide))) hne) (ex_of l_nil)
  all_goals repeat' walk_at "pv"
theorem lw17 (n : Nat) (σ : St) (x : Told) (hs : sumV x.t = (x.b : Int)) (h1 : σ.cel.lookup (Str.ofString "points") = some (.fro x.pv)) :
    exStep (run T1 (n + 20)) (defCx lwD) σ (lw 17) = some (.next, ⟨aset σ.loc (Str.ofString "calls") (.fro (iN x.b)), σ.cel⟩) := by
  have hc : ∀ m, (run T1 (m + 10)).cl (Str.ofString "count_calls") [.dict (encD x.t)] = some (iN x.b) := fun m => (cc_cl m x.t).trans (by rw [hs])
  have t4 := (told_get x).2.2
  refine' x_name (by kernel_rfl) (e_call (by decide +kernel) (by decide +kernel) (all_cons (e_sub (by kernel_rfl) ?_ ?_ t4) all_nil) (hc _)) (s_loc (by decide +kernel))
  all_goals repeat' walk_at "pv"
theorem pow_n {a b : Nat} (ha : a < 1000) (hb : b ≤ 1000) : pbin .Pow (iN a) (iN b) = some (iN (a ^ b)) := by
  refine (pbin_pow ⟨Int.natCast_nonneg b, by omega, ?_⟩).trans ?_
  · rw [Int.natAbs_natCast]; exact Nat.lt_trans ha (by decide)
  · rw [Int.toNat_natCast, ← Int.natCast_pow]
theorem lt_nat (a b : Nat) : pcmp .Lt (iN a) (iN b) = some (decide (a < b)) := (c_lti _ _).trans (congrArg some (decide_eq_decide.mpr Int.ofNat_lt))
theorem nen_false (a : Nat) : pcmp .NotEq (iN a) (iN a) = some false := by rw [c_nei, beq_self_eq_true]; rfl
theorem lw18 (n : Nat) (σ : St) (x : Told) (ha : x.a < 1000) (hb : x.b ≤ 1000) (hp : x.a ^ x.a ≤ 4 ^ x.b) (h1 : σ.cel.lookup (Str.ofString "points") = some (.fro x.pv)) (h2 : σ.loc.lookup (Str.ofString "calls") = some (.fro (iN x.b))) :
    exStep (run T1 (n + 20)) (defCx lwD) σ (lw 18) = some (.next, σ) := by
  have p4 : pbin .Pow (.int 4) (iN x.b) = some (iN (4 ^ x.b)) := pow_n (a := 4) (by decide) hb
  have pn := pow_n ha (show x.a ≤ 1000 by omega)
  have hlt : pcmp .Lt (iN (4 ^ x.b)) (iN (x.a ^ x.a)) = some false := (lt_nat _ _).trans (congrArg some (decide_eq_false (Nat.not_lt.mpr hp)))
  have hne := nen_false x.b
  obtain ⟨t0, t1, _⟩ := told_get x
  refine' x_iff (t_bool (or_cons (u := false) (v := false) (t_cmp (B_ev (by kernel_rfl) (e_bin ?_ ?_ p4)) (B_ev (by kernel_rfl) (e_bin (B_ev (by kernel_rfl) (e_sub (by kernel_rfl) ?_ ?_ t0)) (B_ev (by kernel_rfl) (e_sub (by kernel_rfl) ?_ ?_ t0)) pn)) hlt) (fun _ => or_one (t_cmp ?_ (B_ev (by kernel_rfl) (e_sub (by kernel_rfl) ?_ ?_ t1)) hne)))) (ex_of l_nil)
  all_goals repeat' walk_at "pv"
theorem ne_zero : ∀ l : List Nat, pcmp .NotEq (encN l) (.list [.int 0]) = some (!decide (l = [0]))
  | [] => rfl
  | [0] => rfl
  | [x + 1] => by
    show some (!((((x + 1 : Nat) : Int) == 0) && true)) = _
    rw [beq_eq_false_iff_ne.mpr (by omega), decide_eq_false (by intro h; cases h)]; rfl
  | x :: y :: l => by
    rw [decide_eq_false (by intro h; cases h)]
    have h : peq depth (encN (x :: y :: l)) (.list [.int 0]) = some false := if_neg (t := seqEq (peq 5) ((x :: y :: l).map iN) [PV.int 0]) (show ¬ ((x :: y :: l).map iN).length = [PV.int 0].length from fun h => by rw [List.length_map] at h; cases h)
    exact map_of (f := (!·)) h
theorem p_max (a : Int) (l : List Int) : pone (Str.ofString "max") (.list ((a :: l).map .int)) = some (.int (pmax a l)) :=
  (if_neg (by decide)).trans ((if_neg (by decide)).trans ((if_neg (by decide)).trans ((if_pos rfl).trans (bind_of (u := PV.list? (.list ((a :: l).map .int))) rfl (bind_of (pints_map (a :: l)) rfl)))))
theorem iget_mem {p : Key × Int} : ∀ {l : List (Key × Int)}, (l.map (·.1)).Nodup → p ∈ l → iget l p.1 = some p.2
  | (k, v) :: l, hn, h => by
    rw [List.map_cons, List.nodup_cons] at hn
    unfold iget
    rcases List.mem_cons.mp h with rfl | h
    · rw [if_pos rfl]
    · rw [if_neg (fun e : k = p.1 => hn.1 (by rw [show ((k, v) : Key × Int).1 = p.1 from e]; exact List.mem_map_of_mem h))]
      exact iget_mem hn.2 h
noncomputable def maxOf (x : Told) : Int := pmax 0 (x.t.map (·.2))
theorem lw19 (n : Nat) (σ : St) (fam : List Nat) (x : Told) (hn : (x.t.map (·.1)).Nodup) (hl : x.t.length ≤ 1000) (hm : (maxOf x).natAbs ≤ 1000000000) (hp : fam ≠ [0] → (x.a : Int) ≤ 2 * maxOf x) (h1 : σ.cel.lookup (Str.ofString "points") = some (.fro x.pv)) (h2 : σ.cel.lookup (Str.ofString "family") = some (.fro (encN fam))) :
    exStep (run T1 (n + 20)) (defCx lwD) σ (lw 19) = some (.next, σ) := by
  obtain ⟨t0, _, t4⟩ := told_get x
  have hz := ne_zero fam
  have hmul : pbin .Mult (.int 2) (.int (maxOf x)) = some (.int (2 * maxOf x)) := pbin_mul (mulOk_small (by decide) hm)
  have hadd : pbin .Add (.list [.int 0]) (.list (x.t.map fun p => PV.int p.2)) = some (.list ((0 :: x.t.map (·.2)).map .int)) := (pbin_addl (by rw [List.length_map, List.length_singleton]; omega)).trans (by rw [List.map_cons, List.map_map]; rfl)
  have hmax : pone (Str.ofString "max") (.list ((0 :: x.t.map (·.2)).map .int)) = some (.int (maxOf x)) := p_max 0 _
  have hlt : pcmp .Lt (.int (2 * maxOf x)) (iN x.a) = some (decide (2 * maxOf x < (x.a : Int))) := c_lti _ _
  have hb : (!decide (fam = [0]) && decide (2 * maxOf x < (x.a : Int))) = false := by
    by_cases h : fam = [0]
    · rw [decide_eq_true h]; rfl
    · rw [decide_eq_false (Int.not_lt.mpr (hp h)), Bool.and_false]
  refine' x_iffb hb (t_bool (a_cons (t_cmp ?_ ?_ hz) (fun _ => a_one (t_cmp (B_ev (by kernel_rfl) (e_bin ?_ (B_ev (by kernel_rfl) (e_one (by decide +kernel) (by decide +kernel) (by decide +kernel) (by decide +kernel) (B_ev (by kernel_rfl) (e_bin (B_ev (by kernel_rfl) (e_list (all_cons e_int all_nil) (by decide))) (B_ev (by kernel_rfl) (e_lcomp (c_map (fun p : Key × Int => p.1.pv) (fun p => PV.int p.2) (fun p l => aset l (Str.ofString "point") (.fro p.1.pv)) (ds := x.t) (by kernel_rfl) ?_ (by omega) ?_))) hadd)) hmax)) hmul)) (B_ev (by kernel_rfl) (e_sub (by kernel_rfl) ?_ ?_ t0)) hlt)))) (ex_of l_nil)
  · repeat' walk_at "pv"
  · repeat' walk_at "pv"
  · repeat' walk_at "pv"
  · refine' it_list (by kernel_rfl) (by kernel_rfl) (e_sub (by kernel_rfl) ?_ ?_ t4) (pi_dict.trans ?_)
    · repeat' walk_at "pv"
    · repeat' walk_at "pv"
    · unfold encD; rw [List.map_map]; rfl
  · intro p hpm l
    have hg : pget (.dict (encD x.t)) p.1.pv = some (.int p.2) := by
      show p.1.pv.key.bind (dget (encD x.t)) = _
      rw [pv_key, Option.bind_some, dget_enc, iget_mem hn hpm]; rfl
    refine ⟨as_name (by kernel_rfl) (s_loc (by decide +kernel)), ?_⟩
    refine' e_sub (by kernel_rfl) (B_ev (by kernel_rfl) (e_sub (by kernel_rfl) ?_ ?_ t4)) ?_ hg
    all_goals repeat' walk_at "pv"
  · repeat' walk_at "pv"
  · repeat' walk_at "pv"
theorem loop_no {α β : Type} {I : Itp} {c : Cx} {t it g : Expr} {ai : Int} {inner : St → Option (List α × St)} (enc : β → PV) (P : St → Prop) : ∀ (ds : List β), (∀ d ∈ ds, ∀ σ, P σ → ∃ σ₁, asg c t (enc d) σ = some σ₁ ∧ P σ₁ ∧ I.ts c σ₁ g = some false) →
    ∀ σ, P σ → ∃ σ', compLoop I c ⟨t, it, [g], ai⟩ inner (ds.map enc) σ = some ([], σ') ∧ P σ'
  | [], _, σ, p => ⟨σ, rfl, p⟩
  | d :: ds, h, σ, p => by
    obtain ⟨σ₁, h1, p1, h2⟩ := h d List.mem_cons_self σ p
    obtain ⟨σ', e, p'⟩ := loop_no enc P ds (fun d' hd' => h d' (List.mem_cons_of_mem _ hd')) σ₁ p1
    exact ⟨σ', bind_of h1 (bind_of (u := ifsAll I c σ₁ [g]) (bind_of h2 rfl) e), p'⟩
theorem loop_in {α β : Type} {I : Itp} {c : Cx} {t it : Expr} {ai : Int} {inner : St → Option (List α × St)} (enc : β → PV) (P : St → Prop) : ∀ (ds : List β), (∀ d ∈ ds, ∀ σ, P σ → ∃ σ₁, asg c t (enc d) σ = some σ₁ ∧ ∃ σ₂, inner σ₁ = some ([], σ₂) ∧ P σ₂) →
    ∀ σ, P σ → ∃ σ', compLoop I c ⟨t, it, [], ai⟩ inner (ds.map enc) σ = some ([], σ') ∧ P σ'
  | [], _, σ, p => ⟨σ, rfl, p⟩
  | d :: ds, h, σ, p => by
    obtain ⟨σ₁, h1, σ₂, h2, p2⟩ := h d List.mem_cons_self σ p
    obtain ⟨σ', e, p'⟩ := loop_in enc P ds (fun d' hd' => h d' (List.mem_cons_of_mem _ hd')) σ₂ p2
    exact ⟨σ', bind_of h1 (bind_of (u := ifsAll I c σ₁ []) rfl ((if_pos rfl).trans (bind_of h2 (map_of e)))), p'⟩
theorem c_two {α β γ : Type} {I : Itp} {c : Cx} {σ : St} {t it t2 it2 g : Expr} {sc : Scope} {out : Cx → St → Option α} (enc : β → PV) (enc2 : γ → PV) (P : St → Prop) (Q : β → St → Prop) {ds : List β} {ds2 : List γ} (hok : okScope sc c.sc σ [⟨t, it, [], 0⟩, ⟨t2, it2, [g], 0⟩] = true) (hi : evIter I c σ it = some (ds.map enc)) (hP : P ⟨[], σ.cel⟩)
    (h : ∀ d ∈ ds, ∀ σ, P σ → ∃ σ₁, asg ⟨relab sc c.sc, []⟩ t (enc d) σ = some σ₁ ∧ evIter I ⟨relab sc c.sc, []⟩ σ₁ it2 = some (ds2.map enc2) ∧ Q d σ₁)
    (h2 : ∀ d ∈ ds, ∀ k ∈ ds2, ∀ σ, Q d σ → ∃ σ₁, asg ⟨relab sc c.sc, []⟩ t2 (enc2 k) σ = some σ₁ ∧ Q d σ₁ ∧ I.ts ⟨relab sc c.sc, []⟩ σ₁ g = some false) (h3 : ∀ d σ, Q d σ → P σ) : evComp I c σ sc out [⟨t, it, [], 0⟩, ⟨t2, it2, [g], 0⟩] = some [] := by
  obtain ⟨σ', e, _⟩ := loop_in (I := I) (it := it) (ai := 0) (c := ⟨relab sc c.sc, []⟩) (t := t) (inner := compGens I ⟨relab sc c.sc, []⟩ (out ⟨relab sc c.sc, []⟩) [⟨t2, it2, [g], 0⟩]) enc P ds (fun d hd σ p => by
    obtain ⟨σ₁, e1, e2, q1⟩ := h d hd σ p
    obtain ⟨σ₂, e3, q2⟩ := loop_no (I := I) (it := it2) (ai := 0) (c := ⟨relab sc c.sc, []⟩) (t := t2) (g := g) (inner := compGens I ⟨relab sc c.sc, []⟩ (out ⟨relab sc c.sc, []⟩) []) enc2 (Q d) ds2 (fun k hk σ q => h2 d hd k hk σ q) σ₁ q1
    exact ⟨σ₁, e1, σ₂, (if_pos rfl).trans (bind_of e2 e3), h3 d σ₂ q2⟩) ⟨[], σ.cel⟩ hP
  exact (if_pos (by rw [hok]; rfl)).trans (bind_of hi (bind_of e (if_pos (Nat.zero_le _))))
structure TpAt (ts : List Nat) (x : Nat) (σ : St) : Prop where
  t : σ.cel.lookup (Str.ofString "tops") = some (.fro (encN ts))
  x : σ.loc.lookup (Str.ofString "top") = some (.fro (iN x))
theorem lw20 (n : Nat) (σ : St) (ts : List Nat) (hl : ∀ x ∈ ts, x < 32) (hc : ∀ x ∈ ts, ∀ q < 5, x ||| 2 ^ q ∈ ts) (h1 : σ.cel.lookup (Str.ofString "tops") = some (.fro (encN ts))) :
    exStep (run T1 (n + 20)) (defCx lwD) σ (lw 20) = some (.next, σ) := by
  have hne : pcmp .NotEq (.list []) (.list []) = some false := rfl
  refine' x_iff (t_cmp (B_ev (by kernel_rfl) (e_lcomp (c_two iN iN (fun σ => σ.cel.lookup (Str.ofString "tops") = some (.fro (encN ts))) (TpAt ts) (ds := ts) (ds2 := List.range 5) (by kernel_rfl) ?_ h1 ?_ ?_ (fun _ _ q => q.t)))) (B_ev (by kernel_rfl) (e_list all_nil (by decide))) hne) (ex_of l_nil)
  · refine' it_list (d := encN ts) (by kernel_rfl) (by kernel_rfl) ?_ pi_list
    repeat' walk_at "pv"
  · intro x _ σ k1
    exact ⟨⟨aset σ.loc (Str.ofString "top") (.fro (iN x)), σ.cel⟩, as_name (by kernel_rfl) (s_loc (by decide +kernel)), it_rngc (by kernel_rfl) (by decide +kernel) (by decide), k1, lk_hit⟩
  · rintro x hx q hq σ ⟨k1, k2⟩
    have hq5 := List.mem_range.mp hq
    obtain ⟨p1, p2⟩ := pow_nat hq5
    have ho := or_nat (hl x hx) p2
    have hni : pcmp .NotIn (iN (x ||| 2 ^ q)) (encN ts) = some false := (notin_nats _ ts).trans (by
      rw [show (ts.any fun y => y == (x ||| 2 ^ q)) = true from List.any_eq_true.mpr ⟨_, hc x hx q hq5, beq_self_eq_true _⟩]; rfl)
    let σ1 : St := ⟨aset σ.loc (Str.ofString "point") (.fro (iN q)), σ.cel⟩
    have k2' : σ1.loc.lookup (Str.ofString "top") = some (.fro (iN x)) := lk_miss (by kernel_rfl) k2
    refine ⟨σ1, as_name (by kernel_rfl) (s_loc (by decide +kernel)), ⟨k1, k2'⟩, ?_⟩
    refine' t_cmp (B_ev (by kernel_rfl) (e_bin ?_ (B_ev (by kernel_rfl) (e_bin ?_ ?_ p1)) ho)) ?_ hni
    all_goals repeat' walk_at "pv"
theorem lw21 (n : Nat) (σ : St) (F E A B : PV) (hA : (run T1 (n + 30)).cl (Str.ofString "_law_cells") [F, E] = some A) (hB : (run T1 (n + 30)).cl (Str.ofString "_law_due") [F, E] = some B) (hAB : pcmp .Eq A B = some true)
    (h1 : σ.cel.lookup (Str.ofString "family") = some (.fro F)) (h2 : σ.cel.lookup (Str.ofString "ends") = some (.fro E)) :
    exStep (run T1 (n + 32)) (defCx lwD) σ (lw 21) = some (.ret (.bool true), σ) := by
  refine' x_ret (e_cmp (B_ev (by kernel_rfl) (e_call (by decide +kernel) (by decide +kernel) ?_ hA)) (B_ev (by kernel_rfl) (e_call (by decide +kernel) (by decide +kernel) ?_ hB)) hAB)
  all_goals repeat' walk_at "pv"
end Mine
end
section
set_option maxRecDepth 100000
set_option linter.unusedSimpArgs false
set_option linter.unusedVariables false
namespace Mine
open PySem
structure LawOk (fam : List Nat) (e : Nat → Nat) (x : Told) : Prop where
  ha : x.a = fam.length
  hb : x.b = (countsOf fam).sum
  hc : x.c = fam.sum
  hd : x.d = (fam.map e).sum
  ht : peq 5 (.dict (encD x.t)) (.dict (encD (metOf fam))) = some true
  hs : sumV x.t = (x.b : Int)
  hp : x.a ^ x.a ≤ 4 ^ x.b
  hq : fam ≠ [0] → (x.a : Int) ≤ 2 * maxOf x
  hm : (maxOf x).natAbs ≤ 1000000000
  tops : ∀ y ∈ fam.map e, ∀ q < 5, y ||| 2 ^ q ∈ fam.map e
  cn : (cellsAll e fam).Nodup
  cl : (cellsAll e fam).length < 1000
  eq : pcmp .Eq (.dict (fam.flatMap (rowsOf e))) (.dict (dueBook fam e (List.range 32))) = some true
theorem cnt_le (fam : List Nat) (q : Nat) : cntOf fam q ≤ fam.length := List.length_filter_le _ _
theorem sum_le (f : Nat → Nat) (b : Nat) : ∀ l : List Nat, (∀ x ∈ l, f x ≤ b) → (l.map f).sum ≤ l.length * b
  | [], _ => Nat.zero_le _
  | x :: l, h => by
    rw [List.map_cons, List.sum_cons, List.length_cons, Nat.succ_mul, Nat.add_comm]
    exact Nat.add_le_add (sum_le f b l fun y hy => h y (List.mem_cons_of_mem _ hy)) (h x List.mem_cons_self)
theorem counts_le (fam : List Nat) : (countsOf fam).sum ≤ 5 * fam.length := sum_le (cntOf fam) fam.length (List.range 5) fun q _ => cnt_le fam q
theorem law_cl (ns : List Int) (hl : ns.length ≤ 63) (H : ∀ ms pts : List Nat, ms.length = 4 → (∀ m ∈ ms, m < 32) → pts.Perm (List.range 5) → (closedOf ms).Nodup ∧ LawOk (closedOf ms) (raisedOf (closedOf ms) pts) (toldOf (closedOf ms) (raisedOf (closedOf ms) pts))) :
    (run T1 60).cl (Str.ofString "law") [.list (ns.map .int)] = some (.bool true) := by
  let s0 : St := ⟨aset [] (Str.ofString "script") (.fro (.list (ns.map .int))), []⟩
  have e0 := lw0 48 s0 ns hl lk_hit
  generalize hN : ns.take (Int.toNat 30) = N at e0
  have hN : N.length ≤ 63 := by rw [← hN]; exact Nat.le_trans (List.length_take_le ..) (by decide)
  let s1 : St := ⟨s0.loc, aset s0.cel (Str.ofString "numbers") (.fro (.list (N.map .int)))⟩
  have e1 := lw1 48 s1 N lk_hit
  generalize totOf N = t at e1
  let s2 : St := ⟨s1.loc, aset s1.cel (Str.ofString "total") (.fro (.int t))⟩
  have e2 := lw2 44 s2 N (by omega) (lk_miss (by kernel_rfl) lk_hit)
  have hd : Draws (drawAt N) := fun k => ⟨Int.fmod_nonneg_of_pos _ (by decide), Int.fmod_lt_of_pos _ (by decide)⟩
  generalize drawAt N = d at e2 hd
  let s3 : St := ⟨s2.loc, aset s2.cel (Str.ofString "draws") (.fro (.list ((list5 d).map .int)))⟩
  have e3 := lw3 44 s3 d hd lk_hit
  let s4 : St := ⟨aset s3.loc (Str.ofString "rows") (.fro (.list ((List.range 5).map (rowP d)))), s3.cel⟩
  have e4 := lw4 44 s4 t (lk_miss (by kernel_rfl) lk_hit)
  have hw : ∀ c, wyOf t c ≠ 0 := fun c => (wy_ne t c).1
  have hJ := judge_of 42 hd (wyOf t) hw (colsOf t) (cols_lt t)
  have hrk := ranked_cl 34 _ _ _ hJ (List.range 5) (fun c hc => List.mem_range.mp hc) (by decide)
  have hperm := settle_perm (fun i j => lessF (wyOf t) (fgOf d i) (fgOf d j) (colsOf t)) (List.range 5) []
  have hasc := settle_asc (less := fun i j => lessF (wyOf t) (fgOf d i) (fgOf d j) (colsOf t)) (fun x y h => lessF_asymm _ _ _ _ h) (List.range 5) [] rfl
  rw [List.nil_append] at hperm
  have hasc := asc_of (wyOf t) (fgOf d) (colsOf t) _ hasc
  have hst : settle (fun i j => lessF (wyOf t) (fgOf d i) (fgOf d j) (colsOf t)) (List.range 5) = List.foldl (putIn fun i j => lessF (wyOf t) (fgOf d i) (fgOf d j) (colsOf t)) [] (List.range 5) := rfl
  rw [hst] at hrk
  generalize List.foldl (putIn fun i j => lessF (wyOf t) (fgOf d i) (fgOf d j) (colsOf t)) [] (List.range 5) = g at hrk hperm hasc
  have hg5 : g.length = 5 := hperm.length_eq
  have hglt : ∀ i ∈ g, i < 5 := fun i hi => List.mem_range.mp (hperm.mem_iff.mp hi)
  let s5 : St := ⟨s4.loc, aset s4.cel (Str.ofString "keys") (.fro (.list (keysPV (wyOf t) (colsOf t))))⟩
  have e5 := lw5 44 s5 _ _ _ hrk lk_hit lk_hit
  let s6 : St := ⟨aset s5.loc (Str.ofString "ranked") (.fro (.list (g.map (rowP d)))), s5.cel⟩
  have e6 := lw6 44 s6 d g hglt (by omega) (lk_miss (by kernel_rfl) lk_hit) lk_hit
  let s7 : St := ⟨aset s6.loc (Str.ofString "plain") (.fro (.list (g.map (plainP d)))), s6.cel⟩
  have e7 := lw7 41 s7 d (wyOf t) (colsOf t) g (cols_lt t) (by rw [cols_len]; decide) (by omega) (fun i hi c hc => by
    have a := (wy_ne t c).2
    have b0 := fg0 d i
    have b1 := fg1 hd i
    have b2 := hglt i hi
    refine mulOk_small (by omega) ?_
    unfold fgOf
    by_cases h0 : c = 0
    · rw [if_pos h0]; omega
    · rw [if_neg h0]
      by_cases h1 : c = 1
      · rw [if_pos h1]; omega
      · rw [if_neg h1]; omega) lk_hit lk_hit (by rfl)
  let s8 : St := ⟨aset s7.loc (Str.ofString "steps") (.fro (.list (stepsPV (wyOf t) (fgOf d) (colsOf t) g))), s7.cel⟩
  have e8 := lw8 41 s8 (wyOf t) (fgOf d) (colsOf t) g hg5 hasc lk_hit
  have e9 := lw9 36 s8 N (by omega) (lk_miss (by kernel_rfl) (lk_miss (by kernel_rfl) (lk_miss (by kernel_rfl) lk_hit)))
  have hml : (marksOf N).length = 4 := by unfold marksOf; rw [List.length_map, List.length_range]
  obtain ⟨hnd, Q⟩ := H (marksOf N) g hml (marks_lt N) hperm
  obtain ⟨_, hfl, hf⟩ := closed_cl 0 (marksOf N) (by omega) (marks_lt N)
  generalize closedOf (marksOf N) = fam at e9 hnd Q hfl hf
  let s9 : St := ⟨s8.loc, aset s8.cel (Str.ofString "family") (.fro (encN fam))⟩
  obtain ⟨hra, hel⟩ := raised_cl 37 fam g hnd (by omega) hf hglt
  generalize raisedOf fam g = e at Q hra hel
  have e10 := lw10 36 s9 d fam g (by omega) _ hra lk_hit (lk_miss (by kernel_rfl) (lk_miss (by kernel_rfl) lk_hit))
  let s10 : St := ⟨s9.loc, aset s9.cel (Str.ofString "ends") (.fro (.dict (encD (tE fam e))))⟩
  have e11 := lw11 44 s10 fam e (by omega) (lk_miss (by kernel_rfl) lk_hit) lk_hit
  let s11 : St := ⟨s10.loc, aset s10.cel (Str.ofString "tops") (.fro (encN (fam.map e)))⟩
  have e12 := lw12 44 s11
  let s12 : St := ⟨s11.loc, aset s11.cel (Str.ofString "points") (.fro nil5.pv)⟩
  obtain ⟨s13, e13, p1, p2, p3, p4, p5, p6, p7⟩ := lw13 37 s12 fam e (by omega) ⟨lk_miss (by kernel_rfl) (lk_miss (by kernel_rfl) (lk_miss (by kernel_rfl) lk_hit)), lk_miss (by kernel_rfl) (lk_miss (by kernel_rfl) lk_hit), lk_miss (by kernel_rfl) lk_hit, lk_hit, by rfl, List.nodup_nil, Nat.le_refl _⟩
  generalize toldOf fam e = x at Q p4 p6 p7
  have e14 := lw14 38 s13 fam (by omega) p1 p5
  let s14 : St := ⟨s13.loc, aset s13.cel (Str.ofString "counts") (.fro (encN (countsOf fam)))⟩
  have e15 := lw15 38 s14 fam lk_hit
  let s15 : St := ⟨aset s14.loc (Str.ofString "met") (.fro (.dict (encD (metOf fam)))), s14.cel⟩
  have p4' : s15.cel.lookup (Str.ofString "points") = some (.fro x.pv) := lk_miss (by kernel_rfl) p4
  have p1' : s15.cel.lookup (Str.ofString "family") = some (.fro (encN fam)) := lk_miss (by kernel_rfl) p1
  have p3' : s15.cel.lookup (Str.ofString "tops") = some (.fro (encN (fam.map e))) := lk_miss (by kernel_rfl) p3
  have e16 := lw16 38 s15 fam e (by omega) x Q.ha Q.hb Q.hc Q.hd Q.ht p4' p1' lk_hit p3' lk_hit
  have e17 := lw17 38 s15 x Q.hs p4'
  let s17 : St := ⟨aset s15.loc (Str.ofString "calls") (.fro (iN x.b)), s15.cel⟩
  have hxb : x.b ≤ 1000 := by
    have := counts_le fam
    rw [Q.hb]; omega
  have e18 := lw18 38 s17 x (by rw [Q.ha]; omega) hxb Q.hp p4' lk_hit
  have e19 := lw19 38 s17 fam x p6 (by omega) Q.hm Q.hq p4' p1'
  have e20 := lw20 38 s17 (fam.map e) (fun y hy => by
    obtain ⟨m, hm, rfl⟩ := List.mem_map.mp hy
    exact hel m hm) Q.tops p3'
  have hcl := cells_cl 26 fam e (fun a ha => ⟨hf a ha, hel a ha⟩) Q.cn Q.cl
  have hdu := due_cl 35 fam e (fun a ha => ⟨hf a ha, hel a ha⟩) (by omega)
  have e21 := lw21 26 s17 _ _ _ _ hcl hdu Q.eq p1' (lk_miss (by kernel_rfl) p2)
  refine cl_of (D := lwD) (σ := s0) (σ' := s17) (by rfl) (by rfl) ?_
  rw [lw_all]
  exact l_next e0 (l_next e1 (l_next e2 (l_next e3 (l_next e4 (l_next e5 (l_next e6 (l_next e7 (l_next e8 (l_next e9 (l_next e10 (l_next e11 (l_next e12 (l_next e13 (l_next e14 (l_next e15 (l_next e16 (l_next e17 (l_next e18 (l_next e19 (l_next e20 (l_one e21)))))))))))))))))))))
end Mine
end
section
set_option maxRecDepth 100000
set_option linter.unusedSimpArgs false
set_option linter.unusedVariables false
namespace Mine
open PySem
/-! the family -/
theorem any_beq (y : Nat) (l : List Nat) : (l.any fun z => z == y) = true ↔ y ∈ l := by
  rw [List.any_eq_true]
  constructor
  · rintro ⟨z, hz, e⟩; rw [← eq_of_beq e]; exact hz
  · intro h; exact ⟨y, h, beq_self_eq_true y⟩
theorem mem_uStep (m : Nat) (acc : List Nat) (x y : Nat) : y ∈ uStep m acc x ↔ y ∈ acc ∨ y = x ||| m := by
  unfold uStep
  cases h : acc.any fun z => z == (x ||| m) with
  | true =>
    rw [cond_true]
    exact ⟨Or.inl, fun h2 => h2.elim id fun e => e ▸ (any_beq _ _).mp h⟩
  | false => rw [cond_false, List.mem_append, List.mem_singleton]
theorem uStep_nodup {m : Nat} {acc : List Nat} (x : Nat) (hn : acc.Nodup) : (uStep m acc x).Nodup := by
  unfold uStep
  cases h : acc.any fun z => z == (x ||| m) with
  | true => exact hn
  | false =>
    rw [cond_false, List.nodup_append]
    refine ⟨hn, List.nodup_cons.mpr ⟨List.not_mem_nil, List.nodup_nil⟩, fun a ha b hb e => ?_⟩
    rw [List.mem_singleton] at hb
    have := (any_beq (x ||| m) acc).mpr (by rw [← hb, ← e]; exact ha)
    rw [h] at this; cases this
theorem mem_foldU (m : Nat) : ∀ (l acc : List Nat) (y : Nat), y ∈ l.foldl (uStep m) acc ↔ y ∈ acc ∨ ∃ x ∈ l, y = x ||| m
  | [], acc, y => ⟨Or.inl, fun h => h.elim id fun ⟨_, h, _⟩ => absurd h List.not_mem_nil⟩
  | x :: l, acc, y => by
    rw [List.foldl_cons, mem_foldU m l, mem_uStep]
    constructor
    · rintro ((h | h) | ⟨z, hz, e⟩)
      · exact Or.inl h
      · exact Or.inr ⟨x, List.mem_cons_self, h⟩
      · exact Or.inr ⟨z, List.mem_cons_of_mem _ hz, e⟩
    · rintro (h | ⟨z, hz, e⟩)
      · exact Or.inl (Or.inl h)
      · rcases List.mem_cons.mp hz with rfl | hz
        · exact Or.inl (Or.inr e)
        · exact Or.inr ⟨z, hz, e⟩
theorem foldU_nodup (m : Nat) : ∀ (l acc : List Nat), acc.Nodup → (l.foldl (uStep m) acc).Nodup
  | [], acc, h => h
  | x :: l, acc, h => foldU_nodup m l _ (uStep_nodup x h)
theorem mem_uOne (acc : List Nat) (m y : Nat) : y ∈ uOne acc m ↔ y ∈ acc ∨ y = m ∨ ∃ x ∈ acc, y = x ||| m := by
  unfold uOne
  rw [mem_foldU]
  constructor
  · rintro (h | ⟨x, hx, e⟩)
    · exact Or.inl h
    · rcases List.mem_cons.mp hx with rfl | hx
      · rw [Nat.or_self] at e; exact Or.inr (Or.inl e)
      · exact Or.inr (Or.inr ⟨x, hx, e⟩)
  · rintro (h | h | ⟨x, hx, e⟩)
    · exact Or.inl h
    · exact Or.inr ⟨m, List.mem_cons_self, by rw [Nat.or_self]; exact h⟩
    · exact Or.inr ⟨x, List.mem_cons_of_mem _ hx, e⟩
noncomputable def UC (F : List Nat) : Prop := ∀ x ∈ F, ∀ y ∈ F, x ||| y ∈ F
theorem uOne_uc {acc : List Nat} (m : Nat) (h : UC acc) : UC (uOne acc m) := by
  intro x hx y hy
  rw [mem_uOne] at hx hy ⊢
  rcases hx with hx | rfl | ⟨x', hx, rfl⟩ <;> rcases hy with hy | rfl | ⟨y', hy, rfl⟩
  · exact Or.inl (h x hx y hy)
  · exact Or.inr (Or.inr ⟨x, hx, rfl⟩)
  · exact Or.inr (Or.inr ⟨x ||| y', h x hx y' hy, (Nat.or_assoc _ _ _).symm⟩)
  · exact Or.inr (Or.inr ⟨y, hy, Nat.or_comm _ _⟩)
  · exact Or.inr (Or.inl (Nat.or_self _))
  · exact Or.inr (Or.inr ⟨y', hy, by rw [Nat.or_comm x, Nat.or_assoc, Nat.or_self]⟩)
  · exact Or.inr (Or.inr ⟨x' ||| y, h x' hx y hy, by rw [Nat.or_assoc, Nat.or_comm m y, Nat.or_assoc]⟩)
  · exact Or.inr (Or.inr ⟨x', hx, by rw [Nat.or_assoc, Nat.or_self]⟩)
  · exact Or.inr (Or.inr ⟨x' ||| y', h x' hx y' hy, by rw [Nat.or_assoc, Nat.or_assoc, Nat.or_comm y' m, ← Nat.or_assoc m m, Nat.or_self, Nat.or_comm m y']⟩)
theorem closed_facts (ms : List Nat) : (closedOf ms).Nodup ∧ UC (closedOf ms) := by
  have : ∀ (ms acc : List Nat), acc.Nodup ∧ UC acc → (ms.foldl uOne acc).Nodup ∧ UC (ms.foldl uOne acc) := by
    intro ms
    induction ms with
    | nil => exact fun acc h => h
    | cons m ms ih => exact fun acc h => ih _ ⟨foldU_nodup m _ _ h.1, uOne_uc m h.2⟩
  exact this ms [] ⟨List.nodup_nil, fun x h => absurd h List.not_mem_nil⟩
theorem closed_mem (ms : List Nat) : ∀ m ∈ ms, m ∈ closedOf ms := by
  have : ∀ (ms acc : List Nat) (y : Nat), y ∈ acc ∨ y ∈ ms → y ∈ ms.foldl uOne acc := by
    intro ms
    induction ms with
    | nil => exact fun acc y h => h.elim id fun h => absurd h List.not_mem_nil
    | cons m ms ih =>
      intro acc y h
      refine ih _ y ?_
      rw [mem_uOne]
      rcases h with h | h
      · exact Or.inl (Or.inl h)
      · rcases List.mem_cons.mp h with h | h
        · exact Or.inl (Or.inr (Or.inl h))
        · exact Or.inr h
  exact fun m hm => this ms [] m (Or.inr hm)
theorem closed_ind (ms : List Nat) (P : Nat → Prop) (h0 : ∀ m ∈ ms, P m) (h1 : ∀ x, ∀ m ∈ ms, P x → P (x ||| m)) : ∀ y ∈ closedOf ms, P y := by
  have : ∀ (l acc : List Nat), (∀ m ∈ l, m ∈ ms) → (∀ y ∈ acc, P y) → ∀ y ∈ l.foldl uOne acc, P y := by
    intro l
    induction l with
    | nil => exact fun acc _ h => h
    | cons m l ih =>
      intro acc hl h
      have hm := hl m List.mem_cons_self
      refine ih _ (fun x hx => hl x (List.mem_cons_of_mem _ hx)) fun y hy => ?_
      rcases (mem_uOne acc m y).mp hy with hy | rfl | ⟨x, hx, rfl⟩
      · exact h y hy
      · exact h0 y hm
      · exact h1 x m hm (h x hx)
  exact this ms [] (fun _ h => h) (fun y h => absurd h List.not_mem_nil)
theorem join_mem {F : List Nat} (h : UC F) : ∀ (l : List Nat), l ≠ [] → (∀ x ∈ l, x ∈ F) → joinL l ∈ F := by
  have : ∀ (l : List Nat) (s : Nat), s ∈ F → (∀ x ∈ l, x ∈ F) → l.foldl (· ||| ·) s ∈ F := by
    intro l
    induction l with
    | nil => exact fun s hs _ => hs
    | cons x l ih => exact fun s hs hl => ih _ (h s hs x (hl x List.mem_cons_self)) fun y hy => hl y (List.mem_cons_of_mem _ hy)
  intro l hne hl
  cases l with
  | nil => exact absurd rfl hne
  | cons x l =>
    show l.foldl (· ||| ·) (0 ||| x) ∈ F
    rw [Nat.zero_or]
    exact this l x (hl x List.mem_cons_self) fun y hy => hl y (List.mem_cons_of_mem _ hy)
theorem join_bit (q : Nat) (l : List Nat) : (joinL l).testBit q = true ↔ ∃ x ∈ l, x.testBit q = true := by
  have : ∀ (l : List Nat) (s : Nat), (l.foldl (· ||| ·) s).testBit q = true ↔ s.testBit q = true ∨ ∃ x ∈ l, x.testBit q = true := by
    intro l
    induction l with
    | nil => exact fun s => ⟨Or.inl, fun h => h.elim id fun ⟨_, h, _⟩ => absurd h List.not_mem_nil⟩
    | cons x l ih =>
      intro s
      rw [List.foldl_cons, ih, Nat.testBit_or, Bool.or_eq_true]
      constructor
      · rintro ((h | h) | ⟨z, hz, e⟩)
        · exact Or.inl h
        · exact Or.inr ⟨x, List.mem_cons_self, h⟩
        · exact Or.inr ⟨z, List.mem_cons_of_mem _ hz, e⟩
      · rintro (h | ⟨z, hz, e⟩)
        · exact Or.inl (Or.inl h)
        · rcases List.mem_cons.mp hz with rfl | hz
          · exact Or.inl (Or.inr e)
          · exact Or.inr ⟨z, hz, e⟩
  unfold joinL
  rw [this l 0, Nat.zero_testBit]
  exact ⟨fun h => h.elim (fun h => nomatch h) id, Or.inr⟩
theorem join_le {c : Nat} : ∀ (l : List Nat), (∀ x ∈ l, x ||| c = c) → joinL l ||| c = c := by
  have : ∀ (l : List Nat) (s : Nat), s ||| c = c → (∀ x ∈ l, x ||| c = c) → l.foldl (· ||| ·) s ||| c = c := by
    intro l
    induction l with
    | nil => exact fun s h _ => h
    | cons x l ih => exact fun s hs h => ih _ (by rw [Nat.or_assoc, h x List.mem_cons_self, hs]) fun y hy => h y (List.mem_cons_of_mem _ hy)
  exact fun l h => this l 0 (Nat.zero_or c) h
/-! the raising -/
theorem foldR (th : List Nat) (q : Nat) (x : Nat) : ∀ (l : List Nat), l.Nodup → ∀ e : Nat → Nat, (l.foldl (rStep th q) e) x = if x ∈ l then (if (e x ||| 2 ^ q) ∈ th then e x else e x ||| 2 ^ q) else e x
  | [], _, e => (if_neg List.not_mem_nil).symm
  | m :: l, hn, e => by
    rw [List.nodup_cons] at hn
    have ih := foldR th q x l hn.2 (rStep th q e m)
    rw [List.foldl_cons, ih]
    by_cases hm : x = m
    · subst hm
      rw [if_neg hn.1, if_pos List.mem_cons_self]
      unfold rStep
      by_cases h : (e x ||| 2 ^ q) ∈ th
      · rw [(any_beq _ _).mpr h, if_pos h]; rfl
      · have : (th.any fun z => z == (e x ||| 2 ^ q)) = false := by
          cases hh : th.any fun z => z == (e x ||| 2 ^ q) with
          | true => exact absurd ((any_beq _ _).mp hh) h
          | false => rfl
        rw [this, if_neg h]
        exact if_pos rfl
    · have e1 : rStep th q e m x = e x := by
        unfold rStep
        cases th.any fun y => y == (e m ||| 2 ^ q)
        · exact if_neg hm
        · rfl
      rw [e1]
      by_cases h : x ∈ l
      · rw [if_pos h, if_pos (List.mem_cons_of_mem _ h)]
      · rw [if_neg h, if_neg fun h2 => h ((List.mem_cons.mp h2).resolve_left hm)]
structure Stage (F : List Nat) (e : Nat → Nat) (D : Nat → Prop) : Prop where
  lt : ∀ a ∈ F, e a < 32
  up : ∀ a ∈ F, a ||| e a = e a
  uc : ∀ a ∈ F, ∀ b ∈ F, ∃ c ∈ F, e c = e a ||| e b
  cl : ∀ q, D q → ∀ a ∈ F, ∃ c ∈ F, e c = e a ||| 2 ^ q
  key : ∀ a ∈ F, ∀ b ∈ F, a ||| b = b → a ≠ b → ∃ c ∈ F, e a ||| e c = e c ∧ e a ≠ e c ∧ e c ||| (e a ||| b) = e a ||| b
theorem atomB : ∀ q < 5, ∀ x < 32, ∀ d < 32, (!((x ||| d) == d) || !((d ||| 2 ^ q) == (x ||| 2 ^ q)) || d == x || d == (x ||| 2 ^ q)) = true := by decide +kernel
theorem atom {q : Nat} (hq : q < 5) (x : Nat) (hx : x < 32) (d : Nat) (hd : d < 32) (h1 : x ||| d = d) (h2 : d ||| 2 ^ q = x ||| 2 ^ q) : d = x ∨ d = x ||| 2 ^ q := by
  have := atomB q hq x hx d hd
  rw [h1, h2, beq_self_eq_true, beq_self_eq_true, Bool.not_true, Bool.false_or, Bool.false_or, Bool.or_eq_true, beq_iff_eq, beq_iff_eq] at this
  exact this
theorem stage_step {F : List Nat} (hF : F.Nodup) {e : Nat → Nat} {D : Nat → Prop} (S : Stage F e D) {q : Nat} (hq : q < 5) : Stage F (rOne F e q) fun x => x = q ∨ D x := by
  obtain ⟨hlt, hup, huc, hcl, hkey⟩ := S
  have hP : 2 ^ q < 32 := (pow_nat hq).2
  have hr : ∀ a ∈ F, rOne F e q a = if (e a ||| 2 ^ q) ∈ F.map e then e a else e a ||| 2 ^ q := fun a ha => by
    unfold rOne
    rw [foldR (F.map e) q a F hF e, if_pos ha]
  have hat := atom hq
  generalize hPq : 2 ^ q = P at hP hr hat
  generalize rOne F e q = e' at hr
  have hstay : ∀ a ∈ F, ∀ c ∈ F, e c = e a ||| P → e' a = e a := fun a ha c hc h => (hr a ha).trans (if_pos (List.mem_map.mpr ⟨c, hc, h⟩))
  have hcase : ∀ a ∈ F, (e' a = e a ∧ ∃ c ∈ F, e c = e a ||| P) ∨ (e' a = e a ||| P ∧ ¬ ∃ c ∈ F, e c = e a ||| P) := fun a ha => by
    by_cases h : (e a ||| P) ∈ F.map e
    · exact Or.inl ⟨(hr a ha).trans (if_pos h), List.mem_map.mp h⟩
    · exact Or.inr ⟨(hr a ha).trans (if_neg h), fun h2 => h (List.mem_map.mpr h2)⟩
  have hB : ∀ a ∈ F, ∃ c ∈ F, e' c = e a ||| P := fun a ha => by
    rcases hcase a ha with ⟨_, c, hc, h2⟩ | ⟨h1, _⟩
    · exact ⟨c, hc, (hstay c hc c hc (by rw [h2, Nat.or_assoc, Nat.or_self])).trans h2⟩
    · exact ⟨a, ha, h1⟩
  refine ⟨fun a ha => ?_, fun a ha => ?_, fun a ha b hb => ?_, fun q' hq' a ha => ?_, fun a ha b hb hab hne => ?_⟩
  · rcases hcase a ha with ⟨h, _⟩ | ⟨h, _⟩ <;> rw [h]
    · exact hlt a ha
    · exact (or32 _ (hlt a ha) _ hP).2
  · rcases hcase a ha with ⟨h, _⟩ | ⟨h, _⟩ <;> rw [h]
    · exact hup a ha
    · rw [← Nat.or_assoc, hup a ha]
  · obtain ⟨z, hz, ez⟩ := huc a ha b hb
    rcases hcase a ha with ⟨h1, ca, hca, e1⟩ | ⟨h1, _⟩ <;> rcases hcase b hb with ⟨h2, cb, hcb, e2⟩ | ⟨h2, _⟩ <;> rw [h1, h2]
    · obtain ⟨w, hw, ew⟩ := huc ca hca cb hcb
      refine ⟨z, hz, (hstay z hz w hw ?_).trans ez⟩
      rw [ew, e1, e2, ez]; ac_rfl
    · obtain ⟨c, hc, ec⟩ := hB z hz
      exact ⟨c, hc, by rw [ec, ez]; ac_rfl⟩
    · obtain ⟨c, hc, ec⟩ := hB z hz
      exact ⟨c, hc, by rw [ec, ez]; ac_rfl⟩
    · obtain ⟨c, hc, ec⟩ := hB z hz
      exact ⟨c, hc, by rw [ec, ez]; ac_rfl⟩
  · rcases hq' with h | hD
    · rw [h, hPq]
      obtain ⟨c, hc, ec⟩ := hB a ha
      refine ⟨c, hc, ec.trans ?_⟩
      rcases hcase a ha with ⟨h, _⟩ | ⟨h, _⟩ <;> rw [h]
      rw [Nat.or_assoc, Nat.or_self]
    · have hcl := hcl q' hD
      generalize 2 ^ q' = Q at hcl
      obtain ⟨z, hz, ez⟩ := hcl a ha
      rcases hcase a ha with ⟨h1, ca, hca, e1⟩ | ⟨h1, _⟩ <;> rw [h1]
      · obtain ⟨w, hw, ew⟩ := hcl ca hca
        exact ⟨z, hz, (hstay z hz w hw (by rw [ew, e1, ez]; ac_rfl)).trans ez⟩
      · obtain ⟨c, hc, ec⟩ := hB z hz
        exact ⟨c, hc, by rw [ec, ez]; ac_rfl⟩
  · obtain ⟨d, hd, k1, k2, k3⟩ := hkey a ha b hb hab hne
    rcases hcase a ha with ⟨h1, ca, hca, e1⟩ | ⟨h1, hn⟩ <;> rw [h1]
    · obtain ⟨w, hw, ew⟩ := huc d hd ca hca
      have hd' : e' d = e d := hstay d hd w hw (by rw [ew, e1, ← Nat.or_assoc, Nat.or_comm (e d), k1])
      exact ⟨d, hd, by rw [hd']; exact ⟨k1, k2, k3⟩⟩
    · obtain ⟨c, hc, ec⟩ := hB d hd
      refine ⟨c, hc, ?_⟩
      rw [ec]
      refine ⟨?_, fun h => ?_, ?_⟩
      · rw [show e a ||| P ||| (e d ||| P) = (e a ||| e d) ||| (P ||| P) by ac_rfl, k1, Nat.or_self]
      · rcases hat (e a) (hlt a ha) (e d) (hlt d hd) k1 h.symm with h2 | h2
        · exact k2 h2.symm
        · exact hn ⟨d, hd, h2⟩
      · rw [show e d ||| P ||| (e a ||| P ||| b) = (e d ||| (e a ||| b)) ||| (P ||| P) by ac_rfl, k3, Nat.or_self]; ac_rfl
theorem stage_all {F : List Nat} (hF : F.Nodup) : ∀ (pts : List Nat), (∀ q ∈ pts, q < 5) → ∀ (e : Nat → Nat) (D : Nat → Prop), Stage F e D → Stage F (pts.foldl (rOne F) e) fun x => x ∈ pts ∨ D x
  | [], _, e, D, S => ⟨S.lt, S.up, S.uc, fun q hq => hq.elim (fun h => absurd h List.not_mem_nil) (S.cl q), S.key⟩
  | p :: pts, h, e, D, S => by
    have ih := stage_all hF pts (fun q hq => h q (List.mem_cons_of_mem _ hq)) _ _ (stage_step hF S (h p List.mem_cons_self))
    refine ⟨ih.lt, ih.up, ih.uc, fun q hq => ih.cl q ?_, ih.key⟩
    rcases hq with hq | hq
    · rcases List.mem_cons.mp hq with hq | hq
      · exact Or.inr (Or.inl hq)
      · exact Or.inl hq
    · exact Or.inr (Or.inr hq)
theorem stage_of {F : List Nat} (hF : F.Nodup) (hl : ∀ a ∈ F, a < 32) (hu : UC F) {pts : List Nat} (hp : pts.Perm (List.range 5)) : Stage F (raisedOf F pts) fun q => q < 5 := by
  have h0 : Stage F id fun _ => False := ⟨hl, fun a _ => Nat.or_self a, fun a ha b hb => ⟨a ||| b, hu a ha b hb, rfl⟩, fun _ h => h.elim, fun a ha b hb hab hne => ⟨b, hb, hab, hne, by
    show b ||| (a ||| b) = a ||| b
    rw [hab, Nat.or_self]⟩⟩
  have := stage_all hF pts (fun q hq => List.mem_range.mp (hp.mem_iff.mp hq)) id _ h0
  exact ⟨this.lt, this.up, this.uc, fun q hq => this.cl q (Or.inl (hp.mem_iff.mpr (List.mem_range.mpr hq))), this.key⟩
theorem tops_up {F : List Nat} {e : Nat → Nat} (S : Stage F e fun q => q < 5) : ∀ y ∈ F.map e, ∀ q < 5, y ||| 2 ^ q ∈ F.map e := by
  intro y hy q hq
  obtain ⟨a, ha, rfl⟩ := List.mem_map.mp hy
  exact List.mem_map.mpr (S.cl q hq a ha)
theorem below {F : List Nat} (hu : UC F) {e : Nat → Nat} {D : Nat → Prop} (S : Stage F e D) {a b c : Nat} (ha : a ∈ F) (hb : b ∈ F) (h2 : c ||| e a = e a) (h1 : a ||| c = c) (h3 : b ||| c = c) : b ||| a = a := by
  by_cases h : a = a ||| b
  · rw [Nat.or_comm]; exact h.symm
  · obtain ⟨d, hd, k1, k2, k3⟩ := S.key a ha (a ||| b) (hu a ha b hb) (by rw [← Nat.or_assoc, Nat.or_self]) h
    have hab : (a ||| b) ||| e a = e a := by
      rw [← h2, show a ||| b ||| (c ||| e a) = (a ||| (b ||| c)) ||| e a by ac_rfl, h3, h1]
    rw [Nat.or_comm (e a), hab] at k3
    exact absurd (k1.symm.trans ((Nat.or_comm _ _).trans k3)).symm k2
end Mine
end
section
set_option maxRecDepth 100000
set_option linter.unusedSimpArgs false
set_option linter.unusedVariables false
namespace Mine
open PySem
/-! the cells of a member -/
noncomputable def cellOk (a t : Nat) : Bool := !((a ||| t) == t) || (decide (cellsOf a t).Nodup && (decide ((cellsOf a t).length ≤ 32) && ((cellsOf a t).all (fun c => decide (c < 32)) && (List.range 32).all fun c => (cellsOf a t).any (fun z => z == c) == (((a ||| c) == c) && ((c ||| t) == t)))))
theorem cell_ok : ∀ a < 32, ∀ t < 32, cellOk a t = true := by decide +kernel
structure CellFact (a t : Nat) : Prop where
  nd : (cellsOf a t).Nodup
  len : (cellsOf a t).length ≤ 32
  mem : ∀ c, c ∈ cellsOf a t ↔ c < 32 ∧ a ||| c = c ∧ c ||| t = t
theorem cell_fact {a t : Nat} (ha : a < 32) (ht : t < 32) (h : a ||| t = t) : CellFact a t := by
  have := cell_ok a ha t ht
  unfold cellOk at this
  rw [h, beq_self_eq_true, Bool.not_true, Bool.false_or, Bool.and_eq_true, Bool.and_eq_true, Bool.and_eq_true, decide_eq_true_eq, decide_eq_true_eq, List.all_eq_true, List.all_eq_true] at this
  obtain ⟨h1, h2, h3, h4⟩ := this
  have hm : ∀ c < 32, c ∈ cellsOf a t ↔ a ||| c = c ∧ c ||| t = t := fun c hc => by
    have := eq_of_beq (h4 c (List.mem_range.mpr hc))
    rw [← any_beq, this, Bool.and_eq_true, beq_iff_eq, beq_iff_eq]
  exact ⟨h1, h2, fun c => ⟨fun hc => ⟨of_decide_eq_true (h3 c hc), (hm c (of_decide_eq_true (h3 c hc))).mp hc⟩, fun hc => (hm c hc.1).mpr hc.2⟩⟩
theorem or_anti {a b : Nat} (h1 : a ||| b = b) (h2 : b ||| a = a) : a = b := by
  rw [← h1, Nat.or_comm, h2]
section
variable {F : List Nat} {e : Nat → Nat} {D : Nat → Prop}
theorem fact_of (hl : ∀ a ∈ F, a < 32) (S : Stage F e D) {a : Nat} (ha : a ∈ F) : CellFact a (e a) := cell_fact (hl a ha) (S.lt a ha) (S.up a ha)
theorem mem_all (c : Nat) (l : List Nat) : c ∈ cellsAll e l ↔ ∃ a ∈ l, c ∈ cellsOf a (e a) := List.mem_flatMap
theorem cells_nodup (hl : ∀ a ∈ F, a < 32) (hu : UC F) (S : Stage F e D) : ∀ l : List Nat, l.Nodup → (∀ a ∈ l, a ∈ F) → (cellsAll e l).Nodup ∧ (cellsAll e l).length ≤ 32 * l.length
  | [], _, _ => ⟨List.nodup_nil, Nat.le_refl _⟩
  | a :: l, hn, h => by
    rw [List.nodup_cons] at hn
    obtain ⟨i1, i2⟩ := cells_nodup hl hu S l hn.2 fun x hx => h x (List.mem_cons_of_mem _ hx)
    have ha := h a List.mem_cons_self
    have fa := fact_of hl S ha
    have hc : cellsAll e (a :: l) = cellsOf a (e a) ++ cellsAll e l := List.flatMap_cons
    rw [hc]
    constructor
    · rw [List.nodup_append]
      refine ⟨fa.nd, i1, fun c hca c' hcb hcc => ?_⟩
      subst hcc
      obtain ⟨b, hb, hcb⟩ := (mem_all c l).mp hcb
      have hbF := h b (List.mem_cons_of_mem _ hb)
      have k1 := (fa.mem c).mp hca
      have k2 := ((fact_of hl S hbF).mem c).mp hcb
      have e1 := below hu S ha hbF k1.2.2 k1.2.1 k2.2.1
      have e2 := below hu S hbF ha k2.2.2 k2.2.1 k1.2.1
      exact hn.1 (or_anti e2 e1 ▸ hb)
    · rw [List.length_append, List.length_cons]
      have := fa.len
      omega
theorem le_join {x : Nat} : ∀ l : List Nat, x ∈ l → x ||| joinL l = joinL l := by
  have h1 : ∀ (l : List Nat) (s : Nat), s ||| l.foldl (· ||| ·) s = l.foldl (· ||| ·) s := by
    intro l
    induction l with
    | nil => exact fun s => Nat.or_self s
    | cons y l ih =>
      intro s
      rw [List.foldl_cons]
      have := ih (s ||| y)
      rw [← this, show s ||| (s ||| y ||| List.foldl (· ||| ·) (s ||| y) l) = (s ||| s) ||| (y ||| List.foldl (· ||| ·) (s ||| y) l) by ac_rfl, Nat.or_self]
      ac_rfl
  have h2 : ∀ (l : List Nat) (s : Nat), x ∈ l → x ||| l.foldl (· ||| ·) s = l.foldl (· ||| ·) s := by
    intro l
    induction l with
    | nil => exact fun s h => absurd h List.not_mem_nil
    | cons y l ih =>
      intro s h
      rw [List.foldl_cons]
      rcases List.mem_cons.mp h with rfl | h
      · have := h1 l (s ||| x)
        rw [← this, show x ||| (s ||| x ||| List.foldl (· ||| ·) (s ||| x) l) = (x ||| x) ||| (s ||| List.foldl (· ||| ·) (s ||| x) l) by ac_rfl, Nat.or_self]
        ac_rfl
      · exact ih _ h
  exact fun l h => h2 l 0 h
theorem mem_inner (c x : Nat) : x ∈ innerOf F c ↔ x ∈ F ∧ x ||| c = c := by
  unfold innerOf
  rw [List.mem_filter, beq_iff_eq]
theorem due_of (hu : UC F) (S : Stage F e D) {a c : Nat} (ha : a ∈ F) (h1 : a ||| c = c) (h2 : c ||| e a = e a) : joinL (innerOf F c) = a ∧ topOf F e (joinL (innerOf F c)) = e a ∧ dueIf F e c = true := by
  have hin : a ∈ innerOf F c := (mem_inner c a).mpr ⟨ha, h1⟩
  have hJ : joinL (innerOf F c) = a := or_anti (join_le _ fun x hx => below hu S ha ((mem_inner c x).mp hx).1 h2 h1 ((mem_inner c x).mp hx).2) (le_join _ hin)
  have hT : topOf F e (joinL (innerOf F c)) = e a := by rw [hJ]; exact if_pos ha
  refine ⟨hJ, hT, ?_⟩
  unfold dueIf
  rw [hT, Nat.or_comm, h2, beq_self_eq_true, Bool.and_true]
  cases hh : innerOf F c with
  | nil => rw [hh] at hin; exact absurd hin List.not_mem_nil
  | cons x l => rfl
theorem due_entry (hu : UC F) (S : Stage F e D) {a c : Nat} (ha : a ∈ F) (h1 : a ||| c = c) (h2 : c ||| e a = e a) : dueEntry F e c = entry e a c := by
  obtain ⟨k1, k2, _⟩ := due_of hu S ha h1 h2
  unfold dueEntry entry
  rw [k2, k1]
theorem due_inv (hu : UC F) {c : Nat} (h : dueIf F e c = true) : ∃ a ∈ F, a ||| c = c ∧ c ||| e a = e a := by
  unfold dueIf at h
  rw [Bool.and_eq_true, beq_iff_eq] at h
  obtain ⟨h1, h2⟩ := h
  have hne : innerOf F c ≠ [] := fun hh => by rw [hh] at h1; cases h1
  have hJ := join_mem hu (innerOf F c) hne fun x hx => ((mem_inner c x).mp hx).1
  have hle := join_le (innerOf F c) fun x hx => ((mem_inner c x).mp hx).2
  rw [show topOf F e (joinL (innerOf F c)) = e (joinL (innerOf F c)) from if_pos hJ] at h2
  exact ⟨_, hJ, hle, by rw [Nat.or_comm]; exact h2⟩
theorem cells_perm (hl : ∀ a ∈ F, a < 32) (hn : F.Nodup) (hu : UC F) (S : Stage F e D) : (cellsAll e F).Perm ((List.range 32).filter (dueIf F e)) := by
  refine (List.perm_ext_iff_of_nodup (cells_nodup hl hu S F hn fun _ h => h).1 (List.nodup_range.filter _)).mpr fun c => ?_
  rw [mem_all, List.mem_filter, List.mem_range]
  constructor
  · rintro ⟨a, ha, hc⟩
    have k := ((fact_of hl S ha).mem c).mp hc
    exact ⟨k.1, (due_of hu S ha k.2.1 k.2.2).2.2⟩
  · rintro ⟨hc, hd⟩
    obtain ⟨a, ha, k1, k2⟩ := due_inv hu hd
    exact ⟨a, ha, ((fact_of hl S ha).mem c).mpr ⟨hc, k1, k2⟩⟩
end
theorem dict_eq {f : PV → PV → Option Bool} {ys : List (Key × PV)} : ∀ xs : List (Key × PV), (∀ p ∈ xs, ∃ y, dget ys p.1 = some y ∧ f p.2 y = some true) → dictEq f ys xs = some true
  | [], _ => rfl
  | p :: xs, h => by
    obtain ⟨y, h1, h2⟩ := h p List.mem_cons_self
    have ih := dict_eq (f := f) (ys := ys) xs fun p hp => h p (List.mem_cons_of_mem _ hp)
    unfold dictEq
    rw [h1]
    exact both_of h2 ih rfl
theorem peq_dict {n : Nat} {xs ys : List (Key × PV)} (h1 : xs.all isIntKey = true) (h2 : ys.all isIntKey = true) (h3 : xs.length = ys.length) (h : ∀ p ∈ xs, ∃ y, dget ys p.1 = some y ∧ peq n p.2 y = some true) : peq (n + 1) (.dict xs) (.dict ys) = some true :=
  (if_pos (by rw [h1, h2]; rfl) : (if (xs.all isIntKey && ys.all isIntKey) = true then (if xs.length = ys.length then dictEq (peq n) ys xs else some false) else none) = _).trans ((if_pos h3).trans (dict_eq xs h))
theorem dget_map (v : Nat → PV) {c : Nat} : ∀ cs : List Nat, c ∈ cs → dget (cs.map fun c => (kN c, v c)) (kN c) = some (v c)
  | x :: cs, h => by
    unfold dget
    rw [List.map_cons, List.find?_cons]
    by_cases hx : x = c
    · rw [show decide (kN x = kN c) = true from decide_eq_true (by rw [hx]), hx]; rfl
    · rw [show decide (kN x = kN c) = false from decide_eq_false fun h2 => hx (kN_inj h2)]
      exact dget_map v cs ((List.mem_cons.mp h).resolve_left fun h2 => hx h2.symm)
theorem peq_entry (e : Nat → Nat) (a c : Nat) : peq 5 (entry e a c) (entry e a c) = some true := by
  have hd : peq 4 (.dict [(kN a, .int 1)]) (.dict [(kN a, .int 1)]) = some true := peq_dict rfl rfl rfl fun p hp => by
    rw [List.mem_singleton] at hp
    subst hp
    exact ⟨_, dget_map (fun _ => .int 1) [a] (List.mem_singleton.mpr rfl), peq_int _ _⟩
  have : seqEq (peq 4) [.int 1, iN a, iN (e a), iN c, .dict [(kN a, .int 1)]] [.int 1, iN a, iN (e a), iN c, .dict [(kN a, .int 1)]] = some true :=
    both_of (peq_int _ _) (both_of (peq_int _ _) (both_of (peq_int _ _) (both_of (peq_int _ _) (both_of hd (show seqEq (peq 4) [] [] = some true from rfl) rfl) rfl) rfl) rfl) rfl
  exact this
theorem cells_due {F : List Nat} {e : Nat → Nat} {D : Nat → Prop} (hl : ∀ a ∈ F, a < 32) (hn : F.Nodup) (hu : UC F) (S : Stage F e D) : pcmp .Eq (.dict (F.flatMap (rowsOf e))) (.dict (dueBook F e (List.range 32))) = some true := by
  have hkeys := all_keys e F
  have hk2 := due_keys F e (List.range 32)
  refine peq_dict (n := 5) ?_ ?_ ?_ ?_
  · rw [List.all_eq_true]
    intro p hp
    have : p.1 ∈ (F.flatMap (rowsOf e)).map (·.1) := List.mem_map_of_mem hp
    rw [hkeys] at this
    obtain ⟨c, _, hc⟩ := List.mem_map.mp this
    unfold isIntKey
    rw [← hc]
  · rw [List.all_eq_true]
    intro p hp
    have : p.1 ∈ (dueBook F e (List.range 32)).map (·.1) := List.mem_map_of_mem hp
    rw [hk2] at this
    obtain ⟨c, _, hc⟩ := List.mem_map.mp this
    unfold isIntKey
    rw [← hc]
  · have h1 := congrArg List.length hkeys
    have h2 := congrArg List.length hk2
    rw [List.length_map, List.length_map] at h1 h2
    rw [h1, h2, (cells_perm hl hn hu S).length_eq]
  · intro p hp
    obtain ⟨a, ha, hpa⟩ := List.mem_flatMap.mp hp
    obtain ⟨c, hc, rfl⟩ := List.mem_map.mp hpa
    have k := ((fact_of hl S ha).mem c).mp hc
    refine ⟨entry e a c, ?_, peq_entry e a c⟩
    rw [← due_entry hu S ha k.2.1 k.2.2]
    refine dget_map (dueEntry F e) _ (List.mem_filter.mpr ⟨List.mem_range.mpr k.1, (due_of hu S ha k.2.1 k.2.2).2.2⟩)
end Mine
end
section
set_option maxRecDepth 100000
set_option linter.unusedSimpArgs false
set_option linter.unusedVariables false
namespace Mine
open PySem
/-! what the points' table holds -/
noncomputable def wOf (F : List Nat) : List Nat := F.flatMap ownOf
theorem onesOf_app (a b : List Nat) : onesOf (a ++ b) = onesOf a ++ onesOf b := List.map_append
theorem add_rot (a b c : Nat) : a + (b + c) = b + a + c := by rw [← Nat.add_assoc, Nat.add_comm a b]
theorem told_is (e : Nat → Nat) : ∀ (l : List Nat) (x : Told), (l.foldl (addOne e) x).a = l.length + x.a ∧ (l.foldl (addOne e) x).b = (wOf l).length + x.b ∧ (l.foldl (addOne e) x).c = l.sum + x.c ∧ (l.foldl (addOne e) x).d = (l.map e).sum + x.d ∧ (l.foldl (addOne e) x).t = ibumpAll x.t (onesOf (wOf l))
  | [], x => ⟨(Nat.zero_add _).symm, (Nat.zero_add _).symm, (Nat.zero_add _).symm, (Nat.zero_add _).symm, rfl⟩
  | m :: l, x => by
    obtain ⟨h1, h2, h3, h4, h5⟩ := told_is e l (addOne e x m)
    have hw : wOf (m :: l) = ownOf m ++ wOf l := List.flatMap_cons
    rw [List.foldl_cons, h1, h2, h3, h4, h5, hw, onesOf_app, List.length_append, List.length_cons, List.sum_cons, List.map_cons, List.sum_cons]
    refine ⟨?_, ?_, ?_, ?_, ?_⟩
    · exact (Nat.add_assoc _ _ _).symm
    · exact add_rot _ _ _
    · exact add_rot _ _ _
    · exact add_rot _ _ _
    · unfold ibumpAll
      rw [List.foldl_append]; rfl
theorem iget_bump (k : Key) (v : Int) (k' : Key) : ∀ l : List (Key × Int), iget (ibump l k v) k' = if k = k' then some ((iget l k').getD 0 + v) else iget l k'
  | [] => by
    show (if k = k' then some v else none) = if k = k' then some (0 + v) else none
    rw [Int.zero_add]
  | (k0, a) :: l => by
    have ih := iget_bump k v k' l
    unfold ibump
    by_cases h : k0 = k
    · subst h
      rw [if_pos rfl]
      unfold iget
      by_cases h2 : k0 = k'
      · rw [if_pos h2, if_pos h2, if_pos h2]; rfl
      · rw [if_neg h2, if_neg h2, if_neg h2]
    · rw [if_neg h]
      unfold iget
      by_cases h2 : k0 = k'
      · rw [if_pos h2, if_pos h2, if_neg (fun h3 => h (h2.trans h3.symm))]
      · rw [if_neg h2, if_neg h2]
        exact ih
theorem iget_ones (q : Nat) : ∀ (W : List Nat) (l : List (Key × Int)), iget (ibumpAll l (onesOf W)) (kN q) = if W.count q = 0 then iget l (kN q) else some ((iget l (kN q)).getD 0 + (W.count q : Int))
  | [], l => rfl
  | w :: W, l => by
    have ih : iget (ibumpAll l (onesOf (w :: W))) (kN q) = _ := iget_ones q W (ibump l (kN w) 1)
    rw [ih, iget_bump]
    by_cases h : w = q
    · subst h
      rw [if_pos rfl, List.count_cons_self, if_neg (Nat.succ_ne_zero _)]
      by_cases h0 : W.count w = 0
      · rw [if_pos h0, h0]; rfl
      · rw [if_neg h0, Option.getD_some]
        congr 1
        omega
    · rw [if_neg (fun h2 => h (kN_inj h2)), List.count_cons_of_ne h]
theorem keys_ones : ∀ (W : List Nat) (l : List (Key × Int)) (k : Key), k ∈ (ibumpAll l (onesOf W)).map (·.1) → k ∈ l.map (·.1) ∨ ∃ q ∈ W, k = kN q
  | [], l, k, h => Or.inl h
  | w :: W, l, k, h => by
    rcases keys_ones W (ibump l (kN w) 1) k h with h | ⟨q, hq, e⟩
    · rcases ibump_keys (kN w) 1 l with h2 | ⟨_, h2⟩
      · rw [h2] at h; exact Or.inl h
      · rw [h2, List.mem_append, List.mem_singleton] at h
        rcases h with h | h
        · exact Or.inl h
        · exact Or.inr ⟨w, List.mem_cons_self, h⟩
    · exact Or.inr ⟨q, List.mem_cons_of_mem _ hq, e⟩
theorem foldl_add : ∀ (l : List Int) (s : Int), l.foldl (· + ·) s = s + l.sum
  | [], s => (Int.add_zero s).symm
  | x :: l, s => by rw [List.foldl_cons, foldl_add l, List.sum_cons, Int.add_assoc]
theorem sumV_bump (k : Key) (v : Int) : ∀ l : List (Key × Int), ((ibump l k v).map (·.2)).sum = (l.map (·.2)).sum + v
  | [] => by
    show v + 0 = 0 + v
    omega
  | (k0, a) :: l => by
    unfold ibump
    by_cases h : k0 = k
    · rw [if_pos h, List.map_cons, List.map_cons, List.sum_cons, List.sum_cons]
      show a + v + _ = a + _ + v
      omega
    · rw [if_neg h, List.map_cons, List.map_cons, List.sum_cons, List.sum_cons, sumV_bump k v l, Int.add_assoc]
theorem sumV_ones : ∀ (W : List Nat) (l : List (Key × Int)), ((ibumpAll l (onesOf W)).map (·.2)).sum = (l.map (·.2)).sum + (W.length : Int)
  | [], l => (Int.add_zero _).symm
  | w :: W, l => by
    have ih : ((ibumpAll l (onesOf (w :: W))).map (·.2)).sum = _ := sumV_ones W (ibump l (kN w) 1)
    rw [ih, sumV_bump, List.length_cons]
    omega
noncomputable def bit1 (b : Bool) : Nat := bif b then 1 else 0
theorem cnt_cons (m : Nat) (F : List Nat) (q : Nat) : cntOf (m :: F) q = bit1 (hasP m q) + cntOf F q := by
  unfold cntOf
  rw [List.filter_cons]
  cases hasP m q with
  | true => rw [if_pos rfl, List.length_cons, Nat.add_comm]; rfl
  | false => rw [if_neg (by decide)]; exact (Nat.zero_add _).symm
theorem filt_len (p : Nat → Bool) : ∀ l : List Nat, (l.filter p).length = (l.map fun q => bit1 (p q)).sum
  | [] => rfl
  | x :: l => by
    rw [List.filter_cons, List.map_cons, List.sum_cons, ← filt_len p l]
    cases p x with
    | true => rw [if_pos rfl, List.length_cons, Nat.add_comm]; rfl
    | false => rw [if_neg (by decide)]; exact (Nat.zero_add _).symm
theorem sum_add (f g : Nat → Nat) : ∀ l : List Nat, (l.map fun q => f q + g q).sum = (l.map f).sum + (l.map g).sum
  | [] => rfl
  | x :: l => by rw [List.map_cons, List.map_cons, List.map_cons, List.sum_cons, List.sum_cons, List.sum_cons, sum_add f g l, Nat.add_add_add_comm]
theorem w_len : ∀ F : List Nat, (wOf F).length = (countsOf F).sum
  | [] => rfl
  | m :: F => by
    have hw : wOf (m :: F) = ownOf m ++ wOf F := List.flatMap_cons
    have ho : (ownOf m).length = ((List.range 5).map fun q => bit1 (hasP m q)).sum := filt_len (hasP m) _
    have hc : countsOf (m :: F) = (List.range 5).map fun q => bit1 (hasP m q) + cntOf F q := List.map_congr_left fun q _ => cnt_cons m F q
    rw [hw, List.length_append, w_len F, ho, hc, sum_add]
    rfl
theorem own_count (m : Nat) {q : Nat} (hq : q < 5) : (ownOf m).count q = bit1 (hasP m q) := by
  unfold ownOf
  cases h : hasP m q with
  | true =>
    rw [List.count_filter h]
    exact (show ∀ q < 5, (List.range 5).count q = 1 by decide) q hq
  | false =>
    refine List.count_eq_zero.mpr fun h2 => ?_
    rw [List.mem_filter, h] at h2
    exact nomatch h2.2
theorem w_count {q : Nat} (hq : q < 5) : ∀ F : List Nat, (wOf F).count q = cntOf F q
  | [] => rfl
  | m :: F => by
    have hw : wOf (m :: F) = ownOf m ++ wOf F := List.flatMap_cons
    rw [hw, List.count_append, own_count m hq, w_count hq F, cnt_cons]
theorem w_lt (F : List Nat) : ∀ q ∈ wOf F, q < 5 := fun q h => by
  obtain ⟨m, _, hq⟩ := List.mem_flatMap.mp h
  exact List.mem_range.mp (List.mem_filter.mp hq).1
theorem iget_some_mem {k : Key} {a : Int} : ∀ {l : List (Key × Int)}, iget l k = some a → (k, a) ∈ l
  | [], h => nomatch h
  | (k0, b) :: l, h => by
    unfold iget at h
    by_cases h0 : k0 = k
    · rw [if_pos h0] at h
      cases h; subst h0
      exact List.mem_cons_self
    · rw [if_neg h0] at h
      exact List.mem_cons_of_mem _ (iget_some_mem h)
theorem pmaxN_ge : ∀ (l : List Int) (a : Int), a ≤ pmax a l ∧ ∀ v ∈ l, v ≤ pmax a l
  | [], a => ⟨Int.le_refl _, fun v h => absurd h List.not_mem_nil⟩
  | b :: l, a => by
    obtain ⟨h1, h2⟩ := pmaxN_ge l (if a < b then b else a)
    have h3 : pmax a (b :: l) = pmax (if a < b then b else a) l := rfl
    rw [h3]
    have h4 : a ≤ (if a < b then b else a) ∧ b ≤ (if a < b then b else a) := by
      by_cases h : a < b
      · rw [if_pos h]; omega
      · rw [if_neg h]; omega
    refine ⟨Int.le_trans h4.1 h1, fun v hv => ?_⟩
    rcases List.mem_cons.mp hv with rfl | hv
    · exact Int.le_trans h4.2 h1
    · exact h2 v hv
theorem pmaxN_le (b : Int) : ∀ (l : List Int) (a : Int), a ≤ b → (∀ v ∈ l, v ≤ b) → pmax a l ≤ b
  | [], a, h, _ => h
  | c :: l, a, h, hl => by
    refine pmaxN_le b l _ ?_ fun v hv => hl v (List.mem_cons_of_mem _ hv)
    by_cases hc : a < c
    · rw [if_pos hc]; exact hl c List.mem_cons_self
    · rw [if_neg hc]; exact h
structure ToldOk (F : List Nat) (e : Nat → Nat) (x : Told) : Prop where
  ha : x.a = F.length
  hb : x.b = (countsOf F).sum
  hc : x.c = F.sum
  hd : x.d = (F.map e).sum
  ht : peq 5 (.dict (encD x.t)) (.dict (encD (metOf F))) = some true
  hs : sumV x.t = (x.b : Int)
  hm : (maxOf x).natAbs ≤ F.length
  hq : (∃ q < 5, F.length ≤ 2 * cntOf F q) → (x.a : Int) ≤ 2 * maxOf x
theorem told_ok (F : List Nat) (e : Nat → Nat) : ToldOk F e (toldOf F e) := by
  obtain ⟨h1, h2, h3, h4, h5⟩ := told_is e F nil5
  have h1 : (toldOf F e).a = F.length + 0 := h1
  have h2 : (toldOf F e).b = (wOf F).length + 0 := h2
  have h3 : (toldOf F e).c = F.sum + 0 := h3
  have h4 : (toldOf F e).d = (F.map e).sum + 0 := h4
  have h5 : (toldOf F e).t = ibumpAll [] (onesOf (wOf F)) := h5
  have hget : ∀ q < 5, iget (toldOf F e).t (kN q) = if cntOf F q = 0 then none else some (cntOf F q : Int) := fun q hq => by
    rw [h5, iget_ones, w_count hq]
    by_cases h : cntOf F q = 0
    · rw [if_pos h, if_pos h]; rfl
    · rw [if_neg h, if_neg h]
      show some ((0 : Int) + (cntOf F q : Int)) = _
      rw [Int.zero_add]
  have hkey : ∀ k ∈ (toldOf F e).t.map (·.1), ∃ q < 5, k = kN q := fun k hk => by
    rw [h5] at hk
    rcases keys_ones _ _ k hk with h | ⟨q, hq, e⟩
    · exact absurd h List.not_mem_nil
    · exact ⟨q, w_lt F q hq, e⟩
  have hnd : ((toldOf F e).t.map (·.1)).Nodup := by rw [h5]; exact ibumpAll_nodup _ _ List.nodup_nil
  have hval : ∀ p ∈ (toldOf F e).t, ∃ q < 5, p.1 = kN q ∧ p.2 = (cntOf F q : Int) ∧ cntOf F q ≠ 0 := fun p hp => by
    obtain ⟨q, hq, e1⟩ := hkey p.1 (List.mem_map_of_mem hp)
    have := iget_mem hnd hp
    rw [e1, hget q hq] at this
    by_cases h : cntOf F q = 0
    · rw [if_pos h] at this; cases this
    · rw [if_neg h] at this
      exact ⟨q, hq, e1, (Option.some.inj this).symm, h⟩
  have hmet : encD (metOf F) = (metQs F).map fun q => (kN q, PV.int (cntOf F q : Int)) := by unfold metOf encD; rw [List.map_map]; rfl
  have hmq : ∀ q, q ∈ metQs F ↔ q < 5 ∧ cntOf F q ≠ 0 := fun q => by
    unfold metQs
    rw [List.mem_filter, List.mem_range, decide_eq_true_eq]
    exact and_congr_right fun _ => Int.natCast_pos.trans Nat.pos_iff_ne_zero
  generalize toldOf F e = x at *
  refine ⟨h1, by rw [h2, Nat.add_zero, w_len], h3, h4, peq_dict (n := 4) ?_ ?_ ?_ ?_, ?_, ?_, ?_⟩
  · rw [List.all_eq_true]
    intro p hp
    obtain ⟨p', hp', rfl⟩ := List.mem_map.mp hp
    obtain ⟨q, _, e1, _⟩ := hval p' hp'
    show isIntKey (p'.1, _) = true
    rw [e1]; rfl
  · rw [hmet, List.all_eq_true]
    intro p hp
    obtain ⟨q, _, rfl⟩ := List.mem_map.mp hp
    rfl
  · have hp : (x.t.map (·.1)).Perm ((metOf F).map (·.1)) := (List.perm_ext_iff_of_nodup hnd (met_nodup F)).mpr fun k => by
      rw [met_keys]
      constructor
      · intro hk
        obtain ⟨p, hp, rfl⟩ := List.mem_map.mp hk
        obtain ⟨q, hq, e1, _, e3⟩ := hval p hp
        exact List.mem_map.mpr ⟨q, (hmq q).mpr ⟨hq, e3⟩, e1.symm⟩
      · intro hk
        obtain ⟨q, hq, rfl⟩ := List.mem_map.mp hk
        obtain ⟨hq5, hc⟩ := (hmq q).mp hq
        have := hget q hq5
        rw [if_neg hc] at this
        exact List.mem_map_of_mem (iget_some_mem this)
    have := hp.length_eq
    rw [List.length_map, List.length_map] at this
    unfold encD
    rw [List.length_map, List.length_map, this]
  · intro p hp
    obtain ⟨p', hp', rfl⟩ := List.mem_map.mp hp
    obtain ⟨q, hq, e1, e2, e3⟩ := hval p' hp'
    refine ⟨PV.int (cntOf F q : Int), ?_, ?_⟩
    · rw [hmet, e1]
      exact dget_map (fun q => PV.int (cntOf F q : Int)) _ ((hmq q).mpr ⟨hq, e3⟩)
    · rw [e2]; exact peq_int _ _
  · unfold sumV
    rw [foldl_add, h5, sumV_ones, h2]
    show (0 : Int) + (0 + _) = _
    omega
  · have hge := (pmaxN_ge (x.t.map (·.2)) 0).1
    have hle := pmaxN_le (F.length : Int) (x.t.map (·.2)) 0 (Int.natCast_nonneg _) fun v hv => by
      obtain ⟨p, hp, rfl⟩ := List.mem_map.mp hv
      obtain ⟨q, _, _, e2, _⟩ := hval p hp
      rw [e2]
      exact Int.ofNat_le.mpr (cnt_le F q)
    unfold maxOf
    omega
  · rintro ⟨q, hq, hF⟩
    have hge := pmaxN_ge (x.t.map (·.2)) 0
    rw [h1]
    unfold maxOf
    by_cases h : cntOf F q = 0
    · omega
    · have := hget q hq
      rw [if_neg h] at this
      have := hge.2 _ (List.mem_map_of_mem (iget_some_mem this))
      have : (cntOf F q : Int) ≤ pmax 0 (x.t.map (·.2)) := this
      omega
end Mine
end
section
set_option maxRecDepth 100000
set_option linter.unusedSimpArgs false
set_option linter.unusedVariables false
namespace Mine
open PySem
/-! the finite check: families by the kinds of their points. Written with the recursors themselves: the kernel is quick at them. -/
noncomputable def uni (T : List Nat) (S : Nat) : Nat := @List.rec Nat (fun _ => Nat) 0 (fun t _ ih => @Bool.rec (fun _ => Nat) ih (Nat.lor t ih) (Nat.beq (Nat.land t S) 0)) T
noncomputable def s15 : List Nat := [1, 2, 3, 4, 5, 6, 7, 8, 9, 10, 11, 12, 13, 14, 15]
noncomputable def filtR (p : Nat → Bool) (l : List Nat) : List Nat := @List.rec Nat (fun _ => List Nat) [] (fun x _ ih => @Bool.rec (fun _ => List Nat) ih (x :: ih) (p x)) l
noncomputable def lenR (l : List Nat) : Nat := @List.rec Nat (fun _ => Nat) 0 (fun _ _ ih => Nat.add ih 1) l
noncomputable def hitR (L : List Nat) (t : Nat) : Nat := @List.rec Nat (fun _ => Nat) 0 (fun S _ ih => @Bool.rec (fun _ => Nat) (Nat.add ih 1) ih (Nat.beq (Nat.land t S) 0)) L
noncomputable def sumR (L : List Nat) (T : List Nat) : Nat := @List.rec Nat (fun _ => Nat) 0 (fun t _ ih => Nat.add (hitR L t) ih) T
noncomputable def anyR (n : Nat) (L : List Nat) (T : List Nat) : Bool := @List.rec Nat (fun _ => Bool) false (fun t _ ih => @Bool.rec (fun _ => Bool) ih true (Nat.ble n (Nat.mul 2 (hitR L t)))) T
noncomputable def closedL (T : List Nat) : List Nat := filtR (fun S => Nat.beq (Nat.lor (uni T S) S) 15) s15
noncomputable def chkR (T : List Nat) (L : List Nat) : Bool := @Bool.rec (fun _ => Bool) false (@List.rec Nat (fun _ => Bool) true (fun _ _ _ => anyR (lenR L) L T) T) (Nat.ble (Nat.pow (lenR L) (lenR L)) (Nat.pow 4 (sumR L T)))
noncomputable def go (l : List Nat) : Nat → List Nat → Bool := @List.rec Nat (fun _ => Nat → List Nat → Bool) (fun _ acc => chkR acc (closedL acc)) (fun t _ ih r acc => @Nat.rec (fun _ => Bool) (ih 0 acc) (fun r' _ => @Bool.rec (fun _ => Bool) false (ih r' (t :: acc)) (ih r acc)) r) l
theorem go_all : go s15 5 [] = true := by kernel_rfl
theorem rec_and {a b : Bool} (h : @Bool.rec (fun _ => Bool) false b a = true) : a = true ∧ b = true := by
  cases a with
  | false => cases h
  | true => exact ⟨rfl, h⟩
theorem go_spec (p : Nat → Bool) : ∀ (l : List Nat) (r : Nat) (acc : List Nat), go l r acc = true → (l.filter p).length ≤ r → chkR ((l.filter p).reverse ++ acc) (closedL ((l.filter p).reverse ++ acc)) = true
  | [], _, acc, h, _ => h
  | t :: l, 0, acc, h, hl => by
    have hp : p t = false := by
      cases hp : p t with
      | false => rfl
      | true => rw [List.filter_cons_of_pos hp, List.length_cons] at hl; exact absurd hl (Nat.not_succ_le_zero _)
    rw [List.filter_cons_of_neg (by rw [hp]; decide)] at hl ⊢
    exact go_spec p l 0 acc h hl
  | t :: l, r + 1, acc, h, hl => by
    have h := rec_and (a := go l (r + 1) acc) (b := go l r (t :: acc)) h
    cases hp : p t with
    | false =>
      rw [List.filter_cons_of_neg (by rw [hp]; decide)] at hl ⊢
      exact go_spec p l (r + 1) acc h.1 hl
    | true =>
      rw [List.filter_cons_of_pos hp] at hl ⊢
      rw [List.reverse_cons, List.append_assoc]
      exact go_spec p l r (t :: acc) h.2 (Nat.le_of_succ_le_succ hl)
theorem filtR_is (p : Nat → Bool) : ∀ l, filtR p l = l.filter p
  | [] => rfl
  | x :: l => by
    have ih := filtR_is p l
    show @Bool.rec (fun _ => List Nat) (filtR p l) (x :: filtR p l) (p x) = _
    rw [List.filter_cons, ih]
    cases p x <;> rfl
theorem lenR_is : ∀ l, lenR l = l.length
  | [] => rfl
  | x :: l => congrArg (· + 1) (lenR_is l)
noncomputable def cIn (L : List Nat) (t : Nat) : Nat := (L.filter fun S => !(Nat.beq (Nat.land t S) 0)).length
theorem hitR_is (t : Nat) : ∀ L, hitR L t = cIn L t
  | [] => rfl
  | S :: L => by
    have ih := hitR_is t L
    unfold cIn at ih ⊢
    show @Bool.rec (fun _ => Nat) (hitR L t + 1) (hitR L t) (Nat.beq (Nat.land t S) 0) = _
    rw [List.filter_cons, ih]
    cases Nat.beq (Nat.land t S) 0 <;> rfl
theorem sumR_is (L : List Nat) : ∀ T, sumR L T = (T.map (cIn L)).sum
  | [] => rfl
  | t :: T => by
    rw [List.map_cons, List.sum_cons, ← sumR_is L T, ← hitR_is]; rfl
theorem anyR_inv (n : Nat) (L : List Nat) : ∀ T, anyR n L T = true → ∃ t ∈ T, n ≤ 2 * cIn L t
  | [], h => nomatch h
  | t :: T, h => by
    have h : @Bool.rec (fun _ => Bool) (anyR n L T) true (Nat.ble n (Nat.mul 2 (hitR L t))) = true := h
    cases hb : Nat.ble n (Nat.mul 2 (hitR L t)) with
    | true => exact ⟨t, List.mem_cons_self, by rw [← hitR_is]; exact Nat.le_of_ble_eq_true hb⟩
    | false =>
      rw [hb] at h
      obtain ⟨u, hu, e⟩ := anyR_inv n L T h
      exact ⟨u, List.mem_cons_of_mem _ hu, e⟩
theorem chkR_inv (T L : List Nat) (h : chkR T L = true) : L.length ^ L.length ≤ 4 ^ (T.map (cIn L)).sum ∧ (T = [] ∨ ∃ t ∈ T, L.length ≤ 2 * cIn L t) := by
  obtain ⟨h1, h2⟩ := rec_and h
  rw [lenR_is, sumR_is] at h1
  rw [lenR_is] at h2
  refine ⟨Nat.le_of_ble_eq_true h1, ?_⟩
  cases T with
  | nil => exact Or.inl rfl
  | cons t T => exact Or.inr (anyR_inv _ L (t :: T) h2)
end Mine
end
section
set_option maxRecDepth 100000
set_option linter.unusedSimpArgs false
set_option linter.unusedVariables false
namespace Mine
open PySem
/-! kinds of points, and members by the marks below them -/
noncomputable def mk4 (a b c d : Bool) : Nat := bit1 a + 2 * bit1 b + 4 * bit1 c + 8 * bit1 d
noncomputable def mkB (f : Nat → Bool) : Nat := mk4 (f 0) (f 1) (f 2) (f 3)
theorem mk4_ok : ∀ a b c d : Bool, mk4 a b c d < 16 ∧ (mk4 a b c d).testBit 0 = a ∧ (mk4 a b c d).testBit 1 = b ∧ (mk4 a b c d).testBit 2 = c ∧ (mk4 a b c d).testBit 3 = d := by decide
theorem mkB_lt (f : Nat → Bool) : mkB f < 16 := (mk4_ok _ _ _ _).1
theorem mkB_bit (f : Nat → Bool) : ∀ {k : Nat}, k < 4 → (mkB f).testBit k = f k
  | 0, _ => (mk4_ok _ _ _ _).2.1
  | 1, _ => (mk4_ok _ _ _ _).2.2.1
  | 2, _ => (mk4_ok _ _ _ _).2.2.2.1
  | 3, _ => (mk4_ok _ _ _ _).2.2.2.2
  | k + 4, h => absurd h (by omega)
theorem bits_ext {n : Nat} {a b : Nat} (ha : a < 2 ^ n) (hb : b < 2 ^ n) (h : ∀ k < n, a.testBit k = b.testBit k) : a = b :=
  Nat.eq_of_testBit_eq fun k => by
    by_cases hk : k < n
    · exact h k hk
    · have hp : 2 ^ n ≤ 2 ^ k := Nat.pow_le_pow_right (by decide) (by omega)
      rw [Nat.testBit_lt_two_pow (Nat.lt_of_lt_of_le ha hp), Nat.testBit_lt_two_pow (Nat.lt_of_lt_of_le hb hp)]
theorem big_bit {n a k : Nat} (ha : a < 2 ^ n) (h : a.testBit k = true) : k < n := by
  refine Decidable.byContradiction fun hk => ?_
  have hp : 2 ^ n ≤ 2 ^ k := Nat.pow_le_pow_right (by decide) (by omega)
  rw [Nat.testBit_lt_two_pow (Nat.lt_of_lt_of_le ha hp)] at h
  cases h
theorem and_bits : ∀ t < 16, ∀ S < 16, (!(Nat.beq (Nat.land t S) 0)) = (List.range 4).any fun k => t.testBit k && S.testBit k := by decide +kernel
theorem meet_iff {t S : Nat} (ht : t < 16) (hS : S < 16) : (!(Nat.beq (Nat.land t S) 0)) = true ↔ ∃ k < 4, t.testBit k = true ∧ S.testBit k = true := by
  rw [and_bits t ht S hS, List.any_eq_true]
  constructor
  · rintro ⟨k, hk, h⟩
    rw [Bool.and_eq_true] at h
    exact ⟨k, List.mem_range.mp hk, h⟩
  · rintro ⟨k, hk, h⟩
    exact ⟨k, List.mem_range.mpr hk, by rw [Bool.and_eq_true]; exact h⟩
theorem or15 : ∀ u < 16, ∀ S < 16, Nat.beq (Nat.lor u S) 15 = (List.range 4).all fun k => u.testBit k || S.testBit k := by decide +kernel
theorem uni_cons (t : Nat) (T : List Nat) (S : Nat) : uni (t :: T) S = bif Nat.beq (Nat.land t S) 0 then t ||| uni T S else uni T S := by
  show @Bool.rec (fun _ => Nat) (uni T S) (Nat.lor t (uni T S)) (Nat.beq (Nat.land t S) 0) = _
  cases Nat.beq (Nat.land t S) 0 <;> rfl
theorem uni_lt (S : Nat) : ∀ (T : List Nat), (∀ t ∈ T, t < 16) → uni T S < 16
  | [], _ => show 0 < 16 by decide
  | t :: T, h => by
    have ih := uni_lt S T fun t ht => h t (List.mem_cons_of_mem _ ht)
    rw [uni_cons]
    cases Nat.beq (Nat.land t S) 0
    · exact ih
    · exact Nat.or_lt_two_pow (n := 4) (h t List.mem_cons_self) ih
theorem uni_bit (S k : Nat) : ∀ (T : List Nat), (uni T S).testBit k = true ↔ ∃ t ∈ T, Nat.beq (Nat.land t S) 0 = true ∧ t.testBit k = true
  | [] => by
    rw [show uni [] S = 0 from rfl, Nat.zero_testBit]
    exact ⟨(fun h => nomatch h), fun ⟨_, h, _⟩ => absurd h List.not_mem_nil⟩
  | t :: T => by
    have ih := uni_bit S k T
    have hs : (uni (t :: T) S).testBit k = true ↔ (Nat.beq (Nat.land t S) 0 = true ∧ t.testBit k = true) ∨ (uni T S).testBit k = true := by
      rw [uni_cons]
      cases Nat.beq (Nat.land t S) 0 with
      | true =>
        rw [cond_true, Nat.testBit_or, Bool.or_eq_true]
        exact ⟨fun h => h.imp (fun h => ⟨rfl, h⟩) id, fun h => h.imp (fun h => h.2) id⟩
      | false => exact ⟨Or.inr, fun h => h.elim (fun h => absurd h.1 (by decide)) id⟩
    rw [hs, ih]
    constructor
    · rintro (h | ⟨z, hz, e⟩)
      · exact ⟨t, List.mem_cons_self, h⟩
      · exact ⟨z, List.mem_cons_of_mem _ hz, e⟩
    · rintro ⟨z, hz, e⟩
      rcases List.mem_cons.mp hz with rfl | hz
      · exact Or.inl e
      · exact Or.inr ⟨z, hz, e⟩
theorem mem_s15 (S : Nat) : S ∈ s15 ↔ S < 16 ∧ S ≠ 0 := by
  rw [show s15 = (List.range 16).filter (fun S => S != 0) by decide, List.mem_filter, List.mem_range, bne_iff_ne]
theorem closedL_iff {T : List Nat} (hT : ∀ t ∈ T, t < 16) (S : Nat) : S ∈ closedL T ↔ (S < 16 ∧ S ≠ 0) ∧ ∀ k < 4, S.testBit k = true ∨ ∃ t ∈ T, Nat.beq (Nat.land t S) 0 = true ∧ t.testBit k = true := by
  unfold closedL
  rw [filtR_is, List.mem_filter, mem_s15]
  refine and_congr_right fun h => ?_
  rw [or15 (uni T S) (uni_lt S T hT) S h.1, List.all_eq_true]
  constructor
  · intro h2 k hk
    have := h2 k (List.mem_range.mpr hk)
    rw [Bool.or_eq_true] at this
    refine this.symm.imp id fun h3 => ?_
    exact (uni_bit S k T).mp h3
  · intro h2 k hk
    rw [Bool.or_eq_true]
    exact ((h2 k (List.mem_range.mp hk)).imp id fun h3 => (uni_bit S k T).mpr h3).symm
section
variable (m : Nat → Nat)
noncomputable def tyOf (q : Nat) : Nat := mkB fun k => (m k).testBit q
noncomputable def sg (U : Nat) : Nat := mkB fun k => (m k ||| U) == U
structure Gen (F : List Nat) : Prop where
  lt : ∀ U ∈ F, U < 32
  nd : F.Nodup
  uc : UC F
  mem : ∀ k < 4, m k ∈ F
  inv : ∀ U ∈ F, (∀ q, U.testBit q = true → ∃ k < 4, m k ||| U = U ∧ (m k).testBit q = true) ∧ ∃ k < 4, m k ||| U = U
variable {m}
theorem ty_lt (q : Nat) : tyOf m q < 16 := mkB_lt _
theorem sg_lt (U : Nat) : sg m U < 16 := mkB_lt _
theorem le_bit {a U q : Nat} (h : a ||| U = U) (hq : a.testBit q = true) : U.testBit q = true := by
  rw [← h, Nat.testBit_or, hq]; rfl
theorem sg_bit (U : Nat) {k : Nat} (hk : k < 4) : (sg m U).testBit k = true ↔ m k ||| U = U := by
  unfold sg
  rw [mkB_bit _ hk, beq_iff_eq]
theorem ty_bit (q : Nat) {k : Nat} (hk : k < 4) : (tyOf m q).testBit k = (m k).testBit q := mkB_bit _ hk
theorem hit_iff {F : List Nat} (G : Gen m F) {U : Nat} (hU : U ∈ F) (q : Nat) : (!(Nat.beq (Nat.land (tyOf m q) (sg m U)) 0)) = U.testBit q := by
  rw [Bool.eq_iff_iff, meet_iff (ty_lt q) (sg_lt U)]
  constructor
  · rintro ⟨k, hk, h1, h2⟩
    rw [ty_bit q hk] at h1
    exact le_bit ((sg_bit U hk).mp h2) h1
  · intro h
    obtain ⟨k, hk, h1, h2⟩ := (G.inv U hU).1 q h
    exact ⟨k, hk, by rw [ty_bit q hk]; exact h2, (sg_bit U hk).mpr h1⟩
theorem sg_inj {F : List Nat} (G : Gen m F) {U V : Nat} (hU : U ∈ F) (hV : V ∈ F) (h : sg m U = sg m V) : U = V :=
  bits_ext (n := 5) (G.lt U hU) (G.lt V hV) fun q _ => by rw [← hit_iff G hU, ← hit_iff G hV, h]
theorem sg_mem {F : List Nat} (G : Gen m F) {T : List Nat} (hT : ∀ t, t ∈ T ↔ t ≠ 0 ∧ ∃ q < 5, t = tyOf m q) (S : Nat) : S ∈ F.map (sg m) ↔ S ∈ closedL T := by
  have hT16 : ∀ t ∈ T, t < 16 := fun t ht => by
    obtain ⟨_, q, _, rfl⟩ := (hT t).mp ht
    exact mkB_lt _
  rw [closedL_iff hT16, List.mem_map]
  constructor
  · rintro ⟨U, hU, rfl⟩
    refine ⟨⟨mkB_lt _, fun h0 => ?_⟩, fun k hk => ?_⟩
    · obtain ⟨k, hk, h⟩ := (G.inv U hU).2
      have := (sg_bit U hk).mpr h
      rw [h0, Nat.zero_testBit] at this
      cases this
    · by_cases h : m k ||| U = U
      · exact Or.inl ((sg_bit U hk).mpr h)
      · right
        have : ∃ q, (m k).testBit q = true ∧ U.testBit q = false := by
          refine Classical.byContradiction fun hn => h (Nat.eq_of_testBit_eq fun q => ?_)
          rw [Nat.testBit_or]
          cases h1 : (m k).testBit q with
          | false => rfl
          | true =>
            cases h2 : U.testBit q with
            | true => rfl
            | false => exact absurd ⟨q, h1, h2⟩ hn
        obtain ⟨q, h1, h2⟩ := this
        have hq : q < 5 := big_bit (n := 5) (G.lt _ (G.mem k hk)) h1
        have h3 : (tyOf m q).testBit k = true := by rw [ty_bit q hk]; exact h1
        refine ⟨tyOf m q, (hT _).mpr ⟨fun h0 => ?_, q, hq, rfl⟩, ?_, h3⟩
        · rw [h0, Nat.zero_testBit] at h3; cases h3
        · have := hit_iff G hU q
          rw [h2] at this
          cases hb : Nat.beq (Nat.land (tyOf m q) (sg m U)) 0 with
          | true => rfl
          | false => rw [hb] at this; cases this
  · rintro ⟨⟨hS, hne⟩, hcl⟩
    let ks := (List.range 4).filter fun k => S.testBit k
    have hks : ∀ k, k ∈ ks ↔ k < 4 ∧ S.testBit k = true := fun k => by rw [List.mem_filter, List.mem_range]
    have hkne : ks ≠ [] := fun h0 => by
      apply hne
      refine bits_ext (n := 4) hS (by decide) fun k hk => ?_
      rw [Nat.zero_testBit]
      cases hb : S.testBit k with
      | false => rfl
      | true => exact absurd ((hks k).mpr ⟨hk, hb⟩) (by rw [h0]; exact List.not_mem_nil)
    have hU : joinL (ks.map m) ∈ F := join_mem G.uc _ (fun h => hkne (List.map_eq_nil_iff.mp h)) fun x hx => by
      obtain ⟨k, hk, rfl⟩ := List.mem_map.mp hx
      exact G.mem k ((hks k).mp hk).1
    refine ⟨_, hU, bits_ext (n := 4) (mkB_lt _) hS fun k hk => ?_⟩
    rw [Bool.eq_iff_iff, sg_bit _ hk]
    constructor
    · intro hle
      refine (hcl k hk).resolve_right ?_
      rintro ⟨t, ht, h0, hb⟩
      obtain ⟨_, q, hq, rfl⟩ := (hT t).mp ht
      rw [ty_bit q hk] at hb
      obtain ⟨x, hx, hxq⟩ := (join_bit q _).mp (le_bit hle hb)
      obtain ⟨j, hj, rfl⟩ := List.mem_map.mp hx
      obtain ⟨hj4, hjS⟩ := (hks j).mp hj
      have := (meet_iff (ty_lt q) hS).mpr ⟨j, hj4, (ty_bit (m := m) q hj4).trans hxq, hjS⟩
      rw [h0] at this
      cases this
    · intro hb
      exact le_join _ (List.mem_map.mpr ⟨k, (hks k).mpr ⟨hk, hb⟩, rfl⟩)
theorem sg_perm {F : List Nat} (G : Gen m F) {T : List Nat} (hT : ∀ t, t ∈ T ↔ t ≠ 0 ∧ ∃ q < 5, t = tyOf m q) : (F.map (sg m)).Perm (closedL T) := by
  refine (List.perm_ext_iff_of_nodup ?_ ?_).mpr (sg_mem G hT)
  · exact List.pairwise_map.mpr (List.Pairwise.imp_of_mem (fun hU hV hne h => hne (sg_inj G hU hV h)) G.nd)
  · unfold closedL
    rw [filtR_is]
    exact (show s15.Nodup by decide).filter _
theorem has_bit (U q : Nat) : hasP U q = U.testBit q := by
  rw [Nat.testBit_eq_decide_div_mod_eq]
  unfold hasP
  rw [Bool.eq_iff_iff, beq_iff_eq, decide_eq_true_eq]
theorem cnt_is {F : List Nat} (G : Gen m F) {T : List Nat} (hT : ∀ t, t ∈ T ↔ t ≠ 0 ∧ ∃ q < 5, t = tyOf m q) (q : Nat) : cntOf F q = cIn (closedL T) (tyOf m q) := by
  unfold cntOf cIn
  rw [← ((sg_perm G hT).filter _).length_eq, List.filter_map, List.length_map]
  congr 1
  refine List.filter_congr fun U hU => ?_
  rw [has_bit]
  exact (hit_iff G hU q).symm
end
/-- a part of a list, each thing once -/
theorem sub_sum (f : Nat → Nat) : ∀ (T ts : List Nat), T.Nodup → (∀ t ∈ T, t ∈ ts) → (T.map f).sum ≤ (ts.map f).sum
  | [], ts, _, _ => Nat.zero_le _
  | t :: T, ts, hn, h => by
    rw [List.nodup_cons] at hn
    have hp := List.perm_cons_erase (h t List.mem_cons_self)
    have ih := sub_sum f T (ts.erase t) hn.2 fun x hx => (List.mem_erase_of_ne (fun e : x = t => hn.1 (by rw [← e]; exact hx))).mpr (h x (List.mem_cons_of_mem _ hx))
    have hs : (ts.map f).sum = f t + ((ts.erase t).map f).sum := by
      rw [(hp.map f).sum_nat, List.map_cons, List.sum_cons]
    rw [hs, List.map_cons, List.sum_cons]
    omega
end Mine
end
section
set_option maxRecDepth 100000
set_option linter.unusedSimpArgs false
set_option linter.unusedVariables false
namespace Mine
open PySem
theorem sum_ones : ∀ l : List Nat, (l.map fun _ => 1).sum = l.length
  | [] => rfl
  | x :: l => by rw [List.map_cons, List.sum_cons, sum_ones l, List.length_cons, Nat.add_comm]
theorem gen_of (ms : List Nat) (hl : ms.length = 4) (hm : ∀ x ∈ ms, x < 32) : Gen (fun k => ms.getD k 0) (closedOf ms) := by
  obtain ⟨h1, h2⟩ := closed_facts ms
  have hget : ∀ x ∈ ms, ∃ k < 4, ms.getD k 0 = x := fun x hx => by
    obtain ⟨k, hk, e⟩ := List.mem_iff_getElem.mp hx
    exact ⟨k, by omega, by rw [List.getD_eq_getElem?_getD, List.getElem?_eq_getElem hk, e]; rfl⟩
  refine ⟨(closed_cl 0 ms (by omega) hm).2.2, h1, h2, fun k hk => closed_mem ms _ ?_, fun U hU => ?_⟩
  · have hk' : k < ms.length := by omega
    show ms.getD k 0 ∈ ms
    rw [List.getD_eq_getElem?_getD, List.getElem?_eq_getElem hk']
    exact List.getElem_mem hk'
  · refine closed_ind ms (fun U => (∀ q, U.testBit q = true → ∃ k < 4, ms.getD k 0 ||| U = U ∧ (ms.getD k 0).testBit q = true) ∧ ∃ k < 4, ms.getD k 0 ||| U = U) ?_ ?_ U hU
    · intro x hx
      obtain ⟨k, hk, e⟩ := hget x hx
      exact ⟨fun q hq => ⟨k, hk, by rw [e, Nat.or_self], by rw [e]; exact hq⟩, k, hk, by rw [e, Nat.or_self]⟩
    · rintro x y hy ⟨i1, j, hj, hjx⟩
      obtain ⟨k, hk, e⟩ := hget y hy
      refine ⟨fun q hq => ?_, j, hj, by rw [← Nat.or_assoc, hjx]⟩
      rw [Nat.testBit_or, Bool.or_eq_true] at hq
      rcases hq with hq | hq
      · obtain ⟨i, hi, h1, h2⟩ := i1 q hq
        exact ⟨i, hi, by rw [← Nat.or_assoc, h1], h2⟩
      · exact ⟨k, hk, by rw [e, Nat.or_comm, Nat.or_assoc, Nat.or_self], by rw [e]; exact hq⟩
theorem reimer (ms : List Nat) (hl : ms.length = 4) (hm : ∀ x ∈ ms, x < 32) : (closedOf ms).length ^ (closedOf ms).length ≤ 4 ^ (countsOf (closedOf ms)).sum ∧ (closedOf ms ≠ [0] → ∃ q < 5, (closedOf ms).length ≤ 2 * cntOf (closedOf ms) q) := by
  have G := gen_of ms hl hm
  have hz : (∀ q < 5, tyOf (fun k => ms.getD k 0) q = 0) → closedOf ms = [0] := fun h => by
    have h0 : ∀ k < 4, ms.getD k 0 = 0 := fun k hk => by
      refine bits_ext (n := 5) (G.lt _ (G.mem k hk)) (by decide) fun q hq => ?_
      have := ty_bit (m := fun k => ms.getD k 0) q hk
      rw [h q hq] at this
      rw [← this, Nat.zero_testBit, Nat.zero_testBit]
    obtain ⟨a, b, c, d, rfl⟩ : ∃ a b c d, ms = [a, b, c, d] := by
      match ms, hl with
      | [a, b, c, d], _ => exact ⟨a, b, c, d, rfl⟩
    have e0 : a = 0 := h0 0 (by decide)
    have e1 : b = 0 := h0 1 (by decide)
    have e2 : c = 0 := h0 2 (by decide)
    have e3 : d = 0 := h0 3 (by decide)
    subst e0 e1 e2 e3
    decide
  generalize closedOf ms = F at G hz
  generalize (fun k => ms.getD k 0) = m at G hz
  let p : Nat → Bool := fun t => (List.range 5).any fun q => t == tyOf m q
  have hp : ∀ t, p t = true ↔ ∃ q < 5, t = tyOf m q := fun t => by
    show ((List.range 5).any fun q => t == tyOf m q) = true ↔ _
    rw [List.any_eq_true]
    exact ⟨fun ⟨q, hq, e⟩ => ⟨q, List.mem_range.mp hq, eq_of_beq e⟩, fun ⟨q, hq, e⟩ => ⟨q, List.mem_range.mpr hq, beq_iff_eq.mpr e⟩⟩
  have hT : ∀ t, t ∈ (s15.filter p).reverse ↔ t ≠ 0 ∧ ∃ q < 5, t = tyOf m q := fun t => by
    rw [List.mem_reverse, List.mem_filter, mem_s15, hp]
    constructor
    · exact fun h => ⟨h.1.2, h.2⟩
    · rintro ⟨h0, q, hq, rfl⟩
      exact ⟨⟨ty_lt q, h0⟩, q, hq, rfl⟩
  have hnd : (s15.filter p).reverse.Nodup := (List.reverse_perm _).nodup_iff.mpr ((show s15.Nodup by decide).filter _)
  have hsub : ∀ f : Nat → Nat, ((s15.filter p).reverse.map f).sum ≤ (((List.range 5).map (tyOf m)).map f).sum := fun f => sub_sum f _ _ hnd fun t ht => by
    obtain ⟨_, q, hq, rfl⟩ := (hT t).mp ht
    exact List.mem_map_of_mem (List.mem_range.mpr hq)
  have hlen : (s15.filter p).length ≤ 5 := by
    have := hsub fun _ => 1
    rw [sum_ones, sum_ones, List.length_reverse, List.length_map, List.length_range] at this
    exact this
  have hc := go_spec p s15 5 [] go_all hlen
  rw [List.append_nil] at hc
  have hn : (closedL (s15.filter p).reverse).length = F.length := by rw [← (sg_perm G hT).length_eq, List.length_map]
  have hcnt : ∀ q, cIn (closedL (s15.filter p).reverse) (tyOf m q) = cntOf F q := fun q => (cnt_is G hT q).symm
  generalize (s15.filter p).reverse = T at hT hsub hc hn hcnt
  have hc := chkR_inv T (closedL T) hc
  generalize closedL T = L at hc hn hcnt
  constructor
  · have h2 := hsub (cIn L)
    rw [List.map_map, show cIn L ∘ tyOf m = cntOf F from funext hcnt] at h2
    rw [← hn]
    exact Nat.le_trans hc.1 (Nat.pow_le_pow_right (by decide) h2)
  · intro hF
    rcases hc.2 with hTe | ⟨t, ht, this⟩
    · refine absurd (hz fun q hq => ?_) hF
      refine Classical.byContradiction fun h0 => ?_
      have := (hT (tyOf m q)).mpr ⟨h0, q, hq, rfl⟩
      rw [hTe] at this
      exact absurd this List.not_mem_nil
    · obtain ⟨_, q, hq, rfl⟩ := (hT t).mp ht
      rw [hn, hcnt] at this
      exact ⟨q, hq, this⟩
theorem plain3 (ns : List Int) (h : ns.length ≤ 63) : (run (txOf hp) 60).cl (Str.ofString "law") [.list (ns.map .int)] = some (.bool true) := by
  refine law_cl ns h fun ms pts hl hm hpt => ?_
  obtain ⟨hnd, huc⟩ := closed_facts ms
  obtain ⟨_, hfl, hlt⟩ := closed_cl 0 ms (by omega) hm
  obtain ⟨hR, hQ⟩ := reimer ms hl hm
  refine ⟨hnd, ?_⟩
  have S := stage_of hnd hlt huc hpt
  have X := told_ok (closedOf ms) (raisedOf (closedOf ms) pts)
  generalize raisedOf (closedOf ms) pts = e at S X
  generalize toldOf (closedOf ms) e = x at X
  generalize closedOf ms = F at *
  obtain ⟨c1, c2⟩ := cells_nodup hlt huc S F hnd fun _ h => h
  refine ⟨X.ha, X.hb, X.hc, X.hd, X.ht, X.hs, by rw [X.ha, X.hb]; exact hR, fun hF => X.hq (hQ hF), ?_, tops_up S, c1, by omega, cells_due hlt hnd huc S⟩
  have := X.hm
  omega
end Mine
end
end
open PySem PySem.W PyProof.Rows
set_option Elab.async false
set_option maxRecDepth 100000
set_option maxHeartbeats 8000000
namespace Mine
noncomputable def view : Program := viewOf hp
noncomputable def hat : HeadAt := ⟨txOf hp, 45, 35, 42, methAt hp 0, methAt hp 1, ⟨9, 8, 9, 12⟩, ⟨9, 8, 9, 29⟩, ⟨9, 32, 9, 48⟩, ⟨9, 8, 9, 48⟩, [3, 34, 35, 41, 42, 43, 44, 45, 46, 47]⟩
theorem hat_ok : HeadOk hat := ⟨by decide +kernel, by decide +kernel, by kernel_rfl, by kernel_rfl, by kernel_rfl, by kernel_rfl, by kernel_rfl⟩
noncomputable def hook : W.Hook := headHook hat hat_ok
noncomputable def row : OpenRow := PySem.Challenge.rw_wn0016_03.row
theorem said0 : PySem.Challenge.rw_wn0016_03.wellSaid = true := by decide +kernel
theorem left0 : LeftO row.toRowW.prog view [] (fun s => xlAt view [] s && recOk (RowW.records row.toRowW) s) (Hook.obs hook) (Hook.val hook) 2600 := fun w => by kernel_rfl
end Mine
open Mine
theorem PySem.Challenge.cw_wn0016_03_holds : PySem.Challenge.rw_wn0016_03.Holds := by
  w_on
  refine holds_law said0 fun said => ?_
  refine holds_open (q := view) (loose := []) (Xt := fun s => xlAt view [] s && recOk (RowW.records row.toRowW) s) (XP := XL view []) (Yf := Hook.obs hook) (Ya := Hook.val hook) (YP := Hook.says hook) (N := 2600) left0 (Hook.of hook) (Hook.keeps hook)
    (fun s e => xl_of s (Bool.and_eq_true_iff.mp e).1) XL.keeps (by rfl) (by rfl) (by rfl) (fun s e => recFacts_of (Bool.and_eq_true_iff.mp e).2) (by rfl) (by first | assumption | decide +kernel) (by decide +kernel) ⟨rfl, rfl, rfl, rfl, rfl, by decide +kernel⟩ ?hw ?hc
  case hw => w_witness2
  w_strict (
  (intro w s₀ s₁ mg mb G Y fa o pm cd doc dV kV ho hd hcd hD hmg hg args vals as hpre hlay hrd hwl hlo
   have YS : HeadSays hat s₁.heap := Y
   have X := (Ground.X G).1
   have V := (Ground.X G).2
   have T := Ground.T G
   clear hd hcd hD
   have hC : mg (Str.ofString "TupleComp") = some (.ref 45) := by
     obtain ⟨⟨K, KX, e⟩, _⟩ := YS
     exact mg_of KX T.g e
   have GL : Glo (txOf hp) 45 s₁.heap := glo_of T (by kernel_rfl) (by decide +kernel) (by decide +kernel) hC YS.2
   refine Ground.open G ?_
   intro T B D TE TW
   try (refine guard_noD D (by decide +kernel) ?_; clear D)
   wrow_args hpre hlay hrd hwl hlo
   all_goals (
    refine enter_call ?_
    rename_i hL ra w1 r0 hI hr hc2 hc1
    refine law_call GL T.g (by decide +kernel) hmg hL hI (plain3 _ (by omega)) fun h' tk e => ?_
    refine goodW_true e hg (raisesW_false ?_) ?_
    · wrow_none_raised
    · wrow_post)))
